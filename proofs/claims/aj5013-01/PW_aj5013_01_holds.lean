import PyProof.Rows.All
import Wide.All
import OpenK.AllK
import Wide.FinOn
import PySem.Challenge.RW_aj5013_01
open PySem PySem.W PyProof.Rows
set_option Elab.async false
namespace Mine
set_option maxRecDepth 100000 in
set_option maxHeartbeats 8000000 in
open_top hd for PySem.Challenge.rw_aj5013_01
end Mine
open PySem.Spec PySem.Calls

namespace Mine

noncomputable abbrev LL : List Str := looseW Mine.hd.view_39
    [Str.ofString "round_fast", Str.ofString "fzero", Str.ofString "fone", Str.ofString "fnan", Str.ofString "finf",
      Str.ofString "fninf", Str.ofString "shifts_down", Str.ofString "from_man_exp", Str.ofString "from_int",
      Str.ofString "mpf_pos", Str.ofString "mpf_neg", Str.ofString "mpf_abs", Str.ofString "mpf_add",
      Str.ofString "mpf_sub", Str.ofString "mpf_sum", Str.ofString "mpf_mul", Str.ofString "mpf_mul_int",
      Str.ofString "mpf_div", Str.ofString "reciprocal_rnd", Str.ofString "mpf_pow_int"]

/-- news' is news and some younger objects -/
def Ext (news news' : List (Addr × Obj)) : Prop := (∀ p ∈ news, p ∈ news') ∧ ∀ q ∈ news', q ∈ news ∨ ∀ p ∈ news, p.1 < q.1
theorem Ext.refl {news : List (Addr × Obj)} : Ext news news := ⟨fun _ h => h, fun _ h => .inl h⟩
theorem Ext.trans {a b c : List (Addr × Obj)} (h : Ext a b) (k : Ext b c) : Ext a c :=
  ⟨fun p hp => k.1 p (h.1 p hp), fun q hq => (k.2 q hq).elim (fun hb => h.2 q hb) fun hb => .inr fun p hp => hb p (h.1 p hp)⟩
theorem Ext.cons {news news' : List (Addr × Obj)} {a : Addr} {o : Obj} (h : Ext news news') (l : ∀ p ∈ news', p.1 < a) : Ext news ((a, o) :: news') :=
  ⟨fun p hp => .tail _ (h.1 p hp), fun q hq => by
    rcases List.mem_cons.mp hq with rfl | hq
    · exact .inr fun p hp => l p (h.1 p hp)
    · exact h.2 q hq⟩
theorem Ext.news {a b : List (Addr × Obj)} {h₀ h : Heap} {L : Addr} (x : Ext a b) (N : News h₀ L h b) : News h₀ L h a := fun p hp => N p (x.1 p hp)

def Spec (w : World) (mean : ExcName → Option Value) (mg mb : Str → Option Value) (f : Addr) (dd uu : Nat) (vs : List Value)
    (Pre : List (Addr × Obj) → Prop) (Post : List (Addr × Obj) → Value → Prop) : Prop :=
  ∀ (dp un : Nat) (gd : Option (List Code)) (cn : Str) (cs : Scope) (a : Addr) (ccd : Value) (cl : List (Str × Addr)) (outer : List Env) (A₀ : Around) (base h₀ : Heap) (L : Addr) (m : Str → Option Value)
    (news : List (Addr × Obj)) (s : Shared) (Q E : Value → Shared → Prop),
    Below A₀ base outer h₀ → Fr h₀ L s.heap m → (Mine.hd.heap_39 w.params).In h₀ → News h₀ L s.heap news → Top Mine.hd.view_39 LL mean mg mb h₀ → cs.kind = .function →
    Pre news → dp + dd < recursionLimit → un + uu < cLine →
    (∀ r news' h' tk', Fr h₀ L h' m → News h₀ L h' news' → Ext news news' → Post news' r → Q r { s with heap := h', toks := tk' }) →
    wpAny (model PySem.Challenge.rw_aj5013_01.row.prog w) (ktrTop dp un gd cn cs L a ccd cl outer) (call (.ref f) vs) Q E s

theorem Spec.use {w : World} {mean : ExcName → Option Value} {mg mb : Str → Option Value} {f : Addr} {dd uu : Nat} {vs : List Value}
    {Pre : List (Addr × Obj) → Prop} {Post : List (Addr × Obj) → Value → Prop} (S : Spec w mean mg mb f dd uu vs Pre Post)
    {dp un : Nat} {gd : Option (List Code)} {cn : Str} {cs : Scope} {a : Addr} {ccd : Value} {cl : List (Str × Addr)} {outer : List Env} {A₀ : Around} {base h₀ : Heap} {L : Addr} {m : Str → Option Value}
    {news : List (Addr × Obj)} {s : Shared} {Q E : Value → Shared → Prop}
    (B : Below A₀ base outer h₀) (F : Fr h₀ L s.heap m) (X : (Mine.hd.heap_39 w.params).In h₀) (N : News h₀ L s.heap news) (T : Top Mine.hd.view_39 LL mean mg mb h₀) (hk : cs.kind = .function)
    (hpre : Pre news) (hd : dp + dd < recursionLimit) (hu : un + uu < cLine)
    (ret : ∀ r news' h' tk', Fr h₀ L h' m → News h₀ L h' news' → Ext news news' → Post news' r → Q r { s with heap := h', toks := tk' }) :
    wpAny (model PySem.Challenge.rw_aj5013_01.row.prog w) (ktrTop dp un gd cn cs L a ccd cl outer) (call (.ref f) vs) Q E s :=
  S dp un gd cn cs a ccd cl outer A₀ base h₀ L m news s Q E B F X N T hk hpre hd hu ret

/-- a tuple of four ints -/
abbrev tup4 (a b c d : Int) (t1 t2 t3 t4 : Tok) (n : Nat) : Obj := { cls := .type "tuple", data := .seq #[.int a t1, .int b t2, .int c t3, .int d t4] n }

inductive TupIn (news : List (Addr × Obj)) : Addr → Array Value → Prop where
  | zero : TupIn news 22 #[.int 0 213, .int 0 187, .int 0 214, .int 0 215]
  | one : TupIn news 23 #[.int 0 217, .int 1 189, .int 0 218, .int 1 219]
  | nan : TupIn news 24 #[.int 0 221, .int 0 187, .int (-123) 223, .int (-1) 225]
  | inf : TupIn news 25 #[.int 0 227, .int 0 187, .int (-456) 229, .int (-2) 231]
  | ninf : TupIn news 26 #[.int 1 233, .int 0 187, .int (-789) 235, .int (-3) 237]
  | mem {x : Addr} {arr : Array Value} {n : Nat} : (x, ({ cls := .type "tuple", data := .seq arr n } : Obj)) ∈ news → TupIn news x arr

theorem TupIn.mono {news news' : List (Addr × Obj)} {x : Addr} {arr : Array Value} (h : TupIn news x arr) (hs : ∀ p ∈ news, p ∈ news') : TupIn news' x arr := by
  cases h with
  | zero => exact .zero
  | one => exact .one
  | nan => exact .nan
  | inf => exact .inf
  | ninf => exact .ninf
  | mem hm => exact .mem (hs _ hm)

theorem TupIn.isTup {w : World} {h₀ h : Heap} {L : Addr} {m : Str → Option Value} {news : List (Addr × Obj)} {x : Addr} {arr : Array Value} (h4 : TupIn news x arr) (F : Fr h₀ L h m) (X : (Mine.hd.heap_39 w.params).In h₀) (N : News h₀ L h news) :
    IsTup h x arr := by
  cases h4 with
  | zero => exact ⟨_, F.keep _ _ (X 22 _ rfl), rfl, _, rfl⟩
  | one => exact ⟨_, F.keep _ _ (X 23 _ rfl), rfl, _, rfl⟩
  | nan => exact ⟨_, F.keep _ _ (X 24 _ rfl), rfl, _, rfl⟩
  | inf => exact ⟨_, F.keep _ _ (X 25 _ rfl), rfl, _, rfl⟩
  | ninf => exact ⟨_, F.keep _ _ (X 26 _ rfl), rfl, _, rfl⟩
  | mem hm => exact ⟨_, (N _ hm).1, rfl, _, rfl⟩

/-- v stands for the four ints -/
def T4 (news : List (Addr × Obj)) (v : Value) (a b c d : Int) : Prop := ∃ x t1 t2 t3 t4, v = .ref x ∧ TupIn news x #[.int a t1, .int b t2, .int c t3, .int d t4]
theorem T4.mono {news news' : List (Addr × Obj)} {v : Value} {a b c d : Int} (h : T4 news v a b c d) (hs : ∀ p ∈ news, p ∈ news') : T4 news' v a b c d := by
  obtain ⟨x, t1, t2, t3, t4, e, h⟩ := h
  exact ⟨x, t1, t2, t3, t4, e, h.mono hs⟩
theorem T4.zero {news : List (Addr × Obj)} : T4 news (.ref 22) 0 0 0 0 := ⟨_, _, _, _, _, rfl, .zero⟩
theorem T4.one {news : List (Addr × Obj)} : T4 news (.ref 23) 0 1 0 1 := ⟨_, _, _, _, _, rfl, .one⟩
theorem T4.mem {news : List (Addr × Obj)} {x : Addr} {a b c d : Int} {t1 t2 t3 t4 : Tok} {n : Nat} (h : (x, tup4 a b c d t1 t2 t3 t4 n) ∈ news) : T4 news (.ref x) a b c d := ⟨_, _, _, _, _, rfl, .mem h⟩

/-- canonical: nought, or an odd mantissa with its length -/
def Can (a b c e : Int) : Prop := (a = 0 ∧ b = 0 ∧ c = 0 ∧ e = 0) ∨ ((a = 0 ∨ a = 1) ∧ 0 < b ∧ b % 2 = 1 ∧ e = (Builtin.Int.intBits b : Int))
/-- the number that sign, mantissa and exponent stand for -/
def dy (a b c : Int) : Dyadic := Dyadic.ofIntWithPrec (if a = 0 then b else -b) (-c)
def NumIn (news : List (Addr × Obj)) (v : Value) (d : Dyadic) : Prop := ∃ a b c e, T4 news v a b c e ∧ Can a b c e ∧ d = dy a b c
theorem NumIn.mono {news news' : List (Addr × Obj)} {v : Value} {d : Dyadic} (h : NumIn news v d) (hs : ∀ p ∈ news, p ∈ news') : NumIn news' v d := by
  obtain ⟨a, b, c, e, h, k⟩ := h
  exact ⟨a, b, c, e, h.mono hs, k⟩

theorem NumIn.mk {news : List (Addr × Obj)} {x : Addr} {a b c e : Int} {t1 t2 t3 t4 : Tok} {n : Nat} {d : Dyadic} (h : (x, tup4 a b c e t1 t2 t3 t4 n) ∈ news) (hc : Can a b c e) (hd : d = dy a b c) : NumIn news (.ref x) d := ⟨a, b, c, e, .mem h, hc, hd⟩
theorem T4.reads {w : World} {h₀ h : Heap} {L : Addr} {m : Str → Option Value} {news : List (Addr × Obj)} {v : Value} {a b c d : Int} (h4 : T4 news v a b c d) (F : Fr h₀ L h m) (X : (Mine.hd.heap_39 w.params).In h₀) (N : News h₀ L h news) :
    Reads h v (.tuple [.int a, .int b, .int c, .int d]) [] := by
  obtain ⟨x, t1, t2, t3, t4, rfl, h4⟩ := h4
  obtain ⟨o, ho, hc, n, hd⟩ := h4.isTup F X N
  exact reads_tuple_at ho hc hd (.cons (.int _ _) (.cons (.int _ _) (.cons (.int _ _) (.cons (.int _ _) .nil))))
theorem TupIn.reads {w : World} {h₀ h : Heap} {L : Addr} {m : Str → Option Value} {news : List (Addr × Obj)} {x : Addr} {a b c d : Int} {t1 t2 t3 t4 : Tok} (h4 : TupIn news x #[.int a t1, .int b t2, .int c t3, .int d t4]) (F : Fr h₀ L h m) (X : (Mine.hd.heap_39 w.params).In h₀) (N : News h₀ L h news) :
    Reads h (.ref x) (.tuple [.int a, .int b, .int c, .int d]) [] := T4.reads ⟨_, _, _, _, _, rfl, h4⟩ F X N

section
local macro_rules | `(tactic| kun_tup) => `(tactic| exact TupIn.isTup (by assumption) (by k_asm) (by k_asm) (by k_asm))
local macro_rules | `(tactic| cell_enter) => `(tactic| (refine' code_def ?k1 ?k2 ?k3 ?k4 ?k5 ?kA ?kF ?kK ?k6 ?k7 ?k8 ?k9 ?kB ?_ ?c2 ?c3 ?c4 ?c5; (case kA => exact rfl); (case kF => exact rfl); (case kK => assumption); (case k1 => k_asm); (case k2 => k_asm); (case k3 => k_asm); (case k4 => k_asm); (case k5 => k_asm); (case k6 => k_is); (case k7 => k_is); (case k8 => ktr_room); (case k9 => first | exact (by assumption : BindAs _ _ _ _) _ _ _ _ _ (by k_in) (by k_is) | exact BindsTo.of_eq rfl | exact binds_K (by k_in) rfl (by k_is) rfl rfl rfl); (case c5 => decide); (case kB => exact locs rfl); (case c2 => exact rfl); (case c3 => exact rfl); (case c4 => exact rfl); k_whole; intro g' L' h' FG' F' N' B' X' T'; (try dsimp only); (try k_lift B'); (try k_fold)))
local macro_rules | `(tactic| walk_at "ite") => `(tactic| (k_here; first
  | (refine' ite_pos ?hc9 ?_; (case hc9 => ((try simp only [bne_iff_ne, beq_iff_eq, Bool.not_eq_true', bne_eq_false_iff_eq, beq_eq_false_iff_ne, decide_eq_true_eq, decide_eq_false_iff_not, ne_eq, Bool.and_eq_true, Bool.or_eq_true, not_false_eq_true]); first | done | omega)); walk_say "PRUNED +")
  | (refine' ite_neg ?hc9 ?_; (case hc9 => ((try simp only [bne_iff_ne, beq_iff_eq, Bool.not_eq_true', bne_eq_false_iff_eq, beq_eq_false_iff_ne, decide_eq_true_eq, decide_eq_false_iff_not, ne_eq, Bool.and_eq_true, Bool.or_eq_true, not_false_eq_true]); first | done | omega)); walk_say "PRUNED -")))
local macro_rules | `(tactic| ke_read) => `(tactic| first | exact TupIn.reads (by with_reducible assumption) (by k_asm) (by k_asm) (by k_asm) | exact TupIn.reads TupIn.zero (by k_asm) (by k_asm) (by k_asm) | exact TupIn.reads TupIn.inf (by k_asm) (by k_asm) (by k_asm) | exact TupIn.reads TupIn.ninf (by k_asm) (by k_asm) (by k_asm) | exact TupIn.reads TupIn.nan (by k_asm) (by k_asm) (by k_asm))
local macro_rules | `(tactic| walk_at "compareOp Eq ref ref") => `(tactic| (k_here; (with_reducible show wpAny _ _ (compareOp CmpOp.Eq (Value.ref _) (Value.ref _)) _ _ _); k_dflt (refine eq_dataH (by ke_read) (by ke_read) rfl rfl (by ktr_units) ?_); ke_norm))
local macro_rules | `(tactic| walk_at "compareOp NotEq ref ref") => `(tactic| (k_here; (with_reducible show wpAny _ _ (compareOp CmpOp.NotEq (Value.ref _) (Value.ref _)) _ _ _); k_dflt (refine ne_dataH (by ke_read) (by ke_read) rfl rfl (by ktr_units) ?_); ke_norm))
local macro_rules | `(tactic| walk_at "binaryOp LShift int int") => `(tactic| (k_here; (with_reducible refine lshift_int ?kn ?ks ?_); (case kn => omega); (case ks => omega)))
local macro_rules | `(tactic| walk_at "binaryOp Mult int int") => `(tactic| (k_here; (with_reducible refine mul_int ?_ ?km); rotate_left; (case km => exact IntMulOk.of_le (m := 60000000) (n := 60000000) (by omega) (by omega) (by decide))))
local macro_rules | `(tactic| walk_at "eval Name") => `(tactic| (k_here; (with_reducible show wpAny _ _ (eval (Expr.Name _ _) (envOf _ _ _ _ _)) _ _ _); name_kind "local"; k_dflt (refine' ld ?k1 ?k2 ?_; (case k1 => k_asm); (case k2 => exact rfl); k_whole)))
local macro_rules | `(tactic| walk_at "binaryOp RShift int int") => `(tactic| (k_here; (with_reducible refine rshift_int ?kn ?_); (case kn => omega)))
local macro_rules | `(tactic| walk_at "inplaceOp Pow int int") => `(tactic| (k_here; (with_reducible refine ipow_int ?kn ?ks ?_); (case kn => omega); (case ks => omega)))
local macro_rules | `(tactic| walk_at "inplaceOp Mult int int") => `(tactic| (k_here; (with_reducible refine imul_int ?_ ?km); rotate_left; (case km => exact IntMulOk.of_le (m := 60000000) (n := 60000000) (by omega) (by omega) (by decide))))
local macro_rules | `(tactic| walk_at "subscriptTail") => `(tactic| (k_here; (with_reducible show wpAny _ _ (subscriptTail _ _ (Value.ref _) (Value.int _ _)) _ _ _); k_dflt (refine' item_tupleT ?k1 ?k2 ?k3 ?k4 ?k5 ?_ ?k6; (case k1 => first | exact TupIn.isTup (by with_reducible assumption) (by k_asm) (by k_asm) (by k_asm)); (case k2 => decide); (case k3 => decide); (case k4 => exact rfl); (case k5 => exact rfl); (case k6 => with_unfolding_all rfl); k_whole)))
/-! plain facts about Dyadic -/
def TZ (n z : Int) : Prop := ∃ k : Nat, z = (k : Int) ∧ ∃ o : Int, n = o * 2 ^ k ∧ o % 2 = 1
theorem o_mul (i j p q : Int) : Dyadic.ofIntWithPrec i p * Dyadic.ofIntWithPrec j q = Dyadic.ofIntWithPrec (i * j) (p + q) := by
  apply Dyadic.toRat_inj.mp
  rw [Dyadic.toRat_mul, Dyadic.toRat_ofIntWithPrec_eq_mul_two_pow, Dyadic.toRat_ofIntWithPrec_eq_mul_two_pow, Dyadic.toRat_ofIntWithPrec_eq_mul_two_pow, Int.neg_add, Rat.zpow_add (by decide), Rat.intCast_mul]
  grind
theorem o_add (i j p : Int) : Dyadic.ofIntWithPrec i p + Dyadic.ofIntWithPrec j p = Dyadic.ofIntWithPrec (i + j) p := by
  apply Dyadic.toRat_inj.mp
  rw [Dyadic.toRat_add, Dyadic.toRat_ofIntWithPrec_eq_mul_two_pow, Dyadic.toRat_ofIntWithPrec_eq_mul_two_pow, Dyadic.toRat_ofIntWithPrec_eq_mul_two_pow, Rat.intCast_add]
  grind
theorem o_shift (i p : Int) (k : Nat) : Dyadic.ofIntWithPrec (i * 2 ^ k) (p + k) = Dyadic.ofIntWithPrec i p := by
  have h : Dyadic.ofIntWithPrec (2 ^ k) (k : Int) = 1 := by
    apply Dyadic.toRat_inj.mp
    rw [Dyadic.toRat_ofIntWithPrec_eq_mul_two_pow]
    rw [Rat.zpow_neg, Rat.zpow_natCast, Rat.intCast_pow]
    have e : ((2 ^ k : Rat)) = (2 : Rat) ^ (k : Int) := (Rat.zpow_natCast _ _).symm
    refine Rat.mul_inv_cancel _ ?_
    exact Rat.ne_of_gt (Rat.pow_pos (by decide))
  rw [← o_mul, h, Dyadic.mul_one]
theorem o_pow (i p : Int) (k : Nat) : (Dyadic.ofIntWithPrec i p) ^ k = Dyadic.ofIntWithPrec (i ^ k) (p * k) := by
  induction k with
  | zero => rw [Dyadic.pow_zero, Int.pow_zero]; simp; rfl
  | succ k ih =>
    rw [Dyadic.pow_succ, ih, o_mul, Int.pow_succ]
    congr 1
    grind
theorem o_neg (i p : Int) : - Dyadic.ofIntWithPrec i p = Dyadic.ofIntWithPrec (-i) p := Dyadic.neg_ofIntWithPrec
def sv (a b : Int) : Int := if a = 0 then b else -b
theorem dy_sv (a b c : Int) : dy a b c = Dyadic.ofIntWithPrec (sv a b) (-c) := rfl
theorem sv_mul (a b m : Int) : sv a (b * m) = sv a b * m := by unfold sv; split <;> grind
theorem o_lift (i : Int) {c c' : Int} (h : c' ≤ c) : Dyadic.ofIntWithPrec i (-c) = Dyadic.ofIntWithPrec (i * 2 ^ (c - c').toNat) (-c') := by
  rw [← o_shift i (-c) (c - c').toNat]
  congr 1
  omega
theorem add_up {a b c a' b' c' sg man : Int} (hc : c' ≤ c) (h : sv sg man = sv a (b * 2 ^ (c - c').toNat) + sv a' b') : dy a b c + dy a' b' c' = dy sg man c' := by
  rw [dy_sv, dy_sv, dy_sv, o_lift _ hc, o_add, h, sv_mul]
theorem add_dn {a b c a' b' c' sg man : Int} (hc : c ≤ c') (h : sv sg man = sv a b + sv a' (b' * 2 ^ (-(c - c')).toNat)) : dy a b c + dy a' b' c' = dy sg man c := by
  rw [dy_sv, dy_sv, dy_sv, o_lift (sv a' b') hc, o_add, h, sv_mul, show -(c - c') = c' - c by omega]
theorem add_eq {a b c a' b' c' sg man : Int} (hc : c - c' = 0) (h : sv sg man = sv a b + sv a' b') : dy a b c + dy a' b' c' = dy sg man c' := by
  have e : c = c' := by omega
  subst e
  rw [dy_sv, dy_sv, dy_sv, o_add, h]
theorem sv_not {a b : Int} (ha : a = 0 ∨ a = 1) : sv (1 - a) b = - sv a b := by rcases ha with rfl | rfl <;> simp [sv]
theorem dy_sub {a b c a' b' c' : Int} (ha : a' = 0 ∨ a' = 1) : dy a b c - dy a' b' c' = dy a b c + dy (1 - a') b' c' := by
  rw [dy_sv (1 - a'), sv_not ha, ← o_neg, ← dy_sv]
  grind
theorem dy_neg {a b c e : Int} (h : Can a b c e) (hb : b ≠ 0) : - dy a b c = dy (1 - a) b c := by
  rcases h with ⟨_, h, _⟩ | ⟨h, _⟩
  · exact absurd h hb
  · rw [dy_sv, dy_sv, sv_not h, o_neg]
theorem can_neg {a b c e : Int} (h : Can a b c e) (hb : b ≠ 0) : Can (1 - a) b c e := by
  rcases h with ⟨_, h, _⟩ | ⟨h, h2⟩
  · exact absurd h hb
  · exact .inr ⟨by omega, h2⟩
theorem sv_xor {a b a' b' : Int} (h : a = 0 ∨ a = 1) (h' : a' = 0 ∨ a' = 1) : sv a b * sv a' b' = sv (Builtin.bitXor a a') (b * b') := by
  rcases h with rfl | rfl <;> rcases h' with rfl | rfl
  · rw [show Builtin.bitXor 0 0 = 0 by decide]; simp [sv]
  · rw [show Builtin.bitXor 0 1 = 1 by decide]; simp [sv]; try grind
  · rw [show Builtin.bitXor 1 0 = 1 by decide]; simp [sv]; try grind
  · rw [show Builtin.bitXor 1 1 = 0 by decide]; simp [sv]; try grind
theorem can_bit {a b c e : Int} (h : Can a b c e) : a = 0 ∨ a = 1 := by
  rcases h with ⟨h, _⟩ | ⟨h, _⟩
  · exact .inl h
  · exact h
theorem dy_mul {a b c e a' b' c' e' : Int} (h : Can a b c e) (h' : Can a' b' c' e') : dy a b c * dy a' b' c' = dy (Builtin.bitXor a a') (b * b') (c + c') := by
  rw [dy_sv, dy_sv, dy_sv, o_mul, sv_xor (can_bit h) (can_bit h')]
  congr 1
  omega
theorem can_mul {a b c e a' b' c' e' : Int} (h : Can a b c e) (h' : Can a' b' c' e') (hb : b * b' ≠ 0) : Can (Builtin.bitXor a a') (b * b') (c + c') (Builtin.Int.intBits (b * b') : Int) := by
  have h1 := can_bit h
  have h2 := can_bit h'
  rcases h with ⟨_, rfl, _⟩ | ⟨_, p, q, _⟩
  · simp at hb
  rcases h' with ⟨_, rfl, _⟩ | ⟨_, p', q', _⟩
  · simp at hb
  refine .inr ⟨?_, Int.mul_pos p p', ?_, rfl⟩
  · rcases h1 with rfl | rfl <;> rcases h2 with rfl | rfl <;> decide
  · rw [Int.mul_emod, q, q']; rfl
theorem dy_pow (a b c : Int) (k : Nat) : (dy a b c) ^ k = Dyadic.ofIntWithPrec ((sv a b) ^ k) (-(c * k)) := by
  rw [dy_sv, o_pow]; congr 1; grind
theorem dy_mulint {a b c n : Int} (h : 0 < n) : dy a b c * Dyadic.ofIntWithPrec n 0 = dy a (b * n) c := by
  rw [dy_sv, dy_sv, o_mul, sv_mul]; congr 1; omega
theorem pow_two {a b c m : Int} (h : m = b * b) : (dy a b c) ^ (2 : Int).toNat = dy 0 m (c + c) := by
  rw [dy_pow, dy_sv, h]
  congr 1
  · show sv a b ^ 2 = _
    unfold sv; split <;> simp <;> grind
  · show -(c * 2) = _
    omega
theorem bitAnd_three (a : Int) (ha : a = 0 ∨ a = 1) : Builtin.bitAnd a 3 = a := by rcases ha with rfl | rfl <;> decide
theorem bitAnd_four (a : Int) (ha : a = 0 ∨ a = 1) : Builtin.bitAnd a 4 = 0 := by rcases ha with rfl | rfl <;> decide
theorem pow_three {a b c : Int} (ha : a = 0 ∨ a = 1) : (dy a b c) ^ (3 : Int).toNat = dy (Builtin.bitAnd a 3) (b ^ (3 : Int).toNat) (c * 3) := by
  rw [dy_pow, dy_sv, bitAnd_three a ha]
  congr 1
  show sv a b ^ 3 = sv a (b ^ 3)
  unfold sv; split <;> grind
theorem pow_four {a b c : Int} (ha : a = 0 ∨ a = 1) : (dy a b c) ^ (4 : Int).toNat = dy (Builtin.bitAnd a 4) (b ^ (4 : Int).toNat) (c * 4) := by
  rw [dy_pow, dy_sv, bitAnd_four a ha]
  congr 1
  show sv a b ^ 4 = sv 0 (b ^ 4)
  unfold sv; split <;> grind
theorem odd_ne {b b' k : Int} (hb' : b' % 2 = 1) (hk : 0 < k) : b * 2 ^ k.toNat ≠ b' := by
  intro e
  obtain ⟨n, hn⟩ : ∃ n, k.toNat = n + 1 := ⟨k.toNat - 1, by omega⟩
  rw [hn, Int.pow_succ, ← Int.mul_assoc] at e
  omega
theorem bits_pos {b : Int} (h : b ≠ 0) : 1 ≤ (Builtin.Int.intBits b : Int) := by
  unfold Builtin.Int.intBits
  simp [h]
  omega
theorem TZ.div {man z : Int} (h : TZ man z) : man.fdiv (2 ^ z.toNat) % 2 = 1 ∧ man = man.fdiv (2 ^ z.toNat) * 2 ^ z.toNat ∧ 0 ≤ z := by
  obtain ⟨k, rfl, o, ho, h1⟩ := h
  have e : ((k : Int)).toNat = k := by omega
  rw [e]
  have h2 : man.fdiv (2 ^ k) = o := by rw [ho]; exact Int.mul_fdiv_cancel _ (Int.ne_of_gt (Int.pow_pos (by decide)))
  rw [h2]
  exact ⟨h1, ho, by omega⟩
theorem tz_pos {man z : Int} (h0 : 0 < man) (h : TZ man z) : 0 < man.fdiv (2 ^ z.toNat) ∧ man.fdiv (2 ^ z.toNat) % 2 = 1 := by
  obtain ⟨h1, h2, _⟩ := h.div
  refine ⟨?_, h1⟩
  have hp : (0 : Int) < 2 ^ z.toNat := Int.pow_pos (by decide)
  exact Int.pos_of_mul_pos_right (by rw [Int.mul_comm, ← h2]; exact h0) hp
theorem tz_dy {man z : Int} (sg ex : Int) (h : TZ man z) : dy sg man ex = dy sg (man.fdiv (2 ^ z.toNat)) (ex + z) := by
  obtain ⟨h1, h2, h3⟩ := h.div
  rw [dy_sv, dy_sv, o_lift (sv sg (man.fdiv (2 ^ z.toNat))) (show ex ≤ ex + z by omega), ← sv_mul, show ex + z - ex = z by omega, ← h2]
theorem bits_iff {b : Int} (h : 0 < b) (n : Nat) : Builtin.Int.intBits b = n + 1 ↔ (2 : Int) ^ n ≤ b ∧ b < 2 ^ (n + 1) := by
  obtain ⟨m, rfl⟩ : ∃ m : Nat, b = m := ⟨b.toNat, by omega⟩
  have hm : m ≠ 0 := by omega
  have hb : ((m : Int) == 0) = false := by simp [hm]
  have e : Builtin.Int.intBits (m : Int) = m.log2 + 1 := by unfold Builtin.Int.intBits; rw [hb]; rfl
  rw [e, Nat.add_right_cancel_iff, Nat.log2_eq_iff hm]
  have h1 : ((2 : Int) ^ n) = ((2 ^ n : Nat) : Int) := by simp
  have h2 : ((2 : Int) ^ (n + 1)) = ((2 ^ (n + 1) : Nat) : Int) := by simp
  rw [h1, h2]; omega
theorem bits_ex {b : Int} (h : 0 < b) : ∃ n : Nat, Builtin.Int.intBits b = n + 1 ∧ (2 : Int) ^ n ≤ b ∧ b < 2 ^ (n + 1) := by
  have := bits_pos (b := b) (by omega)
  obtain ⟨n, hn⟩ : ∃ n, Builtin.Int.intBits b = n + 1 := ⟨Builtin.Int.intBits b - 1, by omega⟩
  exact ⟨n, hn, (bits_iff h n).mp hn⟩
theorem bits_shift {o : Int} (h : 0 < o) (k : Nat) : Builtin.Int.intBits (o * 2 ^ k) = Builtin.Int.intBits o + k := by
  obtain ⟨n, hn, h1, h2⟩ := bits_ex h
  have hp : (0 : Int) < 2 ^ k := Int.pow_pos (by decide)
  have := (bits_iff (Int.mul_pos h hp) (n + k)).mpr ⟨by rw [Int.pow_add]; exact Int.mul_le_mul_of_nonneg_right h1 (Int.le_of_lt hp), by rw [show n + k + 1 = n + 1 + k by omega, Int.pow_add]; exact Int.mul_lt_mul_of_pos_right h2 hp⟩
  omega
theorem tz_bits {man z : Int} (h0 : 0 < man) (h : TZ man z) : (Builtin.Int.intBits man : Int) - z = (Builtin.Int.intBits (man.fdiv (2 ^ z.toNat)) : Int) := by
  obtain ⟨h1, h2, h3⟩ := h.div
  have hp := (tz_pos h0 h).1
  have := bits_shift hp z.toNat
  rw [← h2] at this
  omega
theorem bits_fdiv {x : Int} (k : Nat) (h : (2 : Int) ^ k ≤ x) : Builtin.Int.intBits x = k + Builtin.Int.intBits (x.fdiv (2 ^ k)) ∧ 0 < x.fdiv (2 ^ k) := by
  have hp : (0 : Int) < 2 ^ k := Int.pow_pos (by decide)
  have hx : 0 < x := by omega
  rw [Int.fdiv_eq_ediv_of_nonneg _ (Int.le_of_lt hp)]
  have hq : 0 < x / 2 ^ k := by
    have : (1 : Int) ≤ x / 2 ^ k := (Int.le_ediv_iff_mul_le hp).mpr (by omega)
    omega
  obtain ⟨n, hn, h1, h2⟩ := bits_ex hq
  have h3 := (Int.le_ediv_iff_mul_le hp).mp h1
  have h4 := (Int.ediv_lt_iff_lt_mul hp).mp h2
  have := (bits_iff hx (n + k)).mpr ⟨by rw [Int.pow_add]; exact h3, by rw [show n + k + 1 = n + 1 + k by omega, Int.pow_add]; exact h4⟩
  exact ⟨by omega, hq⟩
theorem pw_mono {p q : Nat} (h : p ≤ q) : (2 : Int) ^ p ≤ 2 ^ q := by
  have := Nat.pow_le_pow_right (n := 2) (by decide) h
  have h1 : ((2 : Int) ^ p) = ((2 ^ p : Nat) : Int) := by simp
  have h2 : ((2 : Int) ^ q) = ((2 ^ q : Nat) : Int) := by simp
  rw [h1, h2]; omega
theorem pw_le {b b' : Int} {p q : Nat} (h1 : (2 : Int) ^ p ≤ b) (h2 : (2 : Int) ^ q ≤ b') : (2 : Int) ^ (p + q) ≤ b * b' := by
  have hp : (0 : Int) < 2 ^ p := Int.pow_pos (by decide)
  have hq : (0 : Int) < 2 ^ q := Int.pow_pos (by decide)
  rw [Int.pow_add]
  exact Int.mul_le_mul h1 h2 (by omega) (by omega)
theorem pw_lt {b b' : Int} {p q : Nat} (h0 : 0 < b) (h0' : 0 < b') (h1 : b < (2 : Int) ^ p) (h2 : b' < (2 : Int) ^ q) : b * b' < (2 : Int) ^ (p + q) := by
  rw [Int.pow_add]
  exact Int.lt_of_lt_of_le (Int.mul_lt_mul_of_pos_left h2 h0) (Int.mul_le_mul_of_nonneg_right (by omega) (Int.le_of_lt (Int.pow_pos (by decide))))
theorem mulint_bits {b n : Int} (hb : 0 < b) (hn : 0 < n) : (Builtin.Int.intBits b : Int) + ((Builtin.Int.intBits n : Int) - 1) + (b * n).fdiv (2 ^ ((Builtin.Int.intBits b : Int) + ((Builtin.Int.intBits n : Int) - 1)).toNat) = (Builtin.Int.intBits (b * n) : Int) := by
  obtain ⟨p, e1, h1, h2⟩ := bits_ex hb
  obtain ⟨q, e2, h3, h4⟩ := bits_ex hn
  have hx := Int.mul_pos hb hn
  have g1 := pw_le h1 h3
  have g2 := pw_lt hb hn h2 h4
  rw [e1, e2, show (((p + 1 : Nat) : Int) + (((q + 1 : Nat) : Int) - 1)).toNat = p + q + 1 by omega]
  have hp : (0 : Int) < 2 ^ (p + q + 1) := Int.pow_pos (by decide)
  rw [Int.fdiv_eq_ediv_of_nonneg _ (Int.le_of_lt hp)]
  have g3 : (2 : Int) ^ (p + 1 + (q + 1)) = 2 * 2 ^ (p + q + 1) := by rw [show p + 1 + (q + 1) = p + q + 1 + 1 by omega, Int.pow_succ, Int.mul_comm]
  by_cases hc : (2 : Int) ^ (p + q + 1) ≤ b * n
  · have := (bits_iff hx (p + q + 1)).mpr ⟨hc, by rw [show p + q + 1 + 1 = p + 1 + (q + 1) by omega]; exact g2⟩
    have e : b * n / 2 ^ (p + q + 1) = 1 := by
      have u1 := (Int.le_ediv_iff_mul_le (a := 1) (b := b * n) hp).mpr (by omega)
      have u2 := (Int.ediv_lt_iff_lt_mul (a := b * n) (b := 2) hp).mpr (by omega)
      omega
    rw [e, this]; omega
  · have := (bits_iff hx (p + q)).mpr ⟨g1, by omega⟩
    have e : b * n / 2 ^ (p + q + 1) = 0 := Int.ediv_eq_zero_of_lt (by omega) (by omega)
    rw [e, this]; omega
theorem sq_bits {b : Int} (hb : 0 < b) : (Builtin.Int.intBits b : Int) + (Builtin.Int.intBits b : Int) - 2 + (Builtin.Int.intBits ((b * b).fdiv (2 ^ ((Builtin.Int.intBits b : Int) + (Builtin.Int.intBits b : Int) - 2).toNat)) : Int) = (Builtin.Int.intBits (b * b) : Int) := by
  obtain ⟨p, e1, h1, h2⟩ := bits_ex hb
  have g1 := pw_le h1 h1
  rw [e1, show (((p + 1 : Nat) : Int) + ((p + 1 : Nat) : Int) - 2).toNat = p + p by omega]
  have := (bits_fdiv (p + p) g1).1
  omega
theorem shr_pos {man : Int} (h : 0 < man) (hn : 0 < (Builtin.Int.intBits man : Int) - 5) : 0 < man.fdiv (2 ^ ((Builtin.Int.intBits man : Int) - 5).toNat) ∧ 0 < -((-man).fdiv (2 ^ ((Builtin.Int.intBits man : Int) - 5).toNat)) := by
  obtain ⟨p, e1, h1, h2⟩ := bits_ex h
  rw [e1, show (((p + 1 : Nat) : Int) - 5).toNat = p - 4 by omega]
  have hp : (0 : Int) < 2 ^ (p - 4) := Int.pow_pos (by decide)
  refine ⟨(bits_fdiv (p - 4) (Int.le_trans (pw_mono (by omega)) h1)).2, ?_⟩
  rw [Int.fdiv_eq_ediv_of_nonneg _ (Int.le_of_lt hp)]
  have := (Int.ediv_lt_iff_lt_mul (a := -man) (b := 0) hp).mpr (by omega)
  omega
theorem odd_half {o o' : Int} {k : Nat} (h : o % 2 = 1) (h' : o' % 2 = 1) (e : o * 2 ^ k = o') : k = 0 ∧ o = o' := by
  cases k with
  | zero => exact ⟨rfl, by simpa using e⟩
  | succ k =>
    rw [Int.pow_succ, ← Int.mul_assoc] at e
    omega
theorem o_inj {i j p : Int} (h : Dyadic.ofIntWithPrec i p = Dyadic.ofIntWithPrec j p) : i = j := by
  have h1 := Dyadic.toRat_inj.mpr h
  rw [Dyadic.toRat_ofIntWithPrec_eq_mul_two_pow, Dyadic.toRat_ofIntWithPrec_eq_mul_two_pow] at h1
  have hp : (2 : Rat) ^ (-p) ≠ 0 := Rat.ne_of_gt (Rat.zpow_pos (by decide))
  have h2 : (i : Rat) = (j : Rat) := by
    have h3 := congrArg (fun z => z * ((2 : Rat) ^ (-p))⁻¹) h1
    simp only [Rat.mul_assoc, Rat.mul_inv_cancel _ hp, Rat.mul_one] at h3
    exact h3
  exact Rat.intCast_inj.mp h2
theorem sv_odd {a b : Int} (h : b % 2 = 1) : sv a b % 2 = 1 := by unfold sv; split <;> omega
theorem sv_eq0 {a b : Int} : sv a b = 0 ↔ b = 0 := by unfold sv; split <;> omega
theorem can_uniq_aux {a b c e a' b' c' e' : Int} (h : Can a b c e) (h' : Can a' b' c' e') (hc : c' ≤ c) (q : dy a b c = dy a' b' c') : a = a' ∧ b = b' ∧ c = c' ∧ e = e' := by
  rw [dy_sv, dy_sv, o_lift _ hc] at q
  have q := o_inj q
  rcases h with ⟨rfl, rfl, rfl, rfl⟩ | ⟨h1, h2, h3, h4⟩
  · rcases h' with ⟨rfl, rfl, rfl, rfl⟩ | ⟨h1', h2', h3', h4'⟩
    · exact ⟨rfl, rfl, rfl, rfl⟩
    · have e0 : sv 0 0 = 0 := rfl
      rw [e0, Int.zero_mul] at q
      have := sv_eq0.mp q.symm
      omega
  · rcases h' with ⟨rfl, rfl, rfl, rfl⟩ | ⟨h1', h2', h3', h4'⟩
    · have e0 : sv 0 0 = 0 := rfl
      rw [e0] at q
      rcases Int.mul_eq_zero.mp q with q | q
      · have := sv_eq0.mp q; omega
      · exact absurd q (Int.ne_of_gt (Int.pow_pos (by decide)))
    · obtain ⟨k0, k1⟩ := odd_half (sv_odd h3) (sv_odd h3') q
      have ec : c = c' := by omega
      have eab : a = a' ∧ b = b' := by
        unfold sv at k1
        split at k1 <;> split at k1 <;> omega
      obtain ⟨rfl, rfl⟩ := eab
      exact ⟨rfl, rfl, ec, by rw [h4, h4']⟩
theorem can_uniq {a b c e a' b' c' e' : Int} (h : Can a b c e) (h' : Can a' b' c' e') (q : dy a b c = dy a' b' c') : a = a' ∧ b = b' ∧ c = c' ∧ e = e' := by
  rcases Int.le_total c' c with hc | hc
  · exact can_uniq_aux h h' hc q
  · obtain ⟨h1, h2, h3, h4⟩ := can_uniq_aux h' h hc q.symm
    exact ⟨h1.symm, h2.symm, h3.symm, h4.symm⟩
noncomputable def dsgn (d : Dyadic) : Int := by classical exact if d = 0 then 0 else if d < 0 then -1 else 1
theorem dsgn_o (i p : Int) : dsgn (Dyadic.ofIntWithPrec i p) = Int.sign i := by
  have hp : (0 : Rat) < (2 : Rat) ^ (-p) := Rat.zpow_pos (by decide)
  unfold dsgn
  have h0 : Dyadic.ofIntWithPrec i p = 0 ↔ i = 0 := by
    rw [← Dyadic.ofIntWithPrec_zero (i := p)]
    exact ⟨o_inj, fun h => by rw [h]⟩
  have h1 : Dyadic.ofIntWithPrec i p < 0 ↔ i < 0 := by
    rw [← Dyadic.toRat_lt_toRat_iff, Dyadic.toRat_ofIntWithPrec_eq_mul_two_pow, Dyadic.toRat_zero]
    constructor
    · intro h
      refine Int.not_le.mp fun hi => ?_
      have : (0 : Rat) ≤ (i : Rat) := by exact_mod_cast hi
      exact absurd h (Rat.not_lt.mpr (Rat.mul_nonneg this (Rat.le_of_lt hp)))
    · intro h
      have : (i : Rat) < 0 := by exact_mod_cast h
      have h2 := Rat.mul_lt_mul_of_pos_right this hp
      rwa [Rat.zero_mul] at h2
  simp only [h0, h1]
  split
  · subst i; rfl
  · split
    · rw [Int.sign_eq_neg_one_of_neg (by assumption)]
    · rw [Int.sign_eq_one_of_pos (by omega)]
theorem o_of (d : Dyadic) : ∃ i p, d = Dyadic.ofIntWithPrec i p := by
  cases d with
  | zero => exact ⟨0, 0, rfl⟩
  | ofOdd n k h => exact ⟨n, k, Dyadic.ofOdd_eq_ofIntWithPrec⟩
theorem dsgn_mul (a b : Dyadic) : dsgn (a * b) = dsgn a * dsgn b := by
  obtain ⟨i, p, rfl⟩ := o_of a
  obtain ⟨j, q, rfl⟩ := o_of b
  rw [o_mul, dsgn_o, dsgn_o, dsgn_o, Int.sign_mul]
theorem and_low : ∀ n : Nat, 0 < n → ∃ k o : Nat, n = o * 2 ^ k ∧ o % 2 = 1 ∧ (n &&& (n - 1)) + 2 ^ k = n := by
  intro n
  induction n using Nat.strongRecOn with
  | ind n ih =>
    intro hn
    have d1 : (n &&& (n - 1)) / 2 = n / 2 &&& (n - 1) / 2 := Nat.and_div_two
    have d2 : (n &&& (n - 1)) % 2 = 0 := by
      have := Nat.and_mod_two_pow (a := n) (b := n - 1) (n := 1)
      rw [Nat.pow_one] at this
      rw [this]
      rcases Nat.mod_two_eq_zero_or_one n with h | h
      · rw [h]; simp
      · rw [show (n - 1) % 2 = 0 by omega]; simp
    rcases Nat.mod_two_eq_zero_or_one n with h | h
    · obtain ⟨k, o, e1, e2, e3⟩ := ih (n / 2) (by omega) (by omega)
      refine ⟨k + 1, o, ?_, e2, ?_⟩
      · rw [Nat.pow_succ, ← Nat.mul_assoc, ← e1]; omega
      · rw [show (n - 1) / 2 = n / 2 - 1 by omega] at d1
        rw [Nat.pow_succ]; omega
    · refine ⟨0, n, by simp, h, ?_⟩
      rw [show (n - 1) / 2 = n / 2 by omega, Nat.and_self] at d1
      simp; omega
theorem tz_ok {n : Int} (h : 0 < n) : TZ n ((Builtin.Int.intBits (Builtin.bitAnd n (-n)) : Int) - 1) := by
  obtain ⟨m, rfl⟩ : ∃ m : Nat, n = m := ⟨n.toNat, by omega⟩
  obtain ⟨k, o, e1, e2, e3⟩ := and_low m (by omega)
  have e4 : Builtin.bitAnd (m : Int) (-(m : Int)) = 2 ^ k := by
    unfold Builtin.bitAnd Builtin.bitNot
    rw [show decide ((0 : Int) ≤ (m : Int)) = true by simp, show decide ((0 : Int) ≤ -(m : Int)) = false by simp; omega]
    dsimp only
    rw [show (-(-(m : Int)) - 1).toNat = m - 1 by omega, Int.toNat_natCast]
    have h2 : ((2 : Int) ^ k) = ((2 ^ k : Nat) : Int) := by simp
    rw [h2]; omega
  have e5 : Builtin.Int.intBits (2 ^ k : Int) = k + 1 := (bits_iff (Int.pow_pos (by decide)) k).mpr ⟨Int.le_refl _, by rw [Int.pow_succ]; have : (0 : Int) < 2 ^ k := Int.pow_pos (by decide); omega⟩
  rw [e4, e5]
  refine ⟨k, by omega, (o : Int), ?_, by omega⟩
  have h2 : ((2 : Int) ^ k) = ((2 ^ k : Nat) : Int) := by simp
  rw [h2, ← Int.natCast_mul, ← e1]
theorem sign_of_pos {x : Int} (h : 0 < x) : Int.sign x = 1 := Int.sign_eq_one_of_pos h
/-- two numbers whose tops lie apart -/
theorem top_lt {b b' : Int} {k : Nat} (hb : 0 < b) (hb' : 0 < b') (h : Builtin.Int.intBits b + k < Builtin.Int.intBits b') : b * 2 ^ k < b' := by
  have h1 := bits_shift hb k
  obtain ⟨n, e, g1, g2⟩ := bits_ex (Int.mul_pos hb (show (0 : Int) < 2 ^ k from Int.pow_pos (by decide)))
  obtain ⟨n', e', g1', g2'⟩ := bits_ex hb'
  exact Int.lt_of_lt_of_le g2 (Int.le_trans (pw_mono (by omega)) g1')
theorem top_gt {b b' : Int} {k : Nat} (hb : 0 < b) (hb' : 0 < b') (h : Builtin.Int.intBits b' < Builtin.Int.intBits b + k) : b' < b * 2 ^ k := by
  have h1 := bits_shift hb k
  obtain ⟨n, e, g1, g2⟩ := bits_ex (Int.mul_pos hb (show (0 : Int) < 2 ^ k from Int.pow_pos (by decide)))
  obtain ⟨n', e', g1', g2'⟩ := bits_ex hb'
  exact Int.lt_of_lt_of_le g2' (Int.le_trans (pw_mono (by omega)) g1)
end

section
local macro_rules | `(tactic| kun_tup) => `(tactic| exact TupIn.isTup (by assumption) (by k_asm) (by k_asm) (by k_asm))
local macro_rules | `(tactic| cell_enter) => `(tactic| (refine' code_def ?k1 ?k2 ?k3 ?k4 ?k5 ?kA ?kF ?kK ?k6 ?k7 ?k8 ?k9 ?kB ?_ ?c2 ?c3 ?c4 ?c5; (case kA => exact rfl); (case kF => exact rfl); (case kK => assumption); (case k1 => k_asm); (case k2 => k_asm); (case k3 => k_asm); (case k4 => k_asm); (case k5 => k_asm); (case k6 => k_is); (case k7 => k_is); (case k8 => ktr_room); (case k9 => first | exact (by assumption : BindAs _ _ _ _) _ _ _ _ _ (by k_in) (by k_is) | exact BindsTo.of_eq rfl | exact binds_K (by k_in) rfl (by k_is) rfl rfl rfl); (case c5 => decide); (case kB => exact locs rfl); (case c2 => exact rfl); (case c3 => exact rfl); (case c4 => exact rfl); k_whole; intro g' L' h' FG' F' N' B' X' T'; (try dsimp only); (try k_lift B'); (try k_fold)))
local macro_rules | `(tactic| walk_at "ite") => `(tactic| (k_here; first
  | (refine' ite_pos ?hc9 ?_; (case hc9 => ((try simp only [bne_iff_ne, beq_iff_eq, Bool.not_eq_true', bne_eq_false_iff_eq, beq_eq_false_iff_ne, decide_eq_true_eq, decide_eq_false_iff_not, ne_eq, Bool.and_eq_true, Bool.or_eq_true, not_false_eq_true]); first | done | omega)); walk_say "PRUNED +")
  | (refine' ite_neg ?hc9 ?_; (case hc9 => ((try simp only [bne_iff_ne, beq_iff_eq, Bool.not_eq_true', bne_eq_false_iff_eq, beq_eq_false_iff_ne, decide_eq_true_eq, decide_eq_false_iff_not, ne_eq, Bool.and_eq_true, Bool.or_eq_true, not_false_eq_true]); first | done | omega)); walk_say "PRUNED -")))
local macro_rules | `(tactic| ke_read) => `(tactic| first | exact TupIn.reads (by with_reducible assumption) (by k_asm) (by k_asm) (by k_asm) | exact TupIn.reads TupIn.zero (by k_asm) (by k_asm) (by k_asm) | exact TupIn.reads TupIn.inf (by k_asm) (by k_asm) (by k_asm) | exact TupIn.reads TupIn.ninf (by k_asm) (by k_asm) (by k_asm) | exact TupIn.reads TupIn.nan (by k_asm) (by k_asm) (by k_asm))
local macro_rules | `(tactic| walk_at "compareOp Eq ref ref") => `(tactic| (k_here; (with_reducible show wpAny _ _ (compareOp CmpOp.Eq (Value.ref _) (Value.ref _)) _ _ _); k_dflt (refine eq_dataH (by ke_read) (by ke_read) rfl rfl (by ktr_units) ?_); ke_norm))
local macro_rules | `(tactic| walk_at "compareOp NotEq ref ref") => `(tactic| (k_here; (with_reducible show wpAny _ _ (compareOp CmpOp.NotEq (Value.ref _) (Value.ref _)) _ _ _); k_dflt (refine ne_dataH (by ke_read) (by ke_read) rfl rfl (by ktr_units) ?_); ke_norm))
local macro_rules | `(tactic| walk_at "binaryOp LShift int int") => `(tactic| (k_here; (with_reducible refine lshift_int ?kn ?ks ?_); (case kn => omega); (case ks => omega)))
local macro_rules | `(tactic| walk_at "binaryOp Mult int int") => `(tactic| (k_here; (with_reducible refine mul_int ?_ ?km); rotate_left; (case km => exact IntMulOk.of_le (m := 60000000) (n := 60000000) (by omega) (by omega) (by decide))))
local macro_rules | `(tactic| walk_at "eval Name") => `(tactic| (k_here; (with_reducible show wpAny _ _ (eval (Expr.Name _ _) (envOf _ _ _ _ _)) _ _ _); name_kind "local"; k_dflt (refine' ld ?k1 ?k2 ?_; (case k1 => k_asm); (case k2 => exact rfl); k_whole)))
local macro_rules | `(tactic| walk_at "binaryOp RShift int int") => `(tactic| (k_here; (with_reducible refine rshift_int ?kn ?_); (case kn => omega)))
local macro_rules | `(tactic| walk_at "inplaceOp Pow int int") => `(tactic| (k_here; (with_reducible refine ipow_int ?kn ?ks ?_); (case kn => omega); (case ks => omega)))
local macro_rules | `(tactic| walk_at "inplaceOp Mult int int") => `(tactic| (k_here; (with_reducible refine imul_int ?_ ?km); rotate_left; (case km => exact IntMulOk.of_le (m := 60000000) (n := 60000000) (by omega) (by omega) (by decide))))
local macro_rules | `(tactic| walk_at "subscriptTail") => `(tactic| (k_here; (with_reducible show wpAny _ _ (subscriptTail _ _ (Value.ref _) (Value.int _ _)) _ _ _); k_dflt (refine' item_tupleT ?k1 ?k2 ?k3 ?k4 ?k5 ?_ ?k6; (case k1 => first | exact TupIn.isTup (by with_reducible assumption) (by k_asm) (by k_asm) (by k_asm)); (case k2 => decide); (case k3 => decide); (case k4 => exact rfl); (case k5 => exact rfl); (case k6 => with_unfolding_all rfl); k_whole)))
theorem TZ.nonneg {n z : Int} (h : TZ n z) : 0 ≤ z := by obtain ⟨k, rfl, _⟩ := h; omega
theorem odd_of {n : Int} (h : Builtin.bitAnd n 1 ≠ 0) : n % 2 = 1 := by rw [bitAnd_m1] at h; omega
theorem can_odd {sg man bc : Int} (ex : Int) (hs : sg = 0 ∨ sg = 1) (h0 : 0 < man) (h1 : man % 2 = 1) (hb : bc = (Builtin.Int.intBits man : Int)) : Can sg man ex bc := .inr ⟨hs, h0, h1, hb⟩
theorem bits_one : (1 : Int) = (Builtin.Int.intBits 1 : Int) := by decide
theorem dy_nil (sg ex : Int) : dy sg 0 ex = dy 0 0 0 := by simp [dy]
theorem can_nil : Can 0 0 0 0 := .inl ⟨rfl, rfl, rfl, rfl⟩

def sgnOf (a b : Int) : Int := if b = 0 then 0 else if a = 0 then 1 else -1
/-- what a canonical four says to omega -/
theorem Can.facts {a b c e : Int} (h : Can a b c e) : (a = 0 ∨ a = 1) ∧ 0 ≤ b ∧ (b ≠ 0 ∨ (a = 0 ∧ c = 0 ∧ e = 0)) ∧ e = (Builtin.Int.intBits b : Int) ∧ (b = 0 ∨ b % 2 = 1) := by
  rcases h with ⟨rfl, rfl, rfl, rfl⟩ | ⟨h1, h2, h3, h4⟩
  · exact ⟨.inl rfl, by omega, .inr ⟨rfl, rfl, rfl⟩, by decide, .inl rfl⟩
  · exact ⟨h1, by omega, .inl (by omega), h4, .inr h3⟩
theorem num_zero {news : List (Addr × Obj)} {a b c e : Int} {d : Dyadic} (hC : Can a b c e) (hb : b = 0) (hd : d = dy 0 0 0) : NumIn news (.ref 22) d := ⟨_, _, _, _, T4.zero, can_nil, hd⟩
theorem num_arg {news : List (Addr × Obj)} {x : Addr} {a b c e : Int} {t1 t2 t3 t4 : Tok} {d : Dyadic} (hx : TupIn news x #[.int a t1, .int b t2, .int c t3, .int e t4]) (hC : Can a b c e) (hd : d = dy a b c) : NumIn news (.ref x) d := ⟨_, _, _, _, ⟨_, _, _, _, _, rfl, hx⟩, hC, hd⟩
theorem dy_neg_zero {a b c e : Int} (h : Can a b c e) (hb : b = 0) : - dy a b c = dy a b c := by subst hb; simp [dy]
theorem dy_mul_zero {a b c a' b' c' : Int} (hb : b * b' = 0) : dy a b c * dy a' b' c' = dy 0 0 0 := by
  rcases Int.mul_eq_zero.mp hb with rfl | rfl <;> simp [dy]
theorem sgn_pow {a b : Int} (ha : a = 0 ∨ a = 1) (hb : b ≠ 0) : (-1 : Int) ^ a.toNat = sgnOf a b := by
  rcases ha with rfl | rfl <;> simp [sgnOf, hb]
theorem sgn_zero {a b : Int} (hb : b = 0) : sgnOf a b = 0 := by simp [sgnOf, hb]
theorem mul_zero_iff {b b' : Int} : b * b' = 0 ↔ b = 0 ∨ b' = 0 := Int.mul_eq_zero
theorem dy_zero' (a c : Int) : dy a 0 c = 0 := by simp [dy]
theorem add_zl {a b c a' b' c' sg : Int} (hb : b = 0) (hs : sg = a') : dy a b c + dy a' b' c' = dy sg b' c' := by subst hb hs; rw [dy_zero']; exact Dyadic.zero_add _
theorem add_zr {a b c a' b' c' : Int} (hb : b' = 0) : dy a b c + dy a' b' c' = dy a b c := by subst hb; rw [dy_zero']; exact Dyadic.add_zero _
theorem NumIn.eq {news : List (Addr × Obj)} {r : Value} {d d' : Dyadic} (h : NumIn news r d) (e : d' = d) : NumIn news r d' := by rw [e]; exact h
theorem shl_pos {b : Int} (k : Nat) (h : 0 ≤ b) : 0 ≤ b * 2 ^ k := Int.mul_nonneg h (Int.le_of_lt (Int.pow_pos (by decide)))
theorem xor_bit {a k : Int} (h : a = 0 ∨ a = 1) (hk : k = 0 ∨ k = 1) : Builtin.bitXor a k = 0 ∨ Builtin.bitXor a k = 1 := by rcases h with rfl | rfl <;> rcases hk with rfl | rfl <;> decide
theorem xor_one {a : Int} (h : a = 0 ∨ a = 1) : Builtin.bitXor a 1 = 1 - a := by rcases h with rfl | rfl <;> decide
/-- a fact kept from the arithmetic of the walk -/
structure Hid (p : Prop) : Prop where
  out : p
theorem Can.pos {a b c e : Int} (h : Can a b c e) (hb : b ≠ 0) : (a = 0 ∨ a = 1) ∧ 0 < b ∧ e = (Builtin.Int.intBits b : Int) := by
  obtain ⟨h1, h2, _, h4, _⟩ := h.facts
  exact ⟨h1, by omega, h4⟩
theorem Can.nil {a b c e : Int} (h : Can a b c e) (hb : b = 0) : a = 0 ∧ c = 0 ∧ e = 0 := by
  obtain ⟨h1, h2, h3, h4, _⟩ := h.facts
  rcases h3 with h3 | h3
  · exact absurd hb h3
  · exact h3
section
variable {prog : Program} {w : World} {A : Around} {E : Value → Shared → Prop} {s : Shared} {name : Str} {scope : Scope} {L a : Addr} {cd : Value} {h₀ : Heap} {m : Str → Option Value} {Q : Bool → Shared → Prop}
theorem and_gt0 {x y : Str} {i n : Int} {t t' : Tok} {k2 : Nat} {p1 p2 p3 p4 p5 : Pos} {whole : Sem Value} (F : Fr h₀ L s.heap m) (hx : m x = some (.int i t)) (hy : m y = some (.int 0 t')) (h : ∀ tk, Q false { s with toks := tk })
    (hk : scope.kind = .function) (hl : (envOf name scope L a cd).kindOf x = some .local) (hl' : (envOf name scope L a cd).kindOf y = some .local) (hd : (x == ("__debug__" : Str)) = false) (hd' : (y == ("__debug__" : Str)) = false)
    (hm : behindInMarks .Gt (.Constant (.int n) k2 p2) = false) (hi : isTrue (.Name y p4) (envOf name scope L a cd) (eval (.Name y p4) (envOf name scope L a cd)) = (do let v ← eval (.Name y p4) (envOf name scope L a cd); standAt (Expr.Name y p4).pos; holding [v] (truthy v))) :
    wpAny (model prog w) A (isTrue (.BoolOp .And [.Compare (.Name x p1) [.Gt] [.Constant (.int n) k2 p2] p3, .Name y p4] p5) (envOf name scope L a cd) whole) Q E s := by
  refine isTrue_and (wpAny_isTrue_Compare1 (ld F hx (wpAny_Constant_int (gt_int (wpAny_truthy_bool ?_))) hk hl hd) hm)
  cases decide (n < i) with
  | false => exact h _
  | true =>
    refine isTrue_and (isTrue_plain (ld (s := { s with toks := _ }) F hy (truthy_int ?_) hk hl' hd') hi)
    exact h _
theorem and_lt0 {x y : Str} {i n : Int} {t t' : Tok} {k2 : Nat} {p1 p2 p3 p4 p5 p6 : Pos} {whole : Sem Value} (F : Fr h₀ L s.heap m) (hx : m x = some (.int i t)) (hy : m y = some (.int 0 t')) (h : ∀ tk, Q false { s with toks := tk })
    (hk : scope.kind = .function) (hl : (envOf name scope L a cd).kindOf x = some .local) (hl' : (envOf name scope L a cd).kindOf y = some .local) (hd : (x == ("__debug__" : Str)) = false) (hd' : (y == ("__debug__" : Str)) = false)
    (hm : behindInMarks .Lt (.UnaryOp .USub (.Constant (.int n) k2 p2) p6) = false) (hi : isTrue (.Name y p4) (envOf name scope L a cd) (eval (.Name y p4) (envOf name scope L a cd)) = (do let v ← eval (.Name y p4) (envOf name scope L a cd); standAt (Expr.Name y p4).pos; holding [v] (truthy v))) :
    wpAny (model prog w) A (isTrue (.BoolOp .And [.Compare (.Name x p1) [.Lt] [.UnaryOp .USub (.Constant (.int n) k2 p2) p6] p3, .Name y p4] p5) (envOf name scope L a cd) whole) Q E s := by
  refine isTrue_and (wpAny_isTrue_Compare1 (ld F hx (UnaryOp_ (wpAny_Constant_int (neg_int (lt_int (wpAny_truthy_bool ?_))))) hk hl hd) hm)
  cases decide (i < -n) with
  | false => exact h _
  | true =>
    refine isTrue_and (isTrue_plain (ld (s := { s with toks := _ }) F hy (truthy_int ?_) hk hl' hd') hi)
    exact h _
end
/-- a call of the def at f upon vs binds the parameters so -/
def BindAs (w : World) (f : Addr) (vs : List Value) (binds : List (Str × Value)) : Prop :=
  ∀ (s : Shared) (oc : Value) (od : Option Addr) (osl : Array (Option Value)) (fd : FuncData), (Mine.hd.heap_39 w.params).In s.heap → (Mine.hd.heap_39 w.params).lookup f = some ⟨oc, od, .func fd, osl⟩ → BindsTo s fd ⟨vs, []⟩ binds
theorem add_binds2 (w : World) (v v' : Value) : BindAs w 107 [v, v'] [(Str.ofString "s", v), (Str.ofString "t", v'), (Str.ofString "prec", .int 0 374), (Str.ofString "rnd", .str (Str.ofString "d") 210), (Str.ofString "_sub", .int 0 375)] := by
  intro s oc od osl fd X hl
  cases ((rfl : (Mine.hd.heap_39 w.params).lookup 107 = some _).symm.trans hl)
  exact binds_K X rfl rfl rfl rfl rfl
theorem add_binds5 (w : World) (v v' p r k : Value) : BindAs w 107 [v, v', p, r, k] [(Str.ofString "s", v), (Str.ofString "t", v'), (Str.ofString "prec", p), (Str.ofString "rnd", r), (Str.ofString "_sub", k)] := by
  intro s oc od osl fd X hl
  cases ((rfl : (Mine.hd.heap_39 w.params).lookup 107 = some _).symm.trans hl)
  first | exact BindsTo.of_eq rfl | exact binds_K X rfl rfl rfl rfl rfl
theorem Spec.post {w : World} {mean : ExcName → Option Value} {mg mb : Str → Option Value} {f : Addr} {dd uu : Nat} {vs : List Value} {Pre Pre' : List (Addr × Obj) → Prop} {Post Post' : List (Addr × Obj) → Value → Prop}
    (S : Spec w mean mg mb f dd uu vs Pre Post) (hp : ∀ n, Pre' n → Pre n) (h : ∀ n r, Post n r → Post' n r) : Spec w mean mg mb f dd uu vs Pre' Post' :=
  fun dp un gd cn cs a ccd cl outer A₀ base h₀ L m news s Q E B F X N T hk hpre hd hu ret =>
    S dp un gd cn cs a ccd cl outer A₀ base h₀ L m news s Q E B F X N T hk (hp _ hpre) hd hu fun r n h' tk' F' N' x q => ret r n h' tk' F' N' x (h _ _ q)
theorem dy_nilx (a b c : Int) (hb : b = 0) : dy a b c = 0 := by subst hb; exact dy_zero' _ _
theorem xor_neg {a b c : Int} (h : a = 0 ∨ a = 1) : dy (Builtin.bitXor a 1) b c = dy (1 - a) b c := by rw [xor_one h]
theorem sub_of {a b c a' b' c' : Int} (h : a' = 0 ∨ a' = 1) : dy a b c - dy a' b' c' = dy a b c + dy (Builtin.bitXor a' 1) b' c' := by rw [dy_sub h, xor_one h]
/-- the sign of the difference of two numbers at unlike exponents -/
def SubSgn (a b c a' b' c' sg : Int) : Prop := (sg = 0 ∨ sg = 1) ∧ (0 < c - c' → (sg = 1 ↔ sv a (b * 2 ^ (c - c').toNat) - sv a' b' < 0)) ∧ (c - c' < 0 → (sg = 1 ↔ sv a b - sv a' (b' * 2 ^ (-(c - c')).toNat) < 0))
theorem fme_neg {man : Int} (ex : Int) (h : man < 0) : Dyadic.ofIntWithPrec man (-ex) = dy 1 (-man) ex := by simp [dy]
theorem fme_pos (man ex : Int) : Dyadic.ofIntWithPrec man (-ex) = dy 0 man ex := by simp [dy]
theorem nat_and_two (m : Nat) : m &&& 2 = 2 * (m / 2 % 2) := by
  have d1 : (m &&& 2) / 2 = m / 2 &&& 2 / 2 := Nat.and_div_two
  have d2 := Nat.and_mod_two_pow (a := m) (b := 2) (n := 1)
  rw [Nat.pow_one, show 2 % 2 = 0 by decide, Nat.and_zero] at d2
  rw [show 2 / 2 = 1 by decide, Nat.and_one_is_mod] at d1
  omega
theorem tz_one {n : Int} (h1 : Builtin.bitAnd n 1 = 0) (h2 : Builtin.bitAnd n 2 ≠ 0) : TZ n 1 := by
  rw [bitAnd_m1] at h1
  have h3 : n % 4 = 2 := by
    refine Classical.byContradiction fun hc => h2 ?_
    have h4 : n % 4 = 0 := by omega
    unfold Builtin.bitAnd Builtin.bitNot
    by_cases hn : 0 ≤ n
    · rw [show decide (0 ≤ n) = true by simp [hn], show decide ((0 : Int) ≤ 2) = true by decide]
      dsimp only
      rw [show (2 : Int).toNat = 2 from rfl, nat_and_two]
      omega
    · rw [show decide (0 ≤ n) = false by simp; omega, show decide ((0 : Int) ≤ 2) = true by decide]
      dsimp only
      rw [show (2 : Int).toNat = 2 from rfl, Nat.and_comm, nat_and_two]
      omega
  exact ⟨1, rfl, n / 2, by rw [Int.pow_succ, Int.pow_zero]; omega, by omega⟩
theorem tz_can {man z : Int} {sg ex bc : Int} (hs : sg = 0 ∨ sg = 1) (h0 : 0 < man) (hz : TZ man z) (hb : bc = (Builtin.Int.intBits man : Int) - z) : Can sg (man.fdiv (2 ^ z.toNat)) (ex + z) bc := can_odd _ hs (tz_pos h0 hz).1 (tz_pos h0 hz).2 (by rw [hb]; exact tz_bits h0 hz)
theorem mul_bits_le (b n : Int) : (Builtin.Int.intBits (b * n) : Int) ≤ (Builtin.Int.intBits b : Int) + (Builtin.Int.intBits n : Int) := by
  have := intBits_mul_le (Nat.le_refl (Builtin.Int.intBits b)) (Nat.le_refl (Builtin.Int.intBits n)); omega
theorem bits_le4 {n : Int} (h1 : 1 ≤ n) (h2 : n ≤ 8) : (Builtin.Int.intBits n : Int) ≤ 4 := by
  have := (intBits_le_iff (m := 4) (x := n)).mpr (by omega); omega
theorem pow_bits_le (b : Int) (k : Nat) : (Builtin.Int.intBits (b ^ k) : Int) ≤ (Builtin.Int.intBits b : Int) * (k : Int) + 1 := by
  have := intBits_pow_le (Nat.le_refl (Builtin.Int.intBits b)) k; omega
theorem can_one : Can 0 1 0 1 := .inr ⟨.inl rfl, by decide, by decide, bits_one⟩
theorem pow_zero' (d : Dyadic) : d ^ (0 : Int).toNat = dy 0 1 0 := by rw [show (0 : Int).toNat = 0 from rfl, Dyadic.pow_zero]; rfl
theorem pow_one' (d : Dyadic) : d ^ (1 : Int).toNat = d := by
  show d ^ (0 + 1) = d
  rw [Dyadic.pow_succ, Dyadic.pow_zero, Dyadic.one_mul]
/-- bounded: the least place is not below -n, the top not above n -/
def Bd (n : Int) (d : Dyadic) : Prop := ∀ a b c e, Can a b c e → d = dy a b c → b = 0 ∨ (-n ≤ c ∧ e + c ≤ n)
theorem Bd.open {n : Int} {a b c e : Int} (hC : Can a b c e) (h : Bd n (dy a b c)) (hn : 0 ≤ n) : e ≤ 2 * n ∧ -n ≤ c ∧ c ≤ n := by
  rcases h a b c e hC rfl with h | h
  · obtain ⟨_, h2, h3⟩ := hC.nil h; omega
  · obtain ⟨_, _, _, h4, _⟩ := hC.facts
    rw [h4] at h ⊢; omega
theorem NumIn.open {news : List (Addr × Obj)} {v : Value} {d : Dyadic} {n : Int} (h : NumIn news v d) (hb : Bd n d) (hn : 0 ≤ n) :
    ∃ a b c e, T4 news v a b c e ∧ Can a b c e ∧ d = dy a b c ∧ e ≤ 2 * n ∧ -n ≤ c ∧ c ≤ n := by
  obtain ⟨a, b, c, e, h1, h2, rfl⟩ := h
  exact ⟨a, b, c, e, h1, h2, rfl, Bd.open h2 hb hn⟩
inductive NumsIn (news : List (Addr × Obj)) : List Value → List Dyadic → Prop where
  | nil : NumsIn news [] []
  | cons {v : Value} {vs : List Value} {d : Dyadic} {ds : List Dyadic} : NumIn news v d → NumsIn news vs ds → NumsIn news (v :: vs) (d :: ds)
theorem NumsIn.mono {n n' : List (Addr × Obj)} {vs : List Value} {ds : List Dyadic} (h : NumsIn n vs ds) (hs : ∀ p ∈ n, p ∈ n') : NumsIn n' vs ds := by
  induction h with
  | nil => exact .nil
  | cons h _ ih => exact .cons (h.mono hs) ih
theorem NumsIn.len {n : List (Addr × Obj)} {vs : List Value} {ds : List Dyadic} (h : NumsIn n vs ds) : vs.length = ds.length := by
  induction h with
  | nil => rfl
  | cons _ _ ih => simp [ih]
theorem NumsIn.get {n : List (Addr × Obj)} {vs : List Value} {ds : List Dyadic} (h : NumsIn n vs ds) : ∀ {i : Nat} {v : Value}, vs[i]? = some v → ∃ d, ds[i]? = some d ∧ NumIn n v d := by
  induction h with
  | nil => intro i v e; simp at e
  | cons h _ ih =>
    intro i v e
    cases i with
    | zero => simp at e; subst e; exact ⟨_, rfl, h⟩
    | succ i => simpa using ih (by simpa using e)
theorem ps2 {m : Str → Option Value} {a b : Str} {v w : Value} (h1 : m a = some v) (h2 : m b = some w) : ∀ p ∈ [(a, v), (b, w)], m p.1 = some p.2 := by
  intro p hp
  rcases List.mem_cons.mp hp with rfl | hp
  · exact h1
  · rw [List.mem_singleton.mp hp]; exact h2
theorem ps1 {m : Str → Option Value} {a : Str} {v : Value} (h1 : m a = some v) : ∀ p ∈ [(a, v)], m p.1 = some p.2 := by
  intro p hp
  rw [List.mem_singleton.mp hp]; exact h1
/-- the running sum of mpf_sum -/
def SumInv (ds : List Dyadic) (i : Nat) (man exp : Int) : Prop := Dyadic.ofIntWithPrec man (-exp) = (ds.take i).sum ∧ -1000 ≤ exp ∧ exp ≤ 0 ∧ (Builtin.Int.intBits man : Int) + exp ≤ 3001 + i
theorem bits_neg (b : Int) : (Builtin.Int.intBits (-b) : Int) = (Builtin.Int.intBits b : Int) := by
  by_cases h : b = 0
  · subst h; rfl
  · unfold Builtin.Int.intBits; simp [h]
theorem sum_snoc (l : List Dyadic) (d : Dyadic) : (l ++ [d]).sum = l.sum + d := by
  induction l with
  | nil => simp
  | cons a l ih => rw [List.cons_append, List.sum_cons, List.sum_cons, ih, Dyadic.add_assoc]
theorem sum_step {ds : List Dyadic} {i : Nat} {d : Dyadic} (hd : ds[i]? = some d) : (ds.take (i + 1)).sum = (ds.take i).sum + d := by
  rw [List.take_add_one, hd, Option.toList_some, sum_snoc]
theorem bits_sv (a b : Int) : Builtin.Int.intBits (sv a b) = Builtin.Int.intBits b := by
  unfold sv
  split
  · rfl
  · have := bits_neg b; omega
theorem bits_shl_le (x : Int) (k : Nat) : Builtin.Int.intBits (x * 2 ^ k) ≤ Builtin.Int.intBits x + k := by
  refine intBits_le_iff.mpr ?_
  have h := intBits_le_iff.mp (Nat.le_refl (Builtin.Int.intBits x))
  rw [Int.natAbs_mul, Int.natAbs_pow, Nat.pow_add]
  exact Nat.mul_lt_mul_of_pos_right h (Nat.pow_pos (by decide))
theorem sum_up {ds : List Dyadic} {i : Nat} {man exp a b c e : Int} (hC : Can a b c e) (hd : ds[i]? = some (dy a b c)) (he : e ≤ 2000) (hc2 : c ≤ 1000) (h : SumInv ds i man exp) (hce : exp ≤ c) : SumInv ds (i + 1) (man + sv a b * 2 ^ (c - exp).toNat) exp := by
  obtain ⟨h1, h2, h3, h4⟩ := h
  refine ⟨?_, h2, h3, ?_⟩
  · rw [sum_step hd, ← h1, dy_sv, o_lift _ hce, o_add]
  · have q1 := bits_shl_le (sv a b) (c - exp).toNat
    rw [bits_sv] at q1
    have q2 := hC.facts.2.2.2.1
    have q3 := intBits_add_le (Nat.le_refl (Builtin.Int.intBits man)) q1
    omega
theorem sum_dn {ds : List Dyadic} {i : Nat} {man exp a b c e : Int} (hC : Can a b c e) (hd : ds[i]? = some (dy a b c)) (he : e ≤ 2000) (hc1 : -1000 ≤ c) (h : SumInv ds i man exp) (hce : ¬ exp ≤ c) : SumInv ds (i + 1) (man * 2 ^ (-(c - exp)).toNat + sv a b) c := by
  obtain ⟨h1, h2, h3, h4⟩ := h
  refine ⟨?_, hc1, by omega, ?_⟩
  · rw [sum_step hd, ← h1, dy_sv, o_lift man (show c ≤ exp by omega), o_add, show exp - c = -(c - exp) by omega]
  · have q1 := bits_shl_le man (-(c - exp)).toNat
    have q2 := hC.facts.2.2.2.1
    have q3 := intBits_add_le q1 (Nat.le_of_eq (bits_sv a b))
    omega
theorem sum_zero {ds : List Dyadic} {i : Nat} {man exp a b c : Int} (hd : ds[i]? = some (dy a b c)) (hb : b = 0) (h : SumInv ds i man exp) : SumInv ds (i + 1) man exp := by
  obtain ⟨h1, h2, h3, h4⟩ := h
  refine ⟨?_, h2, h3, by omega⟩
  rw [sum_step hd, dy_nilx _ _ _ hb, Dyadic.add_zero]; exact h1
theorem sv_pos (b : Int) : b = sv 0 b := by simp [sv]
theorem sv_neg {a : Int} (h : a ≠ 0) (b : Int) : -b = sv a b := by simp [sv, h]
/-- the number is told by objects younger than n₀ alone (or it is a written one) -/
def NumF (n₀ n' : List (Addr × Obj)) (r : Value) (d : Dyadic) : Prop := ∃ Y, (∀ q ∈ Y, q ∈ n' ∧ ∀ p ∈ n₀, p.1 < q.1) ∧ NumIn Y r d
theorem NumF.num {n₀ n' : List (Addr × Obj)} {r : Value} {d : Dyadic} (h : NumF n₀ n' r d) : NumIn n' r d := by
  obtain ⟨Y, hY, h⟩ := h
  exact h.mono fun q hq => (hY q hq).1
theorem NumF.eq {n₀ n' : List (Addr × Obj)} {r : Value} {d d' : Dyadic} (h : NumF n₀ n' r d) (e : d' = d) : NumF n₀ n' r d' := by rw [e]; exact h
theorem NumF.up {n₀ n₁ n' : List (Addr × Obj)} {r : Value} {d : Dyadic} (h : NumF n₁ n' r d) (x : ∀ p ∈ n₀, p ∈ n₁) : NumF n₀ n' r d := by
  obtain ⟨Y, hY, h⟩ := h
  exact ⟨Y, fun q hq => ⟨(hY q hq).1, fun p hp => (hY q hq).2 p (x p hp)⟩, h⟩
theorem NumF.mk {n₀ n' : List (Addr × Obj)} {x : Addr} {a b c e : Int} {t1 t2 t3 t4 : Tok} {n : Nat} {d : Dyadic} (h : (x, tup4 a b c e t1 t2 t3 t4 n) ∈ n') (l : ∀ p ∈ n₀, p.1 < x) (hc : Can a b c e) (hd : d = dy a b c) : NumF n₀ n' (.ref x) d :=
  ⟨[(x, tup4 a b c e t1 t2 t3 t4 n)], fun q hq => by rw [List.mem_singleton.mp hq]; exact ⟨h, l⟩, NumIn.mk (.head _) hc hd⟩
theorem NumF.zero {n₀ n' : List (Addr × Obj)} {d : Dyadic} (hd : d = dy 0 0 0) : NumF n₀ n' (.ref 22) d := ⟨[], (fun _ h => by cases h), _, _, _, _, T4.zero, can_nil, hd⟩
theorem NumF.one {n₀ n' : List (Addr × Obj)} {d : Dyadic} (hc : Can 0 1 0 1) (hd : d = dy 0 1 0) : NumF n₀ n' (.ref 23) d := ⟨[], (fun _ h => by cases h), _, _, _, _, T4.one, hc, hd⟩
theorem lt_up {n₀ n₁ : List (Addr × Obj)} {D : Addr} (x : Ext n₀ n₁) (l : ∀ p ∈ n₁, p.1 < D) : ∀ p ∈ n₀, p.1 < D := fun p hp => l p (x.1 p hp)
theorem sgn_dy {a b c e : Int} (h : Can a b c e) : sgnOf a b = dsgn (dy a b c) := by
  rw [dy_sv, dsgn_o]
  obtain ⟨h1, h2, _⟩ := h.facts
  unfold sgnOf sv
  by_cases hb : b = 0
  · subst hb; simp
  · rw [if_neg hb]
    split
    · rw [Int.sign_eq_one_of_pos (by omega)]
    · rw [Int.sign_eq_neg_one_of_neg (by omega)]
theorem dsgn_sub_up {a b c a' b' c' : Int} (h : c' ≤ c) : dsgn (dy a b c - dy a' b' c') = Int.sign (sv a b * 2 ^ (c - c').toNat - sv a' b') := by
  have e : dy a b c - dy a' b' c' = dy a b c + Dyadic.ofIntWithPrec (- sv a' b') (-c') := by rw [← o_neg, ← dy_sv]; grind
  rw [e, dy_sv, o_lift _ h, o_add, dsgn_o]
  exact congrArg Int.sign Int.sub_eq_add_neg.symm
theorem dsgn_sub_dn {a b c a' b' c' : Int} (h : c ≤ c') : dsgn (dy a b c - dy a' b' c') = Int.sign (sv a b - sv a' b' * 2 ^ (c' - c).toNat) := by
  have e : dy a b c - dy a' b' c' = dy a b c + Dyadic.ofIntWithPrec (- sv a' b') (-c') := by rw [← o_neg, ← dy_sv]; grind
  rw [e, dy_sv, o_lift (-sv a' b') h, o_add, dsgn_o, Int.neg_mul]
  exact congrArg Int.sign Int.sub_eq_add_neg.symm
end

section
local macro_rules | `(tactic| kun_tup) => `(tactic| exact TupIn.isTup (by assumption) (by k_asm) (by k_asm) (by k_asm))
local macro_rules | `(tactic| cell_enter) => `(tactic| (refine' code_def ?k1 ?k2 ?k3 ?k4 ?k5 ?kA ?kF ?kK ?k6 ?k7 ?k8 ?k9 ?kB ?_ ?c2 ?c3 ?c4 ?c5; (case kA => exact rfl); (case kF => exact rfl); (case kK => assumption); (case k1 => k_asm); (case k2 => k_asm); (case k3 => k_asm); (case k4 => k_asm); (case k5 => k_asm); (case k6 => k_is); (case k7 => k_is); (case k8 => ktr_room); (case k9 => first | exact (by assumption : BindAs _ _ _ _) _ _ _ _ _ (by k_in) (by k_is) | exact BindsTo.of_eq rfl | exact binds_K (by k_in) rfl (by k_is) rfl rfl rfl); (case c5 => decide); (case kB => exact locs rfl); (case c2 => exact rfl); (case c3 => exact rfl); (case c4 => exact rfl); k_whole; intro g' L' h' FG' F' N' B' X' T'; (try dsimp only); (try k_lift B'); (try k_fold)))
local macro_rules | `(tactic| walk_at "ite") => `(tactic| (k_here; first
  | (refine' ite_pos ?hc9 ?_; (case hc9 => ((try simp only [bne_iff_ne, beq_iff_eq, Bool.not_eq_true', bne_eq_false_iff_eq, beq_eq_false_iff_ne, decide_eq_true_eq, decide_eq_false_iff_not, ne_eq, Bool.and_eq_true, Bool.or_eq_true, not_false_eq_true]); first | done | omega)); walk_say "PRUNED +")
  | (refine' ite_neg ?hc9 ?_; (case hc9 => ((try simp only [bne_iff_ne, beq_iff_eq, Bool.not_eq_true', bne_eq_false_iff_eq, beq_eq_false_iff_ne, decide_eq_true_eq, decide_eq_false_iff_not, ne_eq, Bool.and_eq_true, Bool.or_eq_true, not_false_eq_true]); first | done | omega)); walk_say "PRUNED -")))
local macro_rules | `(tactic| ke_read) => `(tactic| first | exact TupIn.reads (by with_reducible assumption) (by k_asm) (by k_asm) (by k_asm) | exact TupIn.reads TupIn.zero (by k_asm) (by k_asm) (by k_asm) | exact TupIn.reads TupIn.inf (by k_asm) (by k_asm) (by k_asm) | exact TupIn.reads TupIn.ninf (by k_asm) (by k_asm) (by k_asm) | exact TupIn.reads TupIn.nan (by k_asm) (by k_asm) (by k_asm))
local macro_rules | `(tactic| walk_at "compareOp Eq ref ref") => `(tactic| (k_here; (with_reducible show wpAny _ _ (compareOp CmpOp.Eq (Value.ref _) (Value.ref _)) _ _ _); k_dflt (refine eq_dataH (by ke_read) (by ke_read) rfl rfl (by ktr_units) ?_); ke_norm))
local macro_rules | `(tactic| walk_at "compareOp NotEq ref ref") => `(tactic| (k_here; (with_reducible show wpAny _ _ (compareOp CmpOp.NotEq (Value.ref _) (Value.ref _)) _ _ _); k_dflt (refine ne_dataH (by ke_read) (by ke_read) rfl rfl (by ktr_units) ?_); ke_norm))
local macro_rules | `(tactic| walk_at "binaryOp LShift int int") => `(tactic| (k_here; (with_reducible refine lshift_int ?kn ?ks ?_); (case kn => omega); (case ks => omega)))
local macro_rules | `(tactic| walk_at "binaryOp Mult int int") => `(tactic| (k_here; (with_reducible refine mul_int ?_ ?km); rotate_left; (case km => exact IntMulOk.of_le (m := 60000000) (n := 60000000) (by omega) (by omega) (by decide))))
local macro_rules | `(tactic| walk_at "eval Name") => `(tactic| (k_here; (with_reducible show wpAny _ _ (eval (Expr.Name _ _) (envOf _ _ _ _ _)) _ _ _); name_kind "local"; k_dflt (refine' ld ?k1 ?k2 ?_; (case k1 => k_asm); (case k2 => exact rfl); k_whole)))
local macro_rules | `(tactic| walk_at "binaryOp RShift int int") => `(tactic| (k_here; (with_reducible refine rshift_int ?kn ?_); (case kn => omega)))
local macro_rules | `(tactic| walk_at "inplaceOp Pow int int") => `(tactic| (k_here; (with_reducible refine ipow_int ?kn ?ks ?_); (case kn => omega); (case ks => omega)))
local macro_rules | `(tactic| walk_at "inplaceOp Mult int int") => `(tactic| (k_here; (with_reducible refine imul_int ?_ ?km); rotate_left; (case km => exact IntMulOk.of_le (m := 60000000) (n := 60000000) (by omega) (by omega) (by decide))))
local macro_rules | `(tactic| walk_at "subscriptTail") => `(tactic| (k_here; (with_reducible show wpAny _ _ (subscriptTail _ _ (Value.ref _) (Value.int _ _)) _ _ _); k_dflt (refine' item_tupleT ?k1 ?k2 ?k3 ?k4 ?k5 ?_ ?k6; (case k1 => first | exact TupIn.isTup (by with_reducible assumption) (by k_asm) (by k_asm) (by k_asm)); (case k2 => decide); (case k3 => decide); (case k4 => exact rfl); (case k5 => exact rfl); (case k6 => with_unfolding_all rfl); k_whole)))
set_option maxRecDepth 100000 in
set_option maxHeartbeats 8000000 in
theorem trailing_walk (w : World) (mean : ExcName → Option Value) (mg mb : Str → Option Value) (n : Int) (t : Tok) (hn : 0 < n) :
    Spec w mean mg mb 21 3 30 [.int n t] (fun _ => True) (fun _ r => ∃ z tk, r = .int z tk ∧ TZ n z ∧ 0 ≤ z) := by
  unfold Spec
  w_top off
  k_fill
  intro dp un gd cn cs a₀ ccd cl outer A₀ base h₀ L m news s Q E B F X N T hk hpre hdp hun hret
  refine wpAny_call ?_
  k_dflt cell_enter
  k_steps
  all_goals exact hret _ _ _ _ (by k_asm) (by k_asm) Ext.refl ⟨_, _, rfl, tz_ok hn, (tz_ok hn).nonneg⟩

local macro_rules | `(tactic| walk_at "call ref") => `(tactic| (k_here; (with_reducible show wpAny _ _ (call (Value.ref 21) _) _ _ _); k_dflt (refine' Spec.use (trailing_walk _ _ _ _ _ _ (by omega)) ?k1 ?k2 ?k3 ?k4 ?k5 ?kK ?kp ?kd ?ku ?_); (case k1 => k_asm); (case k2 => k_asm); (case k3 => k_asm); (case k4 => k_asm); (case k5 => k_asm); (case kK => first | exact rfl | assumption); (case kp => trivial); (case kd => ktr_room); (case ku => ktr_units); k_whole; intro r9 tl9 h9 tk9 F9 N9 l9 p9; (obtain ⟨z9, t9, e9, hz9, hz0⟩ := p9; subst e9); (try dsimp only); walk_say "CONTRACT 21"))
set_option maxRecDepth 100000 in
set_option maxHeartbeats 8000000 in
theorem normal0_walk (w : World) (mean : ExcName → Option Value) (mg mb : Str → Option Value) (n₀ : List (Addr × Obj)) (sg man ex bc prec : Int) (t1 t2 t3 t4 t5 t6 : Tok) (rnd : Str) (h0 : 0 ≤ man) (hp : bc ≤ prec) (hbc : bc = (Builtin.Int.intBits man : Int)) (hsg : sg = 0 ∨ sg = 1) :
    Spec w mean mg mb 38 5 50 [.int sg t1, .int man t2, .int ex t3, .int bc t4, .int prec t5, .str rnd t6] (fun news => news = n₀) (fun news r => NumF n₀ news r (dy sg man ex)) := by
  unfold Spec
  w_top off
  k_fill
  intro dp un gd cn cs a₀ ccd cl outer A₀ base h₀ L m news s Q E B F X N T hk hpre hdp hun hret
  subst hpre
  refine wpAny_call ?_
  k_dflt cell_enter
  k_steps
  · refine hret _ _ _ _ (by k_asm) (by k_asm) (Ext.cons Ext.refl (by assumption)) (NumF.mk (List.Mem.head _) (by assumption) (can_odd _ hsg (by omega) (odd_of (by assumption)) ?_) rfl)
    rename man = 1 => hm; rw [hm]; exact bits_one
  · refine hret _ _ _ _ (by k_asm) (by k_asm) (Ext.cons Ext.refl (by assumption)) (NumF.mk (List.Mem.head _) (by assumption) (can_odd _ hsg (by omega) (odd_of (by assumption)) hbc) rfl)
  · rename TZ man _ => hz
    refine hret _ _ _ _ (by k_asm) (by k_asm) (Ext.cons (by assumption) (by assumption)) (NumF.mk (List.Mem.head _) (lt_up (by assumption) (by assumption)) (can_odd _ hsg (tz_pos (by omega) hz).1 (tz_pos (by omega) hz).2 ?_) (tz_dy _ _ hz))
    rename (_ : Int) = 1 => hm; rw [hm]; exact bits_one
  · rename TZ man _ => hz
    refine hret _ _ _ _ (by k_asm) (by k_asm) (Ext.cons (by assumption) (by assumption)) (NumF.mk (List.Mem.head _) (lt_up (by assumption) (by assumption)) (can_odd _ hsg (tz_pos (by omega) hz).1 (tz_pos (by omega) hz).2 ?_) (tz_dy _ _ hz))
    rw [hbc]; exact tz_bits (by omega) hz
  · rename man = 0 => hm
    subst hm
    exact hret _ _ _ _ (by k_asm) (by k_asm) Ext.refl (NumF.zero (dy_nil _ _))

local macro_rules | `(tactic| walk_at "call ref") => `(tactic| (k_here; (with_reducible show wpAny _ _ (call (Value.ref 38) _) _ _ _); k_dflt (refine' Spec.use (normal0_walk _ _ _ _ _ _ _ _ _ _ _ _ _ _ _ _ _ (by omega) (by omega) (by assumption) (by assumption)) ?k1 ?k2 ?k3 ?k4 ?k5 ?kK ?kp ?kd ?ku ?_); (case k1 => k_asm); (case k2 => k_asm); (case k3 => k_asm); (case k4 => k_asm); (case k5 => k_asm); (case kK => first | exact rfl | assumption); (case kp => rfl); (case kd => ktr_room); (case ku => ktr_units); k_whole; intro r9 tl9 h9 tk9 F9 N9 l9 p9; skip; (try dsimp only); walk_say "CONTRACT 38"))
set_option maxRecDepth 100000 in
set_option maxHeartbeats 8000000 in
theorem normal_walk (w : World) (mean : ExcName → Option Value) (mg mb : Str → Option Value) (n₀ : List (Addr × Obj)) (sg man ex bc prec : Int) (t1 t2 t3 t4 t5 t6 : Tok) (rnd : Str) (h0 : 0 ≤ man) (hp : bc ≤ prec) (hbc : bc = (Builtin.Int.intBits man : Int)) (hsg : sg = 0 ∨ sg = 1) :
    Spec w mean mg mb 45 8 80 [.int sg t1, .int man t2, .int ex t3, .int bc t4, .int prec t5, .str rnd t6] (fun news => news = n₀) (fun news r => NumF n₀ news r (dy sg man ex)) := by
  unfold Spec
  w_top off
  k_fill
  intro dp un gd cn cs a₀ ccd cl outer A₀ base h₀ L m news s Q E B F X N T hk hpre hdp hun hret
  subst hpre
  refine wpAny_call ?_
  k_dflt cell_enter
  k_steps
  all_goals exact hret _ _ _ _ (by k_asm) (by k_asm) (by assumption) (by assumption)
end

section
local macro_rules | `(tactic| walk_at "pad") => `(tactic| skip)
local macro_rules | `(tactic| walk_at "pad") => `(tactic| skip)
local macro_rules | `(tactic| kun_tup) => `(tactic| exact TupIn.isTup (by assumption) (by k_asm) (by k_asm) (by k_asm))
local macro_rules | `(tactic| cell_enter) => `(tactic| (refine' code_def ?k1 ?k2 ?k3 ?k4 ?k5 ?kA ?kF ?kK ?k6 ?k7 ?k8 ?k9 ?kB ?_ ?c2 ?c3 ?c4 ?c5; (case kA => exact rfl); (case kF => exact rfl); (case kK => assumption); (case k1 => k_asm); (case k2 => k_asm); (case k3 => k_asm); (case k4 => k_asm); (case k5 => k_asm); (case k6 => k_is); (case k7 => k_is); (case k8 => ktr_room); (case k9 => first | exact (by assumption : BindAs _ _ _ _) _ _ _ _ _ (by k_in) (by k_is) | exact BindsTo.of_eq rfl | exact binds_K (by k_in) rfl (by k_is) rfl rfl rfl); (case c5 => decide); (case kB => exact locs rfl); (case c2 => exact rfl); (case c3 => exact rfl); (case c4 => exact rfl); k_whole; intro g' L' h' FG' F' N' B' X' T'; (try dsimp only); (try k_lift B'); (try k_fold)))
local macro_rules | `(tactic| walk_at "ite") => `(tactic| (k_here; first
  | (refine' ite_pos ?hc9 ?_; (case hc9 => ((try simp only [bne_iff_ne, beq_iff_eq, Bool.not_eq_true', bne_eq_false_iff_eq, beq_eq_false_iff_ne, decide_eq_true_eq, decide_eq_false_iff_not, ne_eq, Bool.and_eq_true, Bool.or_eq_true, not_false_eq_true]); first | done | omega)); walk_say "PRUNED +")
  | (refine' ite_neg ?hc9 ?_; (case hc9 => ((try simp only [bne_iff_ne, beq_iff_eq, Bool.not_eq_true', bne_eq_false_iff_eq, beq_eq_false_iff_ne, decide_eq_true_eq, decide_eq_false_iff_not, ne_eq, Bool.and_eq_true, Bool.or_eq_true, not_false_eq_true]); first | done | omega)); walk_say "PRUNED -")))
local macro_rules | `(tactic| ke_read) => `(tactic| first | exact TupIn.reads (by with_reducible assumption) (by k_asm) (by k_asm) (by k_asm) | exact TupIn.reads TupIn.zero (by k_asm) (by k_asm) (by k_asm) | exact TupIn.reads TupIn.inf (by k_asm) (by k_asm) (by k_asm) | exact TupIn.reads TupIn.ninf (by k_asm) (by k_asm) (by k_asm) | exact TupIn.reads TupIn.nan (by k_asm) (by k_asm) (by k_asm))
local macro_rules | `(tactic| walk_at "compareOp Eq ref ref") => `(tactic| (k_here; (with_reducible show wpAny _ _ (compareOp CmpOp.Eq (Value.ref _) (Value.ref _)) _ _ _); k_dflt (refine eq_dataH (by ke_read) (by ke_read) rfl rfl (by ktr_units) ?_); ke_norm))
local macro_rules | `(tactic| walk_at "compareOp NotEq ref ref") => `(tactic| (k_here; (with_reducible show wpAny _ _ (compareOp CmpOp.NotEq (Value.ref _) (Value.ref _)) _ _ _); k_dflt (refine ne_dataH (by ke_read) (by ke_read) rfl rfl (by ktr_units) ?_); ke_norm))
local macro_rules | `(tactic| walk_at "binaryOp LShift int int") => `(tactic| (k_here; (with_reducible refine lshift_int ?kn ?ks ?_); (case kn => omega); (case ks => omega)))
local macro_rules | `(tactic| walk_at "binaryOp Mult int int") => `(tactic| (k_here; (with_reducible refine mul_int ?_ ?km); rotate_left; (case km => exact IntMulOk.of_le (m := 60000000) (n := 60000000) (by omega) (by omega) (by decide))))
local macro_rules | `(tactic| walk_at "eval Name") => `(tactic| (k_here; (with_reducible show wpAny _ _ (eval (Expr.Name _ _) (envOf _ _ _ _ _)) _ _ _); name_kind "local"; k_dflt (refine' ld ?k1 ?k2 ?_; (case k1 => k_asm); (case k2 => exact rfl); k_whole)))
local macro_rules | `(tactic| walk_at "binaryOp RShift int int") => `(tactic| (k_here; (with_reducible refine rshift_int ?kn ?_); (case kn => omega)))
local macro_rules | `(tactic| walk_at "inplaceOp Pow int int") => `(tactic| (k_here; (with_reducible refine ipow_int ?kn ?ks ?_); (case kn => omega); (case ks => omega)))
local macro_rules | `(tactic| walk_at "inplaceOp Mult int int") => `(tactic| (k_here; (with_reducible refine imul_int ?_ ?km); rotate_left; (case km => exact IntMulOk.of_le (m := 60000000) (n := 60000000) (by omega) (by omega) (by decide))))
local macro_rules | `(tactic| walk_at "subscriptTail") => `(tactic| (k_here; (with_reducible show wpAny _ _ (subscriptTail _ _ (Value.ref _) (Value.int _ _)) _ _ _); k_dflt (refine' item_tupleT ?k1 ?k2 ?k3 ?k4 ?k5 ?_ ?k6; (case k1 => first | exact TupIn.isTup (by with_reducible assumption) (by k_asm) (by k_asm) (by k_asm)); (case k2 => decide); (case k3 => decide); (case k4 => exact rfl); (case k5 => exact rfl); (case k6 => with_unfolding_all rfl); k_whole)))
local macro_rules | `(tactic| walk_at "call ref") => `(tactic| (k_here; (with_reducible show wpAny _ _ (call (Value.ref 45) _) _ _ _); k_dflt (refine' Spec.use (normal_walk _ _ _ _ _ _ _ _ _ _ _ _ _ _ _ _ _ (by omega) (by omega) (by first | assumption | rfl) (by omega)) ?k1 ?k2 ?k3 ?k4 ?k5 ?kK ?kp ?kd ?ku ?_); (case k1 => k_asm); (case k2 => k_asm); (case k3 => k_asm); (case k4 => k_asm); (case k5 => k_asm); (case kK => first | exact rfl | assumption); (case kp => rfl); (case kd => ktr_room); (case ku => ktr_units); k_whole; intro r9 tl9 h9 tk9 F9 N9 l9 p9; skip; (try dsimp only); walk_say "CONTRACT 45"))
set_option maxRecDepth 100000 in
set_option maxHeartbeats 8000000 in
theorem neg_walk (w : World) (mean : ExcName → Option Value) (mg mb : Str → Option Value) (v : Value) (a b c e : Int) (hC : Can a b c e) :
    Spec w mean mg mb 84 3 30 [v] (fun news => T4 news v a b c e) (fun news r => NumIn news r (- dy a b c)) := by
  unfold Spec
  w_top off
  k_fill
  intro dp un gd cn cs a₀ ccd cl outer A₀ base h₀ L m news s Q E B F X N T hk hpre hdp hun hret
  obtain ⟨x, t1, t2, t3, t4, rfl, hx⟩ := hpre
  obtain ⟨ha, hb, hz, he, ho⟩ := hC.facts
  refine wpAny_call ?_
  k_dflt cell_enter
  k_steps
  all_goals try (exfalso; omega)
  · exact hret _ _ _ _ (by k_asm) (by k_asm) (Ext.cons Ext.refl (by assumption)) (NumIn.mk (List.Mem.head _) (can_neg hC (by assumption)) (dy_neg hC (by assumption)))
  · exact hret _ _ _ _ (by k_asm) (by k_asm) Ext.refl (num_arg hx hC (dy_neg_zero hC (by assumption)))

set_option maxRecDepth 100000 in
set_option maxHeartbeats 8000000 in
theorem mul_walk (w : World) (mean : ExcName → Option Value) (mg mb : Str → Option Value) (n₀ : List (Addr × Obj)) (v v' : Value) (a b c e a' b' c' e' : Int) (hC : Can a b c e) (hC' : Can a' b' c' e') (hf : e ≤ 1000000) (hf' : e' ≤ 1000000) :
    Spec w mean mg mb 131 3 30 [v, v'] (fun news => news = n₀ ∧ T4 news v a b c e ∧ T4 news v' a' b' c' e') (fun news r => NumF n₀ news r (dy a b c * dy a' b' c')) := by
  unfold Spec
  w_top off
  k_fill
  intro dp un gd cn cs a₀ ccd cl outer A₀ base h₀ L m news s Q E B F X N T hk hpre hdp hun hret
  obtain ⟨hpre, ⟨x, t1, t2, t3, t4, rfl, hx⟩, ⟨x', t1', t2', t3', t4', rfl, hx'⟩⟩ := hpre
  obtain ⟨ha, hb, hz, he, ho⟩ := hC.facts
  obtain ⟨ha', hb', hz', he', ho'⟩ := hC'.facts
  have hm := @mul_zero_iff b b'
  subst hpre
  refine wpAny_call ?_
  k_dflt cell_enter
  k_steps
  all_goals try (exfalso; omega)
  · exact hret _ _ _ _ (by k_asm) (by k_asm) (Ext.cons Ext.refl (by assumption)) (NumF.mk (List.Mem.head _) (by assumption) (can_mul hC hC' (by assumption)) (dy_mul hC hC'))
  all_goals exact hret _ _ _ _ (by k_asm) (by k_asm) Ext.refl (NumF.zero (dy_mul_zero (by assumption)))

set_option maxRecDepth 100000 in
set_option maxHeartbeats 8000000 in
theorem sign_walk (w : World) (mean : ExcName → Option Value) (mg mb : Str → Option Value) (v : Value) (a b c e : Int) (hC : Can a b c e) :
    Spec w mean mg mb 99 3 130 [v] (fun news => T4 news v a b c e) (fun news r => ∃ tk, r = .int (sgnOf a b) tk) := by
  unfold Spec
  w_top off
  k_fill
  intro dp un gd cn cs a₀ ccd cl outer A₀ base h₀ L m news s Q E B F X N T hk hpre hdp hun hret
  obtain ⟨x, t1, t2, t3, t4, rfl, hx⟩ := hpre
  obtain ⟨ha, hb, hz, he, ho⟩ := hC.facts
  refine wpAny_call ?_
  k_dflt cell_enter
  k_steps
  all_goals try (exfalso; omega)
  · exact hret _ _ _ _ (by k_asm) (by k_asm) Ext.refl ⟨_, congrArg (fun i => Value.int i _) (sgn_pow ha (by assumption))⟩
  · exact hret _ _ _ _ (by k_asm) (by k_asm) Ext.refl ⟨_, congrArg (fun i => Value.int i _) (sgn_zero (by assumption)).symm⟩

set_option maxRecDepth 100000 in
set_option maxHeartbeats 8000000 in
theorem pos_walk (w : World) (mean : ExcName → Option Value) (mg mb : Str → Option Value) (n₀ : List (Addr × Obj)) (v : Value) (a b c e : Int) (hC : Can a b c e) (hf : e ≤ 2000) (t5 t6 : Tok) (rnd : Str) :
    Spec w mean mg mb 76 11 110 [v, .int 2000 t5, .str rnd t6] (fun news => news = n₀ ∧ T4 news v a b c e) (fun news r => NumF n₀ news r (dy a b c)) := by
  unfold Spec
  w_top off
  k_fill
  intro dp un gd cn cs a₀ ccd cl outer A₀ base h₀ L m news s Q E B F X N T hk hpre hdp hun hret
  obtain ⟨hpre, x, t1, t2, t3, t4, rfl, hx⟩ := hpre
  obtain ⟨ha, hb, hz, he, ho⟩ := hC.facts
  subst hpre
  refine wpAny_call ?_
  k_dflt cell_enter
  k_steps
  all_goals try (exfalso; omega)
  · exact hret _ _ _ _ (by k_asm) (by k_asm) (by assumption) (by assumption)
  · exact hret _ _ _ _ (by k_asm) (by k_asm) (by assumption) (by assumption)
end

section
local macro_rules | `(tactic| walk_at "pad") => `(tactic| skip)
local macro_rules | `(tactic| kun_tup) => `(tactic| exact TupIn.isTup (by assumption) (by k_asm) (by k_asm) (by k_asm))
local macro_rules | `(tactic| cell_enter) => `(tactic| (refine' code_def ?k1 ?k2 ?k3 ?k4 ?k5 ?kA ?kF ?kK ?k6 ?k7 ?k8 ?k9 ?kB ?_ ?c2 ?c3 ?c4 ?c5; (case kA => exact rfl); (case kF => exact rfl); (case kK => assumption); (case k1 => k_asm); (case k2 => k_asm); (case k3 => k_asm); (case k4 => k_asm); (case k5 => k_asm); (case k6 => k_is); (case k7 => k_is); (case k8 => ktr_room); (case k9 => first | exact (by assumption : BindAs _ _ _ _) _ _ _ _ _ (by k_in) (by k_is) | exact BindsTo.of_eq rfl | exact binds_K (by k_in) rfl (by k_is) rfl rfl rfl); (case c5 => decide); (case kB => exact locs rfl); (case c2 => exact rfl); (case c3 => exact rfl); (case c4 => exact rfl); k_whole; intro g' L' h' FG' F' N' B' X' T'; (try dsimp only); (try k_lift B'); (try k_fold)))
local macro_rules | `(tactic| walk_at "ite") => `(tactic| (k_here; first
  | (refine' ite_pos ?hc9 ?_; (case hc9 => ((try simp only [bne_iff_ne, beq_iff_eq, Bool.not_eq_true', bne_eq_false_iff_eq, beq_eq_false_iff_ne, decide_eq_true_eq, decide_eq_false_iff_not, ne_eq, Bool.and_eq_true, Bool.or_eq_true, not_false_eq_true]); first | done | omega)); walk_say "PRUNED +")
  | (refine' ite_neg ?hc9 ?_; (case hc9 => ((try simp only [bne_iff_ne, beq_iff_eq, Bool.not_eq_true', bne_eq_false_iff_eq, beq_eq_false_iff_ne, decide_eq_true_eq, decide_eq_false_iff_not, ne_eq, Bool.and_eq_true, Bool.or_eq_true, not_false_eq_true]); first | done | omega)); walk_say "PRUNED -")))
local macro_rules | `(tactic| ke_read) => `(tactic| first | exact TupIn.reads (by with_reducible assumption) (by k_asm) (by k_asm) (by k_asm) | exact TupIn.reads TupIn.zero (by k_asm) (by k_asm) (by k_asm) | exact TupIn.reads TupIn.inf (by k_asm) (by k_asm) (by k_asm) | exact TupIn.reads TupIn.ninf (by k_asm) (by k_asm) (by k_asm) | exact TupIn.reads TupIn.nan (by k_asm) (by k_asm) (by k_asm))
local macro_rules | `(tactic| walk_at "compareOp Eq ref ref") => `(tactic| (k_here; (with_reducible show wpAny _ _ (compareOp CmpOp.Eq (Value.ref _) (Value.ref _)) _ _ _); k_dflt (refine eq_dataH (by ke_read) (by ke_read) rfl rfl (by ktr_units) ?_); ke_norm))
local macro_rules | `(tactic| walk_at "compareOp NotEq ref ref") => `(tactic| (k_here; (with_reducible show wpAny _ _ (compareOp CmpOp.NotEq (Value.ref _) (Value.ref _)) _ _ _); k_dflt (refine ne_dataH (by ke_read) (by ke_read) rfl rfl (by ktr_units) ?_); ke_norm))
local macro_rules | `(tactic| walk_at "binaryOp LShift int int") => `(tactic| (k_here; (with_reducible refine lshift_int ?kn ?ks ?_); (case kn => omega); (case ks => omega)))
local macro_rules | `(tactic| walk_at "binaryOp Mult int int") => `(tactic| (k_here; (with_reducible refine mul_int ?_ ?km); rotate_left; (case km => exact IntMulOk.of_le (m := 60000000) (n := 60000000) (by omega) (by omega) (by decide))))
local macro_rules | `(tactic| walk_at "eval Name") => `(tactic| (k_here; (with_reducible show wpAny _ _ (eval (Expr.Name _ _) (envOf _ _ _ _ _)) _ _ _); name_kind "local"; k_dflt (refine' ld ?k1 ?k2 ?_; (case k1 => k_asm); (case k2 => exact rfl); k_whole)))
local macro_rules | `(tactic| walk_at "binaryOp RShift int int") => `(tactic| (k_here; (with_reducible refine rshift_int ?kn ?_); (case kn => omega)))
local macro_rules | `(tactic| walk_at "inplaceOp Pow int int") => `(tactic| (k_here; (with_reducible refine ipow_int ?kn ?ks ?_); (case kn => omega); (case ks => omega)))
local macro_rules | `(tactic| walk_at "inplaceOp Mult int int") => `(tactic| (k_here; (with_reducible refine imul_int ?_ ?km); rotate_left; (case km => exact IntMulOk.of_le (m := 60000000) (n := 60000000) (by omega) (by omega) (by decide))))
local macro_rules | `(tactic| walk_at "subscriptTail") => `(tactic| (k_here; (with_reducible show wpAny _ _ (subscriptTail _ _ (Value.ref _) (Value.int _ _)) _ _ _); k_dflt (refine' item_tupleT ?k1 ?k2 ?k3 ?k4 ?k5 ?_ ?k6; (case k1 => first | exact TupIn.isTup (by with_reducible assumption) (by k_asm) (by k_asm) (by k_asm)); (case k2 => decide); (case k3 => decide); (case k4 => exact rfl); (case k5 => exact rfl); (case k6 => with_unfolding_all rfl); k_whole)))
local macro_rules | `(tactic| walk_at "isTrue BoolOp") => `(tactic| (k_here; (with_reducible show wpAny _ _ (isTrue (Expr.BoolOp BoolOp.And [Expr.Compare _ _ _ _, _] _) _ _) _ _ _); k_dflt (first | (refine' and_gt0 ?k1 ?k2 ?k3 ?_ ?c1 ?c2 ?c3 ?c4 ?c5 ?c6 ?c7; (case k1 => k_asm); (case k2 => exact rfl); (case k3 => exact rfl); (case c1 => rfl); (case c2 => rfl); (case c3 => rfl); (case c4 => decide); (case c5 => decide); (case c6 => with_unfolding_all rfl); (case c7 => rfl); k_whole) | (refine' and_lt0 ?k1 ?k2 ?k3 ?_ ?c1 ?c2 ?c3 ?c4 ?c5 ?c6 ?c7; (case k1 => k_asm); (case k2 => exact rfl); (case k3 => exact rfl); (case c1 => rfl); (case c2 => rfl); (case c3 => rfl); (case c4 => decide); (case c5 => decide); (case c6 => with_unfolding_all rfl); (case c7 => rfl); k_whole)); intro t9; (try dsimp only); walk_say "JOINED"))
local macro_rules | `(tactic| walk_at "call ref") => `(tactic| (k_here; (with_reducible show wpAny _ _ (call (Value.ref 45) _) _ _ _); k_dflt (refine' Spec.use (normal_walk _ _ _ _ _ _ _ _ _ _ _ _ _ _ _ _ _ (by omega) (by omega) (by first | assumption | rfl) (by first | exact Hid.out (by assumption) | omega)) ?k1 ?k2 ?k3 ?k4 ?k5 ?kK ?kp ?kd ?ku ?_); (case k1 => k_asm); (case k2 => k_asm); (case k3 => k_asm); (case k4 => k_asm); (case k5 => k_asm); (case kK => first | exact rfl | assumption); (case kp => rfl); (case kd => ktr_room); (case ku => ktr_units); k_whole; intro r9 tl9 h9 tk9 F9 N9 l9 p9; (replace p9 := NumF.num p9); (try dsimp only); walk_say "CONTRACT 45"))
local macro_rules | `(tactic| walk_at "call ref") => `(tactic| (k_here; (with_reducible show wpAny _ _ (call (Value.ref 84) _) _ _ _); k_dflt (refine' Spec.use (neg_walk _ _ _ _ _ _ _ _ _ ?hq) ?k1 ?k2 ?k3 ?k4 ?k5 ?kK ?kp ?kd ?ku ?_); (case k1 => k_asm); (case k2 => k_asm); (case k3 => k_asm); (case k4 => k_asm); (case k5 => k_asm); (case kK => first | exact rfl | assumption); (case kp => exact ⟨_, _, _, _, _, rfl, by assumption⟩); (case hq => first | assumption | exact can_nil); (case kd => ktr_room); (case ku => ktr_units); k_whole; intro r9 tl9 h9 tk9 F9 N9 l9 p9; skip; (try dsimp only); walk_say "CONTRACT 84"))
set_option maxRecDepth 100000 in
set_option maxHeartbeats 8000000 in
theorem add_zl_walk (w : World) (mean : ExcName → Option Value) (mg mb : Str → Option Value) (v v' : Value) (a' b' c' e' k : Int) (t5 t6 t7 : Tok) (rnd : Str) (vs : List Value)
    (hbind : BindAs w 107 vs [(Str.ofString "s", v), (Str.ofString "t", v'), (Str.ofString "prec", .int 0 t5), (Str.ofString "rnd", .str rnd t6), (Str.ofString "_sub", .int k t7)])
    (hC' : Can a' b' c' e') (hk' : k = 0 ∨ k = 1) :
    Spec w mean mg mb 107 12 220 vs (fun news => T4 news v 0 0 0 0 ∧ T4 news v' a' b' c' e') (fun news r => NumIn news r (dy (Builtin.bitXor a' k) b' c')) := by
  unfold Spec
  w_top off
  k_fill
  intro dp un gd cn cs a₀ ccd cl outer A₀ base h₀ L m news s Q E B F X N T hk hpre hdp hun hret
  obtain ⟨⟨x, t1, t2, t3, t4, rfl, hx⟩, ⟨x', t1', t2', t3', t4', rfl, hx'⟩⟩ := hpre
  obtain ⟨ha', hb', hz', he', ho'⟩ := hC'.facts
  have hx0 := xor_bit ha' hk'
  replace hx0 := Hid.mk hx0
  refine wpAny_call ?_
  k_dflt cell_enter
  k_steps
  all_goals try (exfalso; omega)
  · exact hret _ _ _ _ (by k_asm) (by k_asm) (Ext.trans (by assumption) (by assumption)) (by assumption)
  · exact hret _ _ _ _ (by k_asm) (by k_asm) (by assumption) (NumIn.eq (by assumption) (by rw [dy_nilx _ _ _ (by assumption), dy_nilx _ _ _ (by assumption)]; rfl))
  · exact hret _ _ _ _ (by k_asm) (by k_asm) (by assumption) (by assumption)
  · exact hret _ _ _ _ (by k_asm) (by k_asm) Ext.refl (num_arg hx' hC' (by rw [dy_nilx _ _ _ (by assumption), dy_nilx _ _ _ (by assumption)]))

set_option maxRecDepth 100000 in
set_option maxHeartbeats 8000000 in
theorem add_zr_walk (w : World) (mean : ExcName → Option Value) (mg mb : Str → Option Value) (v v' : Value) (a b c e k : Int) (t5 t6 t7 : Tok) (rnd : Str) (vs : List Value)
    (hbind : BindAs w 107 vs [(Str.ofString "s", v), (Str.ofString "t", v'), (Str.ofString "prec", .int 0 t5), (Str.ofString "rnd", .str rnd t6), (Str.ofString "_sub", .int k t7)])
    (hC : Can a b c e) (hn : b ≠ 0) (hk' : k = 0 ∨ k = 1) :
    Spec w mean mg mb 107 12 220 vs (fun news => T4 news v a b c e ∧ T4 news v' 0 0 0 0) (fun news r => NumIn news r (dy a b c)) := by
  unfold Spec
  w_top off
  k_fill
  intro dp un gd cn cs a₀ ccd cl outer A₀ base h₀ L m news s Q E B F X N T hk hpre hdp hun hret
  obtain ⟨⟨x, t1, t2, t3, t4, rfl, hx⟩, ⟨x', t1', t2', t3', t4', rfl, hx'⟩⟩ := hpre
  obtain ⟨ha, hb, he⟩ := hC.pos hn
  replace ha := Hid.mk ha
  refine wpAny_call ?_
  k_dflt cell_enter
  k_steps
  all_goals try (exfalso; omega)
  · exact hret _ _ _ _ (by k_asm) (by k_asm) (Ext.trans (by assumption) (by assumption)) (by assumption)
  · exact hret _ _ _ _ (by k_asm) (by k_asm) (by assumption) (by assumption)

set_option maxRecDepth 100000 in
set_option maxHeartbeats 8000000 in
theorem add_nn (w : World) (mean : ExcName → Option Value) (mg mb : Str → Option Value) (v v' : Value) (a b c e a' b' c' e' k : Int) (t5 t6 t7 : Tok) (rnd : Str) (vs : List Value)
    (hbind : BindAs w 107 vs [(Str.ofString "s", v), (Str.ofString "t", v'), (Str.ofString "prec", .int 0 t5), (Str.ofString "rnd", .str rnd t6), (Str.ofString "_sub", .int k t7)])
    (hC : Can a b c e) (hC' : Can a' b' c' e') (hf : e ≤ 1000000) (hf' : e' ≤ 1000000) (hg : -1000000 ≤ c ∧ c ≤ 1000000) (hg' : -1000000 ≤ c' ∧ c' ≤ 1000000) (hn : b ≠ 0) (hn' : b' ≠ 0) (hk' : k = 0 ∨ k = 1) :
    Spec w mean mg mb 107 12 220 vs (fun news => T4 news v a b c e ∧ T4 news v' a' b' c' e') (fun news r => NumIn news r (dy a b c + dy (Builtin.bitXor a' k) b' c')) := by
  unfold Spec
  w_top off
  k_fill
  intro dp un gd cn cs a₀ ccd cl outer A₀ base h₀ L m news s Q E B F X N T hk hpre hdp hun hret
  obtain ⟨⟨x, t1, t2, t3, t4, rfl, hx⟩, ⟨x', t1', t2', t3', t4', rfl, hx'⟩⟩ := hpre
  obtain ⟨ha, hb, he⟩ := hC.pos hn
  obtain ⟨ha', hb', he'⟩ := hC'.pos hn'
  obtain ⟨hg1, hg2⟩ := hg
  obtain ⟨hg1', hg2'⟩ := hg'
  have hx0 := xor_bit ha' hk'
  have hp1 := shl_pos (c - c').toNat (Int.le_of_lt hb)
  have hp2 := shl_pos (-(c - c')).toNat (Int.le_of_lt hb')
  replace ha := Hid.mk ha
  replace ha' := Hid.mk ha'
  replace hx0 := Hid.mk hx0
  replace hk' := Hid.mk hk'
  refine wpAny_call ?_
  k_dflt cell_enter
  k_steps
  all_goals refine hret _ _ _ _ (by k_asm) (by k_asm) (by assumption) (NumIn.eq (by assumption) ?_)
  all_goals (replace ha := ha.out; replace hx0 := hx0.out)
  all_goals first
    | (refine' add_up ?h1 ?h2; (case h1 => omega); (case h2 => (unfold sv; (repeat' split) <;> omega)))
    | (refine' add_dn ?h1 ?h2; (case h1 => omega); (case h2 => (unfold sv; (repeat' split) <;> omega)))
    | (refine' add_eq ?h1 ?h2; (case h1 => omega); (case h2 => (unfold sv; (repeat' split) <;> omega)))

theorem add_all (w : World) (mean : ExcName → Option Value) (mg mb : Str → Option Value) (v v' : Value) (a b c e a' b' c' e' k : Int) (t5 t6 t7 : Tok) (rnd : Str) (vs : List Value)
    (hbind : BindAs w 107 vs [(Str.ofString "s", v), (Str.ofString "t", v'), (Str.ofString "prec", .int 0 t5), (Str.ofString "rnd", .str rnd t6), (Str.ofString "_sub", .int k t7)])
    (hC : Can a b c e) (hC' : Can a' b' c' e') (hf : e ≤ 1000000) (hf' : e' ≤ 1000000) (hg : -1000000 ≤ c ∧ c ≤ 1000000) (hg' : -1000000 ≤ c' ∧ c' ≤ 1000000) (hk' : k = 0 ∨ k = 1) :
    Spec w mean mg mb 107 12 220 vs (fun news => T4 news v a b c e ∧ T4 news v' a' b' c' e') (fun news r => NumIn news r (dy a b c + dy (Builtin.bitXor a' k) b' c')) := by
  by_cases hn : b = 0
  · obtain ⟨rfl, rfl, rfl⟩ := hC.nil hn
    subst hn
    exact (add_zl_walk w mean mg mb v v' a' b' c' e' k t5 t6 t7 rnd vs hbind hC' hk').post (fun _ h => h) fun _ _ h => NumIn.eq h (by rw [dy_zero']; exact Dyadic.zero_add _)
  · by_cases hn' : b' = 0
    · obtain ⟨rfl, rfl, rfl⟩ := hC'.nil hn'
      subst hn'
      exact (add_zr_walk w mean mg mb v v' a b c e k t5 t6 t7 rnd vs hbind hC hn hk').post (fun _ h => h) fun _ _ h => NumIn.eq h (by rw [dy_zero']; exact Dyadic.add_zero _)
    · exact add_nn w mean mg mb v v' a b c e a' b' c' e' k t5 t6 t7 rnd vs hbind hC hC' hf hf' hg hg' hn hn' hk'
theorem add_walk (w : World) (mean : ExcName → Option Value) (mg mb : Str → Option Value) (v v' : Value) (a b c e a' b' c' e' : Int) (hC : Can a b c e) (hC' : Can a' b' c' e') (hf : e ≤ 1000000) (hf' : e' ≤ 1000000) (hg : -1000000 ≤ c ∧ c ≤ 1000000) (hg' : -1000000 ≤ c' ∧ c' ≤ 1000000) :
    Spec w mean mg mb 107 12 220 [v, v'] (fun news => T4 news v a b c e ∧ T4 news v' a' b' c' e') (fun news r => NumIn news r (dy a b c + dy a' b' c')) :=
  (add_all w mean mg mb v v' a b c e a' b' c' e' 0 _ _ _ _ _ (add_binds2 w v v') hC hC' hf hf' hg hg' (.inl rfl)).post (fun _ h => h) fun _ _ h => NumIn.eq h (by rw [bitXor_zero])
theorem subx_walk (w : World) (mean : ExcName → Option Value) (mg mb : Str → Option Value) (v v' : Value) (t5 t6 t7 : Tok) (rnd : Str) (a b c e a' b' c' e' : Int) (hC : Can a b c e) (hC' : Can a' b' c' e') (hf : e ≤ 1000000) (hf' : e' ≤ 1000000) (hg : -1000000 ≤ c ∧ c ≤ 1000000) (hg' : -1000000 ≤ c' ∧ c' ≤ 1000000) :
    Spec w mean mg mb 107 12 220 [v, v', .int 0 t5, .str rnd t6, .int 1 t7] (fun news => T4 news v a b c e ∧ T4 news v' a' b' c' e') (fun news r => NumIn news r (dy a b c - dy a' b' c')) :=
  (add_all w mean mg mb v v' a b c e a' b' c' e' 1 _ _ _ _ _ (add_binds5 w v v' _ _ _) hC hC' hf hf' hg hg' (.inr rfl)).post (fun _ h => h) fun _ _ h => NumIn.eq h (sub_of hC'.facts.1)

local macro_rules | `(tactic| walk_at "call ref") => `(tactic| (k_here; (with_reducible show wpAny _ _ (call (Value.ref 107) _) _ _ _); k_dflt (refine' Spec.use (subx_walk _ _ _ _ _ _ _ _ _ _ _ _ _ _ _ _ _ _ ?hq ?hq2 ?ha1 ?ha2 ?ha3 ?ha4) ?k1 ?k2 ?k3 ?k4 ?k5 ?kK ?kp ?kd ?ku ?_); (case k1 => k_asm); (case k2 => k_asm); (case k3 => k_asm); (case k4 => k_asm); (case k5 => k_asm); (case kK => first | exact rfl | assumption); (case kp => exact ⟨⟨_, _, _, _, _, rfl, by assumption⟩, ⟨_, _, _, _, _, rfl, by assumption⟩⟩); (case hq => assumption); (case hq2 => assumption); (case ha1 => assumption); (case ha2 => assumption); (case ha3 => assumption); (case ha4 => assumption); (case kd => ktr_room); (case ku => ktr_units); k_whole; intro r9 tl9 h9 tk9 F9 N9 l9 p9; skip; (try dsimp only); walk_say "CONTRACT 107"))
set_option maxRecDepth 100000 in
set_option maxHeartbeats 8000000 in
theorem sub_walk (w : World) (mean : ExcName → Option Value) (mg mb : Str → Option Value) (v v' : Value) (a b c e a' b' c' e' : Int) (hC : Can a b c e) (hC' : Can a' b' c' e') (hf : e ≤ 1000000) (hf' : e' ≤ 1000000) (hg : -1000000 ≤ c ∧ c ≤ 1000000) (hg' : -1000000 ≤ c' ∧ c' ≤ 1000000) :
    Spec w mean mg mb 115 15 250 [v, v'] (fun news => T4 news v a b c e ∧ T4 news v' a' b' c' e') (fun news r => NumIn news r (dy a b c - dy a' b' c')) := by
  unfold Spec
  w_top off
  k_fill
  intro dp un gd cn cs a₀ ccd cl outer A₀ base h₀ L m news s Q E B F X N T hk hpre hdp hun hret
  obtain ⟨⟨x, t1, t2, t3, t4, rfl, hx⟩, ⟨x', t1', t2', t3', t4', rfl, hx'⟩⟩ := hpre
  refine wpAny_call ?_
  k_dflt cell_enter
  k_steps
  all_goals exact hret _ _ _ _ (by k_asm) (by k_asm) (by assumption) (by assumption)
end

section
local macro_rules | `(tactic| walk_at "pad") => `(tactic| skip)
local macro_rules | `(tactic| walk_at "pad") => `(tactic| skip)
local macro_rules | `(tactic| walk_at "pad") => `(tactic| skip)
local macro_rules | `(tactic| walk_at "pad") => `(tactic| skip)
local macro_rules | `(tactic| walk_at "pad") => `(tactic| skip)
local macro_rules | `(tactic| kun_tup) => `(tactic| exact TupIn.isTup (by assumption) (by k_asm) (by k_asm) (by k_asm))
local macro_rules | `(tactic| cell_enter) => `(tactic| (refine' code_def ?k1 ?k2 ?k3 ?k4 ?k5 ?kA ?kF ?kK ?k6 ?k7 ?k8 ?k9 ?kB ?_ ?c2 ?c3 ?c4 ?c5; (case kA => exact rfl); (case kF => exact rfl); (case kK => assumption); (case k1 => k_asm); (case k2 => k_asm); (case k3 => k_asm); (case k4 => k_asm); (case k5 => k_asm); (case k6 => k_is); (case k7 => k_is); (case k8 => ktr_room); (case k9 => first | exact (by assumption : BindAs _ _ _ _) _ _ _ _ _ (by k_in) (by k_is) | exact BindsTo.of_eq rfl | exact binds_K (by k_in) rfl (by k_is) rfl rfl rfl); (case c5 => decide); (case kB => exact locs rfl); (case c2 => exact rfl); (case c3 => exact rfl); (case c4 => exact rfl); k_whole; intro g' L' h' FG' F' N' B' X' T'; (try dsimp only); (try k_lift B'); (try k_fold)))
local macro_rules | `(tactic| walk_at "ite") => `(tactic| (k_here; first
  | (refine' ite_pos ?hc9 ?_; (case hc9 => ((try simp only [bne_iff_ne, beq_iff_eq, Bool.not_eq_true', bne_eq_false_iff_eq, beq_eq_false_iff_ne, decide_eq_true_eq, decide_eq_false_iff_not, ne_eq, Bool.and_eq_true, Bool.or_eq_true, not_false_eq_true]); first | done | omega)); walk_say "PRUNED +")
  | (refine' ite_neg ?hc9 ?_; (case hc9 => ((try simp only [bne_iff_ne, beq_iff_eq, Bool.not_eq_true', bne_eq_false_iff_eq, beq_eq_false_iff_ne, decide_eq_true_eq, decide_eq_false_iff_not, ne_eq, Bool.and_eq_true, Bool.or_eq_true, not_false_eq_true]); first | done | omega)); walk_say "PRUNED -")))
local macro_rules | `(tactic| ke_read) => `(tactic| first | exact TupIn.reads (by with_reducible assumption) (by k_asm) (by k_asm) (by k_asm) | exact TupIn.reads TupIn.zero (by k_asm) (by k_asm) (by k_asm) | exact TupIn.reads TupIn.inf (by k_asm) (by k_asm) (by k_asm) | exact TupIn.reads TupIn.ninf (by k_asm) (by k_asm) (by k_asm) | exact TupIn.reads TupIn.nan (by k_asm) (by k_asm) (by k_asm))
local macro_rules | `(tactic| walk_at "compareOp Eq ref ref") => `(tactic| (k_here; (with_reducible show wpAny _ _ (compareOp CmpOp.Eq (Value.ref _) (Value.ref _)) _ _ _); k_dflt (refine eq_dataH (by ke_read) (by ke_read) rfl rfl (by ktr_units) ?_); ke_norm))
local macro_rules | `(tactic| walk_at "compareOp NotEq ref ref") => `(tactic| (k_here; (with_reducible show wpAny _ _ (compareOp CmpOp.NotEq (Value.ref _) (Value.ref _)) _ _ _); k_dflt (refine ne_dataH (by ke_read) (by ke_read) rfl rfl (by ktr_units) ?_); ke_norm))
local macro_rules | `(tactic| walk_at "binaryOp LShift int int") => `(tactic| (k_here; (with_reducible refine lshift_int ?kn ?ks ?_); (case kn => omega); (case ks => omega)))
local macro_rules | `(tactic| walk_at "binaryOp Mult int int") => `(tactic| (k_here; (with_reducible refine mul_int ?_ ?km); rotate_left; (case km => exact IntMulOk.of_le (m := 60000000) (n := 60000000) (by omega) (by omega) (by decide))))
local macro_rules | `(tactic| walk_at "eval Name") => `(tactic| (k_here; (with_reducible show wpAny _ _ (eval (Expr.Name _ _) (envOf _ _ _ _ _)) _ _ _); name_kind "local"; k_dflt (refine' ld ?k1 ?k2 ?_; (case k1 => k_asm); (case k2 => exact rfl); k_whole)))
local macro_rules | `(tactic| walk_at "binaryOp RShift int int") => `(tactic| (k_here; (with_reducible refine rshift_int ?kn ?_); (case kn => omega)))
local macro_rules | `(tactic| walk_at "inplaceOp Pow int int") => `(tactic| (k_here; (with_reducible refine ipow_int ?kn ?ks ?_); (case kn => omega); (case ks => omega)))
local macro_rules | `(tactic| walk_at "inplaceOp Mult int int") => `(tactic| (k_here; (with_reducible refine imul_int ?_ ?km); rotate_left; (case km => exact IntMulOk.of_le (m := 60000000) (n := 60000000) (by omega) (by omega) (by decide))))
local macro_rules | `(tactic| walk_at "subscriptTail") => `(tactic| (k_here; (with_reducible show wpAny _ _ (subscriptTail _ _ (Value.ref _) (Value.int _ _)) _ _ _); k_dflt (refine' item_tupleT ?k1 ?k2 ?k3 ?k4 ?k5 ?_ ?k6; (case k1 => first | exact TupIn.isTup (by with_reducible assumption) (by k_asm) (by k_asm) (by k_asm)); (case k2 => decide); (case k3 => decide); (case k4 => exact rfl); (case k5 => exact rfl); (case k6 => with_unfolding_all rfl); k_whole)))
local macro_rules | `(tactic| walk_at "call ref") => `(tactic| (k_here; (with_reducible show wpAny _ _ (call (Value.ref 21) _) _ _ _); k_dflt (refine' Spec.use (trailing_walk _ _ _ _ _ _ (by omega)) ?k1 ?k2 ?k3 ?k4 ?k5 ?kK ?kp ?kd ?ku ?_); (case k1 => k_asm); (case k2 => k_asm); (case k3 => k_asm); (case k4 => k_asm); (case k5 => k_asm); (case kK => first | exact rfl | assumption); (case kp => trivial); (case kd => ktr_room); (case ku => ktr_units); k_whole; intro r9 tl9 h9 tk9 F9 N9 l9 p9; (obtain ⟨z9, t9, e9, hz9, hz0⟩ := p9; subst e9); (try dsimp only); walk_say "CONTRACT 21"))
set_option maxRecDepth 100000 in
set_option maxHeartbeats 8000000 in
theorem norm5_0 (w : World) (mean : ExcName → Option Value) (mg mb : Str → Option Value) (man ex : Int) (t1 t2 t3 t4 t5 t6 : Tok) (h0 : 0 < man) :
    Spec w mean mg mb 38 5 50 [.int 0 t1, .int man t2, .int ex t3, .int (Builtin.Int.intBits man : Int) t4, .int 5 t5, .str (Str.ofString "f") t6] (fun _ => True) (fun news r => ∃ b c e, T4 news r 0 b c e) := by
  unfold Spec
  w_top off
  k_fill
  intro dp un gd cn cs a₀ ccd cl outer A₀ base h₀ L m news s Q E B F X N T hk hpre hdp hun hret
  have hq : (Builtin.Int.intBits man : Int) - 5 ≤ 0 ∨ 0 < man.fdiv (2 ^ ((Builtin.Int.intBits man : Int) - 5).toNat) := by
    by_cases h : 0 < (Builtin.Int.intBits man : Int) - 5
    · exact .inr (shr_pos h0 h).1
    · exact .inl (by omega)
  refine wpAny_call ?_
  k_dflt cell_enter
  k_steps
  all_goals exact hret _ _ _ _ (by k_asm) (by k_asm) (Ext.cons (by first | exact Ext.refl | assumption) (by assumption)) ⟨_, _, _, T4.mem (List.Mem.head _)⟩
set_option maxRecDepth 100000 in
set_option maxHeartbeats 8000000 in
theorem norm5_1 (w : World) (mean : ExcName → Option Value) (mg mb : Str → Option Value) (man ex : Int) (t1 t2 t3 t4 t5 t6 : Tok) (h0 : 0 < man) :
    Spec w mean mg mb 38 5 50 [.int 1 t1, .int man t2, .int ex t3, .int (Builtin.Int.intBits man : Int) t4, .int 5 t5, .str (Str.ofString "f") t6] (fun _ => True) (fun news r => ∃ b c e, T4 news r 1 b c e) := by
  unfold Spec
  w_top off
  k_fill
  intro dp un gd cn cs a₀ ccd cl outer A₀ base h₀ L m news s Q E B F X N T hk hpre hdp hun hret
  have hq : (Builtin.Int.intBits man : Int) - 5 ≤ 0 ∨ 0 < -((-man).fdiv (2 ^ ((Builtin.Int.intBits man : Int) - 5).toNat)) := by
    by_cases h : 0 < (Builtin.Int.intBits man : Int) - 5
    · exact .inr (shr_pos h0 h).2
    · exact .inl (by omega)
  refine wpAny_call ?_
  k_dflt cell_enter
  k_steps
  all_goals exact hret _ _ _ _ (by k_asm) (by k_asm) (Ext.cons (by first | exact Ext.refl | assumption) (by assumption)) ⟨_, _, _, T4.mem (List.Mem.head _)⟩
theorem norm5 (w : World) (mean : ExcName → Option Value) (mg mb : Str → Option Value) (sg man ex bc : Int) (t1 t2 t3 t4 t5 t6 : Tok) (h0 : 0 < man) (hs : sg = 0 ∨ sg = 1) (hb : bc = (Builtin.Int.intBits man : Int)) :
    Spec w mean mg mb 38 5 50 [.int sg t1, .int man t2, .int ex t3, .int bc t4, .int 5 t5, .str (Str.ofString "f") t6] (fun _ => True) (fun news r => ∃ b c e, T4 news r sg b c e) := by
  subst hb
  rcases hs with rfl | rfl
  · exact norm5_0 _ _ _ _ _ _ _ _ _ _ _ _ h0
  · exact norm5_1 _ _ _ _ _ _ _ _ _ _ _ _ h0

local macro_rules | `(tactic| walk_at "call ref") => `(tactic| (k_here; (with_reducible show wpAny _ _ (call (Value.ref 38) _) _ _ _); k_dflt (refine' Spec.use (norm5 _ _ _ _ _ _ _ _ _ _ _ _ _ _ (by omega) (by first | assumption | omega) (by first | assumption | rfl | omega)) ?k1 ?k2 ?k3 ?k4 ?k5 ?kK ?kp ?kd ?ku ?_); (case k1 => k_asm); (case k2 => k_asm); (case k3 => k_asm); (case k4 => k_asm); (case k5 => k_asm); (case kK => first | exact rfl | assumption); (case kp => trivial); (case kd => ktr_room); (case ku => ktr_units); k_whole; intro r9 tl9 h9 tk9 F9 N9 l9 p9; skip; (try dsimp only); walk_say "CONTRACT 38"))
set_option maxRecDepth 100000 in
set_option maxHeartbeats 8000000 in
theorem normal5 (w : World) (mean : ExcName → Option Value) (mg mb : Str → Option Value) (sg man ex bc : Int) (t1 t2 t3 t4 t5 t6 : Tok) (h0 : 0 < man) (hs : sg = 0 ∨ sg = 1) (hb : bc = (Builtin.Int.intBits man : Int)) :
    Spec w mean mg mb 45 8 80 [.int sg t1, .int man t2, .int ex t3, .int bc t4, .int 5 t5, .str (Str.ofString "f") t6] (fun _ => True) (fun news r => ∃ b c e, T4 news r sg b c e) := by
  unfold Spec
  w_top off
  k_fill
  intro dp un gd cn cs a₀ ccd cl outer A₀ base h₀ L m news s Q E B F X N T hk hpre hdp hun hret
  refine wpAny_call ?_
  k_dflt cell_enter
  k_steps
  all_goals exact hret _ _ _ _ (by k_asm) (by k_asm) (by assumption) (by assumption)

local macro_rules | `(tactic| walk_at "call ref") => `(tactic| (k_here; (with_reducible show wpAny _ _ (call (Value.ref 45) _) _ _ _); k_dflt (refine' Spec.use (normal5 _ _ _ _ _ _ _ _ _ _ _ _ _ _ (by omega) (by first | exact Hid.out (by assumption) | omega) (by first | assumption | rfl | omega)) ?k1 ?k2 ?k3 ?k4 ?k5 ?kK ?kp ?kd ?ku ?_); (case k1 => k_asm); (case k2 => k_asm); (case k3 => k_asm); (case k4 => k_asm); (case k5 => k_asm); (case kK => first | exact rfl | assumption); (case kp => trivial); (case kd => ktr_room); (case ku => ktr_units); k_whole; intro r9 tl9 h9 tk9 F9 N9 l9 p9; skip; (try dsimp only); walk_say "CONTRACT 45"))
set_option maxRecDepth 100000 in
set_option maxHeartbeats 8000000 in
theorem sub5_107 (w : World) (mean : ExcName → Option Value) (mg mb : Str → Option Value) (v v' : Value) (a b c e a' b' c' e' : Int) (t5 t6 t7 : Tok) (hC : Can a b c e) (hC' : Can a' b' c' e') (hf : e ≤ 1000000) (hf' : e' ≤ 1000000) (hn : b ≠ 0) (hn' : b' ≠ 0) (hs : a = a') (hc : c - c' ≠ 0) (hl : -100 ≤ c - c') (hl' : c - c' ≤ 100) :
    Spec w mean mg mb 107 12 220 [v, v', .int 5 t5, .str (Str.ofString "f") t6, .int 1 t7] (fun news => T4 news v a b c e ∧ T4 news v' a' b' c' e') (fun news r => ∃ sg bb cc ee, T4 news r sg bb cc ee ∧ SubSgn a b c a' b' c' sg) := by
  unfold Spec
  w_top off
  k_fill
  intro dp un gd cn cs a₀ ccd cl outer A₀ base h₀ L m news s Q E B F X N T hk hpre hdp hun hret
  obtain ⟨⟨x, t1, t2, t3, t4, rfl, hx⟩, ⟨x', t1', t2', t3', t4', rfl, hx'⟩⟩ := hpre
  obtain ⟨ha, hb, he⟩ := hC.pos hn
  obtain ⟨ha', hb', he'⟩ := hC'.pos hn'
  have hx1 := xor_one ha'
  have hp1 := shl_pos (c - c').toNat (Int.le_of_lt hb)
  have hp2 := shl_pos (-(c - c')).toNat (Int.le_of_lt hb')
  have ho1 : c - c' ≤ 0 ∨ b * 2 ^ (c - c').toNat ≠ b' := by
    by_cases h : c - c' ≤ 0
    · exact .inl h
    · exact .inr (odd_ne ((hC'.facts.2.2.2.2).resolve_left hn') (by omega))
  have ho2 : 0 ≤ c - c' ∨ b' * 2 ^ (-(c - c')).toNat ≠ b := by
    by_cases h : 0 ≤ c - c'
    · exact .inl h
    · exact .inr (odd_ne ((hC.facts.2.2.2.2).resolve_left hn) (by omega))
  refine wpAny_call ?_
  k_dflt cell_enter
  k_steps
  all_goals (
    rename (∃ b c e, T4 _ _ _ b c e) => h9
    obtain ⟨_, _, _, h9⟩ := h9
    exact hret _ _ _ _ (by k_asm) (by k_asm) (by assumption) ⟨_, _, _, _, h9, by omega, fun _ => by unfold sv; (repeat' split) <;> omega, fun _ => by unfold sv; (repeat' split) <;> omega⟩)

local macro_rules | `(tactic| walk_at "call ref") => `(tactic| (k_here; (with_reducible show wpAny _ _ (call (Value.ref 107) _) _ _ _); k_dflt (refine' Spec.use (sub5_107 _ _ _ _ _ _ _ _ _ _ _ _ _ _ _ _ _ ?hq ?hq2 ?ha1 ?ha2 ?ha3 ?ha4 ?ha5 ?ha6 ?ha7 ?ha8) ?k1 ?k2 ?k3 ?k4 ?k5 ?kK ?kp ?kd ?ku ?_); (case k1 => k_asm); (case k2 => k_asm); (case k3 => k_asm); (case k4 => k_asm); (case k5 => k_asm); (case kK => first | exact rfl | assumption); (case kp => exact ⟨⟨_, _, _, _, _, rfl, by assumption⟩, ⟨_, _, _, _, _, rfl, by assumption⟩⟩); (case hq => assumption); (case hq2 => assumption); (case ha1 => assumption); (case ha2 => assumption); (case ha3 => assumption); (case ha4 => assumption); (case ha5 => assumption); (case ha6 => assumption); (case ha7 => assumption); (case ha8 => assumption); (case kd => ktr_room); (case ku => ktr_units); k_whole; intro r9 tl9 h9 tk9 F9 N9 l9 p9; skip; (try dsimp only); walk_say "CONTRACT 107"))
set_option maxRecDepth 100000 in
set_option maxHeartbeats 8000000 in
theorem sub5_115 (w : World) (mean : ExcName → Option Value) (mg mb : Str → Option Value) (v v' : Value) (a b c e a' b' c' e' : Int) (t5 t6 : Tok) (hC : Can a b c e) (hC' : Can a' b' c' e') (hf : e ≤ 1000000) (hf' : e' ≤ 1000000) (hn : b ≠ 0) (hn' : b' ≠ 0) (hs : a = a') (hc : c - c' ≠ 0) (hl : -100 ≤ c - c') (hl' : c - c' ≤ 100) :
    Spec w mean mg mb 115 15 250 [v, v', .int 5 t5, .str (Str.ofString "f") t6] (fun news => T4 news v a b c e ∧ T4 news v' a' b' c' e') (fun news r => ∃ sg bb cc ee, T4 news r sg bb cc ee ∧ SubSgn a b c a' b' c' sg) := by
  unfold Spec
  w_top off
  k_fill
  intro dp un gd cn cs a₀ ccd cl outer A₀ base h₀ L m news s Q E B F X N T hk hpre hdp hun hret
  obtain ⟨⟨x, t1, t2, t3, t4, rfl, hx⟩, ⟨x', t1', t2', t3', t4', rfl, hx'⟩⟩ := hpre
  refine wpAny_call ?_
  k_dflt cell_enter
  k_steps
  all_goals exact hret _ _ _ _ (by k_asm) (by k_asm) (by assumption) (by assumption)
end

section
local macro_rules | `(tactic| kun_tup) => `(tactic| exact TupIn.isTup (by assumption) (by k_asm) (by k_asm) (by k_asm))
local macro_rules | `(tactic| cell_enter) => `(tactic| (refine' code_def ?k1 ?k2 ?k3 ?k4 ?k5 ?kA ?kF ?kK ?k6 ?k7 ?k8 ?k9 ?kB ?_ ?c2 ?c3 ?c4 ?c5; (case kA => exact rfl); (case kF => exact rfl); (case kK => assumption); (case k1 => k_asm); (case k2 => k_asm); (case k3 => k_asm); (case k4 => k_asm); (case k5 => k_asm); (case k6 => k_is); (case k7 => k_is); (case k8 => ktr_room); (case k9 => first | exact (by assumption : BindAs _ _ _ _) _ _ _ _ _ (by k_in) (by k_is) | exact BindsTo.of_eq rfl | exact binds_K (by k_in) rfl (by k_is) rfl rfl rfl); (case c5 => decide); (case kB => exact locs rfl); (case c2 => exact rfl); (case c3 => exact rfl); (case c4 => exact rfl); k_whole; intro g' L' h' FG' F' N' B' X' T'; (try dsimp only); (try k_lift B'); (try k_fold)))
local macro_rules | `(tactic| walk_at "ite") => `(tactic| (k_here; first
  | (refine' ite_pos ?hc9 ?_; (case hc9 => ((try simp only [bne_iff_ne, beq_iff_eq, Bool.not_eq_true', bne_eq_false_iff_eq, beq_eq_false_iff_ne, decide_eq_true_eq, decide_eq_false_iff_not, ne_eq, Bool.and_eq_true, Bool.or_eq_true, not_false_eq_true]); first | done | omega)); walk_say "PRUNED +")
  | (refine' ite_neg ?hc9 ?_; (case hc9 => ((try simp only [bne_iff_ne, beq_iff_eq, Bool.not_eq_true', bne_eq_false_iff_eq, beq_eq_false_iff_ne, decide_eq_true_eq, decide_eq_false_iff_not, ne_eq, Bool.and_eq_true, Bool.or_eq_true, not_false_eq_true]); first | done | omega)); walk_say "PRUNED -")))
local macro_rules | `(tactic| ke_read) => `(tactic| first | exact TupIn.reads (by with_reducible assumption) (by k_asm) (by k_asm) (by k_asm) | exact TupIn.reads TupIn.zero (by k_asm) (by k_asm) (by k_asm) | exact TupIn.reads TupIn.inf (by k_asm) (by k_asm) (by k_asm) | exact TupIn.reads TupIn.ninf (by k_asm) (by k_asm) (by k_asm) | exact TupIn.reads TupIn.nan (by k_asm) (by k_asm) (by k_asm))
local macro_rules | `(tactic| walk_at "compareOp Eq ref ref") => `(tactic| (k_here; (with_reducible show wpAny _ _ (compareOp CmpOp.Eq (Value.ref _) (Value.ref _)) _ _ _); k_dflt (refine eq_dataH (by ke_read) (by ke_read) rfl rfl (by ktr_units) ?_); ke_norm))
local macro_rules | `(tactic| walk_at "compareOp NotEq ref ref") => `(tactic| (k_here; (with_reducible show wpAny _ _ (compareOp CmpOp.NotEq (Value.ref _) (Value.ref _)) _ _ _); k_dflt (refine ne_dataH (by ke_read) (by ke_read) rfl rfl (by ktr_units) ?_); ke_norm))
local macro_rules | `(tactic| walk_at "binaryOp LShift int int") => `(tactic| (k_here; (with_reducible refine lshift_int ?kn ?ks ?_); (case kn => omega); (case ks => omega)))
local macro_rules | `(tactic| walk_at "binaryOp Mult int int") => `(tactic| (k_here; (with_reducible refine mul_int ?_ ?km); rotate_left; (case km => exact IntMulOk.of_le (m := 60000000) (n := 60000000) (by omega) (by omega) (by decide))))
local macro_rules | `(tactic| walk_at "eval Name") => `(tactic| (k_here; (with_reducible show wpAny _ _ (eval (Expr.Name _ _) (envOf _ _ _ _ _)) _ _ _); name_kind "local"; k_dflt (refine' ld ?k1 ?k2 ?_; (case k1 => k_asm); (case k2 => exact rfl); k_whole)))
local macro_rules | `(tactic| walk_at "binaryOp RShift int int") => `(tactic| (k_here; (with_reducible refine rshift_int ?kn ?_); (case kn => omega)))
local macro_rules | `(tactic| walk_at "inplaceOp Pow int int") => `(tactic| (k_here; (with_reducible refine ipow_int ?kn ?ks ?_); (case kn => omega); (case ks => omega)))
local macro_rules | `(tactic| walk_at "inplaceOp Mult int int") => `(tactic| (k_here; (with_reducible refine imul_int ?_ ?km); rotate_left; (case km => exact IntMulOk.of_le (m := 60000000) (n := 60000000) (by omega) (by omega) (by decide))))
local macro_rules | `(tactic| walk_at "subscriptTail") => `(tactic| (k_here; (with_reducible show wpAny _ _ (subscriptTail _ _ (Value.ref _) (Value.int _ _)) _ _ _); k_dflt (refine' item_tupleT ?k1 ?k2 ?k3 ?k4 ?k5 ?_ ?k6; (case k1 => first | exact TupIn.isTup (by with_reducible assumption) (by k_asm) (by k_asm) (by k_asm)); (case k2 => decide); (case k3 => decide); (case k4 => exact rfl); (case k5 => exact rfl); (case k6 => with_unfolding_all rfl); k_whole)))
local macro_rules | `(tactic| walk_at "call ref") => `(tactic| (k_here; (with_reducible show wpAny _ _ (call (Value.ref 21) _) _ _ _); k_dflt (refine' Spec.use (trailing_walk _ _ _ _ _ _ (by omega)) ?k1 ?k2 ?k3 ?k4 ?k5 ?kK ?kp ?kd ?ku ?_); (case k1 => k_asm); (case k2 => k_asm); (case k3 => k_asm); (case k4 => k_asm); (case k5 => k_asm); (case kK => first | exact rfl | assumption); (case kp => trivial); (case kd => ktr_room); (case ku => ktr_units); k_whole; intro r9 tl9 h9 tk9 F9 N9 l9 p9; (obtain ⟨z9, t9, e9, hz9, hz0⟩ := p9; subst e9); (try dsimp only); walk_say "CONTRACT 21"))
set_option maxRecDepth 100000 in
set_option maxHeartbeats 8000000 in
theorem fme_walk (w : World) (mean : ExcName → Option Value) (mg mb : Str → Option Value) (man ex : Int) (t1 t2 t3 t4 : Tok) (rnd : Str) :
    Spec w mean mg mb 53 8 80 [.int man t1, .int ex t2, .int 0 t3, .str rnd t4] (fun _ => True) (fun news r => NumIn news r (Dyadic.ofIntWithPrec man (-ex))) := by
  unfold Spec
  w_top off
  k_fill
  intro dp un gd cn cs a₀ ccd cl outer A₀ base h₀ L m news s Q E B F X N T hk hpre hdp hun hret
  refine wpAny_call ?_
  k_dflt cell_enter
  k_steps
  · rename man < 0 => hm
    exact hret _ _ _ _ (by k_asm) (by k_asm) (Ext.cons Ext.refl (by assumption)) (NumIn.mk (List.Mem.head _) (can_odd _ (.inr rfl) (by omega) (odd_of (by assumption)) rfl) (fme_neg ex hm))
  · rename man < 0 => hm
    have hz := tz_one (by assumption) (by assumption)
    exact hret _ _ _ _ (by k_asm) (by k_asm) (Ext.cons Ext.refl (by assumption)) (NumIn.mk (List.Mem.head _) (tz_can (.inr rfl) (by omega) hz rfl) ((fme_neg ex hm).trans (tz_dy _ _ hz)))
  · rename man < 0 => hm
    rename TZ _ _ => hz
    exact hret _ _ _ _ (by k_asm) (by k_asm) (Ext.cons (by assumption) (by assumption)) (NumIn.mk (List.Mem.head _) (tz_can (.inr rfl) (by omega) hz rfl) ((fme_neg ex hm).trans (tz_dy _ _ hz)))
  · exact hret _ _ _ _ (by k_asm) (by k_asm) (Ext.cons Ext.refl (by assumption)) (NumIn.mk (List.Mem.head _) (can_odd _ (.inl rfl) (by omega) (odd_of (by assumption)) rfl) (fme_pos man ex))
  · have hz := tz_one (by assumption) (by assumption)
    exact hret _ _ _ _ (by k_asm) (by k_asm) (Ext.cons Ext.refl (by assumption)) (NumIn.mk (List.Mem.head _) (tz_can (.inl rfl) (by omega) hz rfl) ((fme_pos man ex).trans (tz_dy _ _ hz)))
  · rename TZ _ _ => hz
    exact hret _ _ _ _ (by k_asm) (by k_asm) (Ext.cons (by assumption) (by assumption)) (NumIn.mk (List.Mem.head _) (tz_can (.inl rfl) (by omega) hz rfl) ((fme_pos man ex).trans (tz_dy _ _ hz)))
  · rename man = 0 => hm
    subst hm
    exact hret _ _ _ _ (by k_asm) (by k_asm) Ext.refl ⟨_, _, _, _, T4.zero, can_nil, (fme_pos 0 ex).trans (dy_nil _ _)⟩

local macro_rules | `(tactic| walk_at "call ref") => `(tactic| (k_here; (with_reducible show wpAny _ _ (call (Value.ref 53) _) _ _ _); k_dflt (refine' Spec.use (fme_walk _ _ _ _ _ _ _ _ _ _ _) ?k1 ?k2 ?k3 ?k4 ?k5 ?kK ?kp ?kd ?ku ?_); (case k1 => k_asm); (case k2 => k_asm); (case k3 => k_asm); (case k4 => k_asm); (case k5 => k_asm); (case kK => first | exact rfl | assumption); (case kp => trivial); (case kd => ktr_room); (case ku => ktr_units); k_whole; intro r9 tl9 h9 tk9 F9 N9 l9 p9; skip; (try dsimp only); walk_say "CONTRACT 53"))
set_option maxRecDepth 100000 in
set_option maxHeartbeats 8000000 in
theorem fi_walk (w : World) (mean : ExcName → Option Value) (mg mb : Str → Option Value) (n : Int) (t1 : Tok) :
    Spec w mean mg mb 61 11 110 [.int n t1] (fun _ => True) (fun news r => NumIn news r (Dyadic.ofIntWithPrec n 0)) := by
  unfold Spec
  w_top off
  k_fill
  intro dp un gd cn cs a₀ ccd cl outer A₀ base h₀ L m news s Q E B F X N T hk hpre hdp hun hret
  refine wpAny_call ?_
  k_dflt cell_enter
  k_steps
  all_goals exact hret _ _ _ _ (by k_asm) (by k_asm) (by assumption) (by assumption)
end

section
local macro_rules | `(tactic| walk_at "pad") => `(tactic| skip)
local macro_rules | `(tactic| walk_at "pad") => `(tactic| skip)
local macro_rules | `(tactic| kun_tup) => `(tactic| exact TupIn.isTup (by assumption) (by k_asm) (by k_asm) (by k_asm))
local macro_rules | `(tactic| cell_enter) => `(tactic| (refine' code_def ?k1 ?k2 ?k3 ?k4 ?k5 ?kA ?kF ?kK ?k6 ?k7 ?k8 ?k9 ?kB ?_ ?c2 ?c3 ?c4 ?c5; (case kA => exact rfl); (case kF => exact rfl); (case kK => assumption); (case k1 => k_asm); (case k2 => k_asm); (case k3 => k_asm); (case k4 => k_asm); (case k5 => k_asm); (case k6 => k_is); (case k7 => k_is); (case k8 => ktr_room); (case k9 => first | exact (by assumption : BindAs _ _ _ _) _ _ _ _ _ (by k_in) (by k_is) | exact BindsTo.of_eq rfl | exact binds_K (by k_in) rfl (by k_is) rfl rfl rfl); (case c5 => decide); (case kB => exact locs rfl); (case c2 => exact rfl); (case c3 => exact rfl); (case c4 => exact rfl); k_whole; intro g' L' h' FG' F' N' B' X' T'; (try dsimp only); (try k_lift B'); (try k_fold)))
local macro_rules | `(tactic| walk_at "ite") => `(tactic| (k_here; first
  | (refine' ite_pos ?hc9 ?_; (case hc9 => ((try simp only [bne_iff_ne, beq_iff_eq, Bool.not_eq_true', bne_eq_false_iff_eq, beq_eq_false_iff_ne, decide_eq_true_eq, decide_eq_false_iff_not, ne_eq, Bool.and_eq_true, Bool.or_eq_true, not_false_eq_true]); first | done | omega)); walk_say "PRUNED +")
  | (refine' ite_neg ?hc9 ?_; (case hc9 => ((try simp only [bne_iff_ne, beq_iff_eq, Bool.not_eq_true', bne_eq_false_iff_eq, beq_eq_false_iff_ne, decide_eq_true_eq, decide_eq_false_iff_not, ne_eq, Bool.and_eq_true, Bool.or_eq_true, not_false_eq_true]); first | done | omega)); walk_say "PRUNED -")))
local macro_rules | `(tactic| ke_read) => `(tactic| first | exact TupIn.reads (by with_reducible assumption) (by k_asm) (by k_asm) (by k_asm) | exact TupIn.reads TupIn.zero (by k_asm) (by k_asm) (by k_asm) | exact TupIn.reads TupIn.inf (by k_asm) (by k_asm) (by k_asm) | exact TupIn.reads TupIn.ninf (by k_asm) (by k_asm) (by k_asm) | exact TupIn.reads TupIn.nan (by k_asm) (by k_asm) (by k_asm))
local macro_rules | `(tactic| walk_at "compareOp Eq ref ref") => `(tactic| (k_here; (with_reducible show wpAny _ _ (compareOp CmpOp.Eq (Value.ref _) (Value.ref _)) _ _ _); k_dflt (refine eq_dataH (by ke_read) (by ke_read) rfl rfl (by ktr_units) ?_); ke_norm))
local macro_rules | `(tactic| walk_at "compareOp NotEq ref ref") => `(tactic| (k_here; (with_reducible show wpAny _ _ (compareOp CmpOp.NotEq (Value.ref _) (Value.ref _)) _ _ _); k_dflt (refine ne_dataH (by ke_read) (by ke_read) rfl rfl (by ktr_units) ?_); ke_norm))
local macro_rules | `(tactic| walk_at "binaryOp LShift int int") => `(tactic| (k_here; (with_reducible refine lshift_int ?kn ?ks ?_); (case kn => omega); (case ks => omega)))
local macro_rules | `(tactic| walk_at "binaryOp Mult int int") => `(tactic| (k_here; (with_reducible refine mul_int ?_ ?km); rotate_left; (case km => exact IntMulOk.of_le (m := 60000000) (n := 60000000) (by omega) (by omega) (by decide))))
local macro_rules | `(tactic| walk_at "eval Name") => `(tactic| (k_here; (with_reducible show wpAny _ _ (eval (Expr.Name _ _) (envOf _ _ _ _ _)) _ _ _); name_kind "local"; k_dflt (refine' ld ?k1 ?k2 ?_; (case k1 => k_asm); (case k2 => exact rfl); k_whole)))
local macro_rules | `(tactic| walk_at "binaryOp RShift int int") => `(tactic| (k_here; (with_reducible refine rshift_int ?kn ?_); (case kn => omega)))
local macro_rules | `(tactic| walk_at "inplaceOp Pow int int") => `(tactic| (k_here; (with_reducible refine ipow_int ?kn ?ks ?_); (case kn => omega); (case ks => omega)))
local macro_rules | `(tactic| walk_at "inplaceOp Mult int int") => `(tactic| (k_here; (with_reducible refine imul_int ?_ ?km); rotate_left; (case km => exact IntMulOk.of_le (m := 60000000) (n := 60000000) (by omega) (by omega) (by decide))))
local macro_rules | `(tactic| walk_at "subscriptTail") => `(tactic| (k_here; (with_reducible show wpAny _ _ (subscriptTail _ _ (Value.ref _) (Value.int _ _)) _ _ _); k_dflt (refine' item_tupleT ?k1 ?k2 ?k3 ?k4 ?k5 ?_ ?k6; (case k1 => first | exact TupIn.isTup (by with_reducible assumption) (by k_asm) (by k_asm) (by k_asm)); (case k2 => decide); (case k3 => decide); (case k4 => exact rfl); (case k5 => exact rfl); (case k6 => with_unfolding_all rfl); k_whole)))
local macro_rules | `(tactic| walk_at "call ref") => `(tactic| (k_here; (with_reducible show wpAny _ _ (call (Value.ref 45) _) _ _ _); k_dflt (refine' Spec.use (normal_walk _ _ _ _ _ _ _ _ _ _ _ _ _ _ _ _ _ (by omega) (by omega) (by first | assumption | rfl | omega) (by first | exact Hid.out (by assumption) | omega)) ?k1 ?k2 ?k3 ?k4 ?k5 ?kK ?kp ?kd ?ku ?_); (case k1 => k_asm); (case k2 => k_asm); (case k3 => k_asm); (case k4 => k_asm); (case k5 => k_asm); (case kK => first | exact rfl | assumption); (case kp => rfl); (case kd => ktr_room); (case ku => ktr_units); k_whole; intro r9 tl9 h9 tk9 F9 N9 l9 p9; skip; (try dsimp only); walk_say "CONTRACT 45"))
set_option maxRecDepth 100000 in
set_option maxHeartbeats 8000000 in
theorem mulint_nz (w : World) (mean : ExcName → Option Value) (mg mb : Str → Option Value) (n₀ : List (Addr × Obj)) (v : Value) (a b c e n : Int) (t5 t6 : Tok) (hC : Can a b c e) (hf : e ≤ 1000) (hn1 : 1 ≤ n) (hn2 : n ≤ 8) (hnz : b ≠ 0) :
    Spec w mean mg mb 139 15 250 [v, .int n t5, .int 2000 t6] (fun news => news = n₀ ∧ T4 news v a b c e) (fun news r => NumF n₀ news r (dy a b c * Dyadic.ofIntWithPrec n 0)) := by
  unfold Spec
  w_top off
  k_fill
  intro dp un gd cn cs a₀ ccd cl outer A₀ base h₀ L m news s Q E B F X N T hk hpre hdp hun hret
  obtain ⟨hpre, x, t1, t2, t3, t4, rfl, hx⟩ := hpre
  subst hpre
  obtain ⟨ha, hb, he⟩ := hC.pos hnz
  subst he
  have hb1 := bits_pos hnz
  have hb2 := bits_pos (show n ≠ 0 by omega)
  have hb3 := bits_le4 hn1 hn2
  have hb4 := mulint_bits hb (show 0 < n by omega)
  have hb5 := mul_bits_le b n
  have hb6 : 0 ≤ b * n := Int.mul_nonneg (by omega) (by omega)
  replace ha := Hid.mk ha
  refine wpAny_call ?_
  k_dflt cell_enter
  k_steps
  all_goals exact hret _ _ _ _ (by k_asm) (by k_asm) (by assumption) (NumF.eq (by assumption) (dy_mulint (by omega)))

local macro_rules | `(tactic| walk_at "call ref") => `(tactic| (k_here; (with_reducible show wpAny _ _ (call (Value.ref 76) _) _ _ _); k_dflt (refine' Spec.use (pos_walk _ _ _ _ _ _ _ _ _ _ ?hq ?hq2 _ _ _) ?k1 ?k2 ?k3 ?k4 ?k5 ?kK ?kp ?kd ?ku ?_); (case k1 => k_asm); (case k2 => k_asm); (case k3 => k_asm); (case k4 => k_asm); (case k5 => k_asm); (case kK => first | exact rfl | assumption); (case kp => ((refine ⟨?_, ?_⟩; rotate_left); (exact ⟨_, _, _, _, _, rfl, by assumption⟩); rfl)); (case hq => assumption); (case hq2 => omega); (case kd => ktr_room); (case ku => ktr_units); k_whole; intro r9 tl9 h9 tk9 F9 N9 l9 p9; skip; (try dsimp only); walk_say "CONTRACT 76"))
set_option maxRecDepth 100000 in
set_option maxHeartbeats 8000000 in
theorem pow_nz (w : World) (mean : ExcName → Option Value) (mg mb : Str → Option Value) (n₀ : List (Addr × Obj)) (v : Value) (a b c e n : Int) (t5 t6 : Tok) (hC : Can a b c e) (hf : e ≤ 200) (hn : n = 0 ∨ n = 1 ∨ n = 2 ∨ n = 3 ∨ n = 4) (hnz : b ≠ 0) :
    Spec w mean mg mb 156 15 250 [v, .int n t5, .int 2000 t6] (fun news => news = n₀ ∧ T4 news v a b c e) (fun news r => NumF n₀ news r ((dy a b c) ^ n.toNat)) := by
  unfold Spec
  w_top off
  k_fill
  intro dp un gd cn cs a₀ ccd cl outer A₀ base h₀ L m news s Q E B F X N T hk hpre hdp hun hret
  obtain ⟨hpre, x, t1, t2, t3, t4, rfl, hx⟩ := hpre
  subst hpre
  obtain ⟨ha, hb, he⟩ := hC.pos hnz
  subst he
  have hb1 := bits_pos hnz
  have hb2 := sq_bits hb
  have hb3 := mul_bits_le b b
  have hb4 : 0 ≤ b * b := Int.mul_nonneg (by omega) (by omega)
  have hb5 : (Builtin.Int.intBits (b ^ (3 : Int).toNat) : Int) ≤ (Builtin.Int.intBits b : Int) * 3 + 1 := pow_bits_le b 3
  have hb6 : (Builtin.Int.intBits (b ^ (4 : Int).toNat) : Int) ≤ (Builtin.Int.intBits b : Int) * 4 + 1 := pow_bits_le b 4
  have hb7 : 0 ≤ b ^ (3 : Int).toNat := Int.pow_nonneg (by omega)
  have hb8 : 0 ≤ b ^ (4 : Int).toNat := Int.pow_nonneg (by omega)
  have hx3 : Builtin.bitAnd a 3 = 0 ∨ Builtin.bitAnd a 3 = 1 := by rcases ha with rfl | rfl <;> decide
  have hx4 : Builtin.bitAnd a 4 = 0 ∨ Builtin.bitAnd a 4 = 1 := by rcases ha with rfl | rfl <;> decide
  replace hx3 := Hid.mk hx3
  replace hx4 := Hid.mk hx4
  replace ha := Hid.mk ha
  rcases hn with rfl | rfl | rfl | rfl | rfl
  all_goals (
    refine wpAny_call ?_
    k_dflt cell_enter
    k_steps)
  all_goals replace ha := ha.out
  · exact hret _ _ _ _ (by k_asm) (by k_asm) Ext.refl (NumF.one can_one (pow_zero' _))
  · exact hret _ _ _ _ (by k_asm) (by k_asm) (by assumption) (NumF.eq (by assumption) (pow_one' _))
  · rename b * b = 1 => hq
    exact hret _ _ _ _ (by k_asm) (by k_asm) (Ext.cons Ext.refl (by assumption)) (NumF.mk (List.Mem.head _) (by assumption) (can_odd _ (.inl rfl) (by decide) (by decide) bits_one) (pow_two hq.symm))
  · exact hret _ _ _ _ (by k_asm) (by k_asm) (by assumption) (NumF.eq (by assumption) (pow_two rfl))
  · rename b = 1 => hq
    subst hq
    exact hret _ _ _ _ (by k_asm) (by k_asm) (Ext.cons Ext.refl (by assumption)) (NumF.mk (List.Mem.head _) (by assumption) (can_odd _ hx3.out (by decide) (by decide) bits_one) (pow_three ha))
  · exact hret _ _ _ _ (by k_asm) (by k_asm) (by assumption) (NumF.eq (by assumption) (pow_three ha))
  · rename b = 1 => hq
    subst hq
    exact hret _ _ _ _ (by k_asm) (by k_asm) (Ext.cons Ext.refl (by assumption)) (NumF.mk (List.Mem.head _) (by assumption) (can_odd _ hx4.out (by decide) (by decide) bits_one) (pow_four ha))
  · exact hret _ _ _ _ (by k_asm) (by k_asm) (by assumption) (NumF.eq (by assumption) (pow_four ha))

set_option maxRecDepth 100000 in
set_option maxHeartbeats 8000000 in
theorem pow_z (w : World) (mean : ExcName → Option Value) (mg mb : Str → Option Value) (n₀ : List (Addr × Obj)) (v : Value) (n : Int) (t5 t6 : Tok) (hn : n = 0 ∨ n = 1 ∨ n = 2 ∨ n = 3 ∨ n = 4) :
    Spec w mean mg mb 156 15 250 [v, .int n t5, .int 2000 t6] (fun news => news = n₀ ∧ T4 news v 0 0 0 0) (fun news r => NumF n₀ news r ((dy 0 0 0) ^ n.toNat)) := by
  unfold Spec
  w_top off
  k_fill
  intro dp un gd cn cs a₀ ccd cl outer A₀ base h₀ L m news s Q E B F X N T hk hpre hdp hun hret
  obtain ⟨hpre, x, t1, t2, t3, t4, rfl, hx⟩ := hpre
  subst hpre
  have hC := can_nil
  have hf : (0 : Int) ≤ 2000 := by decide
  have ha : Hid ((0 : Int) = 0 ∨ (0 : Int) = 1) := ⟨.inl rfl⟩
  have hb0 : (Builtin.Int.intBits 0 : Int) = 0 := by decide
  have hb3 : 0 ≤ (0 : Int) ^ (3 : Int).toNat := by decide
  have hb4 : 0 ≤ (0 : Int) ^ (4 : Int).toNat := by decide
  have hb5 : (Builtin.Int.intBits ((0 : Int) ^ (3 : Int).toNat) : Int) = 0 := by decide
  have hb6 : (Builtin.Int.intBits ((0 : Int) ^ (4 : Int).toNat) : Int) = 0 := by decide
  have hx3 : Hid (Builtin.bitAnd 0 3 = 0 ∨ Builtin.bitAnd 0 3 = 1) := ⟨by decide⟩
  have hx4 : Hid (Builtin.bitAnd 0 4 = 0 ∨ Builtin.bitAnd 0 4 = 1) := ⟨by decide⟩
  rcases hn with rfl | rfl | rfl | rfl | rfl
  all_goals (
    refine wpAny_call ?_
    k_dflt cell_enter
    k_steps)
  · exact hret _ _ _ _ (by k_asm) (by k_asm) Ext.refl (NumF.one can_one (pow_zero' _))
  · exact hret _ _ _ _ (by k_asm) (by k_asm) (by assumption) (NumF.eq (by assumption) (pow_one' _))
  · exact hret _ _ _ _ (by k_asm) (by k_asm) Ext.refl (NumF.zero (pow_two (c := 0) (b := 0) rfl))
  · exact hret _ _ _ _ (by k_asm) (by k_asm) (by assumption) (NumF.eq (by assumption) (pow_three (.inl rfl)))
  · exact hret _ _ _ _ (by k_asm) (by k_asm) (by assumption) (NumF.eq (by assumption) (pow_four (.inl rfl)))

theorem pow_walk (w : World) (mean : ExcName → Option Value) (mg mb : Str → Option Value) (n₀ : List (Addr × Obj)) (v : Value) (a b c e n : Int) (t5 t6 : Tok) (hC : Can a b c e) (hf : e ≤ 200) (hn : n = 0 ∨ n = 1 ∨ n = 2 ∨ n = 3 ∨ n = 4) :
    Spec w mean mg mb 156 15 250 [v, .int n t5, .int 2000 t6] (fun news => news = n₀ ∧ T4 news v a b c e) (fun news r => NumF n₀ news r ((dy a b c) ^ n.toNat)) := by
  by_cases hb : b = 0
  · obtain ⟨rfl, rfl, rfl⟩ := hC.nil hb
    subst hb
    exact pow_z w mean mg mb n₀ v n t5 t6 hn
  · exact pow_nz w mean mg mb n₀ v a b c e n t5 t6 hC hf hn hb
end

section
local macro_rules | `(tactic| kun_tup) => `(tactic| exact TupIn.isTup (by assumption) (by k_asm) (by k_asm) (by k_asm))
local macro_rules | `(tactic| cell_enter) => `(tactic| (refine' code_def ?k1 ?k2 ?k3 ?k4 ?k5 ?kA ?kF ?kK ?k6 ?k7 ?k8 ?k9 ?kB ?_ ?c2 ?c3 ?c4 ?c5; (case kA => exact rfl); (case kF => exact rfl); (case kK => assumption); (case k1 => k_asm); (case k2 => k_asm); (case k3 => k_asm); (case k4 => k_asm); (case k5 => k_asm); (case k6 => k_is); (case k7 => k_is); (case k8 => ktr_room); (case k9 => first | exact (by assumption : BindAs _ _ _ _) _ _ _ _ _ (by k_in) (by k_is) | exact BindsTo.of_eq rfl | exact binds_K (by k_in) rfl (by k_is) rfl rfl rfl); (case c5 => decide); (case kB => exact locs rfl); (case c2 => exact rfl); (case c3 => exact rfl); (case c4 => exact rfl); k_whole; intro g' L' h' FG' F' N' B' X' T'; (try dsimp only); (try k_lift B'); (try k_fold)))
local macro_rules | `(tactic| walk_at "ite") => `(tactic| (k_here; first
  | (refine' ite_pos ?hc9 ?_; (case hc9 => ((try simp only [bne_iff_ne, beq_iff_eq, Bool.not_eq_true', bne_eq_false_iff_eq, beq_eq_false_iff_ne, decide_eq_true_eq, decide_eq_false_iff_not, ne_eq, Bool.and_eq_true, Bool.or_eq_true, not_false_eq_true]); first | done | omega)); walk_say "PRUNED +")
  | (refine' ite_neg ?hc9 ?_; (case hc9 => ((try simp only [bne_iff_ne, beq_iff_eq, Bool.not_eq_true', bne_eq_false_iff_eq, beq_eq_false_iff_ne, decide_eq_true_eq, decide_eq_false_iff_not, ne_eq, Bool.and_eq_true, Bool.or_eq_true, not_false_eq_true]); first | done | omega)); walk_say "PRUNED -")))
local macro_rules | `(tactic| ke_read) => `(tactic| first | exact TupIn.reads (by with_reducible assumption) (by k_asm) (by k_asm) (by k_asm) | exact TupIn.reads TupIn.zero (by k_asm) (by k_asm) (by k_asm) | exact TupIn.reads TupIn.inf (by k_asm) (by k_asm) (by k_asm) | exact TupIn.reads TupIn.ninf (by k_asm) (by k_asm) (by k_asm) | exact TupIn.reads TupIn.nan (by k_asm) (by k_asm) (by k_asm))
local macro_rules | `(tactic| walk_at "compareOp Eq ref ref") => `(tactic| (k_here; (with_reducible show wpAny _ _ (compareOp CmpOp.Eq (Value.ref _) (Value.ref _)) _ _ _); k_dflt (refine eq_dataH (by ke_read) (by ke_read) rfl rfl (by ktr_units) ?_); ke_norm))
local macro_rules | `(tactic| walk_at "compareOp NotEq ref ref") => `(tactic| (k_here; (with_reducible show wpAny _ _ (compareOp CmpOp.NotEq (Value.ref _) (Value.ref _)) _ _ _); k_dflt (refine ne_dataH (by ke_read) (by ke_read) rfl rfl (by ktr_units) ?_); ke_norm))
local macro_rules | `(tactic| walk_at "binaryOp LShift int int") => `(tactic| (k_here; (with_reducible refine lshift_int ?kn ?ks ?_); (case kn => omega); (case ks => omega)))
local macro_rules | `(tactic| walk_at "binaryOp Mult int int") => `(tactic| (k_here; (with_reducible refine mul_int ?_ ?km); rotate_left; (case km => exact IntMulOk.of_le (m := 60000000) (n := 60000000) (by omega) (by omega) (by decide))))
local macro_rules | `(tactic| walk_at "eval Name") => `(tactic| (k_here; (with_reducible show wpAny _ _ (eval (Expr.Name _ _) (envOf _ _ _ _ _)) _ _ _); name_kind "local"; k_dflt (refine' ld ?k1 ?k2 ?_; (case k1 => k_asm); (case k2 => exact rfl); k_whole)))
local macro_rules | `(tactic| walk_at "binaryOp RShift int int") => `(tactic| (k_here; (with_reducible refine rshift_int ?kn ?_); (case kn => omega)))
local macro_rules | `(tactic| walk_at "inplaceOp Pow int int") => `(tactic| (k_here; (with_reducible refine ipow_int ?kn ?ks ?_); (case kn => omega); (case ks => omega)))
local macro_rules | `(tactic| walk_at "inplaceOp Mult int int") => `(tactic| (k_here; (with_reducible refine imul_int ?_ ?km); rotate_left; (case km => exact IntMulOk.of_le (m := 60000000) (n := 60000000) (by omega) (by omega) (by decide))))
local macro_rules | `(tactic| walk_at "subscriptTail") => `(tactic| (k_here; (with_reducible show wpAny _ _ (subscriptTail _ _ (Value.ref _) (Value.int _ _)) _ _ _); k_dflt (refine' item_tupleT ?k1 ?k2 ?k3 ?k4 ?k5 ?_ ?k6; (case k1 => first | exact TupIn.isTup (by with_reducible assumption) (by k_asm) (by k_asm) (by k_asm)); (case k2 => decide); (case k3 => decide); (case k4 => exact rfl); (case k5 => exact rfl); (case k6 => with_unfolding_all rfl); k_whole)))
local macro_rules | `(tactic| walk_at "call ref") => `(tactic| (k_here; (with_reducible show wpAny _ _ (call (Value.ref 99) _) _ _ _); k_dflt (refine' Spec.use (sign_walk _ _ _ _ _ _ _ _ _ ?hq) ?k1 ?k2 ?k3 ?k4 ?k5 ?kK ?kp ?kd ?ku ?_); (case k1 => k_asm); (case k2 => k_asm); (case k3 => k_asm); (case k4 => k_asm); (case k5 => k_asm); (case kK => first | exact rfl | assumption); (case kp => exact ⟨_, _, _, _, _, rfl, by assumption⟩); (case hq => assumption); (case kd => ktr_room); (case ku => ktr_units); k_whole; intro r9 tl9 h9 tk9 F9 N9 l9 p9; (obtain ⟨t9, e9⟩ := p9; subst e9); (try dsimp only); walk_say "CONTRACT 99"))
local macro_rules | `(tactic| walk_at "call ref") => `(tactic| (k_here; (with_reducible show wpAny _ _ (call (Value.ref 115) _) _ _ _); k_dflt (refine' Spec.use (sub5_115 _ _ _ _ _ _ _ _ _ _ _ _ _ _ _ _ ?hq ?hq2 ?ha1 ?ha2 ?ha3 ?ha4 ?ha5 ?ha6 ?ha7 ?ha8) ?k1 ?k2 ?k3 ?k4 ?k5 ?kK ?kp ?kd ?ku ?_); (case k1 => k_asm); (case k2 => k_asm); (case k3 => k_asm); (case k4 => k_asm); (case k5 => k_asm); (case kK => first | exact rfl | assumption); (case kp => exact ⟨⟨_, _, _, _, _, rfl, by assumption⟩, ⟨_, _, _, _, _, rfl, by assumption⟩⟩); (case hq => assumption); (case hq2 => assumption); (case ha1 => omega); (case ha2 => omega); (case ha3 => assumption); (case ha4 => assumption); (case ha5 => omega); (case ha6 => omega); (case ha7 => omega); (case ha8 => omega); (case kd => ktr_room); (case ku => ktr_units); k_whole; intro r9 tl9 h9 tk9 F9 N9 l9 p9; (obtain ⟨s9, b9, c9, d9, q9, hs9⟩ := p9; obtain ⟨x9, u1, u2, u3, u4, e9, hx9⟩ := q9; subst e9); (try dsimp only); walk_say "CONTRACT 115"))
/-- what mpf_cmp says -/
def CmpOk (a b c e a' b' c' e' z : Int) : Prop :=
  (b = 0 ∧ z = -sgnOf a' b') ∨ (b ≠ 0 ∧ b' = 0 ∧ z = sgnOf a b) ∨ (b ≠ 0 ∧ b' ≠ 0 ∧
    ((a ≠ a' ∧ z = 1 - 2 * a) ∨ (a = a' ∧
      ((c = c' ∧ ((b = b' ∧ z = 0) ∨ (b' < b ∧ z = 1 - 2 * a) ∨ (b < b' ∧ z = 2 * a - 1))) ∨
       (c ≠ c' ∧ ((e + c < e' + c' ∧ z = 2 * a - 1) ∨ (e' + c' < e + c ∧ z = 1 - 2 * a) ∨ (e + c = e' + c' ∧ ∃ sg, SubSgn a b c a' b' c' sg ∧ z = 1 - 2 * sg)))))))
set_option maxRecDepth 100000 in
set_option maxHeartbeats 8000000 in
theorem cmp_nn (w : World) (mean : ExcName → Option Value) (mg mb : Str → Option Value) (v v' : Value) (a b c e a' b' c' e' : Int) (hC : Can a b c e) (hC' : Can a' b' c' e') (hf : e ≤ 100) (hf' : e' ≤ 100) (hn : b ≠ 0) (hn' : b' ≠ 0) :
    Spec w mean mg mb 68 18 280 [v, v'] (fun news => T4 news v a b c e ∧ T4 news v' a' b' c' e') (fun news r => ∃ z tk, r = .int z tk ∧ CmpOk a b c e a' b' c' e' z) := by
  unfold Spec
  w_top off
  k_fill
  intro dp un gd cn cs a₀ ccd cl outer A₀ base h₀ L m news s Q E B F X N T hk hpre hdp hun hret
  obtain ⟨⟨x, t1, t2, t3, t4, rfl, hx⟩, ⟨x', t1', t2', t3', t4', rfl, hx'⟩⟩ := hpre
  obtain ⟨ha, hb, he⟩ := hC.pos hn
  obtain ⟨ha', hb', he'⟩ := hC'.pos hn'
  have hb1 := bits_pos hn
  have hb2 := bits_pos hn'
  refine wpAny_call ?_
  k_dflt cell_enter
  k_steps
  all_goals first
    | (refine' hret _ _ _ _ ?f1 ?f2 ?f3 ⟨_, _, rfl, ?f4⟩; (case f1 => k_asm); (case f2 => k_asm); (case f3 => exact Ext.refl); (case f4 => (refine .inr (.inr ⟨hn, hn', ?_⟩); first | exact .inl ⟨by assumption, by omega⟩ | exact .inr ⟨by assumption, .inl ⟨by omega, .inl ⟨by assumption, rfl⟩⟩⟩ | exact .inr ⟨by assumption, .inl ⟨by omega, .inr (.inl ⟨by omega, by omega⟩)⟩⟩ | exact .inr ⟨by assumption, .inl ⟨by omega, .inr (.inr ⟨by omega, by omega⟩)⟩⟩ | exact .inr ⟨by assumption, .inr ⟨by omega, .inl ⟨by omega, by omega⟩⟩⟩ | exact .inr ⟨by assumption, .inr ⟨by omega, .inr (.inl ⟨by omega, by omega⟩)⟩⟩)))
    | (rename SubSgn _ _ _ _ _ _ _ => hs9; refine' hret _ _ _ _ ?f1 ?f2 ?f3 ⟨_, _, rfl, ?f4⟩; (case f1 => k_asm); (case f2 => k_asm); (case f3 => assumption); (case f4 => exact .inr (.inr ⟨hn, hn', .inr ⟨by assumption, .inr ⟨by assumption, .inr (.inr ⟨by omega, _, hs9, by have := hs9.1; omega⟩)⟩⟩⟩)))

set_option maxRecDepth 100000 in
set_option maxHeartbeats 8000000 in
theorem cmp_z (w : World) (mean : ExcName → Option Value) (mg mb : Str → Option Value) (v v' : Value) (a b c e a' b' c' e' : Int) (hC : Can a b c e) (hC' : Can a' b' c' e') (hn : b = 0 ∨ b' = 0) :
    Spec w mean mg mb 68 18 280 [v, v'] (fun news => T4 news v a b c e ∧ T4 news v' a' b' c' e') (fun news r => ∃ z tk, r = .int z tk ∧ CmpOk a b c e a' b' c' e' z) := by
  unfold Spec
  w_top off
  k_fill
  intro dp un gd cn cs a₀ ccd cl outer A₀ base h₀ L m news s Q E B F X N T hk hpre hdp hun hret
  obtain ⟨⟨x, t1, t2, t3, t4, rfl, hx⟩, ⟨x', t1', t2', t3', t4', rfl, hx'⟩⟩ := hpre
  obtain ⟨ha, hb, hz, he, ho⟩ := hC.facts
  obtain ⟨ha', hb', hz', he', ho'⟩ := hC'.facts
  refine wpAny_call ?_
  k_dflt cell_enter
  k_steps
  · exact hret _ _ _ _ (by k_asm) (by k_asm) (by assumption) ⟨_, _, rfl, .inr (.inl ⟨by assumption, by omega, rfl⟩)⟩
  · exact hret _ _ _ _ (by k_asm) (by k_asm) (by assumption) ⟨_, _, rfl, .inl ⟨by assumption, rfl⟩⟩

theorem cmp_walk (w : World) (mean : ExcName → Option Value) (mg mb : Str → Option Value) (v v' : Value) (a b c e a' b' c' e' : Int) (hC : Can a b c e) (hC' : Can a' b' c' e') (hf : e ≤ 100) (hf' : e' ≤ 100) :
    Spec w mean mg mb 68 18 280 [v, v'] (fun news => T4 news v a b c e ∧ T4 news v' a' b' c' e') (fun news r => ∃ z tk, r = .int z tk ∧ CmpOk a b c e a' b' c' e' z) := by
  by_cases hb : b = 0
  · exact cmp_z w mean mg mb v v' a b c e a' b' c' e' hC hC' (.inl hb)
  · by_cases hb' : b' = 0
    · exact cmp_z w mean mg mb v v' a b c e a' b' c' e' hC hC' (.inr hb')
    · exact cmp_nn w mean mg mb v v' a b c e a' b' c' e' hC hC' hf hf' hb hb'
end

section
local macro_rules | `(tactic| kun_tup) => `(tactic| exact TupIn.isTup (by assumption) (by k_asm) (by k_asm) (by k_asm))
local macro_rules | `(tactic| cell_enter) => `(tactic| (refine' code_def ?k1 ?k2 ?k3 ?k4 ?k5 ?kA ?kF ?kK ?k6 ?k7 ?k8 ?k9 ?kB ?_ ?c2 ?c3 ?c4 ?c5; (case kA => exact rfl); (case kF => exact rfl); (case kK => assumption); (case k1 => k_asm); (case k2 => k_asm); (case k3 => k_asm); (case k4 => k_asm); (case k5 => k_asm); (case k6 => k_is); (case k7 => k_is); (case k8 => ktr_room); (case k9 => first | exact (by assumption : BindAs _ _ _ _) _ _ _ _ _ (by k_in) (by k_is) | exact BindsTo.of_eq rfl | exact binds_K (by k_in) rfl (by k_is) rfl rfl rfl); (case c5 => decide); (case kB => exact locs rfl); (case c2 => exact rfl); (case c3 => exact rfl); (case c4 => exact rfl); k_whole; intro g' L' h' FG' F' N' B' X' T'; (try dsimp only); (try k_lift B'); (try k_fold)))
local macro_rules | `(tactic| walk_at "ite") => `(tactic| (k_here; first
  | (refine' ite_pos ?hc9 ?_; (case hc9 => ((try simp only [bne_iff_ne, beq_iff_eq, Bool.not_eq_true', bne_eq_false_iff_eq, beq_eq_false_iff_ne, decide_eq_true_eq, decide_eq_false_iff_not, ne_eq, Bool.and_eq_true, Bool.or_eq_true, not_false_eq_true]); first | done | omega)); walk_say "PRUNED +")
  | (refine' ite_neg ?hc9 ?_; (case hc9 => ((try simp only [bne_iff_ne, beq_iff_eq, Bool.not_eq_true', bne_eq_false_iff_eq, beq_eq_false_iff_ne, decide_eq_true_eq, decide_eq_false_iff_not, ne_eq, Bool.and_eq_true, Bool.or_eq_true, not_false_eq_true]); first | done | omega)); walk_say "PRUNED -")))
local macro_rules | `(tactic| ke_read) => `(tactic| first | exact TupIn.reads (by with_reducible assumption) (by k_asm) (by k_asm) (by k_asm) | exact TupIn.reads TupIn.zero (by k_asm) (by k_asm) (by k_asm) | exact TupIn.reads TupIn.inf (by k_asm) (by k_asm) (by k_asm) | exact TupIn.reads TupIn.ninf (by k_asm) (by k_asm) (by k_asm) | exact TupIn.reads TupIn.nan (by k_asm) (by k_asm) (by k_asm))
local macro_rules | `(tactic| walk_at "compareOp Eq ref ref") => `(tactic| (k_here; (with_reducible show wpAny _ _ (compareOp CmpOp.Eq (Value.ref _) (Value.ref _)) _ _ _); k_dflt (refine eq_dataH (by ke_read) (by ke_read) rfl rfl (by ktr_units) ?_); ke_norm))
local macro_rules | `(tactic| walk_at "compareOp NotEq ref ref") => `(tactic| (k_here; (with_reducible show wpAny _ _ (compareOp CmpOp.NotEq (Value.ref _) (Value.ref _)) _ _ _); k_dflt (refine ne_dataH (by ke_read) (by ke_read) rfl rfl (by ktr_units) ?_); ke_norm))
local macro_rules | `(tactic| walk_at "binaryOp LShift int int") => `(tactic| (k_here; (with_reducible refine lshift_int ?kn ?ks ?_); (case kn => omega); (case ks => omega)))
local macro_rules | `(tactic| walk_at "binaryOp Mult int int") => `(tactic| (k_here; (with_reducible refine mul_int ?_ ?km); rotate_left; (case km => exact IntMulOk.of_le (m := 60000000) (n := 60000000) (by omega) (by omega) (by decide))))
local macro_rules | `(tactic| walk_at "eval Name") => `(tactic| (k_here; (with_reducible show wpAny _ _ (eval (Expr.Name _ _) (envOf _ _ _ _ _)) _ _ _); name_kind "local"; k_dflt (refine' ld ?k1 ?k2 ?_; (case k1 => k_asm); (case k2 => exact rfl); k_whole)))
local macro_rules | `(tactic| walk_at "binaryOp RShift int int") => `(tactic| (k_here; (with_reducible refine rshift_int ?kn ?_); (case kn => omega)))
local macro_rules | `(tactic| walk_at "inplaceOp Pow int int") => `(tactic| (k_here; (with_reducible refine ipow_int ?kn ?ks ?_); (case kn => omega); (case ks => omega)))
local macro_rules | `(tactic| walk_at "inplaceOp Mult int int") => `(tactic| (k_here; (with_reducible refine imul_int ?_ ?km); rotate_left; (case km => exact IntMulOk.of_le (m := 60000000) (n := 60000000) (by omega) (by omega) (by decide))))
local macro_rules | `(tactic| walk_at "subscriptTail") => `(tactic| (k_here; (with_reducible show wpAny _ _ (subscriptTail _ _ (Value.ref _) (Value.int _ _)) _ _ _); k_dflt (refine' item_tupleT ?k1 ?k2 ?k3 ?k4 ?k5 ?_ ?k6; (case k1 => first | exact TupIn.isTup (by with_reducible assumption) (by k_asm) (by k_asm) (by k_asm)); (case k2 => decide); (case k3 => decide); (case k4 => exact rfl); (case k5 => exact rfl); (case k6 => with_unfolding_all rfl); k_whole)))
/-- tuples; tuples and lists: what a contract's answer speaks of -/
def IsT (o : Obj) : Prop := o.cls = .type "tuple" ∧ ∃ vs n, o.data = .seq vs n
def Tl (o : Obj) : Prop := (o.cls = .type "tuple" ∨ o.cls = .type "list") ∧ ∃ vs n, o.data = .seq vs n
/-- all entries of a that C speaks of stand in b -/
def SubC (C : Obj → Prop) (a b : List (Addr × Obj)) : Prop := ∀ p ∈ a, C p.2 → p ∈ b
abbrev SubT (a b : List (Addr × Obj)) : Prop := SubC IsT a b
theorem SubC.toT {a b : List (Addr × Obj)} (h : SubC Tl a b) : SubT a b := fun p hp hc => h p hp ⟨.inl hc.1, hc.2⟩
theorem cell_notTl {o : Obj} {v : Option Value} (h : o.data = .cell v) : ¬ Tl o := fun ⟨_, _, _, e⟩ => by rw [h] at e; cases e
theorem notT_of {o : Obj} (h : ¬ Tl o) : ¬ IsT o := fun e => h ⟨.inl e.1, e.2⟩
theorem TupIn.sub {a b : List (Addr × Obj)} {x : Addr} {arr : Array Value} (h : TupIn a x arr) (hs : SubT a b) : TupIn b x arr := by
  cases h with
  | zero => exact .zero
  | one => exact .one
  | nan => exact .nan
  | inf => exact .inf
  | ninf => exact .ninf
  | mem hm => exact .mem (hs _ hm ⟨rfl, _, _, rfl⟩)
theorem T4.sub {n n' : List (Addr × Obj)} {v : Value} {a b c d : Int} (h : T4 n v a b c d) (hs : SubT n n') : T4 n' v a b c d := by
  obtain ⟨x, t1, t2, t3, t4, e, h⟩ := h
  exact ⟨x, t1, t2, t3, t4, e, h.sub hs⟩
theorem NumIn.sub {n n' : List (Addr × Obj)} {v : Value} {d : Dyadic} (h : NumIn n v d) (hs : SubT n n') : NumIn n' v d := by
  obtain ⟨a, b, c, e, h, k⟩ := h
  exact ⟨a, b, c, e, h.sub hs, k⟩

/-- no entry of X stands at an address of pre -/
def Off (pre X : List (Addr × Obj)) : Prop := ∀ p ∈ pre, ∀ q ∈ X, q.1 ≠ p.1

/-- a call by its contract, where the ledger is some entries that are no tuples, and the rest -/
theorem Spec.useP (C : Obj → Prop) {w : World} {mean : ExcName → Option Value} {mg mb : Str → Option Value} {f : Addr} {dd uu : Nat} {vs : List Value}
    {Pre : List (Addr × Obj) → Prop} {Post : List (Addr × Obj) → Value → Prop} (S : Spec w mean mg mb f dd uu vs Pre Post) (pre : List (Addr × Obj)) {X : List (Addr × Obj)}
    {dp un : Nat} {gd : Option (List Code)} {cn : Str} {cs : Scope} {a : Addr} {ccd : Value} {cl : List (Str × Addr)} {outer : List Env} {A₀ : Around} {base h₀ : Heap} {L : Addr} {m : Str → Option Value}
    {s : Shared} {Q E : Value → Shared → Prop}
    (B : Below A₀ base outer h₀) (F : Fr h₀ L s.heap m) (K : (Mine.hd.heap_39 w.params).In h₀) (N : News h₀ L s.heap (pre ++ X)) (T : Top Mine.hd.view_39 LL mean mg mb h₀) (hk : cs.kind = .function)
    (off : Off pre X) (hnt : ∀ p ∈ pre, ¬ C p.2) (hpre : Pre (pre ++ X)) (hPost : ∀ n n' r, SubC C n n' → Post n r → Post n' r) (hd : dp + dd < recursionLimit) (hu : un + uu < cLine)
    (ret : ∀ r X' h' tk', Fr h₀ L h' m → News h₀ L h' (pre ++ X') → Ext X X' → Off pre X' → Post X' r → Q r { s with heap := h', toks := tk' }) :
    wpAny (model PySem.Challenge.rw_aj5013_01.row.prog w) (ktrTop dp un gd cn cs L a ccd cl outer) (call (.ref f) vs) Q E s := by
  classical
  refine S.use B F K N T hk hpre hd hu fun r n' h' tk' F' N' x hq => ?_
  have keepPre : ∀ p ∈ pre, p ∈ n' := fun p hp => x.1 p (List.mem_append.mpr (.inl hp))
  have memX : ∀ q, q ∈ n'.filter (fun q => decide (∀ p ∈ pre, q.1 ≠ p.1)) ↔ q ∈ n' ∧ ∀ p ∈ pre, q.1 ≠ p.1 := fun q => by rw [List.mem_filter, decide_eq_true_eq]
  refine ret r (n'.filter fun q => decide (∀ p ∈ pre, q.1 ≠ p.1)) h' tk' F' ?_ ⟨?_, ?_⟩ ?_ ?_
  · intro p hp
    rcases List.mem_append.mp hp with hp | hp
    · exact N' p (keepPre p hp)
    · exact N' p ((memX p).mp hp).1
  · intro q hq'
    exact (memX q).mpr ⟨x.1 q (List.mem_append.mpr (.inr hq')), fun p hp => off p hp q hq'⟩
  · intro q hq'
    obtain ⟨h1, h2⟩ := (memX q).mp hq'
    rcases x.2 q h1 with h3 | h3
    · rcases List.mem_append.mp h3 with h3 | h3
      · exact absurd rfl (h2 q h3)
      · exact .inl h3
    · exact .inr fun p hp => h3 p (List.mem_append.mpr (.inr hp))
  · intro p hp q hq'
    exact ((memX q).mp hq').2 p hp
  · refine hPost n' _ r (fun q hq' hc => (memX q).mpr ⟨hq', fun p hp e => ?_⟩) hq
    have e1 := (N' q hq').1
    have e2 := (N' p (keepPre p hp)).1
    rw [e, e2] at e1
    exact hnt p hp (by rw [Option.some.inj e1]; exact hc)

section
variable {prog : Program} {w : World} {A : Around} {E : Value → Shared → Prop} {s : Shared} {env : Env} {h₀ : Heap} {x : Str} {body : List Stmt} {Q : Flow → Shared → Prop}
/-- the frame within a turn: the loop's name, the names that are followed, those that are stored, the rest -/
abbrev frT (x : Str) (v : Value) (ps : List (Str × Value)) (stored : List Str) (u m₀ : Str → Option Value) : Str → Option Value := fun y => if y = x then some v else kstB (fun z => if stored.contains z then u z else m₀ z) ps y
abbrev frO (x : Str) (ps : List (Str × Value)) (stored : List Str) (u m₀ : Str → Option Value) : Str → Option Value := fun y => if y = x then u y else kstB (fun z => if stored.contains z then u z else m₀ z) ps y
/-- m and m₀ differ at most at the loop's name, the followed names and the stored ones -/
def Agr (x : Str) (ps : List (Str × Value)) (stored : List Str) (m m₀ : Str → Option Value) : Prop := ∀ z, z ≠ x → (∀ p ∈ ps, z ≠ p.1) → stored.contains z = false → m z = m₀ z
theorem Agr.base {x : Str} {v : Value} {ps ps' : List (Str × Value)} {stored : List Str} {u m₀ : Str → Option Value} (hn : ps'.map (·.1) = ps.map (·.1)) : Agr x ps' stored (frT x v ps stored u m₀) m₀ := by
  intro z h1 h2 h3
  have h4 : ∀ p ∈ ps, z ≠ p.1 := fun p hp e => by
    have : p.1 ∈ ps'.map (·.1) := by rw [hn]; exact List.mem_map.mpr ⟨p, hp, rfl⟩
    obtain ⟨q, hq, e'⟩ := List.mem_map.mp this
    exact h2 q hq (e.trans e'.symm)
  show (if z = x then some v else kstB (fun z => if stored.contains z then u z else m₀ z) ps z) = m₀ z
  rw [if_neg h1]
  clear hn h2
  induction ps with
  | nil => show (if stored.contains z then u z else m₀ z) = m₀ z; rw [h3]; rfl
  | cons p r ih =>
    show (if z = p.1 then some p.2 else kstB _ r z) = m₀ z
    rw [if_neg (h4 p (.head _))]
    exact ih fun q hq => h4 q (.tail _ hq)
theorem Agr.st {x y : Str} {o : Option Value} {ps : List (Str × Value)} {stored : List Str} {m m₀ : Str → Option Value} (h : Agr x ps stored m m₀) (hy : y = x ∨ (∃ p ∈ ps, y = p.1) ∨ stored.contains y = true) : Agr x ps stored (fun z => if z = y then o else m z) m₀ := by
  intro z h1 h2 h3
  have hne : z ≠ y := fun e => by
    rcases hy with hy | ⟨p, hp, hy⟩ | hy
    · exact h1 (e.trans hy)
    · exact h2 p hp (e.trans hy)
    · rw [e, hy] at h3; cases h3
  show (if z = y then o else m z) = m₀ z
  rw [if_neg hne]; exact h z h1 h2 h3
/-- what a turn leaves behind -/
def TurnEnds {σ : Type} (h₀ : Heap) (L I : Addr) (oI : Obj) (x : Str) (Led : σ → List (Addr × Obj)) (ps : σ → List (Str × Value)) (stored : List Str) (m₀ : Str → Option Value) (adr : List Addr) (X : List (Addr × Obj)) (Pn : List (Addr × Obj) → σ → Prop) (s₁ s₂ : Shared) : Prop :=
  ∃ h' tk m' c' X', s₂ = { s₁ with heap := h', toks := tk } ∧ Fr h₀ L h' m' ∧ News h₀ L h' ((I, oI) :: (Led c' ++ X')) ∧ Ext X X' ∧ (∀ p ∈ X', p.1 ∉ adr ∧ p.1 ≠ I) ∧ (∀ p ∈ ps c', m' p.1 = some p.2) ∧
    Agr x (ps c') stored m' m₀ ∧ Pn X' c'
def TurnPost' {σ : Type} (h₀ : Heap) (L I : Addr) (oI : Obj) (x : Str) (Led : σ → List (Addr × Obj)) (ps : σ → List (Str × Value)) (stored : List Str) (m₀ : Str → Option Value) (adr : List Addr) (X : List (Addr × Obj)) (Pn : List (Addr × Obj) → σ → Prop) (s₁ : Shared) (Q : Flow → Shared → Prop) (f : Flow) (s₂ : Shared) : Prop :=
  match f with
  | .ret v => Q (.ret v) s₂
  | .brk => Q .next s₂
  | _ => TurnEnds h₀ L I oI x Led ps stored m₀ adr X Pn s₁ s₂

theorem aj_loop {σ : Type} {I : Addr} {fp : List Addr} {n : Nat} {PV : Nat → Value → Prop} {St : Nat → Heap → Prop} {m₀ : Str → Option Value} {X₀ : List (Addr × Obj)}
    (Led : σ → List (Addr × Obj)) (adr : List Addr) (ps : σ → List (Str × Value)) (stored : List Str) (P : Nat → List (Addr × Obj) → σ → Prop) (c₀ : σ)
    (W : Walks prog w A I fp [I] n PV St) (hIf : I ∈ fp) (hfp : ∀ b ∈ fp, b ≠ I → ∃ o, (b, o) ∈ X₀) (hLf : env.locals ∉ fp) (hI₀ : h₀.get? I = none) (hcls : ∀ i h, St i h → ∃ o, h.get? I = some o ∧ ¬ Tl o)
    (hst : St 0 s.heap) (hadr : ∀ c, (Led c).map (·.1) = adr) (F : Fr h₀ env.locals s.heap m₀) (N : News h₀ env.locals s.heap (Led c₀ ++ X₀)) (hI : ∀ p ∈ Led c₀ ++ X₀, p.1 ≠ I) (hoff : ∀ p ∈ X₀, p.1 ∉ adr)
    (hps : ∀ p ∈ ps c₀, m₀ p.1 = some p.2) (hP : P 0 X₀ c₀)
    (turn : ∀ i v c X (u : Str → Option Value) h tk oI, i < n → PV i v → Ext X₀ X → (∀ p ∈ X, p.1 ∉ adr ∧ p.1 ≠ I) → I ∉ adr → ¬ Tl oI → P i X c → Fr h₀ env.locals h (frT x v (ps c) stored u m₀) → News h₀ env.locals h ((I, oI) :: (Led c ++ X)) →
      wpAny (model prog w) A (execs body env) (TurnPost' h₀ env.locals I oI x Led ps stored m₀ adr X (P (i + 1)) { s with heap := h, toks := tk } Q) E { s with heap := h, toks := tk })
    (done : ∀ c X (u : Str → Option Value) h tk, Ext X₀ X → (∀ p ∈ X, p.1 ∉ adr) → P n X c → Fr h₀ env.locals h (frO x (ps c) stored u m₀) → News h₀ env.locals h (Led c ++ X) → Q .next { s with heap := h, toks := tk }) :
    LoopAtV prog w A h₀ env x body Q E (.ref I) s := by
  have hIadr : I ∉ adr := fun h => by
    rw [← hadr c₀] at h
    obtain ⟨p, hp, e⟩ := List.mem_map.mp h
    exact hI p (List.mem_append.mpr (.inl hp)) e
  refine ⟨I, fp, [I], n, PV, St, m₀, Led c₀ ++ X₀, (fun i m nx => ∃ c X, nx = Led c ++ X ∧ Ext X₀ X ∧ (∀ p ∈ X, p.1 ∉ adr) ∧ (∀ p ∈ ps c, m p.1 = some p.2) ∧ (∀ z, z ≠ x → (∀ p ∈ ps c, z ≠ p.1) → stored.contains z = false → m z = m₀ z) ∧ P i X c),
    rfl, W, hLf, ?_, ?_, hst, F, N, ⟨c₀, X₀, rfl, Ext.refl, hoff, hps, fun _ _ _ _ => rfl, hP⟩, ?_, ?_⟩
  · intro b hb; rw [List.mem_singleton.mp hb]; exact hI₀
  · intro p hp hb; exact hI p hp (List.mem_singleton.mp hb)
  · rintro i v m₁ nx s₁ own ⟨h1, tk1, rfl⟩ hin hv ⟨c, X, rfl, hx, hX, hm, hr, hp⟩ hne hown hget hall hst1 F1 N1
    obtain ⟨oI, hoI, hnt⟩ := hcls _ _ hst1
    have hmem := hall I hIf hI₀ oI hoI
    have hneI : ∀ p ∈ Led c ++ X, p.1 ≠ I := fun p hp' e => hne p hp' (List.mem_singleton.mpr e)
    have N2 : News h₀ env.locals h1 ((I, oI) :: (Led c ++ X)) := fun p hp' => by
      rcases List.mem_cons.mp hp' with rfl | hp'
      · exact N1 _ (List.mem_append.mpr (.inl hmem))
      · exact N1 p (List.mem_append.mpr (.inr hp'))
    refine wpAny_mono (turn i v c X m₁ h1 tk1 oI hin hv hx (fun p hp' => ⟨hX p hp', hneI p (List.mem_append.mpr (.inr hp'))⟩) hIadr hnt hp (kst_fr hm hr F1) N2) (fun f s₂ hq => ?_) fun _ _ e => e
    have fin : TurnEnds h₀ env.locals I oI x Led ps stored m₀ adr X (P (i + 1)) { s with heap := h1, toks := tk1 } s₂ → LoopStepU h₀ env.locals [I] own (fun m nx => ∃ c X, nx = Led c ++ X ∧ Ext X₀ X ∧ (∀ p ∈ X, p.1 ∉ adr) ∧ (∀ p ∈ ps c, m p.1 = some p.2) ∧ (∀ z, z ≠ x → (∀ p ∈ ps c, z ≠ p.1) → stored.contains z = false → m z = m₀ z) ∧ P (i + 1) X c) { s with heap := h1, toks := tk1 } .next s₂ := by
      rintro ⟨h', tk', m', c', X', rfl, F', N', hx', hX', hm', hr', hp'⟩
      refine LoopStepU.intro (news₂ := Led c' ++ X') F' (fun p hp => ?_) (fun p hp hb => ?_) ⟨c', X', rfl, hx.trans hx', fun p hp => (hX' p hp).1, hm', hr', hp'⟩
      · rcases List.mem_append.mp hp with hp | hp
        · by_cases e : p.1 = I
          · have e1 : h1.get? p.1 = some p.2 := hget p hp
            have e2 : h1.get? I = some oI := hoI
            rw [e, e2] at e1
            have e3 : p = (I, oI) := Prod.ext e (Option.some.inj e1).symm
            rw [e3]; exact N' _ (.head _)
          · obtain ⟨o, ho⟩ := hfp p.1 (hown p hp) e
            have e1 : h1.get? p.1 = some p.2 := hget p hp
            have e2 : h1.get? p.1 = some o := (N1 (p.1, o) (List.mem_append.mpr (.inr (List.mem_append.mpr (.inr (hx.1 _ ho)))))).1
            rw [e2] at e1
            have e3 : p = (p.1, o) := Prod.ext rfl (Option.some.inj e1).symm
            rw [e3]; exact N' _ (.tail _ (List.mem_append.mpr (.inr (hx'.1 _ (hx.1 _ ho)))))
        · exact N' p (.tail _ hp)
      · have e := List.mem_singleton.mp hb
        rcases List.mem_append.mp hp with hp | hp
        · refine hIadr ?_
          rw [← hadr c', ← e]
          exact List.mem_map.mpr ⟨p, hp, rfl⟩
        · exact (hX' p hp).2 e
    cases f with
    | ret v => exact .ret hq
    | brk => exact .brk hq
    | next => exact .next (fin hq)
    | cont => exact .cont (fin hq)
  · rintro h' tk m' nx F' N' _ ⟨c, X, rfl, hx, hX, hm, hr, hp⟩
    exact done c X m' h' tk hx hX hp (kst_frOut hm hr F') N'

/-- a for over a list of the ledger -/
theorem aj_list {σ : Type} {l : Addr} {vs : List Value} {nn : Nat} {m₀ : Str → Option Value} {X₀ : List (Addr × Obj)}
    (Led : σ → List (Addr × Obj)) (adr : List Addr) (ps : σ → List (Str × Value)) (stored : List Str) (P : Nat → List (Addr × Obj) → σ → Prop) (c₀ : σ)
    (hh : A.handled = none) (hl : (l, W.listOf vs.toArray nn) ∈ X₀) (hadr : ∀ c, (Led c).map (·.1) = adr) (F : Fr h₀ env.locals s.heap m₀) (N : News h₀ env.locals s.heap (Led c₀ ++ X₀)) (hoff : ∀ p ∈ X₀, p.1 ∉ adr)
    (hps : ∀ p ∈ ps c₀, m₀ p.1 = some p.2) (hP : P 0 X₀ c₀)
    (turn : ∀ i v c X (u : Str → Option Value) h tk I oI, vs[i]? = some v → Ext X₀ X → (∀ p ∈ X, p.1 ∉ adr ∧ p.1 ≠ I) → I ∉ adr → ¬ Tl oI → P i X c → Fr h₀ env.locals h (frT x v (ps c) stored u m₀) → News h₀ env.locals h ((I, oI) :: (Led c ++ X)) →
      wpAny (model prog w) A (execs body env) (TurnPost' h₀ env.locals I oI x Led ps stored m₀ adr X (P (i + 1)) { s with heap := h, toks := tk } Q) E { s with heap := h, toks := tk })
    (done : ∀ c X (u : Str → Option Value) h tk, Ext X₀ X → (∀ p ∈ X, p.1 ∉ adr) → P vs.length X c → Fr h₀ env.locals h (frO x (ps c) stored u m₀) → News h₀ env.locals h (Led c ++ X) → Q .next { s with heap := h, toks := tk }) :
    wpAny (model prog w) A (pyIter (.ref l)) (fun it s₂ => LoopAtV prog w A h₀ env x body Q E it s₂) E s := by
  have hget := (N _ (List.mem_append.mpr (.inr hl))).1
  have hls : s.heap.IsList l vs.toArray := ⟨_, hget, rfl, nn, rfl⟩
  have hne : l ≠ s.heap.objs.size := Nat.ne_of_lt (Heap.lt_size hget)
  refine wpAny_pyIter_list hls ?_
  have Wk := Walks.list (prog := prog) (w := w) hh s.heap.objs.size l hne vs.toArray
  rw [List.size_toArray] at Wk
  refine aj_loop Led adr ps stored P c₀ Wk (.head _) ?_ ?_ (next_is_new F) ?_ ⟨⟨_, Heap.get?_push_size _ rfl, rfl, rfl⟩, hls.push _⟩ hadr (F.push _) (fun p hp => ⟨Heap.get?_push_of_some _ (N p hp).1, (N p hp).2⟩) (fun p hp => Nat.ne_of_lt (Heap.lt_size (N p hp).1)) hoff hps hP ?_ ?_
  · intro b hb hbI
    rcases List.mem_cons.mp hb with h | h
    · exact absurd h hbI
    · rw [List.mem_singleton.mp h]; exact ⟨_, hl⟩
  · intro hm
    rcases List.mem_cons.mp hm with h | h
    · exact absurd F.ns.lt (by rw [h]; exact Nat.lt_irrefl _)
    · exact (N _ (List.mem_append.mpr (.inr hl))).2.1 (List.mem_singleton.mp h).symm
  · rintro i h ⟨⟨o, e1, _, e2⟩, _⟩
    refine ⟨o, e1, fun h => ?_⟩
    obtain ⟨_, _, _, h⟩ := h
    rw [e2] at h; cases h
  · intro i v c X u h tk oI hi hv
    exact turn i v c X u h tk _ oI (by simpa using hv)
  · exact done

/-- a for over a range by ones -/
theorem aj_range {σ : Type} {r : Addr} {a₀ b₀ : Int} {t₀ u₀ v₀ : Tok} {n : Nat} {m₀ : Str → Option Value} {X₀ : List (Addr × Obj)}
    (Led : σ → List (Addr × Obj)) (adr : List Addr) (ps : σ → List (Str × Value)) (stored : List Str) (P : Nat → List (Addr × Obj) → σ → Prop) (c₀ : σ)
    (hh : A.handled = none) (hr : IsRange s.heap r a₀ b₀ 1 t₀ u₀ v₀) (hsmall : Builtin.Range.small a₀ b₀ 1 = true) (hsz : Builtin.Range.rangeSize a₀ b₀ 1 = (n : Int)) (hadr : ∀ c, (Led c).map (·.1) = adr) (F : Fr h₀ env.locals s.heap m₀) (N : News h₀ env.locals s.heap (Led c₀ ++ X₀)) (hoff : ∀ p ∈ X₀, p.1 ∉ adr)
    (hps : ∀ p ∈ ps c₀, m₀ p.1 = some p.2) (hP : P 0 X₀ c₀)
    (turn : ∀ i t c X (u : Str → Option Value) h tk I oI, i < n → Ext X₀ X → (∀ p ∈ X, p.1 ∉ adr ∧ p.1 ≠ I) → I ∉ adr → ¬ Tl oI → P i X c → Fr h₀ env.locals h (frT x (.int (a₀ + (i : Int)) t) (ps c) stored u m₀) → News h₀ env.locals h ((I, oI) :: (Led c ++ X)) →
      wpAny (model prog w) A (execs body env) (TurnPost' h₀ env.locals I oI x Led ps stored m₀ adr X (P (i + 1)) { s with heap := h, toks := tk } Q) E { s with heap := h, toks := tk })
    (done : ∀ c X (u : Str → Option Value) h tk, Ext X₀ X → (∀ p ∈ X, p.1 ∉ adr) → P n X c → Fr h₀ env.locals h (frO x (ps c) stored u m₀) → News h₀ env.locals h (Led c ++ X) → Q .next { s with heap := h, toks := tk }) :
    wpAny (model prog w) A (pyIter (.ref r)) (fun it s₂ => LoopAtV prog w A h₀ env x body Q E it s₂) E s := by
  refine wpAny_pyIter_range hr hsmall ?_
  have Wk := Walks.range (prog := prog) (w := w) hh s.heap.objs.size a₀ 1 n
  refine aj_loop Led adr ps stored P c₀ Wk (.head _) ?_ ?_ (next_is_new F) ?_ (by show IsRangeIter _ _ _ _ _; rw [hsz]; simpa using Heap.get?_push_size _ rfl) hadr (F.push _) (fun p hp => ⟨Heap.get?_push_of_some _ (N p hp).1, (N p hp).2⟩) (fun p hp => Nat.ne_of_lt (Heap.lt_size (N p hp).1)) hoff hps hP ?_ ?_
  · intro b hb hbI
    exact absurd (List.mem_singleton.mp hb) hbI
  · intro hm
    exact absurd F.ns.lt (by rw [List.mem_singleton.mp hm]; exact Nat.lt_irrefl _)
  · intro i h hi
    refine ⟨_, hi, fun h => ?_⟩
    obtain ⟨_, _, _, h⟩ := h
    cases h
  · rintro i v c X u h tk oI hi ⟨t, rfl⟩
    have e : a₀ + (i : Int) * 1 = a₀ + (i : Int) := by omega
    rw [e]
    exact turn i t c X u h tk _ oI hi
  · exact done
end
end

section
local macro_rules | `(tactic| walk_at "pad") => `(tactic| skip)
local macro_rules | `(tactic| kun_tup) => `(tactic| exact TupIn.isTup (by assumption) (by k_asm) (by k_asm) (by k_asm))
local macro_rules | `(tactic| cell_enter) => `(tactic| (refine' code_def ?k1 ?k2 ?k3 ?k4 ?k5 ?kA ?kF ?kK ?k6 ?k7 ?k8 ?k9 ?kB ?_ ?c2 ?c3 ?c4 ?c5; (case kA => exact rfl); (case kF => exact rfl); (case kK => assumption); (case k1 => k_asm); (case k2 => k_asm); (case k3 => k_asm); (case k4 => k_asm); (case k5 => k_asm); (case k6 => k_is); (case k7 => k_is); (case k8 => ktr_room); (case k9 => first | exact (by assumption : BindAs _ _ _ _) _ _ _ _ _ (by k_in) (by k_is) | exact BindsTo.of_eq rfl | exact binds_K (by k_in) rfl (by k_is) rfl rfl rfl); (case c5 => decide); (case kB => exact locs rfl); (case c2 => exact rfl); (case c3 => exact rfl); (case c4 => exact rfl); k_whole; intro g' L' h' FG' F' N' B' X' T'; (try dsimp only); (try k_lift B'); (try k_fold)))
local macro_rules | `(tactic| walk_at "ite") => `(tactic| (k_here; first
  | (refine' ite_pos ?hc9 ?_; (case hc9 => ((try simp only [bne_iff_ne, beq_iff_eq, Bool.not_eq_true', bne_eq_false_iff_eq, beq_eq_false_iff_ne, decide_eq_true_eq, decide_eq_false_iff_not, ne_eq, Bool.and_eq_true, Bool.or_eq_true, not_false_eq_true]); first | done | omega)); walk_say "PRUNED +")
  | (refine' ite_neg ?hc9 ?_; (case hc9 => ((try simp only [bne_iff_ne, beq_iff_eq, Bool.not_eq_true', bne_eq_false_iff_eq, beq_eq_false_iff_ne, decide_eq_true_eq, decide_eq_false_iff_not, ne_eq, Bool.and_eq_true, Bool.or_eq_true, not_false_eq_true]); first | done | omega)); walk_say "PRUNED -")))
local macro_rules | `(tactic| ke_read) => `(tactic| first | exact TupIn.reads (by with_reducible assumption) (by k_asm) (by k_asm) (by k_asm) | exact TupIn.reads TupIn.zero (by k_asm) (by k_asm) (by k_asm) | exact TupIn.reads TupIn.inf (by k_asm) (by k_asm) (by k_asm) | exact TupIn.reads TupIn.ninf (by k_asm) (by k_asm) (by k_asm) | exact TupIn.reads TupIn.nan (by k_asm) (by k_asm) (by k_asm))
local macro_rules | `(tactic| walk_at "compareOp Eq ref ref") => `(tactic| (k_here; (with_reducible show wpAny _ _ (compareOp CmpOp.Eq (Value.ref _) (Value.ref _)) _ _ _); k_dflt (refine eq_dataH (by ke_read) (by ke_read) rfl rfl (by ktr_units) ?_); ke_norm))
local macro_rules | `(tactic| walk_at "compareOp NotEq ref ref") => `(tactic| (k_here; (with_reducible show wpAny _ _ (compareOp CmpOp.NotEq (Value.ref _) (Value.ref _)) _ _ _); k_dflt (refine ne_dataH (by ke_read) (by ke_read) rfl rfl (by ktr_units) ?_); ke_norm))
local macro_rules | `(tactic| walk_at "binaryOp LShift int int") => `(tactic| (k_here; (with_reducible refine lshift_int ?kn ?ks ?_); (case kn => omega); (case ks => omega)))
local macro_rules | `(tactic| walk_at "binaryOp Mult int int") => `(tactic| (k_here; (with_reducible refine mul_int ?_ ?km); rotate_left; (case km => exact IntMulOk.of_le (m := 60000000) (n := 60000000) (by omega) (by omega) (by decide))))
local macro_rules | `(tactic| walk_at "eval Name") => `(tactic| (k_here; (with_reducible show wpAny _ _ (eval (Expr.Name _ _) (envOf _ _ _ _ _)) _ _ _); name_kind "local"; k_dflt (refine' ld ?k1 ?k2 ?_; (case k1 => k_asm); (case k2 => exact rfl); k_whole)))
local macro_rules | `(tactic| walk_at "binaryOp RShift int int") => `(tactic| (k_here; (with_reducible refine rshift_int ?kn ?_); (case kn => omega)))
local macro_rules | `(tactic| walk_at "inplaceOp Pow int int") => `(tactic| (k_here; (with_reducible refine ipow_int ?kn ?ks ?_); (case kn => omega); (case ks => omega)))
local macro_rules | `(tactic| walk_at "inplaceOp Mult int int") => `(tactic| (k_here; (with_reducible refine imul_int ?_ ?km); rotate_left; (case km => exact IntMulOk.of_le (m := 60000000) (n := 60000000) (by omega) (by omega) (by decide))))
local macro_rules | `(tactic| walk_at "subscriptTail") => `(tactic| (k_here; (with_reducible show wpAny _ _ (subscriptTail _ _ (Value.ref _) (Value.int _ _)) _ _ _); k_dflt (refine' item_tupleT ?k1 ?k2 ?k3 ?k4 ?k5 ?_ ?k6; (case k1 => first | exact TupIn.isTup (by with_reducible assumption) (by k_asm) (by k_asm) (by k_asm)); (case k2 => decide); (case k3 => decide); (case k4 => exact rfl); (case k5 => exact rfl); (case k6 => with_unfolding_all rfl); k_whole)))
local macro_rules | `(tactic| walk_at "call ref") => `(tactic| (k_here; (with_reducible show wpAny _ _ (call (Value.ref 53) _) _ _ _); k_dflt (refine' Spec.use (fme_walk _ _ _ _ _ _ _ _ _ _ _) ?k1 ?k2 ?k3 ?k4 ?k5 ?kK ?kp ?kd ?ku ?_); (case k1 => k_asm); (case k2 => k_asm); (case k3 => k_asm); (case k4 => k_asm); (case k5 => k_asm); (case kK => first | exact rfl | assumption); (case kp => trivial); (case kd => ktr_room); (case ku => ktr_units); k_whole; intro r9 tl9 h9 tk9 F9 N9 l9 p9; skip; (try dsimp only); walk_say "CONTRACT 53"))
local macro_rules | `(tactic| walk_at "exec For Name Name cons nil") => `(tactic| (k_here; (rename Fr _ _ _ _ => lF'); (with_unfolding_all refine' For_invVF lF' ?k1 ?k2 ?_; (case k1 => exact rfl); (case k2 => exact rfl); k_whole)))
set_option maxRecDepth 100000 in
set_option maxHeartbeats 8000000 in
theorem sum_walk (w : World) (mean : ExcName → Option Value) (mg mb : Str → Option Value) (l : Addr) (nn : Nat) (vs : List Value) (ds : List Dyadic) (hlen : vs.length ≤ 10) (hbd : ∀ d ∈ ds, Bd 1000 d) :
    Spec w mean mg mb 123 18 280 [.ref l] (fun news => (l, W.listOf vs.toArray nn) ∈ news ∧ NumsIn news vs ds) (fun news r => NumIn news r ds.sum) := by
  unfold Spec
  w_top off
  k_fill
  intro dp un gd cn cs a₀ ccd cl outer A₀ base h₀ L m news s Q E B F X N T hk hpre hdp hun hret
  obtain ⟨hl, hvs⟩ := hpre
  refine wpAny_call ?_
  k_dflt cell_enter
  k_steps
  rename Fr _ _ _ _ => F1
  rename News _ _ _ _ => N1
  refine aj_list (σ := Int × Int × Tok × Tok) (fun _ => []) [] (fun c => [(Str.ofString "man", Value.int c.1 c.2.2.1), (Str.ofString "exp", Value.int c.2.1 c.2.2.2)])
    [Str.ofString "xsign", Str.ofString "xman", Str.ofString "xexp", Str.ofString "xbc", Str.ofString "delta"] (fun i _ c => SumInv ds i c.1 c.2.1) (0, 0, ?tk1, ?tk2) rfl hl (fun _ => rfl) F1 N1 (fun _ _ h => nomatch h) ?hps ?hP ?turn ?done
  case hps =>
    intro p hp
    rcases List.mem_cons.mp hp with rfl | hp
    · exact rfl
    · rw [List.mem_singleton.mp hp]; exact rfl
  case hP => exact ⟨by simp, by simp, by simp, by simp [show Builtin.Int.intBits 0 = 0 by decide]⟩
  case turn =>
    intro i v c X u h tk I oI hv hx hX hI hnt hP F2 N2
    obtain ⟨d, hd, hn⟩ := hvs.get hv
    obtain ⟨a, b, cc, e, ⟨x, t1, t2, t3, t4, rfl, hx4⟩, hC, rfl, hb1, hb2, hb3⟩ := (hn.mono hx.1).open (hbd _ (List.mem_of_getElem? hd)) (by decide)
    obtain ⟨ha, hb, hz, he, ho⟩ := hC.facts
    obtain ⟨man, exp, t5, t6⟩ := c
    obtain ⟨hs1, hs2, hs3, hs4⟩ := hP
    have hil : i < vs.length := (List.getElem?_eq_some_iff.mp hv).1
    replace N2 : News _ _ _ ((I, oI) :: X) := N2
    replace hx4 := hx4.mono (news' := (I, oI) :: X) (fun p hp => .tail _ hp)
    dsimp only at hs1 hs2 hs3 hs4
    replace F2 : Fr _ _ _ (frT (Str.ofString "x") (Value.ref x) [(Str.ofString "man", Value.int man t5), (Str.ofString "exp", Value.int exp t6)] _ u _) := F2
    have hbn := bits_neg b
    k_steps
    · rename a ≠ 0 => h1
      have q := sum_up hC hd (by omega) hb3 ⟨hs1, hs2, hs3, hs4⟩ (by assumption)
      rw [← sv_neg h1] at q
      refine ⟨_, _, _, (_, _, ?c1a, ?c1b), X, rfl, by assumption, by assumption, Ext.refl, hX, ?ps1, ?ag1, q⟩
      case ps1 =>
        intro p hp
        rcases List.mem_cons.mp hp with rfl | hp
        · exact rfl
        · rw [List.mem_singleton.mp hp]; exact rfl
      case ag1 => (repeat' (first | exact Agr.base rfl | (refine Agr.st ?_ ?_; rotate_left; (first | exact .inl rfl | exact .inr (.inr rfl) | exact .inr (.inl ⟨_, List.Mem.head _, rfl⟩) | exact .inr (.inl ⟨_, List.Mem.tail _ (List.Mem.head _), rfl⟩)))))
    · rename a ≠ 0 => h1
      have q := sum_dn hC hd (by omega) hb2 ⟨hs1, hs2, hs3, hs4⟩ (by assumption)
      rw [← sv_neg h1] at q
      refine ⟨_, _, _, (_, _, ?c2a, ?c2b), X, rfl, by assumption, by assumption, Ext.refl, hX, ?ps2, ?ag2, q⟩
      case ps2 =>
        intro p hp
        rcases List.mem_cons.mp hp with rfl | hp
        · exact rfl
        · rw [List.mem_singleton.mp hp]; exact rfl
      case ag2 => (repeat' (first | exact Agr.base rfl | (refine Agr.st ?_ ?_; rotate_left; (first | exact .inl rfl | exact .inr (.inr rfl) | exact .inr (.inl ⟨_, List.Mem.head _, rfl⟩) | exact .inr (.inl ⟨_, List.Mem.tail _ (List.Mem.head _), rfl⟩)))))
    · rename a = 0 => h1
      have q := sum_up hC hd (by omega) hb3 ⟨hs1, hs2, hs3, hs4⟩ (by assumption)
      rw [h1, ← sv_pos] at q
      refine ⟨_, _, _, (_, _, ?c3a, ?c3b), X, rfl, by assumption, by assumption, Ext.refl, hX, ?ps3, ?ag3, q⟩
      case ps3 =>
        intro p hp
        rcases List.mem_cons.mp hp with rfl | hp
        · exact rfl
        · rw [List.mem_singleton.mp hp]; exact rfl
      case ag3 => (repeat' (first | exact Agr.base rfl | (refine Agr.st ?_ ?_; rotate_left; (first | exact .inl rfl | exact .inr (.inr rfl) | exact .inr (.inl ⟨_, List.Mem.head _, rfl⟩) | exact .inr (.inl ⟨_, List.Mem.tail _ (List.Mem.head _), rfl⟩)))))
    · rename a = 0 => h1
      have q := sum_dn hC hd (by omega) hb2 ⟨hs1, hs2, hs3, hs4⟩ (by assumption)
      rw [h1, ← sv_pos] at q
      refine ⟨_, _, _, (_, _, ?c4a, ?c4b), X, rfl, by assumption, by assumption, Ext.refl, hX, ?ps4, ?ag4, q⟩
      case ps4 =>
        intro p hp
        rcases List.mem_cons.mp hp with rfl | hp
        · exact rfl
        · rw [List.mem_singleton.mp hp]; exact rfl
      case ag4 => (repeat' (first | exact Agr.base rfl | (refine Agr.st ?_ ?_; rotate_left; (first | exact .inl rfl | exact .inr (.inr rfl) | exact .inr (.inl ⟨_, List.Mem.head _, rfl⟩) | exact .inr (.inl ⟨_, List.Mem.tail _ (List.Mem.head _), rfl⟩)))))
    · have q := sum_zero hd (by assumption) (man := man) (exp := exp) ⟨hs1, hs2, hs3, hs4⟩
      refine ⟨_, _, _, (_, _, ?c5a, ?c5b), X, rfl, by assumption, by assumption, Ext.refl, hX, ?ps5, ?ag5, q⟩
      case ps5 =>
        intro p hp
        rcases List.mem_cons.mp hp with rfl | hp
        · exact rfl
        · rw [List.mem_singleton.mp hp]; exact rfl
      case ag5 => (repeat' (first | exact Agr.base rfl | (refine Agr.st ?_ ?_; rotate_left; (first | exact .inl rfl | exact .inr (.inr rfl) | exact .inr (.inl ⟨_, List.Mem.head _, rfl⟩) | exact .inr (.inl ⟨_, List.Mem.tail _ (List.Mem.head _), rfl⟩)))))
  case done =>
    intro c X u h tk hx hX hP F2 N2
    obtain ⟨man, exp, t5, t6⟩ := c
    replace N2 : News _ _ _ X := N2
    replace F2 : Fr _ _ _ (frO (Str.ofString "x") [(Str.ofString "man", Value.int man t5), (Str.ofString "exp", Value.int exp t6)] _ u _) := F2
    k_steps
    refine hret _ _ _ _ (by k_asm) (by k_asm) (hx.trans (by assumption)) (NumIn.eq (by assumption) ?_)
    have h1 := hP.1
    dsimp only at h1
    rw [h1, hvs.len, List.take_length]
end

section
local macro_rules | `(tactic| kun_tup) => `(tactic| exact TupIn.isTup (by assumption) (by k_asm) (by k_asm) (by k_asm))
local macro_rules | `(tactic| cell_enter) => `(tactic| (refine' code_def ?k1 ?k2 ?k3 ?k4 ?k5 ?kA ?kF ?kK ?k6 ?k7 ?k8 ?k9 ?kB ?_ ?c2 ?c3 ?c4 ?c5; (case kA => exact rfl); (case kF => exact rfl); (case kK => assumption); (case k1 => k_asm); (case k2 => k_asm); (case k3 => k_asm); (case k4 => k_asm); (case k5 => k_asm); (case k6 => k_is); (case k7 => k_is); (case k8 => ktr_room); (case k9 => first | exact (by assumption : BindAs _ _ _ _) _ _ _ _ _ (by k_in) (by k_is) | exact BindsTo.of_eq rfl | exact binds_K (by k_in) rfl (by k_is) rfl rfl rfl); (case c5 => decide); (case kB => exact locs rfl); (case c2 => exact rfl); (case c3 => exact rfl); (case c4 => exact rfl); k_whole; intro g' L' h' FG' F' N' B' X' T'; (try dsimp only); (try k_lift B'); (try k_fold)))
local macro_rules | `(tactic| walk_at "ite") => `(tactic| (k_here; first
  | (refine' ite_pos ?hc9 ?_; (case hc9 => ((try simp only [bne_iff_ne, beq_iff_eq, Bool.not_eq_true', bne_eq_false_iff_eq, beq_eq_false_iff_ne, decide_eq_true_eq, decide_eq_false_iff_not, ne_eq, Bool.and_eq_true, Bool.or_eq_true, not_false_eq_true]); first | done | omega)); walk_say "PRUNED +")
  | (refine' ite_neg ?hc9 ?_; (case hc9 => ((try simp only [bne_iff_ne, beq_iff_eq, Bool.not_eq_true', bne_eq_false_iff_eq, beq_eq_false_iff_ne, decide_eq_true_eq, decide_eq_false_iff_not, ne_eq, Bool.and_eq_true, Bool.or_eq_true, not_false_eq_true]); first | done | omega)); walk_say "PRUNED -")))
local macro_rules | `(tactic| ke_read) => `(tactic| first | exact TupIn.reads (by with_reducible assumption) (by k_asm) (by k_asm) (by k_asm) | exact TupIn.reads TupIn.zero (by k_asm) (by k_asm) (by k_asm) | exact TupIn.reads TupIn.inf (by k_asm) (by k_asm) (by k_asm) | exact TupIn.reads TupIn.ninf (by k_asm) (by k_asm) (by k_asm) | exact TupIn.reads TupIn.nan (by k_asm) (by k_asm) (by k_asm))
local macro_rules | `(tactic| walk_at "compareOp Eq ref ref") => `(tactic| (k_here; (with_reducible show wpAny _ _ (compareOp CmpOp.Eq (Value.ref _) (Value.ref _)) _ _ _); k_dflt (refine eq_dataH (by ke_read) (by ke_read) rfl rfl (by ktr_units) ?_); ke_norm))
local macro_rules | `(tactic| walk_at "compareOp NotEq ref ref") => `(tactic| (k_here; (with_reducible show wpAny _ _ (compareOp CmpOp.NotEq (Value.ref _) (Value.ref _)) _ _ _); k_dflt (refine ne_dataH (by ke_read) (by ke_read) rfl rfl (by ktr_units) ?_); ke_norm))
local macro_rules | `(tactic| walk_at "binaryOp LShift int int") => `(tactic| (k_here; (with_reducible refine lshift_int ?kn ?ks ?_); (case kn => omega); (case ks => omega)))
local macro_rules | `(tactic| walk_at "binaryOp Mult int int") => `(tactic| (k_here; (with_reducible refine mul_int ?_ ?km); rotate_left; (case km => exact IntMulOk.of_le (m := 60000000) (n := 60000000) (by omega) (by omega) (by decide))))
local macro_rules | `(tactic| walk_at "eval Name") => `(tactic| (k_here; (with_reducible show wpAny _ _ (eval (Expr.Name _ _) (envOf _ _ _ _ _)) _ _ _); name_kind "local"; k_dflt (refine' ld ?k1 ?k2 ?_; (case k1 => k_asm); (case k2 => exact rfl); k_whole)))
local macro_rules | `(tactic| walk_at "binaryOp RShift int int") => `(tactic| (k_here; (with_reducible refine rshift_int ?kn ?_); (case kn => omega)))
local macro_rules | `(tactic| walk_at "inplaceOp Pow int int") => `(tactic| (k_here; (with_reducible refine ipow_int ?kn ?ks ?_); (case kn => omega); (case ks => omega)))
local macro_rules | `(tactic| walk_at "inplaceOp Mult int int") => `(tactic| (k_here; (with_reducible refine imul_int ?_ ?km); rotate_left; (case km => exact IntMulOk.of_le (m := 60000000) (n := 60000000) (by omega) (by omega) (by decide))))
local macro_rules | `(tactic| walk_at "subscriptTail") => `(tactic| (k_here; (with_reducible show wpAny _ _ (subscriptTail _ _ (Value.ref _) (Value.int _ _)) _ _ _); k_dflt (refine' item_tupleT ?k1 ?k2 ?k3 ?k4 ?k5 ?_ ?k6; (case k1 => first | exact TupIn.isTup (by with_reducible assumption) (by k_asm) (by k_asm) (by k_asm)); (case k2 => decide); (case k3 => decide); (case k4 => exact rfl); (case k5 => exact rfl); (case k6 => with_unfolding_all rfl); k_whole)))
/-! the leaf contracts in numbers -/
set_option maxRecDepth 100000 in
set_option maxHeartbeats 8000000 in
theorem mul_spec (w : World) (mean : ExcName → Option Value) (mg mb : Str → Option Value) (v v' : Value) (d d' : Dyadic) (hb : Bd 400000 d) (hb' : Bd 400000 d') :
    Spec w mean mg mb 131 3 30 [v, v'] (fun news => NumIn news v d ∧ NumIn news v' d') (fun news r => NumIn news r (d * d')) := by
  unfold Spec
  intro dp un gd cn cs a₀ ccd cl outer A₀ base h₀ L m news s Q E B F X N T hk hpre hdp hun hret
  obtain ⟨h1, h2⟩ := hpre
  obtain ⟨a, b, c, e, q1, hC, rfl, k1, k2, k3⟩ := h1.open hb (by decide)
  obtain ⟨a', b', c', e', q2, hC', rfl, k1', k2', k3'⟩ := h2.open hb' (by decide)
  exact (mul_walk w mean mg mb news v v' a b c e a' b' c' e' hC hC' (by omega) (by omega)) dp un gd cn cs a₀ ccd cl outer A₀ base h₀ L m news s Q E B F X N T hk ⟨rfl, q1, q2⟩ hdp hun fun r n' h' tk' F' N' x q => hret r n' h' tk' F' N' x q.num
set_option maxRecDepth 100000 in
set_option maxHeartbeats 8000000 in
theorem add_spec (w : World) (mean : ExcName → Option Value) (mg mb : Str → Option Value) (v v' : Value) (d d' : Dyadic) (hb : Bd 400000 d) (hb' : Bd 400000 d') :
    Spec w mean mg mb 107 12 220 [v, v'] (fun news => NumIn news v d ∧ NumIn news v' d') (fun news r => NumIn news r (d + d')) := by
  unfold Spec
  intro dp un gd cn cs a₀ ccd cl outer A₀ base h₀ L m news s Q E B F X N T hk hpre hdp hun hret
  obtain ⟨h1, h2⟩ := hpre
  obtain ⟨a, b, c, e, q1, hC, rfl, k1, k2, k3⟩ := h1.open hb (by decide)
  obtain ⟨a', b', c', e', q2, hC', rfl, k1', k2', k3'⟩ := h2.open hb' (by decide)
  exact add_walk w mean mg mb v v' a b c e a' b' c' e' hC hC' (by omega) (by omega) (by omega) (by omega) dp un gd cn cs a₀ ccd cl outer A₀ base h₀ L m news s Q E B F X N T hk ⟨q1, q2⟩ hdp hun hret
set_option maxRecDepth 100000 in
set_option maxHeartbeats 8000000 in
theorem sub_spec (w : World) (mean : ExcName → Option Value) (mg mb : Str → Option Value) (v v' : Value) (d d' : Dyadic) (hb : Bd 400000 d) (hb' : Bd 400000 d') :
    Spec w mean mg mb 115 15 250 [v, v'] (fun news => NumIn news v d ∧ NumIn news v' d') (fun news r => NumIn news r (d - d')) := by
  unfold Spec
  intro dp un gd cn cs a₀ ccd cl outer A₀ base h₀ L m news s Q E B F X N T hk hpre hdp hun hret
  obtain ⟨h1, h2⟩ := hpre
  obtain ⟨a, b, c, e, q1, hC, rfl, k1, k2, k3⟩ := h1.open hb (by decide)
  obtain ⟨a', b', c', e', q2, hC', rfl, k1', k2', k3'⟩ := h2.open hb' (by decide)
  exact sub_walk w mean mg mb v v' a b c e a' b' c' e' hC hC' (by omega) (by omega) (by omega) (by omega) dp un gd cn cs a₀ ccd cl outer A₀ base h₀ L m news s Q E B F X N T hk ⟨q1, q2⟩ hdp hun hret
set_option maxRecDepth 100000 in
set_option maxHeartbeats 8000000 in
theorem neg_spec (w : World) (mean : ExcName → Option Value) (mg mb : Str → Option Value) (v : Value) (d : Dyadic) :
    Spec w mean mg mb 84 3 30 [v] (fun news => NumIn news v d) (fun news r => NumIn news r (-d)) := by
  unfold Spec
  intro dp un gd cn cs a₀ ccd cl outer A₀ base h₀ L m news s Q E B F X N T hk hpre hdp hun hret
  obtain ⟨a, b, c, e, h1, hC, rfl⟩ := hpre
  exact neg_walk w mean mg mb v a b c e hC dp un gd cn cs a₀ ccd cl outer A₀ base h₀ L m news s Q E B F X N T hk h1 hdp hun hret

section
variable {w : World} {mean : ExcName → Option Value} {mg mb : Str → Option Value} {f : Addr} {dd uu : Nat} {vs : List Value} {d : Dyadic}
    {Pre : List (Addr × Obj) → Prop} {Post : List (Addr × Obj) → Value → Prop} {X : List (Addr × Obj)}
    {dp un : Nat} {gd : Option (List Code)} {cn : Str} {cs : Scope} {a : Addr} {ccd : Value} {cl : List (Str × Addr)} {outer : List Env} {A₀ : Around} {base h₀ : Heap} {L : Addr} {m : Str → Option Value}
    {s : Shared} {Q E : Value → Shared → Prop}
/-- a call that answers a number, with one entry ahead of the rest of the ledger -/
theorem Spec.use1 {I : Addr} {oI : Obj} (S : Spec w mean mg mb f dd uu vs Pre (fun news r => NumIn news r d))
    (B : Below A₀ base outer h₀) (F : Fr h₀ L s.heap m) (K : (Mine.hd.heap_39 w.params).In h₀) (N : News h₀ L s.heap ((I, oI) :: X)) (T : Top Mine.hd.view_39 LL mean mg mb h₀) (hk : cs.kind = .function)
    (off : ∀ q ∈ X, q.1 ≠ I) (hnt : ¬ Tl oI) (hpre : Pre ((I, oI) :: X)) (hd : dp + dd < recursionLimit) (hu : un + uu < cLine)
    (ret : ∀ r X' h' tk', Fr h₀ L h' m → News h₀ L h' ((I, oI) :: X') → Ext X X' → (∀ q ∈ X', q.1 ≠ I) → NumIn X' r d → Q r { s with heap := h', toks := tk' }) :
    wpAny (model PySem.Challenge.rw_aj5013_01.row.prog w) (ktrTop dp un gd cn cs L a ccd cl outer) (call (.ref f) vs) Q E s :=
  S.useP IsT [(I, oI)] B F K N T hk (fun p hp q hq => by rw [List.mem_singleton.mp hp]; exact off q hq) (fun p hp => by rw [List.mem_singleton.mp hp]; exact notT_of hnt) hpre (fun _ _ _ hs h => h.sub hs) hd hu
    fun r X' h' tk' F' N' x o q => ret r X' h' tk' F' N' x (fun q hq => o _ (.head _) q hq) q
end
/-- the value at x from the leading number and the roots -/
def prodOf (lead x : Dyadic) (rs : List Dyadic) : Dyadic := rs.foldl (fun v r => v * (x - r)) lead
def nestOf (cs : List Dyadic) (x : Dyadic) : Dyadic := cs.foldl (fun v c => v * x + c) 0
theorem Ext.mem {a b : List (Addr × Obj)} {p : Addr × Obj} (x : Ext a b) (h : p ∈ a) : p ∈ b := x.1 p h
theorem prod_step {lead x r : Dyadic} {rs : List Dyadic} {i : Nat} (h : rs[i]? = some r) : prodOf lead x (rs.take (i + 1)) = prodOf lead x (rs.take i) * (x - r) := by
  rw [List.take_add_one, h, prodOf, Option.toList_some, List.foldl_append]; rfl
theorem nest_step {x c : Dyadic} {cs : List Dyadic} {i : Nat} (h : cs[i]? = some c) : nestOf (cs.take (i + 1)) x = nestOf (cs.take i) x * x + c := by
  rw [List.take_add_one, h, nestOf, Option.toList_some, List.foldl_append]; rfl
/-- no entry of X at one of these addresses -/
def OffA (adr : List Addr) (X : List (Addr × Obj)) : Prop := ∀ q ∈ X, q.1 ∉ adr
theorem nt_nil {C : Obj → Prop} : ∀ p ∈ ([] : List (Addr × Obj)), ¬ C p.2 := fun _ h => nomatch h
theorem nt_cons {C : Obj → Prop} {a : Addr} {o : Obj} {r : List (Addr × Obj)} (h : ¬ C o) (hr : ∀ p ∈ r, ¬ C p.2) : ∀ p ∈ (a, o) :: r, ¬ C p.2 := by
  intro p hp
  rcases List.mem_cons.mp hp with rfl | hp
  · exact h
  · exact hr p hp
section
variable {w : World} {mean : ExcName → Option Value} {mg mb : Str → Option Value} {f : Addr} {dd uu : Nat} {vs : List Value} {d : Dyadic}
    {Pre : List (Addr × Obj) → Prop} {Post : List (Addr × Obj) → Value → Prop} {X : List (Addr × Obj)}
    {dp un : Nat} {gd : Option (List Code)} {cn : Str} {cs : Scope} {a : Addr} {ccd : Value} {cl : List (Str × Addr)} {outer : List Env} {A₀ : Around} {base h₀ : Heap} {L : Addr} {m : Str → Option Value}
    {s : Shared} {Q E : Value → Shared → Prop}
/-- a call by a contract, with some entries ahead of the rest of the ledger -/
theorem Spec.useC (C : Obj → Prop) (pre : List (Addr × Obj)) (S : Spec w mean mg mb f dd uu vs Pre Post)
    (B : Below A₀ base outer h₀) (F : Fr h₀ L s.heap m) (K : (Mine.hd.heap_39 w.params).In h₀) (N : News h₀ L s.heap (pre ++ X)) (T : Top Mine.hd.view_39 LL mean mg mb h₀) (hk : cs.kind = .function)
    (off : OffA (pre.map (·.1)) X) (hnt : ∀ p ∈ pre, ¬ C p.2) (hpre : Pre (pre ++ X)) (hPost : ∀ n n' r, SubC C n n' → Post n r → Post n' r) (hd : dp + dd < recursionLimit) (hu : un + uu < cLine)
    (ret : ∀ r X' h' tk', Fr h₀ L h' m → News h₀ L h' (pre ++ X') → Ext X X' → OffA (pre.map (·.1)) X' → Post X' r → Q r { s with heap := h', toks := tk' }) :
    wpAny (model PySem.Challenge.rw_aj5013_01.row.prog w) (ktrTop dp un gd cn cs L a ccd cl outer) (call (.ref f) vs) Q E s :=
  S.useP C pre B F K N T hk (fun p hp q hq e => off q hq (by rw [e]; exact List.mem_map.mpr ⟨p, hp, rfl⟩)) hnt hpre hPost hd hu
    fun r X' h' tk' F' N' x o q => ret r X' h' tk' F' N' x (fun q hq hm => by obtain ⟨p, hp, e⟩ := List.mem_map.mp hm; exact o p hp q hq e.symm) q
theorem Spec.useD (pre : List (Addr × Obj)) (S : Spec w mean mg mb f dd uu vs Pre (fun news r => NumIn news r d))
    (B : Below A₀ base outer h₀) (F : Fr h₀ L s.heap m) (K : (Mine.hd.heap_39 w.params).In h₀) (N : News h₀ L s.heap (pre ++ X)) (T : Top Mine.hd.view_39 LL mean mg mb h₀) (hk : cs.kind = .function)
    (off : OffA (pre.map (·.1)) X) (hnt : ∀ p ∈ pre, ¬ IsT p.2) (hpre : Pre (pre ++ X)) (hd : dp + dd < recursionLimit) (hu : un + uu < cLine)
    (ret : ∀ r X' h' tk', Fr h₀ L h' m → News h₀ L h' (pre ++ X') → Ext X X' → OffA (pre.map (·.1)) X' → NumIn X' r d → Q r { s with heap := h', toks := tk' }) :
    wpAny (model PySem.Challenge.rw_aj5013_01.row.prog w) (ktrTop dp un gd cn cs L a ccd cl outer) (call (.ref f) vs) Q E s :=
  S.useC IsT pre B F K N T hk off hnt hpre (fun _ _ _ hs h => h.sub hs) hd hu ret
end
theorem off_lt {X : List (Addr × Obj)} {d a : Addr} (h : ∀ p ∈ X, p.1 < d) (ha : d ≤ a) : ∀ p ∈ X, p.1 ≠ a := fun p hp e => by have := h p hp; rw [e] at this; exact absurd this (Nat.not_lt.mpr ha)
theorem offA_of {X : List (Addr × Obj)} {d : Addr} (h : ∀ p ∈ X, p.1 < d) {adr : List Addr} (ha : ∀ a ∈ adr, d ≤ a) : OffA adr X := fun q hq hm => Nat.not_lt.mpr (ha _ hm) (h q hq)
theorem off2 {X : List (Addr × Obj)} {d : Addr} (h : ∀ p ∈ X, p.1 < d) : OffA [d + 1 + 1, d + 1] X := offA_of h fun a ha => by simp at ha; rcases ha with rfl | rfl <;> (first | exact Nat.le_add_right d 1 | exact Nat.le_add_right d 2 | exact Nat.le_add_right d 3 | exact Nat.le_add_right d 4)
theorem off3 {X : List (Addr × Obj)} {d : Addr} (h : ∀ p ∈ X, p.1 < d) : OffA [d + 1 + 1 + 1, d + 1 + 1, d + 1] X := offA_of h fun a ha => by simp at ha; rcases ha with rfl | rfl | rfl <;> (first | exact Nat.le_add_right d 1 | exact Nat.le_add_right d 2 | exact Nat.le_add_right d 3 | exact Nat.le_add_right d 4)
theorem off4 {X : List (Addr × Obj)} {d : Addr} (h : ∀ p ∈ X, p.1 < d) : OffA [d + 1 + 1 + 1 + 1, d + 1 + 1 + 1, d + 1 + 1, d + 1] X := offA_of h fun a ha => by simp at ha; rcases ha with rfl | rfl | rfl | rfl <;> (first | exact Nat.le_add_right d 1 | exact Nat.le_add_right d 2 | exact Nat.le_add_right d 3 | exact Nat.le_add_right d 4)
theorem offA_ne {X : List (Addr × Obj)} {adr : List Addr} {a : Addr} (o : OffA adr X) (h : a ∈ adr) : ∀ p ∈ X, p.1 ≠ a := fun p hp e => o p hp (by rw [e]; exact h)
theorem News.drop1 {h₀ h : Heap} {L : Addr} {p : Addr × Obj} {X : List (Addr × Obj)} (N : News h₀ L h (p :: X)) : News h₀ L h X := fun q hq => N q (.tail _ hq)
section
variable {w : World} {A : Around} {E : Value → Shared → Prop} {s : Shared} {h₀ : Heap} {L : Addr} {m : Str → Option Value} {n : List (Addr × Obj)} {v v' : Value} {d d' : Dyadic} {Q : Value → Shared → Prop}
theorem ne_num (h : NumIn n v d) (h' : NumIn n v' d') (e : d = d') (F : Fr h₀ L s.heap m) (K : (Mine.hd.heap_39 w.params).In h₀) (N : News h₀ L s.heap n) (hu : A.units + 64 < cLine) (hq : Q (.bool false) s) :
    wpAny (model PySem.Challenge.rw_aj5013_01.row.prog w) A (compareOp .NotEq v v') Q E s := by
  obtain ⟨a, b, c, e1, h1, hC, rfl⟩ := h
  obtain ⟨a', b', c', e2, h2, hC', rfl⟩ := h'
  obtain ⟨rfl, rfl, rfl, rfl⟩ := can_uniq hC hC' e
  refine ne_dataH (h1.reads F K N) (h2.reads F K N) rfl rfl hu ?_
  simp only [PyData.eqv, PyData.eqvAll, beq_self_eq_true, Bool.and_true, Bool.not_true]
  exact hq
end
end

section
local macro_rules | `(tactic| walk_at "pad") => `(tactic| skip)
local macro_rules | `(tactic| kun_tup) => `(tactic| exact TupIn.isTup (by assumption) (by k_asm) (by k_asm) (by k_asm))
local macro_rules | `(tactic| cell_enter) => `(tactic| (refine' code_def ?k1 ?k2 ?k3 ?k4 ?k5 ?kA ?kF ?kK ?k6 ?k7 ?k8 ?k9 ?kB ?_ ?c2 ?c3 ?c4 ?c5; (case kA => exact rfl); (case kF => exact rfl); (case kK => assumption); (case k1 => k_asm); (case k2 => k_asm); (case k3 => k_asm); (case k4 => k_asm); (case k5 => k_asm); (case k6 => k_is); (case k7 => k_is); (case k8 => ktr_room); (case k9 => first | exact (by assumption : BindAs _ _ _ _) _ _ _ _ _ (by k_in) (by k_is) | exact BindsTo.of_eq rfl | exact binds_K (by k_in) rfl (by k_is) rfl rfl rfl); (case c5 => decide); (case kB => exact locs rfl); (case c2 => exact rfl); (case c3 => exact rfl); (case c4 => exact rfl); k_whole; intro g' L' h' FG' F' N' B' X' T'; (try dsimp only); (try k_lift B'); (try k_fold)))
local macro_rules | `(tactic| walk_at "ite") => `(tactic| (k_here; first
  | (refine' ite_pos ?hc9 ?_; (case hc9 => ((try simp only [bne_iff_ne, beq_iff_eq, Bool.not_eq_true', bne_eq_false_iff_eq, beq_eq_false_iff_ne, decide_eq_true_eq, decide_eq_false_iff_not, ne_eq, Bool.and_eq_true, Bool.or_eq_true, not_false_eq_true]); first | done | omega)); walk_say "PRUNED +")
  | (refine' ite_neg ?hc9 ?_; (case hc9 => ((try simp only [bne_iff_ne, beq_iff_eq, Bool.not_eq_true', bne_eq_false_iff_eq, beq_eq_false_iff_ne, decide_eq_true_eq, decide_eq_false_iff_not, ne_eq, Bool.and_eq_true, Bool.or_eq_true, not_false_eq_true]); first | done | omega)); walk_say "PRUNED -")))
local macro_rules | `(tactic| ke_read) => `(tactic| first | exact TupIn.reads (by with_reducible assumption) (by k_asm) (by k_asm) (by k_asm) | exact TupIn.reads TupIn.zero (by k_asm) (by k_asm) (by k_asm) | exact TupIn.reads TupIn.inf (by k_asm) (by k_asm) (by k_asm) | exact TupIn.reads TupIn.ninf (by k_asm) (by k_asm) (by k_asm) | exact TupIn.reads TupIn.nan (by k_asm) (by k_asm) (by k_asm))
local macro_rules | `(tactic| walk_at "compareOp Eq ref ref") => `(tactic| (k_here; (with_reducible show wpAny _ _ (compareOp CmpOp.Eq (Value.ref _) (Value.ref _)) _ _ _); k_dflt (refine eq_dataH (by ke_read) (by ke_read) rfl rfl (by ktr_units) ?_); ke_norm))
local macro_rules | `(tactic| walk_at "compareOp NotEq ref ref") => `(tactic| (k_here; (with_reducible show wpAny _ _ (compareOp CmpOp.NotEq (Value.ref _) (Value.ref _)) _ _ _); k_dflt (refine ne_dataH (by ke_read) (by ke_read) rfl rfl (by ktr_units) ?_); ke_norm))
local macro_rules | `(tactic| walk_at "binaryOp LShift int int") => `(tactic| (k_here; (with_reducible refine lshift_int ?kn ?ks ?_); (case kn => omega); (case ks => omega)))
local macro_rules | `(tactic| walk_at "binaryOp Mult int int") => `(tactic| (k_here; (with_reducible refine mul_int ?_ ?km); rotate_left; (case km => exact IntMulOk.of_le (m := 60000000) (n := 60000000) (by omega) (by omega) (by decide))))
local macro_rules | `(tactic| walk_at "eval Name") => `(tactic| (k_here; (with_reducible show wpAny _ _ (eval (Expr.Name _ _) (envOf _ _ _ _ _)) _ _ _); name_kind "local"; k_dflt (refine' ld ?k1 ?k2 ?_; (case k1 => k_asm); (case k2 => exact rfl); k_whole)))
local macro_rules | `(tactic| walk_at "binaryOp RShift int int") => `(tactic| (k_here; (with_reducible refine rshift_int ?kn ?_); (case kn => omega)))
local macro_rules | `(tactic| walk_at "inplaceOp Pow int int") => `(tactic| (k_here; (with_reducible refine ipow_int ?kn ?ks ?_); (case kn => omega); (case ks => omega)))
local macro_rules | `(tactic| walk_at "inplaceOp Mult int int") => `(tactic| (k_here; (with_reducible refine imul_int ?_ ?km); rotate_left; (case km => exact IntMulOk.of_le (m := 60000000) (n := 60000000) (by omega) (by omega) (by decide))))
local macro_rules | `(tactic| walk_at "subscriptTail") => `(tactic| (k_here; (with_reducible show wpAny _ _ (subscriptTail _ _ (Value.ref _) (Value.int _ _)) _ _ _); k_dflt (refine' item_tupleT ?k1 ?k2 ?k3 ?k4 ?k5 ?_ ?k6; (case k1 => first | exact TupIn.isTup (by with_reducible assumption) (by k_asm) (by k_asm) (by k_asm)); (case k2 => decide); (case k3 => decide); (case k4 => exact rfl); (case k5 => exact rfl); (case k6 => with_unfolding_all rfl); k_whole)))
local macro_rules | `(tactic| walk_at "call ref") => `(tactic| (k_here; (with_reducible show wpAny _ _ (call (Value.ref 115) _) _ _ _); k_dflt (refine' Spec.use1 (sub_spec _ _ _ _ _ _ _ _ ?q1 ?q2) ?k1 ?k2 ?k3 ?k4 ?k5 ?kK ?ko ?kn ?kp ?kd ?ku ?_); (case k1 => k_asm); (case k2 => k_asm); (case k3 => k_asm); (case k4 => k_asm); (case k5 => k_asm); (case kK => first | exact rfl | assumption); (case ko => assumption); (case kn => assumption); (case kp => exact ⟨NumIn.mono (by assumption) (by (intro p hp; (repeat (first | exact hp | refine List.Mem.tail _ ?_ | refine Ext.mem (by assumption) ?_)))), NumIn.mono (by assumption) (by (intro p hp; (repeat (first | exact hp | refine List.Mem.tail _ ?_ | refine Ext.mem (by assumption) ?_))))⟩); (case q1 => assumption); (case q2 => assumption); (case kd => ktr_room); (case ku => ktr_units); k_whole; intro r9 X9 h9 tk9 F9 N9 x9 o9 p9; (try dsimp only); walk_say "NUMBER 115"))
local macro_rules | `(tactic| walk_at "call ref") => `(tactic| (k_here; (with_reducible show wpAny _ _ (call (Value.ref 131) _) _ _ _); k_dflt (refine' Spec.use1 (mul_spec _ _ _ _ _ _ _ _ ?q1 ?q2) ?k1 ?k2 ?k3 ?k4 ?k5 ?kK ?ko ?kn ?kp ?kd ?ku ?_); (case k1 => k_asm); (case k2 => k_asm); (case k3 => k_asm); (case k4 => k_asm); (case k5 => k_asm); (case kK => first | exact rfl | assumption); (case ko => assumption); (case kn => assumption); (case kp => exact ⟨NumIn.mono (by assumption) (by (intro p hp; (repeat (first | exact hp | refine List.Mem.tail _ ?_ | refine Ext.mem (by assumption) ?_)))), NumIn.mono (by assumption) (by (intro p hp; (repeat (first | exact hp | refine List.Mem.tail _ ?_ | refine Ext.mem (by assumption) ?_))))⟩); (case q1 => assumption); (case q2 => assumption); (case kd => ktr_room); (case ku => ktr_units); k_whole; intro r9 X9 h9 tk9 F9 N9 x9 o9 p9; (try dsimp only); walk_say "NUMBER 131"))
local macro_rules | `(tactic| walk_at "exec For Name Name cons nil") => `(tactic| (k_here; (rename Fr _ _ _ _ => lF'); (with_unfolding_all refine' For_invVF lF' ?k1 ?k2 ?_; (case k1 => exact rfl); (case k2 => exact rfl); k_whole)))
set_option maxRecDepth 100000 in
set_option maxHeartbeats 8000000 in
theorem product_walk (w : World) (mean : ExcName → Option Value) (mg mb : Str → Option Value) (vl vx : Value) (l : Addr) (nn : Nat) (vs : List Value) (lead x : Dyadic) (rs : List Dyadic) (hx : Bd 400000 x) (hrs : ∀ r ∈ rs, Bd 400000 r ∧ Bd 400000 (x - r)) (hp : ∀ i, i ≤ rs.length → Bd 400000 (prodOf lead x (rs.take i))) :
    Spec w mean mg mb 184 30 350 [vl, vx, .ref l] (fun news => NumIn news vl lead ∧ NumIn news vx x ∧ (l, W.listOf vs.toArray nn) ∈ news ∧ NumsIn news vs rs) (fun news r => NumIn news r (prodOf lead x rs)) := by
  unfold Spec
  w_top off
  k_fill
  intro dp un gd cn cs a₀ ccd cl outer A₀ base h₀ L m news s Q E B F X N T hk hpre hdp hun hret
  obtain ⟨h1, h2, hl, hvs⟩ := hpre
  refine wpAny_call ?_
  k_dflt cell_enter
  k_steps
  rename Fr _ _ _ _ => F1
  rename News _ _ _ _ => N1
  refine aj_list (σ := Value) (fun _ => []) [] (fun c => [(Str.ofString "value", c)]) [] (fun i X c => NumIn X c (prodOf lead x (rs.take i))) vl rfl hl (fun _ => rfl) F1 N1 (fun _ _ h => nomatch h) ?hps ?hP ?turn ?done
  case hps =>
    intro p hp
    rw [List.mem_singleton.mp hp]; exact rfl
  case hP => exact h1
  case turn =>
    intro i v c X u h tk I oI hv hxx hX hI hnt hP F2 N2
    obtain ⟨r, hr, hn⟩ := hvs.get hv
    have hrm := hrs _ (List.mem_of_getElem? hr)
    replace N2 : News _ _ _ ((I, oI) :: X) := N2
    replace F2 : Fr _ _ _ (frT (Str.ofString "root") v [(Str.ofString "value", c)] _ u _) := F2
    have hoff : ∀ q ∈ X, q.1 ≠ I := fun q hq => (hX q hq).2
    obtain ⟨hrm1, hrm2⟩ := hrm
    have hil : i < rs.length := (List.getElem?_eq_some_iff.mp hr).1
    have hpi := hp i (by omega)
    k_steps
    rename NumIn _ _ (_ * _) => hfin
    refine ⟨_, _, _, ?cc, _, rfl, by assumption, by assumption, by first | exact Ext.trans (by assumption) (by assumption), fun p hp => ⟨(fun h => by cases h), (by assumption : ∀ q ∈ _, q.1 ≠ I) p hp⟩, ?ps, ?ag, ?pp⟩
    case ps =>
      intro p hp
      rw [List.mem_singleton.mp hp]; exact rfl
    case ag => (repeat' (first | exact Agr.base rfl | (refine Agr.st ?_ ?_; rotate_left; (first | exact .inl rfl | exact .inr (.inr rfl) | exact .inr (.inl ⟨_, List.Mem.head _, rfl⟩) | exact .inr (.inl ⟨_, List.Mem.tail _ (List.Mem.head _), rfl⟩)))))
    case pp =>
      show NumIn _ _ _
      rw [prod_step hr]
      exact hfin
  case done =>
    intro c X u h tk hxx hX hP F2 N2
    replace N2 : News _ _ _ X := N2
    replace F2 : Fr _ _ _ (frO (Str.ofString "root") [(Str.ofString "value", c)] _ u _) := F2
    k_steps
    refine hret _ _ _ _ (by k_asm) (by k_asm) hxx ?_
    rw [hvs.len, List.take_length] at hP
    exact hP

local macro_rules | `(tactic| walk_at "call ref") => `(tactic| (k_here; (with_reducible show wpAny _ _ (call (Value.ref 107) _) _ _ _); k_dflt (refine' Spec.use1 (add_spec _ _ _ _ _ _ _ _ ?q1 ?q2) ?k1 ?k2 ?k3 ?k4 ?k5 ?kK ?ko ?kn ?kp ?kd ?ku ?_); (case k1 => k_asm); (case k2 => k_asm); (case k3 => k_asm); (case k4 => k_asm); (case k5 => k_asm); (case kK => first | exact rfl | assumption); (case ko => assumption); (case kn => assumption); (case kp => exact ⟨NumIn.mono (by assumption) (by (intro p hp; (repeat (first | exact hp | refine List.Mem.tail _ ?_ | refine Ext.mem (by assumption) ?_)))), NumIn.mono (by assumption) (by (intro p hp; (repeat (first | exact hp | refine List.Mem.tail _ ?_ | refine Ext.mem (by assumption) ?_))))⟩); (case q1 => assumption); (case q2 => assumption); (case kd => ktr_room); (case ku => ktr_units); k_whole; intro r9 X9 h9 tk9 F9 N9 x9 o9 p9; (try dsimp only); walk_say "NUMBER 107"))
set_option maxRecDepth 100000 in
set_option maxHeartbeats 8000000 in
theorem nested_walk (w : World) (mean : ExcName → Option Value) (mg mb : Str → Option Value) (vx : Value) (l : Addr) (nn : Nat) (vs : List Value) (x : Dyadic) (ks : List Dyadic) (hx : Bd 400000 x) (hcs : ∀ c ∈ ks, Bd 400000 c) (hp : ∀ i, i ≤ ks.length → Bd 400000 (nestOf (ks.take i) x) ∧ Bd 400000 (nestOf (ks.take i) x * x)) :
    Spec w mean mg mb 191 30 350 [.ref l, vx] (fun news => NumIn news vx x ∧ (l, W.listOf vs.toArray nn) ∈ news ∧ NumsIn news vs ks) (fun news r => NumIn news r (nestOf ks x)) := by
  unfold Spec
  w_top off
  k_fill
  intro dp un gd cn cs a₀ ccd cl outer A₀ base h₀ L m news s Q E B F X N T hk hpre hdp hun hret
  obtain ⟨h2, hl, hvs⟩ := hpre
  refine wpAny_call ?_
  k_dflt cell_enter
  k_steps
  rename Fr _ _ _ _ => F1
  rename News _ _ _ _ => N1
  rename (∀ p ∈ news, p.1 < _) => l1
  refine aj_list (σ := Value) (fun _ => []) [] (fun c => [(Str.ofString "value", c)]) [] (fun i X c => NumIn X c (nestOf (ks.take i) x)) ?c0 rfl (List.Mem.tail _ hl) (fun _ => rfl) F1 N1 (fun _ _ h => nomatch h) ?hps ?hP ?turn ?done
  case hps =>
    intro p hp
    rw [List.mem_singleton.mp hp]; exact rfl
  case hP => exact NumIn.mk (List.Mem.head _) can_nil rfl
  case turn =>
    intro i v c X u h tk I oI hv hxx hX hI hnt hP F2 N2
    obtain ⟨r, hr, hn⟩ := hvs.get hv
    have hrm := hcs _ (List.mem_of_getElem? hr)
    replace N2 : News _ _ _ ((I, oI) :: X) := N2
    replace F2 : Fr _ _ _ (frT (Str.ofString "c") v [(Str.ofString "value", c)] _ u _) := F2
    have hoff : ∀ q ∈ X, q.1 ≠ I := fun q hq => (hX q hq).2
    have hil : i < ks.length := (List.getElem?_eq_some_iff.mp hr).1
    obtain ⟨hpi, hpi2⟩ := hp i (by omega)
    have h2' : NumIn X vx x := h2.mono fun p hp => hxx.1 p (.tail _ hp)
    have hn' : NumIn X v r := hn.mono fun p hp => hxx.1 p (.tail _ hp)
    k_steps
    rename NumIn _ _ (_ + _) => hfin
    refine ⟨_, _, _, ?cc, _, rfl, by assumption, by assumption, by first | exact Ext.trans (by assumption) (by assumption), fun p hp => ⟨(fun h => by cases h), (by assumption : ∀ q ∈ _, q.1 ≠ I) p hp⟩, ?ps, ?ag, ?pp⟩
    case ps =>
      intro p hp
      rw [List.mem_singleton.mp hp]; exact rfl
    case ag => (repeat' (first | exact Agr.base rfl | (refine Agr.st ?_ ?_; rotate_left; (first | exact .inl rfl | exact .inr (.inr rfl) | exact .inr (.inl ⟨_, List.Mem.head _, rfl⟩) | exact .inr (.inl ⟨_, List.Mem.tail _ (List.Mem.head _), rfl⟩)))))
    case pp =>
      show NumIn _ _ _
      rw [nest_step hr]
      exact hfin
  case done =>
    intro c X u h tk hxx hX hP F2 N2
    replace N2 : News _ _ _ X := N2
    replace F2 : Fr _ _ _ (frO (Str.ofString "c") [(Str.ofString "value", c)] _ u _) := F2
    k_steps
    refine hret _ _ _ _ (by k_asm) (by k_asm) ((Ext.cons Ext.refl l1).trans hxx) ?_
    rw [hvs.len, List.take_length] at hP
    exact hP
end

section
local macro_rules | `(tactic| kun_tup) => `(tactic| exact TupIn.isTup (by assumption) (by k_asm) (by k_asm) (by k_asm))
local macro_rules | `(tactic| cell_enter) => `(tactic| (refine' code_def ?k1 ?k2 ?k3 ?k4 ?k5 ?kA ?kF ?kK ?k6 ?k7 ?k8 ?k9 ?kB ?_ ?c2 ?c3 ?c4 ?c5; (case kA => exact rfl); (case kF => exact rfl); (case kK => assumption); (case k1 => k_asm); (case k2 => k_asm); (case k3 => k_asm); (case k4 => k_asm); (case k5 => k_asm); (case k6 => k_is); (case k7 => k_is); (case k8 => ktr_room); (case k9 => first | exact (by assumption : BindAs _ _ _ _) _ _ _ _ _ (by k_in) (by k_is) | exact BindsTo.of_eq rfl | exact binds_K (by k_in) rfl (by k_is) rfl rfl rfl); (case c5 => decide); (case kB => exact locs rfl); (case c2 => exact rfl); (case c3 => exact rfl); (case c4 => exact rfl); k_whole; intro g' L' h' FG' F' N' B' X' T'; (try dsimp only); (try k_lift B'); (try k_fold)))
local macro_rules | `(tactic| walk_at "ite") => `(tactic| (k_here; first
  | (refine' ite_pos ?hc9 ?_; (case hc9 => ((try simp only [bne_iff_ne, beq_iff_eq, Bool.not_eq_true', bne_eq_false_iff_eq, beq_eq_false_iff_ne, decide_eq_true_eq, decide_eq_false_iff_not, ne_eq, Bool.and_eq_true, Bool.or_eq_true, not_false_eq_true]); first | done | omega)); walk_say "PRUNED +")
  | (refine' ite_neg ?hc9 ?_; (case hc9 => ((try simp only [bne_iff_ne, beq_iff_eq, Bool.not_eq_true', bne_eq_false_iff_eq, beq_eq_false_iff_ne, decide_eq_true_eq, decide_eq_false_iff_not, ne_eq, Bool.and_eq_true, Bool.or_eq_true, not_false_eq_true]); first | done | omega)); walk_say "PRUNED -")))
local macro_rules | `(tactic| ke_read) => `(tactic| first | exact TupIn.reads (by with_reducible assumption) (by k_asm) (by k_asm) (by k_asm) | exact TupIn.reads TupIn.zero (by k_asm) (by k_asm) (by k_asm) | exact TupIn.reads TupIn.inf (by k_asm) (by k_asm) (by k_asm) | exact TupIn.reads TupIn.ninf (by k_asm) (by k_asm) (by k_asm) | exact TupIn.reads TupIn.nan (by k_asm) (by k_asm) (by k_asm))
local macro_rules | `(tactic| walk_at "compareOp Eq ref ref") => `(tactic| (k_here; (with_reducible show wpAny _ _ (compareOp CmpOp.Eq (Value.ref _) (Value.ref _)) _ _ _); k_dflt (refine eq_dataH (by ke_read) (by ke_read) rfl rfl (by ktr_units) ?_); ke_norm))
local macro_rules | `(tactic| walk_at "compareOp NotEq ref ref") => `(tactic| (k_here; (with_reducible show wpAny _ _ (compareOp CmpOp.NotEq (Value.ref _) (Value.ref _)) _ _ _); k_dflt (refine ne_dataH (by ke_read) (by ke_read) rfl rfl (by ktr_units) ?_); ke_norm))
local macro_rules | `(tactic| walk_at "binaryOp LShift int int") => `(tactic| (k_here; (with_reducible refine lshift_int ?kn ?ks ?_); (case kn => omega); (case ks => omega)))
local macro_rules | `(tactic| walk_at "binaryOp Mult int int") => `(tactic| (k_here; (with_reducible refine mul_int ?_ ?km); rotate_left; (case km => exact IntMulOk.of_le (m := 60000000) (n := 60000000) (by omega) (by omega) (by decide))))
local macro_rules | `(tactic| walk_at "eval Name") => `(tactic| (k_here; (with_reducible show wpAny _ _ (eval (Expr.Name _ _) (envOf _ _ _ _ _)) _ _ _); name_kind "local"; k_dflt (refine' ld ?k1 ?k2 ?_; (case k1 => k_asm); (case k2 => exact rfl); k_whole)))
local macro_rules | `(tactic| walk_at "binaryOp RShift int int") => `(tactic| (k_here; (with_reducible refine rshift_int ?kn ?_); (case kn => omega)))
local macro_rules | `(tactic| walk_at "inplaceOp Pow int int") => `(tactic| (k_here; (with_reducible refine ipow_int ?kn ?ks ?_); (case kn => omega); (case ks => omega)))
local macro_rules | `(tactic| walk_at "inplaceOp Mult int int") => `(tactic| (k_here; (with_reducible refine imul_int ?_ ?km); rotate_left; (case km => exact IntMulOk.of_le (m := 60000000) (n := 60000000) (by omega) (by omega) (by decide))))
local macro_rules | `(tactic| walk_at "subscriptTail") => `(tactic| (k_here; (with_reducible show wpAny _ _ (subscriptTail _ _ (Value.ref _) (Value.int _ _)) _ _ _); k_dflt (refine' item_tupleT ?k1 ?k2 ?k3 ?k4 ?k5 ?_ ?k6; (case k1 => first | exact TupIn.isTup (by with_reducible assumption) (by k_asm) (by k_asm) (by k_asm)); (case k2 => decide); (case k3 => decide); (case k4 => exact rfl); (case k5 => exact rfl); (case k6 => with_unfolding_all rfl); k_whole)))
/-- the walk halts here -/
def Halt (p : Prop) : Prop := p
theorem Halt.out {p : Prop} (h : Halt p) : p := h
section
variable {prog : Program} {w : World} {A : Around} {s : Shared} {h₀ : Heap} {L : Addr} {m : Str → Option Value} {env : Env} {elt : Expr} {x : Str} {scope : Scope} {cl : List (Str × Addr)} {S : List (Addr × Obj) → Prop} {P : Nat → Value → Prop} {Fin : List Value → List (Addr × Obj) → Prop}
/-- a comprehension by what holds of its items so far -/
theorem comp_inv (n : Nat) (Inv : Nat → List Value → List (Addr × Obj) → Prop) (fin : ∀ ys news, Inv n ys news → Fin ys news)
    (step : ∀ i ys news, i < n → Inv i ys news → ∀ v I oI C oC D m₂ h tk (E' : Value → Shared → Prop), P i v → LCg.NsObj oC m₂ → m₂ x = some v → Fr h₀ L h m → News h₀ L h ((I, oI) :: (C, oC) :: (D, LCg.lst ys) :: news) → LCg.Off3 I C D news → ((@Ne Nat I C) ∧ (@Ne Nat I D) ∧ (@Ne Nat C D)) →
      wpAny (model prog w) A (eval elt (compEnvC scope cl C env)) (LCg.CompEnd h₀ L m { s with heap := h, toks := tk } I oI C oC D (LCg.lst ys) S (fun y news' => Inv (i + 1) (ys ++ [y]) news')) E' { s with heap := h, toks := tk }) :
    ∀ k i ys news, i + k = n → Inv i ys news → LCg.CompRest prog w A h₀ L m env elt x scope cl s S P Fin k i ys news := by
  intro k
  induction k with
  | zero =>
    intro i ys news e hi
    have e' : i = n := by omega
    rw [e'] at hi
    exact LCg.CompRest.zero (fin ys news hi)
  | succ k ih =>
    intro i ys news e hi
    refine LCg.CompRest.succ fun v I oI C oC D m₂ h tk E' hv hC hx F N o ne => ?_
    refine wpAny_mono (step i ys news (by omega) hi v I oI C oC D m₂ h tk E' hv hC hx F N o ne) (fun y s₂ q => ?_) fun _ _ e => e
    obtain ⟨h', tk', news', e1, F', N', o', hS, r⟩ := q
    exact ⟨h', tk', news', e1, F', N', o', hS, ih (i + 1) (ys ++ [y]) news' (by omega) r⟩
end
section
variable {w : World} {mean : ExcName → Option Value} {mg mb : Str → Option Value} {f : Addr} {dd uu : Nat} {vs : List Value} {d : Dyadic}
    {Pre : List (Addr × Obj) → Prop} {X : List (Addr × Obj)}
    {dp un : Nat} {gd : Option (List Code)} {cn : Str} {cs : Scope} {a : Addr} {ccd : Value} {cl : List (Str × Addr)} {outer : List Env} {A₀ : Around} {base h₀ : Heap} {L : Addr} {m : Str → Option Value}
    {s : Shared} {Q E : Value → Shared → Prop}
/-- a call that answers a number of younger objects, with some entries ahead of the rest of the ledger -/
theorem Spec.useF (pre : List (Addr × Obj)) (S : Spec w mean mg mb f dd uu vs Pre (fun news r => NumF (pre ++ X) news r d))
    (B : Below A₀ base outer h₀) (F : Fr h₀ L s.heap m) (K : (Mine.hd.heap_39 w.params).In h₀) (N : News h₀ L s.heap (pre ++ X)) (T : Top Mine.hd.view_39 LL mean mg mb h₀) (hk : cs.kind = .function)
    (off : OffA (pre.map (·.1)) X) (hpre : Pre (pre ++ X)) (hd : dp + dd < recursionLimit) (hu : un + uu < cLine)
    (ret : ∀ r X' h' tk', Fr h₀ L h' m → News h₀ L h' (pre ++ X') → Ext X X' → OffA (pre.map (·.1)) X' → NumIn X' r d → Q r { s with heap := h', toks := tk' }) :
    wpAny (model PySem.Challenge.rw_aj5013_01.row.prog w) (ktrTop dp un gd cn cs L a ccd cl outer) (call (.ref f) vs) Q E s := by
  classical
  refine S.use B F K N T hk hpre hd hu fun r n' h' tk' F' N' x hq => ?_
  have memX : ∀ q, q ∈ n'.filter (fun q => decide (q.1 ∉ pre.map (·.1))) ↔ q ∈ n' ∧ q.1 ∉ pre.map (·.1) := fun q => by rw [List.mem_filter, decide_eq_true_eq]
  refine ret r (n'.filter fun q => decide (q.1 ∉ pre.map (·.1))) h' tk' F' ?_ ⟨?_, ?_⟩ ?_ ?_
  · intro p hp
    rcases List.mem_append.mp hp with hp | hp
    · exact N' p (x.1 p (List.mem_append.mpr (.inl hp)))
    · exact N' p ((memX p).mp hp).1
  · intro q hq'
    exact (memX q).mpr ⟨x.1 q (List.mem_append.mpr (.inr hq')), off q hq'⟩
  · intro q hq'
    obtain ⟨h1, h2⟩ := (memX q).mp hq'
    rcases x.2 q h1 with h3 | h3
    · rcases List.mem_append.mp h3 with h3 | h3
      · exact absurd (List.mem_map.mpr ⟨q, h3, rfl⟩) h2
      · exact .inl h3
    · exact .inr fun p hp => h3 p (List.mem_append.mpr (.inr hp))
  · intro q hq'
    exact ((memX q).mp hq').2
  · obtain ⟨Y, hY, hn⟩ := hq
    refine hn.mono fun q hq' => (memX q).mpr ⟨(hY q hq').1, fun hm => ?_⟩
    obtain ⟨p, hp, e⟩ := List.mem_map.mp hm
    have := (hY q hq').2 p (List.mem_append.mpr (.inl hp))
    rw [e] at this
    exact absurd this (Nat.lt_irrefl _)
end
set_option maxRecDepth 100000 in
set_option maxHeartbeats 8000000 in
theorem mul_fresh (w : World) (mean : ExcName → Option Value) (mg mb : Str → Option Value) (n₀ : List (Addr × Obj)) (v v' : Value) (d d' : Dyadic) (hb : Bd 400000 d) (hb' : Bd 400000 d') :
    Spec w mean mg mb 131 3 30 [v, v'] (fun news => news = n₀ ∧ NumIn news v d ∧ NumIn news v' d') (fun news r => NumF n₀ news r (d * d')) := by
  unfold Spec
  intro dp un gd cn cs a₀ ccd cl outer A₀ base h₀ L m news s Q E B F X N T hk hpre hdp hun hret
  obtain ⟨h0, h1, h2⟩ := hpre
  obtain ⟨a, b, c, e, q1, hC, rfl, k1, k2, k3⟩ := h1.open hb (by decide)
  obtain ⟨a', b', c', e', q2, hC', rfl, k1', k2', k3'⟩ := h2.open hb' (by decide)
  exact mul_walk w mean mg mb n₀ v v' a b c e a' b' c' e' hC hC' (by omega) (by omega) dp un gd cn cs a₀ ccd cl outer A₀ base h₀ L m news s Q E B F X N T hk ⟨h0, q1, q2⟩ hdp hun hret
set_option maxRecDepth 100000 in
set_option maxHeartbeats 8000000 in
theorem pow_fresh (w : World) (mean : ExcName → Option Value) (mg mb : Str → Option Value) (n₀ : List (Addr × Obj)) (v : Value) (d : Dyadic) (n : Int) (t5 t6 : Tok) (hb : Bd 100 d) (hn : n = 0 ∨ n = 1 ∨ n = 2 ∨ n = 3 ∨ n = 4) :
    Spec w mean mg mb 156 15 250 [v, .int n t5, .int 2000 t6] (fun news => news = n₀ ∧ NumIn news v d) (fun news r => NumF n₀ news r (d ^ n.toNat)) := by
  unfold Spec
  intro dp un gd cn cs a₀ ccd cl outer A₀ base h₀ L m news s Q E B F X N T hk hpre hdp hun hret
  obtain ⟨h0, h1⟩ := hpre
  obtain ⟨a, b, c, e, q1, hC, rfl, k1, k2, k3⟩ := h1.open hb (by decide)
  exact pow_walk w mean mg mb n₀ v a b c e n t5 t6 hC (by omega) hn dp un gd cn cs a₀ ccd cl outer A₀ base h₀ L m news s Q E B F X N T hk ⟨h0, q1⟩ hdp hun hret
theorem offA6 {X : List (Addr × Obj)} {I C D : Addr} {adr : List Addr} (h : LCg.Off3 I C D X) (o : OffA adr X) : OffA (I :: C :: D :: adr) X := by
  intro q hq hm
  obtain ⟨h1, h2, h3⟩ := h.mem q hq
  rcases List.mem_cons.mp hm with e | hm
  · exact h1 e
  · rcases List.mem_cons.mp hm with e | hm
    · exact h2 e
    · rcases List.mem_cons.mp hm with e | hm
      · exact h3 e
      · exact o q hq hm
theorem off3_of {X : List (Addr × Obj)} {I C D : Addr} {adr : List Addr} (o : OffA (I :: C :: D :: adr) X) : LCg.Off3 I C D X :=
  LCg.Off3.of fun p hp => ⟨fun e => o p hp (by rw [e]; exact .head _), fun e => o p hp (by rw [e]; exact .tail _ (.head _)), fun e => o p hp (by rw [e]; exact .tail _ (.tail _ (.head _)))⟩
theorem list_item {prog : Program} {w : World} {A : Around} {E : Value → Shared → Prop} {s : Shared} {h₀ : Heap} {L l : Addr} {led : List (Addr × Obj)} {value slice : Expr} {vs : List Value} {nn : Nat} {k : Int} {u : Tok} {v : Value} {Q : Value → Shared → Prop}
    (N : News h₀ L s.heap led) (hm : (l, W.listOf vs.toArray nn) ∈ led) (h0 : 0 ≤ k) (hhi : k < 2 ^ 63) (hx : vs[k.toNat]? = some v) (h : Q v s)
    (hs : subscripted slice false (.ref l) (.int k u) = operate [.ref l, .int k u] (getItem (.ref l) (.int k u))) :
    wpAny (model prog w) A (subscriptTail value slice (.ref l) (.int k u)) Q E s :=
  have hl : s.heap.IsList l vs.toArray := N.isList hm
  tail_any hl.typeIs slot_list_getitem.lookup (wpAny_getItem_list hl h0 hhi (by simpa using hx) h) hs
def termsOf (poly : List Dyadic) (x : Dyadic) : List Dyadic := poly.mapIdx fun k c => c * x ^ (poly.length - 1 - k)
theorem off3_app {I C D : Addr} {p X : List (Addr × Obj)} (h : LCg.Off3 I C D (p ++ X)) : LCg.Off3 I C D X := LCg.Off3.of fun q hq => h.mem q (List.mem_append.mpr (.inr hq))
theorem off3_pre {I C D : Addr} {p X X' : List (Addr × Obj)} (h : LCg.Off3 I C D (p ++ X)) (o : OffA (I :: C :: D :: p.map (·.1)) X') : LCg.Off3 I C D (p ++ X') := LCg.Off3.of fun q hq => by
  rcases List.mem_append.mp hq with hq | hq
  · exact h.mem q (List.mem_append.mpr (.inl hq))
  · exact (off3_of o).mem q hq
theorem NumsIn.snoc {n : List (Addr × Obj)} {vs : List Value} {ds : List Dyadic} {v : Value} {d : Dyadic} (h : NumsIn n vs ds) (hv : NumIn n v d) : NumsIn n (vs ++ [v]) (ds ++ [d]) := by
  induction h with
  | nil => exact .cons hv .nil
  | cons h _ ih => exact .cons h ih
theorem terms_get {poly : List Dyadic} {x c : Dyadic} {i : Nat} (h : poly[i]? = some c) : (termsOf poly x)[i]? = some (c * x ^ (poly.length - 1 - i)) := by
  rw [termsOf, List.getElem?_mapIdx, h]; rfl
theorem terms_step {poly : List Dyadic} {x c : Dyadic} {i : Nat} (h : poly[i]? = some c) : (termsOf poly x).take (i + 1) = (termsOf poly x).take i ++ [c * x ^ (poly.length - 1 - i)] := by
  rw [List.take_add_one, terms_get h]; rfl
theorem terms_len (poly : List Dyadic) (x : Dyadic) : (termsOf poly x).length = poly.length := by simp [termsOf]
theorem list_notT {ys : List Value} : ¬ IsT (LCg.lst ys) := fun h => by have := h.1; exact absurd (Value.type.inj this) (by decide)
theorem offA_cons {X : List (Addr × Obj)} {D : Addr} {adr : List Addr} (h : ∀ q ∈ X, q.1 ≠ D) (o : OffA adr X) : OffA (D :: adr) X := by
  intro q hq hm
  rcases List.mem_cons.mp hm with e | hm
  · exact h q hq e
  · exact o q hq hm
theorem off1_mem {D : Addr} : ∀ {l : List (Addr × Obj)}, LCg.Off1 D l → ∀ p ∈ l, p.1 ≠ D
  | [], _, _, h => nomatch h
  | _ :: _, x, p, h => by
    rcases List.mem_cons.mp h with rfl | h
    · exact x.1
    · exact off1_mem x.2 p h
end

section
local macro_rules | `(tactic| walk_at "pad") => `(tactic| skip)
local macro_rules | `(tactic| kun_tup) => `(tactic| exact TupIn.isTup (by assumption) (by k_asm) (by k_asm) (by k_asm))
local macro_rules | `(tactic| cell_enter) => `(tactic| (refine' code_def ?k1 ?k2 ?k3 ?k4 ?k5 ?kA ?kF ?kK ?k6 ?k7 ?k8 ?k9 ?kB ?_ ?c2 ?c3 ?c4 ?c5; (case kA => exact rfl); (case kF => exact rfl); (case kK => assumption); (case k1 => k_asm); (case k2 => k_asm); (case k3 => k_asm); (case k4 => k_asm); (case k5 => k_asm); (case k6 => k_is); (case k7 => k_is); (case k8 => ktr_room); (case k9 => first | exact (by assumption : BindAs _ _ _ _) _ _ _ _ _ (by k_in) (by k_is) | exact BindsTo.of_eq rfl | exact binds_K (by k_in) rfl (by k_is) rfl rfl rfl); (case c5 => decide); (case kB => exact locs rfl); (case c2 => exact rfl); (case c3 => exact rfl); (case c4 => exact rfl); k_whole; intro g' L' h' FG' F' N' B' X' T'; (try dsimp only); (try k_lift B'); (try k_fold)))
local macro_rules | `(tactic| walk_at "ite") => `(tactic| (k_here; first
  | (refine' ite_pos ?hc9 ?_; (case hc9 => ((try simp only [bne_iff_ne, beq_iff_eq, Bool.not_eq_true', bne_eq_false_iff_eq, beq_eq_false_iff_ne, decide_eq_true_eq, decide_eq_false_iff_not, ne_eq, Bool.and_eq_true, Bool.or_eq_true, not_false_eq_true]); first | done | omega)); walk_say "PRUNED +")
  | (refine' ite_neg ?hc9 ?_; (case hc9 => ((try simp only [bne_iff_ne, beq_iff_eq, Bool.not_eq_true', bne_eq_false_iff_eq, beq_eq_false_iff_ne, decide_eq_true_eq, decide_eq_false_iff_not, ne_eq, Bool.and_eq_true, Bool.or_eq_true, not_false_eq_true]); first | done | omega)); walk_say "PRUNED -")))
local macro_rules | `(tactic| ke_read) => `(tactic| first | exact TupIn.reads (by with_reducible assumption) (by k_asm) (by k_asm) (by k_asm) | exact TupIn.reads TupIn.zero (by k_asm) (by k_asm) (by k_asm) | exact TupIn.reads TupIn.inf (by k_asm) (by k_asm) (by k_asm) | exact TupIn.reads TupIn.ninf (by k_asm) (by k_asm) (by k_asm) | exact TupIn.reads TupIn.nan (by k_asm) (by k_asm) (by k_asm))
local macro_rules | `(tactic| walk_at "compareOp Eq ref ref") => `(tactic| (k_here; (with_reducible show wpAny _ _ (compareOp CmpOp.Eq (Value.ref _) (Value.ref _)) _ _ _); k_dflt (refine eq_dataH (by ke_read) (by ke_read) rfl rfl (by ktr_units) ?_); ke_norm))
local macro_rules | `(tactic| walk_at "compareOp NotEq ref ref") => `(tactic| (k_here; (with_reducible show wpAny _ _ (compareOp CmpOp.NotEq (Value.ref _) (Value.ref _)) _ _ _); k_dflt (refine ne_dataH (by ke_read) (by ke_read) rfl rfl (by ktr_units) ?_); ke_norm))
local macro_rules | `(tactic| walk_at "binaryOp LShift int int") => `(tactic| (k_here; (with_reducible refine lshift_int ?kn ?ks ?_); (case kn => omega); (case ks => omega)))
local macro_rules | `(tactic| walk_at "binaryOp Mult int int") => `(tactic| (k_here; (with_reducible refine mul_int ?_ ?km); rotate_left; (case km => exact IntMulOk.of_le (m := 60000000) (n := 60000000) (by omega) (by omega) (by decide))))
local macro_rules | `(tactic| walk_at "eval Name") => `(tactic| (k_here; (with_reducible show wpAny _ _ (eval (Expr.Name _ _) (envOf _ _ _ _ _)) _ _ _); name_kind "local"; k_dflt (refine' ld ?k1 ?k2 ?_; (case k1 => k_asm); (case k2 => exact rfl); k_whole)))
local macro_rules | `(tactic| walk_at "binaryOp RShift int int") => `(tactic| (k_here; (with_reducible refine rshift_int ?kn ?_); (case kn => omega)))
local macro_rules | `(tactic| walk_at "inplaceOp Pow int int") => `(tactic| (k_here; (with_reducible refine ipow_int ?kn ?ks ?_); (case kn => omega); (case ks => omega)))
local macro_rules | `(tactic| walk_at "inplaceOp Mult int int") => `(tactic| (k_here; (with_reducible refine imul_int ?_ ?km); rotate_left; (case km => exact IntMulOk.of_le (m := 60000000) (n := 60000000) (by omega) (by omega) (by decide))))
local macro_rules | `(tactic| walk_at "subscriptTail") => `(tactic| (k_here; (with_reducible show wpAny _ _ (subscriptTail _ _ (Value.ref _) (Value.int _ _)) _ _ _); k_dflt (refine' item_tupleT ?k1 ?k2 ?k3 ?k4 ?k5 ?_ ?k6; (case k1 => first | exact TupIn.isTup (by with_reducible assumption) (by k_asm) (by k_asm) (by k_asm)); (case k2 => decide); (case k3 => decide); (case k4 => exact rfl); (case k5 => exact rfl); (case k6 => with_unfolding_all rfl); k_whole)))
theorem isl_up {h₀ h : Heap} {L l : Addr} {m : Str → Option Value} {its : Array Value} (F : Fr h₀ L h m) (hl : h₀.IsList l its) : h.IsList l its := by
  obtain ⟨o, e, r⟩ := hl
  exact ⟨o, F.keep _ _ e, r⟩
theorem ints_get {vs : List Value} {ns : List Int} (h : IntsAre vs ns) : ∀ {i : Nat} {v : Value}, vs[i]? = some v → ∃ z t, v = .int z t := by
  induction h with
  | nil => intro i v h; simp at h
  | cons z t h ih =>
    intro i v hv
    cases i with
    | zero => simp at hv; exact ⟨_, _, hv.symm⟩
    | succ i => exact ih (by simpa using hv)
theorem item_S {prog : Program} {w : World} {A : Around} {E : Value → Shared → Prop} {s : Shared} {l : Addr} {value slice : Expr} {vs : List Value} {k : Int} {u : Tok} {v : Value} {Q : Value → Shared → Prop}
    (hl : s.heap.IsList l vs.toArray) (h0 : 0 ≤ k) (hhi : k < 2 ^ 63) (hx : vs[k.toNat]? = some v) (h : Q v s)
    (hs : subscripted slice false (.ref l) (.int k u) = operate [.ref l, .int k u] (getItem (.ref l) (.int k u))) :
    wpAny (model prog w) A (subscriptTail value slice (.ref l) (.int k u)) Q E s :=
  tail_any hl.typeIs slot_list_getitem.lookup (wpAny_getItem_list hl h0 hhi (by simpa using hx) h) hs
section
variable {prog : Program} {w : World} {A : Around} {E Q : Value → Shared → Prop} {s : Shared} {a b : Int} {t u : Tok}
theorem mod_gen (hb : 0 < b) (h : ∀ r, 0 ≤ r → r < b → Q (.int r s.toks) { s with toks := s.toks + 1 }) : wpAny (model prog w) A (binaryOp .Mod (.int a t) (.int b u)) Q E s :=
  mod_int' (by omega) (h _ (Int.fmod_nonneg_of_pos a hb) (Int.fmod_lt_of_pos a hb))
end
theorem pow_val {prog : Program} {w : World} {A : Around} {E Q : Value → Shared → Prop} {s : Shared} {a n v : Int} {t u : Tok} (hn : 0 ≤ n) (hsz : (Builtin.Int.intBits a : Int) * n ≤ 2 ^ 27) (e : a ^ n.toNat = v) (h : Q (.int v s.toks) { s with toks := s.toks + 1 }) :
    wpAny (model prog w) A (binaryOp .Pow (.int a t) (.int n u)) Q E s := pow_int hn hsz (by rw [e]; exact h)
local macro_rules | `(tactic| walk_at "binaryOp Pow int int") => `(tactic| (k_here; (first
  | ((with_reducible refine pow_val (v := 18446744073709551616) (n := 64) ?k1 ?k2 ?k3 ?_); (case k1 => decide); (case k2 => decide); (case k3 => decide +kernel))
  | ((with_reducible refine pow_val (v := 1569275433846670190958947355801916604025588861116008628224) (n := 190) ?k1 ?k2 ?k3 ?_); (case k1 => decide); (case k2 => decide); (case k3 => decide +kernel)))))
local macro_rules | `(tactic| walk_at "binaryOp Mod int int") => `(tactic| (k_here; (with_reducible refine mod_gen ?k1 ?_); (case k1 => decide); intro r9 hr9 hs9))
local macro_rules | `(tactic| walk_at "call builtin:len") => `(tactic| (k_here; (with_reducible show wpAny _ _ (call (Value.builtin "len") [Value.ref _]) _ _ _); k_dflt (refine' call_len_list (isl_up (by k_asm) (by assumption)) ?kf ?_; (case kf => (simp only [List.size_toArray]; omega)); k_whole); (try simp only [List.size_toArray])))
local macro_rules | `(tactic| walk_at "subscriptTail") => `(tactic| (k_here; (with_reducible show wpAny _ _ (subscriptTail _ _ (Value.ref _) (Value.int _ _)) _ _ _); k_dflt (refine' item_S (isl_up (by k_asm) (by assumption)) ?k3 ?k4 ?k5 ?_ ?k6; (case k3 => omega); (case k4 => omega); (case k5 => assumption); (case k6 => with_unfolding_all rfl); k_whole)))
local macro_rules | `(tactic| walk_at "binaryOp Mult int int") => `(tactic| (k_here; (with_reducible refine mul_int ?_ ?km); rotate_left; (case km => first | exact IntMulOk.of_right (by decide) | exact IntMulOk.of_left (by decide))))
set_option maxRecDepth 100000 in
set_option maxHeartbeats 8000000 in
theorem mixed_call {w : World} {mean : ExcName → Option Value} {mg mb : Str → Option Value} {l : Addr} {vs : List Value} {ns : List Int} {k : Int} {tk0 : Tok} (hI : IntsAre vs ns) (hlen : ns.length ≤ 63) (hk0 : 0 ≤ k) (hk1 : k ≤ 63) :
    ∀ {dp un : Nat} {gd : Option (List Code)} {cn : Str} {cs : Scope} {a₀ : Addr} {ccd : Value} {cl : List (Str × Addr)} {outer : List Env} {A₀ : Around} {base h₀ : Heap} {L : Addr} {m : Str → Option Value}
    {news : List (Addr × Obj)} {s : Shared} {Q E : Value → Shared → Prop} (_ : h₀.IsList l vs.toArray)
    (_ : Below A₀ base outer h₀) (_ : Fr h₀ L s.heap m) (_ : (Mine.hd.heap_39 w.params).In h₀) (_ : News h₀ L s.heap news) (_ : Top Mine.hd.view_39 LL mean mg mb h₀) (_ : cs.kind = .function)
    (_ : dp + 5 < recursionLimit) (_ : un + 50 < cLine)
    (_ : ∀ z tk h' tk', Fr h₀ L h' m → News h₀ L h' news → Q (.int z tk) { s with heap := h', toks := tk' }),
    wpAny (model PySem.Challenge.rw_aj5013_01.row.prog w) (ktrTop dp un gd cn cs L a₀ ccd cl outer) (call (.ref 163) [.ref l, .int k tk0]) Q E s := by
  w_top off
  k_fill
  intro dp un gd cn cs a₀ ccd cl outer A₀ base h₀ L m news s Q E hS B F X N T hk hdp hun hret
  have el : (vs.length : Int) = ns.length := by rw [hI.length]
  have hx : ∀ v, vs[k.toNat]? = some v → ∃ z t, v = .int z t := by
    exact fun v => ints_get hI
  by_cases hlt : k < (ns.length : Int)
  · obtain ⟨v, hv⟩ : ∃ v, vs[k.toNat]? = some v := ⟨_, List.getElem?_eq_getElem (by omega)⟩
    obtain ⟨z, t, rfl⟩ := hx v hv
    refine wpAny_call ?_
    k_dflt cell_enter
    rename Fr h₀ L _ m => FG
    have hS2 := isl_up FG hS
    k_steps
    all_goals exact hret _ _ _ _ (by k_asm) (by k_asm)
  · refine wpAny_call ?_
    k_dflt cell_enter
    rename Fr h₀ L _ m => FG
    have hS2 := isl_up FG hS
    k_steps
    all_goals exact hret _ _ _ _ (by k_asm) (by k_asm)
end

section
local macro_rules | `(tactic| kun_tup) => `(tactic| exact TupIn.isTup (by assumption) (by k_asm) (by k_asm) (by k_asm))
local macro_rules | `(tactic| cell_enter) => `(tactic| (refine' code_def ?k1 ?k2 ?k3 ?k4 ?k5 ?kA ?kF ?kK ?k6 ?k7 ?k8 ?k9 ?kB ?_ ?c2 ?c3 ?c4 ?c5; (case kA => exact rfl); (case kF => exact rfl); (case kK => assumption); (case k1 => k_asm); (case k2 => k_asm); (case k3 => k_asm); (case k4 => k_asm); (case k5 => k_asm); (case k6 => k_is); (case k7 => k_is); (case k8 => ktr_room); (case k9 => first | exact (by assumption : BindAs _ _ _ _) _ _ _ _ _ (by k_in) (by k_is) | exact BindsTo.of_eq rfl | exact binds_K (by k_in) rfl (by k_is) rfl rfl rfl); (case c5 => decide); (case kB => exact locs rfl); (case c2 => exact rfl); (case c3 => exact rfl); (case c4 => exact rfl); k_whole; intro g' L' h' FG' F' N' B' X' T'; (try dsimp only); (try k_lift B'); (try k_fold)))
local macro_rules | `(tactic| walk_at "ite") => `(tactic| (k_here; first
  | (refine' ite_pos ?hc9 ?_; (case hc9 => ((try simp only [bne_iff_ne, beq_iff_eq, Bool.not_eq_true', bne_eq_false_iff_eq, beq_eq_false_iff_ne, decide_eq_true_eq, decide_eq_false_iff_not, ne_eq, Bool.and_eq_true, Bool.or_eq_true, not_false_eq_true]); first | done | omega)); walk_say "PRUNED +")
  | (refine' ite_neg ?hc9 ?_; (case hc9 => ((try simp only [bne_iff_ne, beq_iff_eq, Bool.not_eq_true', bne_eq_false_iff_eq, beq_eq_false_iff_ne, decide_eq_true_eq, decide_eq_false_iff_not, ne_eq, Bool.and_eq_true, Bool.or_eq_true, not_false_eq_true]); first | done | omega)); walk_say "PRUNED -")))
local macro_rules | `(tactic| ke_read) => `(tactic| first | exact TupIn.reads (by with_reducible assumption) (by k_asm) (by k_asm) (by k_asm) | exact TupIn.reads TupIn.zero (by k_asm) (by k_asm) (by k_asm) | exact TupIn.reads TupIn.inf (by k_asm) (by k_asm) (by k_asm) | exact TupIn.reads TupIn.ninf (by k_asm) (by k_asm) (by k_asm) | exact TupIn.reads TupIn.nan (by k_asm) (by k_asm) (by k_asm))
local macro_rules | `(tactic| walk_at "compareOp Eq ref ref") => `(tactic| (k_here; (with_reducible show wpAny _ _ (compareOp CmpOp.Eq (Value.ref _) (Value.ref _)) _ _ _); k_dflt (refine eq_dataH (by ke_read) (by ke_read) rfl rfl (by ktr_units) ?_); ke_norm))
local macro_rules | `(tactic| walk_at "compareOp NotEq ref ref") => `(tactic| (k_here; (with_reducible show wpAny _ _ (compareOp CmpOp.NotEq (Value.ref _) (Value.ref _)) _ _ _); k_dflt (refine ne_dataH (by ke_read) (by ke_read) rfl rfl (by ktr_units) ?_); ke_norm))
local macro_rules | `(tactic| walk_at "binaryOp LShift int int") => `(tactic| (k_here; (with_reducible refine lshift_int ?kn ?ks ?_); (case kn => omega); (case ks => omega)))
local macro_rules | `(tactic| walk_at "binaryOp Mult int int") => `(tactic| (k_here; (with_reducible refine mul_int ?_ ?km); rotate_left; (case km => exact IntMulOk.of_le (m := 60000000) (n := 60000000) (by omega) (by omega) (by decide))))
local macro_rules | `(tactic| walk_at "eval Name") => `(tactic| (k_here; (with_reducible show wpAny _ _ (eval (Expr.Name _ _) (envOf _ _ _ _ _)) _ _ _); name_kind "local"; k_dflt (refine' ld ?k1 ?k2 ?_; (case k1 => k_asm); (case k2 => exact rfl); k_whole)))
local macro_rules | `(tactic| walk_at "binaryOp RShift int int") => `(tactic| (k_here; (with_reducible refine rshift_int ?kn ?_); (case kn => omega)))
local macro_rules | `(tactic| walk_at "inplaceOp Pow int int") => `(tactic| (k_here; (with_reducible refine ipow_int ?kn ?ks ?_); (case kn => omega); (case ks => omega)))
local macro_rules | `(tactic| walk_at "inplaceOp Mult int int") => `(tactic| (k_here; (with_reducible refine imul_int ?_ ?km); rotate_left; (case km => exact IntMulOk.of_le (m := 60000000) (n := 60000000) (by omega) (by omega) (by decide))))
local macro_rules | `(tactic| walk_at "subscriptTail") => `(tactic| (k_here; (with_reducible show wpAny _ _ (subscriptTail _ _ (Value.ref _) (Value.int _ _)) _ _ _); k_dflt (refine' item_tupleT ?k1 ?k2 ?k3 ?k4 ?k5 ?_ ?k6; (case k1 => first | exact TupIn.isTup (by with_reducible assumption) (by k_asm) (by k_asm) (by k_asm)); (case k2 => decide); (case k3 => decide); (case k4 => exact rfl); (case k5 => exact rfl); (case k6 => with_unfolding_all rfl); k_whole)))
theorem allLt_mem {d : Addr} : ∀ {l : List (Addr × Obj)}, AllLt d l → ∀ p ∈ l, p.1 < d
  | [], _, _, h => nomatch h
  | q :: r, x, p, h => by
    rcases List.mem_cons.mp h with rfl | h
    · exact x.1
    · exact allLt_mem x.2 p h
theorem News.drop2 {h₀ h : Heap} {L : Addr} {p q : Addr × Obj} {X : List (Addr × Obj)} (N : News h₀ L h (p :: q :: X)) : News h₀ L h (p :: X) := fun r hr => N r (by rcases List.mem_cons.mp hr with rfl | hr; exact .head _; exact .tail _ (.tail _ hr))
section
variable {prog : Program} {w : World} {A : Around} {E Q : Value → Shared → Prop} {s : Shared} {a b : Int} {t u : Tok}
theorem fdiv_gen (hb : 0 < b) (hp : Builtin.divisionGoesByPylong a b = false) (h : ∀ q, b * q ≤ a → a < b * q + b → Q (.int q s.toks) { s with toks := s.toks + 1 }) : wpAny (model prog w) A (binaryOp .FloorDiv (.int a t) (.int b u)) Q E s := by
  refine floordiv_int (by omega) (h _ ?_ ?_) (.inl hp)
  · have h1 := Int.mul_fdiv_add_fmod a b
    have h2 := Int.fmod_nonneg_of_pos a hb
    omega
  · have h1 := Int.mul_fdiv_add_fmod a b
    have h2 := Int.fmod_lt_of_pos a hb
    omega
theorem pow_gen (h0 : 0 ≤ b) (h1 : b ≤ 64) (h : ∀ p, p = 2 ^ b.toNat → Q (.int p s.toks) { s with toks := s.toks + 1 }) : wpAny (model prog w) A (binaryOp .Pow (.int 2 t) (.int b u)) Q E s :=
  pow_int h0 (by have : Builtin.Int.intBits 2 = 2 := by decide
                 rw [this]; omega) (h _ rfl)
end
theorem pow_facts {b p : Int} (h : p = 2 ^ b.toNat) (h1 : 1 ≤ b) (h2 : b ≤ 30) : 2 ≤ p ∧ p ≤ 1073741824 ∧ p % 2 = 0 ∧ (b ≤ 29 → p ≤ 536870912) := by
  obtain ⟨n, hn⟩ : ∃ n : Nat, b.toNat = n + 1 := ⟨b.toNat - 1, by omega⟩
  rw [hn, Int.pow_succ] at h
  have h3 : (0 : Int) < 2 ^ n := Int.pow_pos (by decide)
  have h4 : (2 : Int) ^ n ≤ 2 ^ 29 := pw_mono (by omega)
  have h5 : b ≤ 29 → (2 : Int) ^ n ≤ 2 ^ 28 := fun hb => pw_mono (by omega)
  refine ⟨by omega, ?_, by omega, fun hb => ?_⟩
  · have : (2 : Int) ^ 29 = 536870912 := by decide
    omega
  · have : (2 : Int) ^ 28 = 268435456 := by decide
    have := h5 hb
    omega
theorem pow_led {prog : Program} {w : World} {A : Around} {E Q : Value → Shared → Prop} {s : Shared} {b : Int} {t u : Tok} (h0 : 1 ≤ b) (h1 : b ≤ 30)
    (h : ∀ p : Int, 2 ≤ p → p ≤ 1073741824 → p % 2 = 0 → (b ≤ 29 → p ≤ 536870912) → Q (.int p s.toks) { s with toks := s.toks + 1 }) : wpAny (model prog w) A (binaryOp .Pow (.int 2 t) (.int b u)) Q E s :=
  pow_gen (by omega) (by omega) fun p hp => have k := pow_facts hp h0 h1; h p k.1 k.2.1 k.2.2.1 k.2.2.2
theorem raw_bits {b : Int} (h0 : 0 ≤ b) (h : b < 1073741824) : (Builtin.Int.intBits b : Int) ≤ 30 := by
  by_cases hb : b = 0
  · subst hb; decide
  · obtain ⟨n, h1, h2, h3⟩ := bits_ex (b := b) (by omega)
    rw [h1]
    by_cases hn : n + 1 ≤ 30
    · omega
    · have h4 : (2 : Int) ^ 30 ≤ 2 ^ n := pw_mono (by omega)
      have h5 : (2 : Int) ^ 30 = 1073741824 := by decide
      omega
local macro_rules | `(tactic| walk_at "binaryOp Pow int int") => `(tactic| (k_here; (first
  | ((with_reducible refine pow_val (v := 65536) (n := 16) ?k1 ?k2 ?k3 ?_); (case k1 => decide); (case k2 => decide); (case k3 => decide))
  | ((with_reducible refine pow_led ?k1 ?k2 ?_); (case k1 => omega); (case k2 => omega); (intro p9 hp1 hp2 hp3 hp4)))))
local macro_rules | `(tactic| walk_at "binaryOp Mod int int") => `(tactic| (k_here; (with_reducible refine mod_gen ?k1 ?_); (case k1 => omega); intro r9 hr9 hs9))
local macro_rules | `(tactic| walk_at "binaryOp FloorDiv int int") => `(tactic| (k_here; (with_reducible refine fdiv_gen ?k1 ?k2 ?_); (case k1 => omega); (case k2 => exact PyProof.noPylong_of_log2 (by decide +kernel)); intro q9 hq9 hs9))
local macro_rules | `(tactic| walk_at "binaryOp Mult int int") => `(tactic| (k_here; (with_reducible refine mul_int ?_ ?km); rotate_left; (case km => first | exact IntMulOk.of_right (by decide) | exact IntMulOk.of_left (by decide))))
set_option maxRecDepth 100000 in
set_option maxHeartbeats 8000000 in
theorem raw_call {w : World} {mean : ExcName → Option Value} {mg mb : Str → Option Value} {z : Int} {t1 t2 t3 : Tok} :
    ∀ {dp un : Nat} {gd : Option (List Code)} {cn : Str} {cs : Scope} {a₀ : Addr} {ccd : Value} {cl : List (Str × Addr)} {outer : List Env} {A₀ : Around} {base h₀ : Heap} {L : Addr} {m : Str → Option Value}
    {news : List (Addr × Obj)} {s : Shared} {Q E : Value → Shared → Prop}
    (_ : Below A₀ base outer h₀) (_ : Fr h₀ L s.heap m) (_ : (Mine.hd.heap_39 w.params).In h₀) (_ : News h₀ L s.heap news) (_ : Top Mine.hd.view_39 LL mean mg mb h₀) (_ : cs.kind = .function)
    (_ : dp + 5 < recursionLimit) (_ : un + 50 < cLine)
    (_ : ∀ D a b c e u1 u2 u3 u4 n h' tk', Fr h₀ L h' m → News h₀ L h' ((D, tup4 a b c e u1 u2 u3 u4 n) :: news) → (∀ p ∈ news, p.1 < D) → Can a b c e → e ≤ 30 → -20 ≤ c → c ≤ 20 → Q (.ref D) { s with heap := h', toks := tk' }),
    wpAny (model PySem.Challenge.rw_aj5013_01.row.prog w) (ktrTop dp un gd cn cs L a₀ ccd cl outer) (call (.ref 170) [.int z t1, .int 30 t2, .int 20 t3]) Q E s := by
  w_top off
  k_fill
  intro dp un gd cn cs a₀ ccd cl outer A₀ base h₀ L m news s Q E B F X N T hk hdp hun hret
  refine wpAny_call ?_
  k_dflt cell_enter
  k_steps
  all_goals (
    rename (_ < _ ∧ AllLt _ news) => hl9
    rename Fr h₀ L _ m => kF9
    rename News h₀ L _ _ => kN9
    first
    | exact hret _ _ _ _ _ _ _ _ _ _ _ _ kF9 (News.drop2 kN9) (allLt_mem hl9.2) can_nil (by decide) (by decide) (by decide)
    | exact hret _ _ _ _ _ _ _ _ _ _ _ _ kF9 (News.drop2 kN9) (allLt_mem hl9.2) (can_odd _ (by omega) (by omega) (by omega) rfl) (raw_bits (by omega) (by omega)) (by omega) (by omega))
end

section
local macro_rules | `(tactic| walk_at "pad") => `(tactic| skip)
local macro_rules | `(tactic| kun_tup) => `(tactic| exact TupIn.isTup (by assumption) (by k_asm) (by k_asm) (by k_asm))
local macro_rules | `(tactic| cell_enter) => `(tactic| (refine' code_def ?k1 ?k2 ?k3 ?k4 ?k5 ?kA ?kF ?kK ?k6 ?k7 ?k8 ?k9 ?kB ?_ ?c2 ?c3 ?c4 ?c5; (case kA => exact rfl); (case kF => exact rfl); (case kK => assumption); (case k1 => k_asm); (case k2 => k_asm); (case k3 => k_asm); (case k4 => k_asm); (case k5 => k_asm); (case k6 => k_is); (case k7 => k_is); (case k8 => ktr_room); (case k9 => first | exact (by assumption : BindAs _ _ _ _) _ _ _ _ _ (by k_in) (by k_is) | exact BindsTo.of_eq rfl | exact binds_K (by k_in) rfl (by k_is) rfl rfl rfl); (case c5 => decide); (case kB => exact locs rfl); (case c2 => exact rfl); (case c3 => exact rfl); (case c4 => exact rfl); k_whole; intro g' L' h' FG' F' N' B' X' T'; (try dsimp only); (try k_lift B'); (try k_fold)))
local macro_rules | `(tactic| walk_at "ite") => `(tactic| (k_here; first
  | (refine' ite_pos ?hc9 ?_; (case hc9 => ((try simp only [bne_iff_ne, beq_iff_eq, Bool.not_eq_true', bne_eq_false_iff_eq, beq_eq_false_iff_ne, decide_eq_true_eq, decide_eq_false_iff_not, ne_eq, Bool.and_eq_true, Bool.or_eq_true, not_false_eq_true]); first | done | omega)); walk_say "PRUNED +")
  | (refine' ite_neg ?hc9 ?_; (case hc9 => ((try simp only [bne_iff_ne, beq_iff_eq, Bool.not_eq_true', bne_eq_false_iff_eq, beq_eq_false_iff_ne, decide_eq_true_eq, decide_eq_false_iff_not, ne_eq, Bool.and_eq_true, Bool.or_eq_true, not_false_eq_true]); first | done | omega)); walk_say "PRUNED -")))
local macro_rules | `(tactic| ke_read) => `(tactic| first | exact TupIn.reads (by with_reducible assumption) (by k_asm) (by k_asm) (by k_asm) | exact TupIn.reads TupIn.zero (by k_asm) (by k_asm) (by k_asm) | exact TupIn.reads TupIn.inf (by k_asm) (by k_asm) (by k_asm) | exact TupIn.reads TupIn.ninf (by k_asm) (by k_asm) (by k_asm) | exact TupIn.reads TupIn.nan (by k_asm) (by k_asm) (by k_asm))
local macro_rules | `(tactic| walk_at "compareOp Eq ref ref") => `(tactic| (k_here; (with_reducible show wpAny _ _ (compareOp CmpOp.Eq (Value.ref _) (Value.ref _)) _ _ _); k_dflt (refine eq_dataH (by ke_read) (by ke_read) rfl rfl (by ktr_units) ?_); ke_norm))
local macro_rules | `(tactic| walk_at "compareOp NotEq ref ref") => `(tactic| (k_here; (with_reducible show wpAny _ _ (compareOp CmpOp.NotEq (Value.ref _) (Value.ref _)) _ _ _); k_dflt (refine ne_dataH (by ke_read) (by ke_read) rfl rfl (by ktr_units) ?_); ke_norm))
local macro_rules | `(tactic| walk_at "binaryOp LShift int int") => `(tactic| (k_here; (with_reducible refine lshift_int ?kn ?ks ?_); (case kn => omega); (case ks => omega)))
local macro_rules | `(tactic| walk_at "binaryOp Mult int int") => `(tactic| (k_here; (with_reducible refine mul_int ?_ ?km); rotate_left; (case km => exact IntMulOk.of_le (m := 60000000) (n := 60000000) (by omega) (by omega) (by decide))))
local macro_rules | `(tactic| walk_at "eval Name") => `(tactic| (k_here; (with_reducible show wpAny _ _ (eval (Expr.Name _ _) (envOf _ _ _ _ _)) _ _ _); name_kind "local"; k_dflt (refine' ld ?k1 ?k2 ?_; (case k1 => k_asm); (case k2 => exact rfl); k_whole)))
local macro_rules | `(tactic| walk_at "binaryOp RShift int int") => `(tactic| (k_here; (with_reducible refine rshift_int ?kn ?_); (case kn => omega)))
local macro_rules | `(tactic| walk_at "inplaceOp Pow int int") => `(tactic| (k_here; (with_reducible refine ipow_int ?kn ?ks ?_); (case kn => omega); (case ks => omega)))
local macro_rules | `(tactic| walk_at "inplaceOp Mult int int") => `(tactic| (k_here; (with_reducible refine imul_int ?_ ?km); rotate_left; (case km => exact IntMulOk.of_le (m := 60000000) (n := 60000000) (by omega) (by omega) (by decide))))
local macro_rules | `(tactic| walk_at "subscriptTail") => `(tactic| (k_here; (with_reducible show wpAny _ _ (subscriptTail _ _ (Value.ref _) (Value.int _ _)) _ _ _); k_dflt (refine' item_tupleT ?k1 ?k2 ?k3 ?k4 ?k5 ?_ ?k6; (case k1 => first | exact TupIn.isTup (by with_reducible assumption) (by k_asm) (by k_asm) (by k_asm)); (case k2 => decide); (case k3 => decide); (case k4 => exact rfl); (case k5 => exact rfl); (case k6 => with_unfolding_all rfl); k_whole)))
/-! the laws of the polynomial -/
/-- the next coefficients, c the one before: from p -/
def nextOf (r : Dyadic) : Dyadic → List Dyadic → List Dyadic
  | c, [] => [-(r * c)]
  | c, d :: p => (d - r * c) :: nextOf r d p
def stepOf (r : Dyadic) : List Dyadic → List Dyadic
  | [] => []
  | c :: p => c :: nextOf r c p
theorem foldl_next (r x : Dyadic) (p : List Dyadic) : ∀ v w c : Dyadic, v = w * x + c → (nextOf r c p).foldl (fun v c => v * x + c) (v - r * w) = p.foldl (fun v c => v * x + c) v * (x - r) := by
  induction p with
  | nil => intro v w c h; simp only [nextOf, List.foldl_cons, List.foldl_nil]; subst h; grind
  | cons d p ih =>
    intro v w c h
    simp only [nextOf, List.foldl_cons]
    have e : (v - r * w) * x + (d - r * c) = (v * x + d) - r * v := by subst h; grind
    rw [e]
    exact ih _ _ _ rfl
theorem nest_step' (r x : Dyadic) (p : List Dyadic) : nestOf (stepOf r p) x = nestOf p x * (x - r) := by
  cases p with
  | nil => simp [stepOf, nestOf]
  | cons c p =>
    simp only [stepOf, nestOf, List.foldl_cons]
    have e : (0 : Dyadic) * x + c = (0 * x + c) - r * 0 := by grind
    rw [e]
    have := foldl_next r x p (0 * x + c) 0 c rfl
    rw [this]
    congr 2
def builtOf (lead : Dyadic) (rs : List Dyadic) : List Dyadic := rs.foldl (fun p r => stepOf r p) [lead]
theorem nest_built' (x : Dyadic) (rs : List Dyadic) : ∀ p : List Dyadic, nestOf (rs.foldl (fun p r => stepOf r p) p) x = prodOf (nestOf p x) x rs := by
  induction rs with
  | nil => intro p; rfl
  | cons r rs ih => intro p; rw [List.foldl_cons, ih, nest_step']; rfl
theorem nest_built (lead x : Dyadic) (rs : List Dyadic) : nestOf (builtOf lead rs) x = prodOf lead x rs := by
  rw [builtOf, nest_built']
  congr 1
theorem terms_cons (c x : Dyadic) (p : List Dyadic) : termsOf (c :: p) x = (c * x ^ p.length) :: termsOf p x := by
  unfold termsOf
  rw [List.mapIdx_cons]
  congr 1
  refine List.mapIdx_eq_mapIdx_iff.mpr fun i hi => ?_
  simp only [List.length_cons]
  congr 2
  omega
theorem terms_foldl (x : Dyadic) (p : List Dyadic) : ∀ v : Dyadic, p.foldl (fun v c => v * x + c) v = v * x ^ p.length + (termsOf p x).sum := by
  induction p with
  | nil => intro v; simp [termsOf, Dyadic.pow_zero, Dyadic.mul_one]
  | cons c p ih =>
    intro v
    rw [List.foldl_cons, ih, terms_cons, List.sum_cons, List.length_cons, Dyadic.pow_succ]
    grind
theorem terms_nest (x : Dyadic) (p : List Dyadic) : (termsOf p x).sum = nestOf p x := by
  unfold nestOf
  rw [terms_foldl, Dyadic.zero_mul, Dyadic.zero_add]
theorem next_comm (r s : Dyadic) (p : List Dyadic) : ∀ w c : Dyadic, nextOf s (c - r * w) (nextOf r c p) = nextOf r (c - s * w) (nextOf s c p) := by
  induction p with
  | nil => intro w c; simp only [nextOf]; congr 1; grind; congr 1; grind
  | cons d p ih => intro w c; simp only [nextOf]; rw [ih]; congr 1; grind
theorem step_comm (r s : Dyadic) (p : List Dyadic) : stepOf s (stepOf r p) = stepOf r (stepOf s p) := by
  cases p with
  | nil => rfl
  | cons c p =>
    simp only [stepOf]
    have := next_comm r s p 0 c
    have e1 : c - r * 0 = c := by grind
    have e2 : c - s * 0 = c := by grind
    rw [e1, e2] at this
    rw [this]
def divOf (r : Dyadic) : Dyadic → List Dyadic → List Dyadic
  | _, [] => []
  | v, c :: p => (c + r * v) :: divOf r (c + r * v) p
theorem div_next (r : Dyadic) (p : List Dyadic) : ∀ c : Dyadic, divOf r c (nextOf r c p) = p ++ [0] := by
  induction p with
  | nil => intro c; simp only [nextOf, divOf, List.nil_append]; congr 1; grind
  | cons d p ih =>
    intro c
    have e : d - r * c + r * c = d := by grind
    simp only [nextOf, divOf, List.cons_append, e, ih]
theorem div_step (r c : Dyadic) (p : List Dyadic) : divOf r 0 (stepOf r (c :: p)) = (c :: p) ++ [0] := by
  have e : c + r * 0 = c := by grind
  simp only [stepOf, divOf, e, div_next, List.cons_append]
theorem step_foldl (r : Dyadic) (rs : List Dyadic) : ∀ p, rs.foldl (fun p r => stepOf r p) (stepOf r p) = stepOf r (rs.foldl (fun p r => stepOf r p) p) := by
  induction rs with
  | nil => intro p; rfl
  | cons s rs ih => intro p; rw [List.foldl_cons, List.foldl_cons, step_comm, ih]
theorem built_take {lead r : Dyadic} {rs : List Dyadic} {k : Nat} (h : rs[k]? = some r) : builtOf lead rs = stepOf r (builtOf lead (rs.take k ++ rs.drop (k + 1))) := by
  have e : rs = rs.take k ++ r :: rs.drop (k + 1) := by
    obtain ⟨h1, h2⟩ := List.getElem?_eq_some_iff.mp h
    rw [← h2, List.getElem_cons_drop, List.take_append_drop]
  unfold builtOf
  conv => lhs; rw [e, List.foldl_append, List.foldl_cons, step_foldl]
  rw [List.foldl_append]
theorem step_second (r c : Dyadic) (p : List Dyadic) : ((stepOf r (c :: p))[1]?).getD 0 = ((c :: p)[1]?).getD 0 - r * c := by
  cases p with
  | nil => simp only [stepOf, nextOf]; simp; grind
  | cons d p => simp [stepOf, nextOf]
theorem next_last (r : Dyadic) (p : List Dyadic) : ∀ c : Dyadic, ((nextOf r c p).getLast?).getD 0 = -(r * ((c :: p).getLast?).getD 0) := by
  induction p with
  | nil => intro c; simp [nextOf]
  | cons d p ih => intro c; simp only [nextOf]; have := ih d; cases h : nextOf r d p with
    | nil => cases p <;> simp [nextOf] at h
    | cons a l => rw [h] at this; rw [List.getLast?_cons_cons, this, List.getLast?_cons_cons]
theorem step_last (r c : Dyadic) (p : List Dyadic) : ((stepOf r (c :: p)).getLast?).getD 0 = -(r * ((c :: p).getLast?).getD 0) := by
  rw [← next_last]
  simp only [stepOf]
  cases h : nextOf r c p with
  | nil => cases p <;> simp [nextOf] at h
  | cons a l => rw [List.getLast?_cons_cons]
theorem next_len (r : Dyadic) (p : List Dyadic) : ∀ c, (nextOf r c p).length = p.length + 1 := by
  induction p with
  | nil => intro c; rfl
  | cons d p ih => intro c; simp [nextOf, ih]
/-- the value and the slope by nested products -/
def dstep (x : Dyadic) (q : Dyadic × Dyadic) (c : Dyadic) : Dyadic × Dyadic := (q.1 * x + c, q.2 * x + q.1)
theorem dnext (r x : Dyadic) (p : List Dyadic) : ∀ v dv w dw c : Dyadic, v = w * x + c → dv = dw * x + w →
    ((nextOf r c p).foldl (dstep x) (v - r * w, dv - r * dw)).2 = (p.foldl (dstep x) (v, dv)).2 * (x - r) + (p.foldl (dstep x) (v, dv)).1 := by
  induction p with
  | nil => intro v dv w dw c h h'; simp only [nextOf, List.foldl_cons, List.foldl_nil, dstep]; subst h h'; grind
  | cons d p ih =>
    intro v dv w dw c h h'
    simp only [nextOf, List.foldl_cons]
    have e : dstep x (v - r * w, dv - r * dw) (d - r * c) = ((v * x + d) - r * v, (dv * x + v) - r * dv) := by
      simp only [dstep]; subst h h'; refine Prod.ext ?_ ?_ <;> simp only <;> grind
    rw [e]
    exact ih _ _ _ _ _ rfl rfl
def nOf (n : Nat) : Dyadic := Dyadic.ofIntWithPrec n 0
theorem nOf_succ (n : Nat) : nOf (n + 1) = nOf n + 1 := by
  unfold nOf
  rw [show (1 : Dyadic) = Dyadic.ofIntWithPrec 1 0 from rfl, o_add]; rfl
/-- the coefficients of the slope -/
def slp : List Dyadic → List Dyadic
  | [] => []
  | [_] => []
  | c :: d :: p => (c * nOf (d :: p).length) :: slp (d :: p)
theorem slp_foldl (x : Dyadic) (p : List Dyadic) : ∀ s v dv : Dyadic, p ≠ [] → s = x * dv + nOf p.length * v → (slp p).foldl (fun v c => v * x + c) s = (p.foldl (dstep x) (v, dv)).2 := by
  induction p with
  | nil => intro s v dv h; exact absurd rfl h
  | cons c p ih =>
    intro s v dv _ h
    cases p with
    | nil =>
      have e : nOf 1 = 1 := rfl
      simp only [slp, List.foldl_nil, List.foldl_cons, dstep, List.length_cons, List.length_nil] at h ⊢
      rw [h, Nat.zero_add, e]; grind
    | cons d p =>
      simp only [slp]
      rw [List.foldl_cons, List.foldl_cons (l := d :: p) (b := (v, dv))]
      refine ih _ _ _ (by simp) ?_
      rw [List.length_cons, nOf_succ] at h
      rw [h]; grind
theorem slp_nest (x : Dyadic) {p : List Dyadic} (h : p ≠ []) : nestOf (slp p) x = (p.foldl (dstep x) (0, 0)).2 := by
  unfold nestOf
  exact slp_foldl x p 0 0 0 h (by grind)
theorem dfst (x : Dyadic) (p : List Dyadic) : ∀ v dv : Dyadic, (p.foldl (dstep x) (v, dv)).1 = p.foldl (fun v c => v * x + c) v := by
  induction p with
  | nil => intro v dv; rfl
  | cons c p ih => intro v dv; rw [List.foldl_cons, List.foldl_cons]; exact ih _ _
theorem slope_step (r c : Dyadic) (p : List Dyadic) : nestOf (slp (stepOf r (c :: p))) r = nestOf (c :: p) r := by
  rw [slp_nest r (by simp [stepOf])]
  simp only [stepOf, List.foldl_cons]
  have e : dstep r (0, 0) c = ((0 * r + c) - r * 0, (0 * r + 0) - r * 0) := by
    simp only [dstep]; refine Prod.ext ?_ ?_ <;> simp only <;> grind
  rw [e, dnext r r p (0 * r + c) (0 * r + 0) 0 0 c rfl rfl, dfst]
  have e2 : r - r = 0 := by grind
  rw [e2, Dyadic.mul_zero, Dyadic.zero_add]
  rfl
theorem step_form (r c : Dyadic) (p : List Dyadic) : stepOf r (c :: p) = c :: nextOf r c p := rfl
theorem step_len (r c : Dyadic) (p : List Dyadic) : (stepOf r (c :: p)).length = p.length + 2 := by rw [step_form, List.length_cons, next_len]
theorem built_snoc (lead r : Dyadic) (rs : List Dyadic) : builtOf lead (rs ++ [r]) = stepOf r (builtOf lead rs) := by
  rw [builtOf, List.foldl_append]; rfl
theorem built_step {lead r : Dyadic} {rs : List Dyadic} {i : Nat} (h : rs[i]? = some r) : builtOf lead (rs.take (i + 1)) = stepOf r (builtOf lead (rs.take i)) := by
  rw [List.take_add_one, h, Option.toList_some, built_snoc]
theorem fold_form (lead : Dyadic) (rs : List Dyadic) : ∀ p, ∃ q, rs.foldl (fun p r => stepOf r p) (lead :: p) = lead :: q ∧ q.length = p.length + rs.length := by
  induction rs with
  | nil => intro p; exact ⟨p, rfl, rfl⟩
  | cons r rs ih =>
    intro p
    rw [List.foldl_cons, step_form]
    obtain ⟨q, h1, h2⟩ := ih (nextOf r lead p)
    exact ⟨q, h1, by rw [h2, next_len, List.length_cons]; omega⟩
theorem built_form (lead : Dyadic) (rs : List Dyadic) : ∃ q, builtOf lead rs = lead :: q ∧ q.length = rs.length := by
  obtain ⟨q, h1, h2⟩ := fold_form lead rs []
  exact ⟨q, h1, by rw [h2]; simp⟩
theorem built_len (lead : Dyadic) (rs : List Dyadic) : (builtOf lead rs).length = rs.length + 1 := by
  obtain ⟨q, h1, h2⟩ := built_form lead rs
  rw [h1, List.length_cons, h2]
theorem next_get (r : Dyadic) (p : List Dyadic) : ∀ (c : Dyadic) (i : Nat) (d e : Dyadic), (c :: p)[i]? = some e → p[i]? = some d → (nextOf r c p)[i]? = some (d - r * e) := by
  induction p with
  | nil => intro c i d e _ h; simp at h
  | cons f p ih =>
    intro c i d e h1 h2
    cases i with
    | zero => simp at h1 h2; subst h1 h2; simp [nextOf]
    | succ i =>
      simp only [nextOf, List.getElem?_cons_succ] at h1 h2 ⊢
      exact ih f i d e h1 h2
theorem step_get {r d e : Dyadic} {p : List Dyadic} {i : Nat} (h1 : p[i]? = some e) (h2 : p[i + 1]? = some d) : (stepOf r p)[i + 1]? = some (d - r * e) := by
  cases p with
  | nil => simp at h1
  | cons c p =>
    rw [step_form, List.getElem?_cons_succ]
    exact next_get r p c i d e h1 (by simpa using h2)
theorem next_end (r : Dyadic) (p : List Dyadic) : ∀ (c e : Dyadic), (c :: p)[p.length]? = some e → (nextOf r c p)[p.length]? = some (-(r * e)) := by
  induction p with
  | nil => intro c e h; simp at h; subst h; simp [nextOf]
  | cons f p ih =>
    intro c e h
    simp only [nextOf, List.length_cons, List.getElem?_cons_succ] at h ⊢
    exact ih f e h
theorem step_end {r e : Dyadic} {p : List Dyadic} {n : Nat} (hn : p.length = n + 1) (h : p[n]? = some e) : stepOf r p = (stepOf r p).take (n + 1) ++ [-(r * e)] := by
  cases p with
  | nil => simp at hn
  | cons c p =>
    have hp : p.length = n := by simpa using hn
    have h2 : (stepOf r (c :: p))[n + 1]? = some (-(r * e)) := by
      rw [step_form, List.getElem?_cons_succ, ← hp]
      exact next_end r p c e (by rw [hp]; exact h)
    have h3 : (stepOf r (c :: p)).length = n + 2 := by rw [step_len, hp]
    have h4 : (stepOf r (c :: p)).take (n + 1 + 1) = stepOf r (c :: p) := List.take_of_length_le (by omega)
    rw [List.take_add_one, h2] at h4
    exact h4.symm
theorem step_take {r d e : Dyadic} {p : List Dyadic} {i : Nat} (h1 : p[i]? = some e) (h2 : p[i + 1]? = some d) : (stepOf r p).take (i + 2) = (stepOf r p).take (i + 1) ++ [d - r * e] := by
  rw [List.take_add_one, step_get h1 h2]; rfl
theorem fold_neg (rs : List Dyadic) : ∀ v : Dyadic, rs.foldl (fun v r => v * r) (-v) = -(rs.foldl (fun v r => v * r) v) := by
  induction rs with
  | nil => intro v; rfl
  | cons r rs ih => intro v; rw [List.foldl_cons, List.foldl_cons, ← ih]; congr 1; grind
theorem fold_last (rs : List Dyadic) : ∀ p : List Dyadic, p ≠ [] → ((rs.foldl (fun p r => stepOf r p) p).getLast?).getD 0 = if rs.length % 2 = 1 then -(rs.foldl (fun v r => v * r) ((p.getLast?).getD 0)) else rs.foldl (fun v r => v * r) ((p.getLast?).getD 0) := by
  induction rs with
  | nil => intro p _; rfl
  | cons r rs ih =>
    intro p hp
    cases p with
    | nil => exact absurd rfl hp
    | cons c p =>
      rw [List.foldl_cons, List.foldl_cons, ih _ (by simp [step_form]), step_last]
      have e : -(r * ((c :: p).getLast?).getD 0) = -(((c :: p).getLast?).getD 0 * r) := by grind
      rw [e, fold_neg, List.length_cons]
      generalize rs.foldl (fun v r => v * r) (((c :: p).getLast?).getD 0 * r) = z
      by_cases h : rs.length % 2 = 1
      · rw [if_pos h, if_neg (by omega)]; grind
      · rw [if_neg h, if_pos (by omega)]
theorem built_last (lead : Dyadic) (rs : List Dyadic) : ((builtOf lead rs).getLast?).getD 0 = if rs.length % 2 = 1 then -(rs.foldl (fun v r => v * r) lead) else rs.foldl (fun v r => v * r) lead := by
  rw [builtOf, fold_last rs [lead] (by simp)]; rfl
theorem fold_second (c : Dyadic) (rs : List Dyadic) : ∀ p : List Dyadic, ((rs.foldl (fun p r => stepOf r p) (c :: p))[1]?).getD 0 = ((c :: p)[1]?).getD 0 - c * rs.sum := by
  induction rs with
  | nil => intro p; simp only [List.foldl_nil, List.sum_nil]; grind
  | cons r rs ih =>
    intro p
    rw [List.foldl_cons, step_form, ih, ← step_form, step_second, List.sum_cons]
    grind
theorem built_second (lead : Dyadic) (rs : List Dyadic) : ((builtOf lead rs)[1]?).getD 0 = -(lead * rs.sum) := by
  rw [builtOf, fold_second]
  simp only [List.getElem?_cons_succ, List.getElem?_nil, Option.getD_none]
  grind
end

section
local macro_rules | `(tactic| walk_at "pad") => `(tactic| skip)
local macro_rules | `(tactic| kun_tup) => `(tactic| exact TupIn.isTup (by assumption) (by k_asm) (by k_asm) (by k_asm))
local macro_rules | `(tactic| cell_enter) => `(tactic| (refine' code_def ?k1 ?k2 ?k3 ?k4 ?k5 ?kA ?kF ?kK ?k6 ?k7 ?k8 ?k9 ?kB ?_ ?c2 ?c3 ?c4 ?c5; (case kA => exact rfl); (case kF => exact rfl); (case kK => assumption); (case k1 => k_asm); (case k2 => k_asm); (case k3 => k_asm); (case k4 => k_asm); (case k5 => k_asm); (case k6 => k_is); (case k7 => k_is); (case k8 => ktr_room); (case k9 => first | exact (by assumption : BindAs _ _ _ _) _ _ _ _ _ (by k_in) (by k_is) | exact BindsTo.of_eq rfl | exact binds_K (by k_in) rfl (by k_is) rfl rfl rfl); (case c5 => decide); (case kB => exact locs rfl); (case c2 => exact rfl); (case c3 => exact rfl); (case c4 => exact rfl); k_whole; intro g' L' h' FG' F' N' B' X' T'; (try dsimp only); (try k_lift B'); (try k_fold)))
local macro_rules | `(tactic| walk_at "ite") => `(tactic| (k_here; first
  | (refine' ite_pos ?hc9 ?_; (case hc9 => ((try simp only [bne_iff_ne, beq_iff_eq, Bool.not_eq_true', bne_eq_false_iff_eq, beq_eq_false_iff_ne, decide_eq_true_eq, decide_eq_false_iff_not, ne_eq, Bool.and_eq_true, Bool.or_eq_true, not_false_eq_true]); first | done | omega)); walk_say "PRUNED +")
  | (refine' ite_neg ?hc9 ?_; (case hc9 => ((try simp only [bne_iff_ne, beq_iff_eq, Bool.not_eq_true', bne_eq_false_iff_eq, beq_eq_false_iff_ne, decide_eq_true_eq, decide_eq_false_iff_not, ne_eq, Bool.and_eq_true, Bool.or_eq_true, not_false_eq_true]); first | done | omega)); walk_say "PRUNED -")))
local macro_rules | `(tactic| ke_read) => `(tactic| first | exact TupIn.reads (by with_reducible assumption) (by k_asm) (by k_asm) (by k_asm) | exact TupIn.reads TupIn.zero (by k_asm) (by k_asm) (by k_asm) | exact TupIn.reads TupIn.inf (by k_asm) (by k_asm) (by k_asm) | exact TupIn.reads TupIn.ninf (by k_asm) (by k_asm) (by k_asm) | exact TupIn.reads TupIn.nan (by k_asm) (by k_asm) (by k_asm))
local macro_rules | `(tactic| walk_at "compareOp Eq ref ref") => `(tactic| (k_here; (with_reducible show wpAny _ _ (compareOp CmpOp.Eq (Value.ref _) (Value.ref _)) _ _ _); k_dflt (refine eq_dataH (by ke_read) (by ke_read) rfl rfl (by ktr_units) ?_); ke_norm))
local macro_rules | `(tactic| walk_at "compareOp NotEq ref ref") => `(tactic| (k_here; (with_reducible show wpAny _ _ (compareOp CmpOp.NotEq (Value.ref _) (Value.ref _)) _ _ _); k_dflt (refine ne_dataH (by ke_read) (by ke_read) rfl rfl (by ktr_units) ?_); ke_norm))
local macro_rules | `(tactic| walk_at "binaryOp LShift int int") => `(tactic| (k_here; (with_reducible refine lshift_int ?kn ?ks ?_); (case kn => omega); (case ks => omega)))
local macro_rules | `(tactic| walk_at "binaryOp Mult int int") => `(tactic| (k_here; (with_reducible refine mul_int ?_ ?km); rotate_left; (case km => exact IntMulOk.of_le (m := 60000000) (n := 60000000) (by omega) (by omega) (by decide))))
local macro_rules | `(tactic| walk_at "eval Name") => `(tactic| (k_here; (with_reducible show wpAny _ _ (eval (Expr.Name _ _) (envOf _ _ _ _ _)) _ _ _); name_kind "local"; k_dflt (refine' ld ?k1 ?k2 ?_; (case k1 => k_asm); (case k2 => exact rfl); k_whole)))
local macro_rules | `(tactic| walk_at "binaryOp RShift int int") => `(tactic| (k_here; (with_reducible refine rshift_int ?kn ?_); (case kn => omega)))
local macro_rules | `(tactic| walk_at "inplaceOp Pow int int") => `(tactic| (k_here; (with_reducible refine ipow_int ?kn ?ks ?_); (case kn => omega); (case ks => omega)))
local macro_rules | `(tactic| walk_at "inplaceOp Mult int int") => `(tactic| (k_here; (with_reducible refine imul_int ?_ ?km); rotate_left; (case km => exact IntMulOk.of_le (m := 60000000) (n := 60000000) (by omega) (by omega) (by decide))))
local macro_rules | `(tactic| walk_at "subscriptTail") => `(tactic| (k_here; (with_reducible show wpAny _ _ (subscriptTail _ _ (Value.ref _) (Value.int _ _)) _ _ _); k_dflt (refine' item_tupleT ?k1 ?k2 ?k3 ?k4 ?k5 ?_ ?k6; (case k1 => first | exact TupIn.isTup (by with_reducible assumption) (by k_asm) (by k_asm) (by k_asm)); (case k2 => decide); (case k3 => decide); (case k4 => exact rfl); (case k5 => exact rfl); (case k6 => with_unfolding_all rfl); k_whole)))
theorem bd_o {n i p : Int} (h1 : p ≤ n) (h2 : (Builtin.Int.intBits i : Int) - p ≤ n) : Bd n (Dyadic.ofIntWithPrec i p) := by
  intro a b c e hC q
  by_cases hb : b = 0
  · exact .inl hb
  refine .inr ?_
  have f := hC.facts
  rw [dy_sv] at q
  rcases Int.le_total c (-p) with hc | hc
  · have q2 : Dyadic.ofIntWithPrec (i * 2 ^ (-p - c).toNat) (-c) = Dyadic.ofIntWithPrec (sv a b) (-c) := by
      rw [← q, ← o_lift i hc, Int.neg_neg]
    obtain hz | hz : (-p - c).toNat = 0 ∨ 0 < -p - c := by omega
    · have q3 := o_inj q2
      rw [hz] at q3
      have q4 : i = sv a b := by simpa using q3
      have q5 := bits_sv a b
      rw [← q4] at q5
      omega
    · exact absurd (o_inj q2) (odd_ne (sv_odd (by omega)) hz)
  · have q2 : Dyadic.ofIntWithPrec i (- -p) = Dyadic.ofIntWithPrec (sv a b * 2 ^ (c - -p).toNat) (- -p) := by
      rw [← o_lift (sv a b) hc, ← q, Int.neg_neg]
    have q3 := o_inj q2
    have q4 := bits_shift (o := b) (by omega) (c - -p).toNat
    have q5 := bits_sv a (b * 2 ^ (c - -p).toNat)
    rw [sv_mul, ← q3] at q5
    omega
/-- a whole number of up to v bits at the place -u -/
def Wd (u v : Nat) (d : Dyadic) : Prop := ∃ i : Int, d = Dyadic.ofIntWithPrec i u ∧ Builtin.Int.intBits i ≤ v
theorem Wd.bd {u v : Nat} {d : Dyadic} {n : Int} (h : Wd u v d) (h1 : (u : Int) ≤ n) (h2 : (v : Int) - u ≤ n) : Bd n d := by
  obtain ⟨i, rfl, hi⟩ := h
  exact bd_o h1 (by omega)
theorem Wd.mul {u v u' v' : Nat} {d d' : Dyadic} (h : Wd u v d) (h' : Wd u' v' d') : Wd (u + u') (v + v') (d * d') := by
  obtain ⟨i, rfl, hi⟩ := h
  obtain ⟨j, rfl, hj⟩ := h'
  exact ⟨i * j, by rw [o_mul]; rfl, intBits_mul_le hi hj⟩
theorem Wd.add {u v v' : Nat} {d d' : Dyadic} (h : Wd u v d) (h' : Wd u v' d') : Wd u (max v v' + 1) (d + d') := by
  obtain ⟨i, rfl, hi⟩ := h
  obtain ⟨j, rfl, hj⟩ := h'
  exact ⟨i + j, by rw [o_add], intBits_add_le hi hj⟩
theorem Wd.neg {u v : Nat} {d : Dyadic} (h : Wd u v d) : Wd u v (-d) := by
  obtain ⟨i, rfl, hi⟩ := h
  exact ⟨-i, by rw [o_neg], intBits_neg_le hi⟩
theorem Wd.sub {u v v' : Nat} {d d' : Dyadic} (h : Wd u v d) (h' : Wd u v' d') : Wd u (max v v' + 1) (d - d') := by
  have e : d - d' = d + -d' := by grind
  rw [e]; exact h.add h'.neg
theorem Wd.lift {u v : Nat} {d : Dyadic} (h : Wd u v d) (k : Nat) : Wd (u + k) (v + k) d := by
  obtain ⟨i, rfl, hi⟩ := h
  exact ⟨i * 2 ^ k, by rw [← o_shift i u k]; rfl, Nat.le_trans (bits_shl_le i k) (by omega)⟩
theorem Wd.mono {u v v' : Nat} {d : Dyadic} (h : Wd u v d) (hv : v ≤ v') : Wd u v' d := by
  obtain ⟨i, rfl, hi⟩ := h
  exact ⟨i, rfl, by omega⟩
theorem Wd.can {a b c e : Int} (h : Can a b c e) (he : e ≤ 30) (h1 : -20 ≤ c) (h2 : c ≤ 20) : Wd 20 70 (dy a b c) := by
  refine ⟨sv a b * 2 ^ (c - -20).toNat, ?_, ?_⟩
  · rw [dy_sv, o_lift (sv a b) h1]; rfl
  · have := bits_shl_le (sv a b) (c - -20).toNat
    rw [bits_sv] at this
    have := h.facts.2.2.2.1
    omega
end

section
local macro_rules | `(tactic| walk_at "pad") => `(tactic| skip)
local macro_rules | `(tactic| kun_tup) => `(tactic| exact TupIn.isTup (by assumption) (by k_asm) (by k_asm) (by k_asm))
local macro_rules | `(tactic| cell_enter) => `(tactic| (refine' code_def ?k1 ?k2 ?k3 ?k4 ?k5 ?kA ?kF ?kK ?k6 ?k7 ?k8 ?k9 ?kB ?_ ?c2 ?c3 ?c4 ?c5; (case kA => exact rfl); (case kF => exact rfl); (case kK => assumption); (case k1 => k_asm); (case k2 => k_asm); (case k3 => k_asm); (case k4 => k_asm); (case k5 => k_asm); (case k6 => k_is); (case k7 => k_is); (case k8 => ktr_room); (case k9 => first | exact (by assumption : BindAs _ _ _ _) _ _ _ _ _ (by k_in) (by k_is) | exact BindsTo.of_eq rfl | exact binds_K (by k_in) rfl (by k_is) rfl rfl rfl); (case c5 => decide); (case kB => exact locs rfl); (case c2 => exact rfl); (case c3 => exact rfl); (case c4 => exact rfl); k_whole; intro g' L' h' FG' F' N' B' X' T'; (try dsimp only); (try k_lift B'); (try k_fold)))
local macro_rules | `(tactic| walk_at "ite") => `(tactic| (k_here; first
  | (refine' ite_pos ?hc9 ?_; (case hc9 => ((try simp only [bne_iff_ne, beq_iff_eq, Bool.not_eq_true', bne_eq_false_iff_eq, beq_eq_false_iff_ne, decide_eq_true_eq, decide_eq_false_iff_not, ne_eq, Bool.and_eq_true, Bool.or_eq_true, not_false_eq_true]); first | done | omega)); walk_say "PRUNED +")
  | (refine' ite_neg ?hc9 ?_; (case hc9 => ((try simp only [bne_iff_ne, beq_iff_eq, Bool.not_eq_true', bne_eq_false_iff_eq, beq_eq_false_iff_ne, decide_eq_true_eq, decide_eq_false_iff_not, ne_eq, Bool.and_eq_true, Bool.or_eq_true, not_false_eq_true]); first | done | omega)); walk_say "PRUNED -")))
local macro_rules | `(tactic| ke_read) => `(tactic| first | exact TupIn.reads (by with_reducible assumption) (by k_asm) (by k_asm) (by k_asm) | exact TupIn.reads TupIn.zero (by k_asm) (by k_asm) (by k_asm) | exact TupIn.reads TupIn.inf (by k_asm) (by k_asm) (by k_asm) | exact TupIn.reads TupIn.ninf (by k_asm) (by k_asm) (by k_asm) | exact TupIn.reads TupIn.nan (by k_asm) (by k_asm) (by k_asm))
local macro_rules | `(tactic| walk_at "compareOp Eq ref ref") => `(tactic| (k_here; (with_reducible show wpAny _ _ (compareOp CmpOp.Eq (Value.ref _) (Value.ref _)) _ _ _); k_dflt (refine eq_dataH (by ke_read) (by ke_read) rfl rfl (by ktr_units) ?_); ke_norm))
local macro_rules | `(tactic| walk_at "compareOp NotEq ref ref") => `(tactic| (k_here; (with_reducible show wpAny _ _ (compareOp CmpOp.NotEq (Value.ref _) (Value.ref _)) _ _ _); k_dflt (refine ne_dataH (by ke_read) (by ke_read) rfl rfl (by ktr_units) ?_); ke_norm))
local macro_rules | `(tactic| walk_at "binaryOp LShift int int") => `(tactic| (k_here; (with_reducible refine lshift_int ?kn ?ks ?_); (case kn => omega); (case ks => omega)))
local macro_rules | `(tactic| walk_at "binaryOp Mult int int") => `(tactic| (k_here; (with_reducible refine mul_int ?_ ?km); rotate_left; (case km => exact IntMulOk.of_le (m := 60000000) (n := 60000000) (by omega) (by omega) (by decide))))
local macro_rules | `(tactic| walk_at "eval Name") => `(tactic| (k_here; (with_reducible show wpAny _ _ (eval (Expr.Name _ _) (envOf _ _ _ _ _)) _ _ _); name_kind "local"; k_dflt (refine' ld ?k1 ?k2 ?_; (case k1 => k_asm); (case k2 => exact rfl); k_whole)))
local macro_rules | `(tactic| walk_at "binaryOp RShift int int") => `(tactic| (k_here; (with_reducible refine rshift_int ?kn ?_); (case kn => omega)))
local macro_rules | `(tactic| walk_at "inplaceOp Pow int int") => `(tactic| (k_here; (with_reducible refine ipow_int ?kn ?ks ?_); (case kn => omega); (case ks => omega)))
local macro_rules | `(tactic| walk_at "inplaceOp Mult int int") => `(tactic| (k_here; (with_reducible refine imul_int ?_ ?km); rotate_left; (case km => exact IntMulOk.of_le (m := 60000000) (n := 60000000) (by omega) (by omega) (by decide))))
local macro_rules | `(tactic| walk_at "subscriptTail") => `(tactic| (k_here; (with_reducible show wpAny _ _ (subscriptTail _ _ (Value.ref _) (Value.int _ _)) _ _ _); k_dflt (refine' item_tupleT ?k1 ?k2 ?k3 ?k4 ?k5 ?_ ?k6; (case k1 => first | exact TupIn.isTup (by with_reducible assumption) (by k_asm) (by k_asm) (by k_asm)); (case k2 => decide); (case k3 => decide); (case k4 => exact rfl); (case k5 => exact rfl); (case k6 => with_unfolding_all rfl); k_whole)))
set_option maxRecDepth 100000 in
set_option maxHeartbeats 8000000 in
theorem mulp_z (w : World) (mean : ExcName → Option Value) (mg mb : Str → Option Value) (v v' : Value) (a' b' c' e' : Int) (t5 t6 : Tok) (rnd : Str) (hC' : Can a' b' c' e') :
    Spec w mean mg mb 131 3 30 [v, v', .int 2000 t5, .str rnd t6] (fun news => T4 news v 0 0 0 0 ∧ T4 news v' a' b' c' e') (fun news r => r = .ref 22) := by
  unfold Spec
  w_top off
  k_fill
  intro dp un gd cn cs a₀ ccd cl outer A₀ base h₀ L m news s Q E B F X N T hk hpre hdp hun hret
  obtain ⟨⟨x, t1, t2, t3, t4, rfl, hx⟩, ⟨x', t1', t2', t3', t4', rfl, hx'⟩⟩ := hpre
  obtain ⟨ha', hb', hz', he', ho'⟩ := hC'.facts
  have hm : (0 : Int) * b' = 0 := Int.zero_mul _
  refine wpAny_call ?_
  k_dflt cell_enter
  k_steps
  all_goals try (exfalso; omega)
  all_goals exact hret _ _ _ _ (by k_asm) (by k_asm) Ext.refl rfl
local macro_rules | `(tactic| walk_at "call ref") => `(tactic| (k_here; (with_reducible show wpAny _ _ (call (Value.ref 61) _) _ _ _); k_dflt (refine' Spec.use (fi_walk _ _ _ _ _ _) ?k1 ?k2 ?k3 ?k4 ?k5 ?kK ?kp ?kd ?ku ?_); (case k1 => k_asm); (case k2 => k_asm); (case k3 => k_asm); (case k4 => k_asm); (case k5 => k_asm); (case kK => first | exact rfl | assumption); (case kp => trivial); (case kd => ktr_room); (case ku => ktr_units); k_whole; intro r9 tl9 h9 tk9 F9 N9 l9 p9; (obtain ⟨a9, b9, c9, e9, q9, hC9, hd9⟩ := p9); (try dsimp only); walk_say "CONTRACT 61"))
local macro_rules | `(tactic| walk_at "call ref") => `(tactic| (k_here; (with_reducible show wpAny _ _ (call (Value.ref 131) _) _ _ _); k_dflt (refine' Spec.use (mulp_z _ _ _ _ _ _ _ _ _ _ _ _ _ ?hq) ?k1 ?k2 ?k3 ?k4 ?k5 ?kK ?kp ?kd ?ku ?_); (case k1 => k_asm); (case k2 => k_asm); (case k3 => k_asm); (case k4 => k_asm); (case k5 => k_asm); (case kK => first | exact rfl | assumption); (case kp => exact ⟨⟨_, _, _, _, _, rfl, TupIn.mono (by assumption) (fun p hp => Ext.mem (by assumption) hp)⟩, by assumption⟩); (case hq => assumption); (case kd => ktr_room); (case ku => ktr_units); k_whole; intro r9 tl9 h9 tk9 F9 N9 l9 p9; subst p9; (try dsimp only); walk_say "CONTRACT 131"))
set_option maxRecDepth 100000 in
set_option maxHeartbeats 8000000 in
theorem mulint_z (w : World) (mean : ExcName → Option Value) (mg mb : Str → Option Value) (n₀ : List (Addr × Obj)) (v : Value) (n : Int) (t5 t6 : Tok) (hn1 : 1 ≤ n) (hn2 : n ≤ 8) :
    Spec w mean mg mb 139 15 250 [v, .int n t5, .int 2000 t6] (fun news => news = n₀ ∧ T4 news v 0 0 0 0) (fun news r => NumF n₀ news r (dy 0 0 0 * Dyadic.ofIntWithPrec n 0)) := by
  unfold Spec
  w_top off
  k_fill
  intro dp un gd cn cs a₀ ccd cl outer A₀ base h₀ L m news s Q E B F X N T hk hpre hdp hun hret
  obtain ⟨hpre, x, t1, t2, t3, t4, rfl, hx⟩ := hpre
  subst hpre
  refine wpAny_call ?_
  k_dflt cell_enter
  k_steps
  all_goals exact hret _ _ _ _ (by k_asm) (by k_asm) (Ext.trans (by assumption) (by assumption)) (NumF.zero (by rw [dy_zero' 0 0]; exact (Dyadic.zero_mul _).trans (dy_zero' 0 0).symm))
set_option maxRecDepth 100000 in
set_option maxHeartbeats 8000000 in
theorem mulint_fresh (w : World) (mean : ExcName → Option Value) (mg mb : Str → Option Value) (n₀ : List (Addr × Obj)) (v : Value) (d : Dyadic) (n : Int) (t5 t6 : Tok) (hb : Bd 400 d) (hn1 : 1 ≤ n) (hn2 : n ≤ 8) :
    Spec w mean mg mb 139 15 250 [v, .int n t5, .int 2000 t6] (fun news => news = n₀ ∧ NumIn news v d) (fun news r => NumF n₀ news r (d * Dyadic.ofIntWithPrec n 0)) := by
  unfold Spec
  intro dp un gd cn cs a₀ ccd cl outer A₀ base h₀ L m news s Q E B F X N T hk hpre hdp hun hret
  obtain ⟨h0, h1⟩ := hpre
  obtain ⟨a, b, c, e, q1, hC, rfl, k1, k2, k3⟩ := h1.open hb (by decide)
  by_cases hz : b = 0
  · obtain ⟨rfl, rfl, rfl⟩ := hC.nil hz
    subst hz
    exact mulint_z w mean mg mb n₀ v n t5 t6 hn1 hn2 dp un gd cn cs a₀ ccd cl outer A₀ base h₀ L m news s Q E B F X N T hk ⟨h0, q1⟩ hdp hun hret
  · exact mulint_nz w mean mg mb n₀ v a b c e n t5 t6 hC (by omega) hn1 hn2 hz dp un gd cn cs a₀ ccd cl outer A₀ base h₀ L m news s Q E B F X N T hk ⟨h0, q1⟩ hdp hun hret
end

section
local macro_rules | `(tactic| kun_tup) => `(tactic| exact TupIn.isTup (by assumption) (by k_asm) (by k_asm) (by k_asm))
local macro_rules | `(tactic| cell_enter) => `(tactic| (refine' code_def ?k1 ?k2 ?k3 ?k4 ?k5 ?kA ?kF ?kK ?k6 ?k7 ?k8 ?k9 ?kB ?_ ?c2 ?c3 ?c4 ?c5; (case kA => exact rfl); (case kF => exact rfl); (case kK => assumption); (case k1 => k_asm); (case k2 => k_asm); (case k3 => k_asm); (case k4 => k_asm); (case k5 => k_asm); (case k6 => k_is); (case k7 => k_is); (case k8 => ktr_room); (case k9 => first | exact (by assumption : BindAs _ _ _ _) _ _ _ _ _ (by k_in) (by k_is) | exact BindsTo.of_eq rfl | exact binds_K (by k_in) rfl (by k_is) rfl rfl rfl); (case c5 => decide); (case kB => exact locs rfl); (case c2 => exact rfl); (case c3 => exact rfl); (case c4 => exact rfl); k_whole; intro g' L' h' FG' F' N' B' X' T'; (try dsimp only); (try k_lift B'); (try k_fold)))
local macro_rules | `(tactic| walk_at "ite") => `(tactic| (k_here; first
  | (refine' ite_pos ?hc9 ?_; (case hc9 => ((try simp only [bne_iff_ne, beq_iff_eq, Bool.not_eq_true', bne_eq_false_iff_eq, beq_eq_false_iff_ne, decide_eq_true_eq, decide_eq_false_iff_not, ne_eq, Bool.and_eq_true, Bool.or_eq_true, not_false_eq_true]); first | done | omega)); walk_say "PRUNED +")
  | (refine' ite_neg ?hc9 ?_; (case hc9 => ((try simp only [bne_iff_ne, beq_iff_eq, Bool.not_eq_true', bne_eq_false_iff_eq, beq_eq_false_iff_ne, decide_eq_true_eq, decide_eq_false_iff_not, ne_eq, Bool.and_eq_true, Bool.or_eq_true, not_false_eq_true]); first | done | omega)); walk_say "PRUNED -")))
local macro_rules | `(tactic| ke_read) => `(tactic| first | exact TupIn.reads (by with_reducible assumption) (by k_asm) (by k_asm) (by k_asm) | exact TupIn.reads TupIn.zero (by k_asm) (by k_asm) (by k_asm) | exact TupIn.reads TupIn.inf (by k_asm) (by k_asm) (by k_asm) | exact TupIn.reads TupIn.ninf (by k_asm) (by k_asm) (by k_asm) | exact TupIn.reads TupIn.nan (by k_asm) (by k_asm) (by k_asm))
local macro_rules | `(tactic| walk_at "compareOp Eq ref ref") => `(tactic| (k_here; (with_reducible show wpAny _ _ (compareOp CmpOp.Eq (Value.ref _) (Value.ref _)) _ _ _); k_dflt (refine eq_dataH (by ke_read) (by ke_read) rfl rfl (by ktr_units) ?_); ke_norm))
local macro_rules | `(tactic| walk_at "compareOp NotEq ref ref") => `(tactic| (k_here; (with_reducible show wpAny _ _ (compareOp CmpOp.NotEq (Value.ref _) (Value.ref _)) _ _ _); k_dflt (refine ne_dataH (by ke_read) (by ke_read) rfl rfl (by ktr_units) ?_); ke_norm))
local macro_rules | `(tactic| walk_at "binaryOp LShift int int") => `(tactic| (k_here; (with_reducible refine lshift_int ?kn ?ks ?_); (case kn => omega); (case ks => omega)))
local macro_rules | `(tactic| walk_at "binaryOp Mult int int") => `(tactic| (k_here; (with_reducible refine mul_int ?_ ?km); rotate_left; (case km => exact IntMulOk.of_le (m := 60000000) (n := 60000000) (by omega) (by omega) (by decide))))
local macro_rules | `(tactic| walk_at "eval Name") => `(tactic| (k_here; (with_reducible show wpAny _ _ (eval (Expr.Name _ _) (envOf _ _ _ _ _)) _ _ _); name_kind "local"; k_dflt (refine' ld ?k1 ?k2 ?_; (case k1 => k_asm); (case k2 => exact rfl); k_whole)))
local macro_rules | `(tactic| walk_at "binaryOp RShift int int") => `(tactic| (k_here; (with_reducible refine rshift_int ?kn ?_); (case kn => omega)))
local macro_rules | `(tactic| walk_at "inplaceOp Pow int int") => `(tactic| (k_here; (with_reducible refine ipow_int ?kn ?ks ?_); (case kn => omega); (case ks => omega)))
local macro_rules | `(tactic| walk_at "inplaceOp Mult int int") => `(tactic| (k_here; (with_reducible refine imul_int ?_ ?km); rotate_left; (case km => exact IntMulOk.of_le (m := 60000000) (n := 60000000) (by omega) (by omega) (by decide))))
local macro_rules | `(tactic| walk_at "subscriptTail") => `(tactic| (k_here; (with_reducible show wpAny _ _ (subscriptTail _ _ (Value.ref _) (Value.int _ _)) _ _ _); k_dflt (refine' item_tupleT ?k1 ?k2 ?k3 ?k4 ?k5 ?_ ?k6; (case k1 => first | exact TupIn.isTup (by with_reducible assumption) (by k_asm) (by k_asm) (by k_asm)); (case k2 => decide); (case k3 => decide); (case k4 => exact rfl); (case k5 => exact rfl); (case k6 => with_unfolding_all rfl); k_whole)))
local macro_rules | `(tactic| walk_at "exec For Name Name cons nil") => `(tactic| (k_here; (rename Fr _ _ _ _ => lF'); (with_unfolding_all refine' For_invVF lF' ?k1 ?k2 ?_; (case k1 => exact rfl); (case k2 => exact rfl); k_whole)))
local macro_rules | `(tactic| walk_at "compareOp NotEq") => `(tactic| (k_here; k_dflt (refine' ne_num (NumIn.mono ?ha ?hb) (NumIn.mono ?hc ?hd) ?he ?hF ?hK ?hN ?hu ?_; (case ha => assumption); (case hc => assumption); (case he => assumption); (case hF => k_asm); (case hK => k_asm); (case hN => k_asm); (case hb => (intro p hp; (repeat (first | exact hp | refine List.Mem.tail _ ?_ | refine Ext.mem (by assumption) ?_)))); (case hd => (intro p hp; (repeat (first | exact hp | refine List.Mem.tail _ ?_ | refine Ext.mem (by assumption) ?_)))); (case hu => ktr_units)); walk_say "NOT UNLIKE"))
local macro_rules | `(tactic| walk_at "call builtin:len") => `(tactic| (k_here; (with_reducible show wpAny _ _ (call (Value.builtin "len") [Value.ref _]) _ _ _); k_dflt (refine' call_len_list (News.isList ?kN ?km) ?kf ?_; (case kN => k_asm); (case km => (repeat (first | assumption | refine List.Mem.tail _ ?_ | refine Ext.mem (by assumption) ?_))); (case kf => (simp only [List.size_toArray]; omega)); k_whole); (try simp only [List.size_toArray])))
local macro_rules | `(tactic| walk_at "call ref") => `(tactic| (k_here; (with_reducible show wpAny _ _ (call (Value.ref 184) _) _ _ _); k_dflt (first | (refine' Spec.useD [_, _, _, _, _, _, _] (product_walk _ _ _ _ _ _ _ _ _ _ _ _ ?q1 ?q2 ?q3) ?k1 ?k2 ?k3 ?k4 ?k5 ?kK ?ko ?kn ?kp ?kd ?ku ?_; (case k4 => k_asm); (case ko => assumption)) | (refine' Spec.useD [_, _, _, _, _, _] (product_walk _ _ _ _ _ _ _ _ _ _ _ _ ?q1 ?q2 ?q3) ?k1 ?k2 ?k3 ?k4 ?k5 ?kK ?ko ?kn ?kp ?kd ?ku ?_; (case k4 => k_asm); (case ko => assumption)) | (refine' Spec.useD [_, _, _, _, _] (product_walk _ _ _ _ _ _ _ _ _ _ _ _ ?q1 ?q2 ?q3) ?k1 ?k2 ?k3 ?k4 ?k5 ?kK ?ko ?kn ?kp ?kd ?ku ?_; (case k4 => k_asm); (case ko => assumption)) | (refine' Spec.useD [_, _, _, _] (product_walk _ _ _ _ _ _ _ _ _ _ _ _ ?q1 ?q2 ?q3) ?k1 ?k2 ?k3 ?k4 ?k5 ?kK ?ko ?kn ?kp ?kd ?ku ?_; (case k4 => k_asm); (case ko => assumption)) | (refine' Spec.useD [_, _, _] (product_walk _ _ _ _ _ _ _ _ _ _ _ _ ?q1 ?q2 ?q3) ?k1 ?k2 ?k3 ?k4 ?k5 ?kK ?ko ?kn ?kp ?kd ?ku ?_; (case k4 => k_asm); (case ko => assumption)) | (refine' Spec.useD [_, _] (product_walk _ _ _ _ _ _ _ _ _ _ _ _ ?q1 ?q2 ?q3) ?k1 ?k2 ?k3 ?k4 ?k5 ?kK ?ko ?kn ?kp ?kd ?ku ?_; (case k4 => k_asm); (case ko => assumption)) | (refine' Spec.useD [_] (product_walk _ _ _ _ _ _ _ _ _ _ _ _ ?q1 ?q2 ?q3) ?k1 ?k2 ?k3 ?k4 ?k5 ?kK ?ko ?kn ?kp ?kd ?ku ?_; (case k4 => k_asm); (case ko => assumption)) | (refine' Spec.useD [_, _, _, _, _, _, _] (product_walk _ _ _ _ _ _ _ _ _ _ _ _ ?q1 ?q2 ?q3) ?k1 ?k2 ?k3 ?k4 ?k5 ?kK ?ko ?kn ?kp ?kd ?ku ?_; (case k4 => exact Mine.News.drop1 (by k_asm)); (case ko => assumption)) | (refine' Spec.useD [_, _, _, _, _, _] (product_walk _ _ _ _ _ _ _ _ _ _ _ _ ?q1 ?q2 ?q3) ?k1 ?k2 ?k3 ?k4 ?k5 ?kK ?ko ?kn ?kp ?kd ?ku ?_; (case k4 => exact Mine.News.drop1 (by k_asm)); (case ko => assumption)) | (refine' Spec.useD [_, _, _, _, _] (product_walk _ _ _ _ _ _ _ _ _ _ _ _ ?q1 ?q2 ?q3) ?k1 ?k2 ?k3 ?k4 ?k5 ?kK ?ko ?kn ?kp ?kd ?ku ?_; (case k4 => exact Mine.News.drop1 (by k_asm)); (case ko => assumption)) | (refine' Spec.useD [_, _, _, _] (product_walk _ _ _ _ _ _ _ _ _ _ _ _ ?q1 ?q2 ?q3) ?k1 ?k2 ?k3 ?k4 ?k5 ?kK ?ko ?kn ?kp ?kd ?ku ?_; (case k4 => exact Mine.News.drop1 (by k_asm)); (case ko => assumption)) | (refine' Spec.useD [_, _, _] (product_walk _ _ _ _ _ _ _ _ _ _ _ _ ?q1 ?q2 ?q3) ?k1 ?k2 ?k3 ?k4 ?k5 ?kK ?ko ?kn ?kp ?kd ?ku ?_; (case k4 => exact Mine.News.drop1 (by k_asm)); (case ko => assumption)) | (refine' Spec.useD [_, _] (product_walk _ _ _ _ _ _ _ _ _ _ _ _ ?q1 ?q2 ?q3) ?k1 ?k2 ?k3 ?k4 ?k5 ?kK ?ko ?kn ?kp ?kd ?ku ?_; (case k4 => exact Mine.News.drop1 (by k_asm)); (case ko => assumption)) | (refine' Spec.useD [_] (product_walk _ _ _ _ _ _ _ _ _ _ _ _ ?q1 ?q2 ?q3) ?k1 ?k2 ?k3 ?k4 ?k5 ?kK ?ko ?kn ?kp ?kd ?ku ?_; (case k4 => exact Mine.News.drop1 (by k_asm)); (case ko => assumption))); (case k1 => k_asm); (case k2 => k_asm); (case k3 => k_asm); (case k5 => k_asm); (case kK => first | exact rfl | assumption); (case kn => (repeat (first | exact nt_nil | (refine nt_cons ?_ ?_; first | assumption | exact notT_of (cell_notTl (by assumption)) | exact notT_of (by assumption))))); (case kp => exact ⟨NumIn.mono (by assumption) (by (intro p hp; (repeat (first | exact hp | refine List.Mem.tail _ ?_ | refine Ext.mem (by assumption) ?_)))), NumIn.mono (by assumption) (by (intro p hp; (repeat (first | exact hp | refine List.Mem.tail _ ?_ | refine Ext.mem (by assumption) ?_)))), (by (repeat (first | assumption | refine List.Mem.tail _ ?_ | refine Ext.mem (by assumption) ?_))), NumsIn.mono (by assumption) (by (intro p hp; (repeat (first | exact hp | refine List.Mem.tail _ ?_ | refine Ext.mem (by assumption) ?_))))⟩); (case q1 => assumption); (case q2 => assumption); (case q3 => assumption); (case kd => ktr_room); (case ku => ktr_units); k_whole; intro r9 X9 h9 tk9 F9 N9 x9 o9 p9; (try simp only [List.cons_append, List.nil_append] at N9); (try dsimp only); walk_say "NUMBER 184"))
local macro_rules | `(tactic| walk_at "call ref") => `(tactic| (k_here; (with_reducible show wpAny _ _ (call (Value.ref 191) _) _ _ _); k_dflt (first | (refine' Spec.useD [_, _, _, _, _, _, _] (nested_walk _ _ _ _ _ _ _ _ _ _ ?q1 ?q2 ?q3) ?k1 ?k2 ?k3 ?k4 ?k5 ?kK ?ko ?kn ?kp ?kd ?ku ?_; (case k4 => k_asm); (case ko => assumption)) | (refine' Spec.useD [_, _, _, _, _, _] (nested_walk _ _ _ _ _ _ _ _ _ _ ?q1 ?q2 ?q3) ?k1 ?k2 ?k3 ?k4 ?k5 ?kK ?ko ?kn ?kp ?kd ?ku ?_; (case k4 => k_asm); (case ko => assumption)) | (refine' Spec.useD [_, _, _, _, _] (nested_walk _ _ _ _ _ _ _ _ _ _ ?q1 ?q2 ?q3) ?k1 ?k2 ?k3 ?k4 ?k5 ?kK ?ko ?kn ?kp ?kd ?ku ?_; (case k4 => k_asm); (case ko => assumption)) | (refine' Spec.useD [_, _, _, _] (nested_walk _ _ _ _ _ _ _ _ _ _ ?q1 ?q2 ?q3) ?k1 ?k2 ?k3 ?k4 ?k5 ?kK ?ko ?kn ?kp ?kd ?ku ?_; (case k4 => k_asm); (case ko => assumption)) | (refine' Spec.useD [_, _, _] (nested_walk _ _ _ _ _ _ _ _ _ _ ?q1 ?q2 ?q3) ?k1 ?k2 ?k3 ?k4 ?k5 ?kK ?ko ?kn ?kp ?kd ?ku ?_; (case k4 => k_asm); (case ko => assumption)) | (refine' Spec.useD [_, _] (nested_walk _ _ _ _ _ _ _ _ _ _ ?q1 ?q2 ?q3) ?k1 ?k2 ?k3 ?k4 ?k5 ?kK ?ko ?kn ?kp ?kd ?ku ?_; (case k4 => k_asm); (case ko => assumption)) | (refine' Spec.useD [_] (nested_walk _ _ _ _ _ _ _ _ _ _ ?q1 ?q2 ?q3) ?k1 ?k2 ?k3 ?k4 ?k5 ?kK ?ko ?kn ?kp ?kd ?ku ?_; (case k4 => k_asm); (case ko => assumption)) | (refine' Spec.useD [_, _, _, _, _, _, _] (nested_walk _ _ _ _ _ _ _ _ _ _ ?q1 ?q2 ?q3) ?k1 ?k2 ?k3 ?k4 ?k5 ?kK ?ko ?kn ?kp ?kd ?ku ?_; (case k4 => exact Mine.News.drop1 (by k_asm)); (case ko => assumption)) | (refine' Spec.useD [_, _, _, _, _, _] (nested_walk _ _ _ _ _ _ _ _ _ _ ?q1 ?q2 ?q3) ?k1 ?k2 ?k3 ?k4 ?k5 ?kK ?ko ?kn ?kp ?kd ?ku ?_; (case k4 => exact Mine.News.drop1 (by k_asm)); (case ko => assumption)) | (refine' Spec.useD [_, _, _, _, _] (nested_walk _ _ _ _ _ _ _ _ _ _ ?q1 ?q2 ?q3) ?k1 ?k2 ?k3 ?k4 ?k5 ?kK ?ko ?kn ?kp ?kd ?ku ?_; (case k4 => exact Mine.News.drop1 (by k_asm)); (case ko => assumption)) | (refine' Spec.useD [_, _, _, _] (nested_walk _ _ _ _ _ _ _ _ _ _ ?q1 ?q2 ?q3) ?k1 ?k2 ?k3 ?k4 ?k5 ?kK ?ko ?kn ?kp ?kd ?ku ?_; (case k4 => exact Mine.News.drop1 (by k_asm)); (case ko => assumption)) | (refine' Spec.useD [_, _, _] (nested_walk _ _ _ _ _ _ _ _ _ _ ?q1 ?q2 ?q3) ?k1 ?k2 ?k3 ?k4 ?k5 ?kK ?ko ?kn ?kp ?kd ?ku ?_; (case k4 => exact Mine.News.drop1 (by k_asm)); (case ko => assumption)) | (refine' Spec.useD [_, _] (nested_walk _ _ _ _ _ _ _ _ _ _ ?q1 ?q2 ?q3) ?k1 ?k2 ?k3 ?k4 ?k5 ?kK ?ko ?kn ?kp ?kd ?ku ?_; (case k4 => exact Mine.News.drop1 (by k_asm)); (case ko => assumption)) | (refine' Spec.useD [_] (nested_walk _ _ _ _ _ _ _ _ _ _ ?q1 ?q2 ?q3) ?k1 ?k2 ?k3 ?k4 ?k5 ?kK ?ko ?kn ?kp ?kd ?ku ?_; (case k4 => exact Mine.News.drop1 (by k_asm)); (case ko => assumption))); (case k1 => k_asm); (case k2 => k_asm); (case k3 => k_asm); (case k5 => k_asm); (case kK => first | exact rfl | assumption); (case kn => (repeat (first | exact nt_nil | (refine nt_cons ?_ ?_; first | assumption | exact notT_of (cell_notTl (by assumption)) | exact notT_of (by assumption))))); (case kp => exact ⟨NumIn.mono (by assumption) (by (intro p hp; (repeat (first | exact hp | refine List.Mem.tail _ ?_ | refine Ext.mem (by assumption) ?_)))), (by (repeat (first | assumption | refine List.Mem.tail _ ?_ | refine Ext.mem (by assumption) ?_))), NumsIn.mono (by assumption) (by (intro p hp; (repeat (first | exact hp | refine List.Mem.tail _ ?_ | refine Ext.mem (by assumption) ?_))))⟩); (case q1 => assumption); (case q2 => assumption); (case q3 => assumption); (case kd => ktr_room); (case ku => ktr_units); k_whole; intro r9 X9 h9 tk9 F9 N9 x9 o9 p9; (try simp only [List.cons_append, List.nil_append] at N9); (try dsimp only); walk_say "NUMBER 191"))
local macro_rules | `(tactic| k_all) => `(tactic| first | exact offA_ne (by assumption) (by repeat (first | exact List.Mem.head _ | refine List.Mem.tail _ ?_)) | exact off_lt (by assumption) (by omega))
local macro_rules | `(tactic| ktr_enter) => `(tactic| (refine' code_defC ?k1 ?k2 ?k3 ?k4 ?k5 ?kA ?kF ?kK ?k6 ?k7 ?k8 ?k9 ?kB ?kD ?_ ?c2 ?c3 ?c4; (case kA => exact rfl); (case kF => exact rfl); (case kK => assumption); (case k1 => k_asm); (case k2 => k_asm); (case k3 => k_asm); (case k4 => k_asm); (case k5 => k_asm); (case k6 => k_is); (case k7 => k_is); (case k8 => ktr_room); (case k9 => first | exact BindsTo.of_eq rfl | exact binds_K (by k_in) rfl (by k_is) rfl rfl rfl); (case kB => exact rfl); (case kD => decide +kernel); (case c2 => exact rfl); (case c3 => exact rfl); (case c4 => exact rfl); k_whole; intro g' L' h' tk' cells' FG' F' N' Y' B' X' T' l1; k_cells Y'; (try simp only [List.cons_append, List.nil_append] at N'); (try dsimp only); (try k_lift B'); (try k_fold)))
local macro_rules | `(tactic| walk_at "call ref") => `(tactic| (k_here; (with_reducible show wpAny _ _ (call (Value.ref 131) _) _ _ _); k_dflt (first | (refine' Spec.useF [_, _, _, _, _, _, _, _] (mul_fresh _ _ _ _ _ _ _ _ _ ?q1 ?q2) ?k1 ?k2 ?k3 ?k4 ?k5 ?kK ?ko ?kp ?kd ?ku ?_; (case k4 => k_asm); (case ko => assumption)) | (refine' Spec.useF [_, _, _, _, _, _, _] (mul_fresh _ _ _ _ _ _ _ _ _ ?q1 ?q2) ?k1 ?k2 ?k3 ?k4 ?k5 ?kK ?ko ?kp ?kd ?ku ?_; (case k4 => k_asm); (case ko => assumption)) | (refine' Spec.useF [_, _, _, _, _, _] (mul_fresh _ _ _ _ _ _ _ _ _ ?q1 ?q2) ?k1 ?k2 ?k3 ?k4 ?k5 ?kK ?ko ?kp ?kd ?ku ?_; (case k4 => k_asm); (case ko => assumption)) | (refine' Spec.useF [_, _, _, _, _] (mul_fresh _ _ _ _ _ _ _ _ _ ?q1 ?q2) ?k1 ?k2 ?k3 ?k4 ?k5 ?kK ?ko ?kp ?kd ?ku ?_; (case k4 => k_asm); (case ko => assumption)) | (refine' Spec.useF [_, _, _, _] (mul_fresh _ _ _ _ _ _ _ _ _ ?q1 ?q2) ?k1 ?k2 ?k3 ?k4 ?k5 ?kK ?ko ?kp ?kd ?ku ?_; (case k4 => k_asm); (case ko => assumption)) | (refine' Spec.useF [_, _, _] (mul_fresh _ _ _ _ _ _ _ _ _ ?q1 ?q2) ?k1 ?k2 ?k3 ?k4 ?k5 ?kK ?ko ?kp ?kd ?ku ?_; (case k4 => k_asm); (case ko => assumption)) | (refine' Spec.useF [_, _] (mul_fresh _ _ _ _ _ _ _ _ _ ?q1 ?q2) ?k1 ?k2 ?k3 ?k4 ?k5 ?kK ?ko ?kp ?kd ?ku ?_; (case k4 => k_asm); (case ko => assumption)) | (refine' Spec.useF [_] (mul_fresh _ _ _ _ _ _ _ _ _ ?q1 ?q2) ?k1 ?k2 ?k3 ?k4 ?k5 ?kK ?ko ?kp ?kd ?ku ?_; (case k4 => k_asm); (case ko => assumption)) | (refine' Spec.useF [_, _, _, _, _, _, _, _] (mul_fresh _ _ _ _ _ _ _ _ _ ?q1 ?q2) ?k1 ?k2 ?k3 ?k4 ?k5 ?kK ?ko ?kp ?kd ?ku ?_; (case k4 => exact Mine.News.drop1 (by k_asm)); (case ko => assumption)) | (refine' Spec.useF [_, _, _, _, _, _, _] (mul_fresh _ _ _ _ _ _ _ _ _ ?q1 ?q2) ?k1 ?k2 ?k3 ?k4 ?k5 ?kK ?ko ?kp ?kd ?ku ?_; (case k4 => exact Mine.News.drop1 (by k_asm)); (case ko => assumption)) | (refine' Spec.useF [_, _, _, _, _, _] (mul_fresh _ _ _ _ _ _ _ _ _ ?q1 ?q2) ?k1 ?k2 ?k3 ?k4 ?k5 ?kK ?ko ?kp ?kd ?ku ?_; (case k4 => exact Mine.News.drop1 (by k_asm)); (case ko => assumption)) | (refine' Spec.useF [_, _, _, _, _] (mul_fresh _ _ _ _ _ _ _ _ _ ?q1 ?q2) ?k1 ?k2 ?k3 ?k4 ?k5 ?kK ?ko ?kp ?kd ?ku ?_; (case k4 => exact Mine.News.drop1 (by k_asm)); (case ko => assumption)) | (refine' Spec.useF [_, _, _, _] (mul_fresh _ _ _ _ _ _ _ _ _ ?q1 ?q2) ?k1 ?k2 ?k3 ?k4 ?k5 ?kK ?ko ?kp ?kd ?ku ?_; (case k4 => exact Mine.News.drop1 (by k_asm)); (case ko => assumption)) | (refine' Spec.useF [_, _, _] (mul_fresh _ _ _ _ _ _ _ _ _ ?q1 ?q2) ?k1 ?k2 ?k3 ?k4 ?k5 ?kK ?ko ?kp ?kd ?ku ?_; (case k4 => exact Mine.News.drop1 (by k_asm)); (case ko => assumption)) | (refine' Spec.useF [_, _] (mul_fresh _ _ _ _ _ _ _ _ _ ?q1 ?q2) ?k1 ?k2 ?k3 ?k4 ?k5 ?kK ?ko ?kp ?kd ?ku ?_; (case k4 => exact Mine.News.drop1 (by k_asm)); (case ko => assumption)) | (refine' Spec.useF [_] (mul_fresh _ _ _ _ _ _ _ _ _ ?q1 ?q2) ?k1 ?k2 ?k3 ?k4 ?k5 ?kK ?ko ?kp ?kd ?ku ?_; (case k4 => exact Mine.News.drop1 (by k_asm)); (case ko => assumption))); (case k1 => k_asm); (case k2 => k_asm); (case k3 => k_asm); (case k5 => k_asm); (case kK => first | exact rfl | assumption); (case kp => ((refine ⟨?_, NumIn.mono (by assumption) (by (intro p hp; (repeat (first | exact hp | refine List.Mem.tail _ ?_ | refine Ext.mem (by assumption) ?_)))), NumIn.mono (by assumption) (by (intro p hp; (repeat (first | exact hp | refine List.Mem.tail _ ?_ | refine Ext.mem (by assumption) ?_))))⟩); rfl)); (case q1 => assumption); (case q2 => assumption); (case kd => ktr_room); (case ku => ktr_units); k_whole; intro r9 X9 h9 tk9 F9 N9 x9 o9 p9; (try simp only [List.cons_append, List.nil_append] at N9); (try dsimp only); walk_say "FRESH NUMBER 131"))
local macro_rules | `(tactic| walk_at "call ref") => `(tactic| (k_here; (with_reducible show wpAny _ _ (call (Value.ref 156) _) _ _ _); k_dflt (first | (refine' Spec.useF [_, _, _, _, _, _, _, _] (pow_fresh _ _ _ _ _ _ _ _ _ _ ?q1 ?q2) ?k1 ?k2 ?k3 ?k4 ?k5 ?kK ?ko ?kp ?kd ?ku ?_; (case k4 => k_asm); (case ko => assumption)) | (refine' Spec.useF [_, _, _, _, _, _, _] (pow_fresh _ _ _ _ _ _ _ _ _ _ ?q1 ?q2) ?k1 ?k2 ?k3 ?k4 ?k5 ?kK ?ko ?kp ?kd ?ku ?_; (case k4 => k_asm); (case ko => assumption)) | (refine' Spec.useF [_, _, _, _, _, _] (pow_fresh _ _ _ _ _ _ _ _ _ _ ?q1 ?q2) ?k1 ?k2 ?k3 ?k4 ?k5 ?kK ?ko ?kp ?kd ?ku ?_; (case k4 => k_asm); (case ko => assumption)) | (refine' Spec.useF [_, _, _, _, _] (pow_fresh _ _ _ _ _ _ _ _ _ _ ?q1 ?q2) ?k1 ?k2 ?k3 ?k4 ?k5 ?kK ?ko ?kp ?kd ?ku ?_; (case k4 => k_asm); (case ko => assumption)) | (refine' Spec.useF [_, _, _, _] (pow_fresh _ _ _ _ _ _ _ _ _ _ ?q1 ?q2) ?k1 ?k2 ?k3 ?k4 ?k5 ?kK ?ko ?kp ?kd ?ku ?_; (case k4 => k_asm); (case ko => assumption)) | (refine' Spec.useF [_, _, _] (pow_fresh _ _ _ _ _ _ _ _ _ _ ?q1 ?q2) ?k1 ?k2 ?k3 ?k4 ?k5 ?kK ?ko ?kp ?kd ?ku ?_; (case k4 => k_asm); (case ko => assumption)) | (refine' Spec.useF [_, _] (pow_fresh _ _ _ _ _ _ _ _ _ _ ?q1 ?q2) ?k1 ?k2 ?k3 ?k4 ?k5 ?kK ?ko ?kp ?kd ?ku ?_; (case k4 => k_asm); (case ko => assumption)) | (refine' Spec.useF [_] (pow_fresh _ _ _ _ _ _ _ _ _ _ ?q1 ?q2) ?k1 ?k2 ?k3 ?k4 ?k5 ?kK ?ko ?kp ?kd ?ku ?_; (case k4 => k_asm); (case ko => assumption)) | (refine' Spec.useF [_, _, _, _, _, _, _, _] (pow_fresh _ _ _ _ _ _ _ _ _ _ ?q1 ?q2) ?k1 ?k2 ?k3 ?k4 ?k5 ?kK ?ko ?kp ?kd ?ku ?_; (case k4 => exact Mine.News.drop1 (by k_asm)); (case ko => assumption)) | (refine' Spec.useF [_, _, _, _, _, _, _] (pow_fresh _ _ _ _ _ _ _ _ _ _ ?q1 ?q2) ?k1 ?k2 ?k3 ?k4 ?k5 ?kK ?ko ?kp ?kd ?ku ?_; (case k4 => exact Mine.News.drop1 (by k_asm)); (case ko => assumption)) | (refine' Spec.useF [_, _, _, _, _, _] (pow_fresh _ _ _ _ _ _ _ _ _ _ ?q1 ?q2) ?k1 ?k2 ?k3 ?k4 ?k5 ?kK ?ko ?kp ?kd ?ku ?_; (case k4 => exact Mine.News.drop1 (by k_asm)); (case ko => assumption)) | (refine' Spec.useF [_, _, _, _, _] (pow_fresh _ _ _ _ _ _ _ _ _ _ ?q1 ?q2) ?k1 ?k2 ?k3 ?k4 ?k5 ?kK ?ko ?kp ?kd ?ku ?_; (case k4 => exact Mine.News.drop1 (by k_asm)); (case ko => assumption)) | (refine' Spec.useF [_, _, _, _] (pow_fresh _ _ _ _ _ _ _ _ _ _ ?q1 ?q2) ?k1 ?k2 ?k3 ?k4 ?k5 ?kK ?ko ?kp ?kd ?ku ?_; (case k4 => exact Mine.News.drop1 (by k_asm)); (case ko => assumption)) | (refine' Spec.useF [_, _, _] (pow_fresh _ _ _ _ _ _ _ _ _ _ ?q1 ?q2) ?k1 ?k2 ?k3 ?k4 ?k5 ?kK ?ko ?kp ?kd ?ku ?_; (case k4 => exact Mine.News.drop1 (by k_asm)); (case ko => assumption)) | (refine' Spec.useF [_, _] (pow_fresh _ _ _ _ _ _ _ _ _ _ ?q1 ?q2) ?k1 ?k2 ?k3 ?k4 ?k5 ?kK ?ko ?kp ?kd ?ku ?_; (case k4 => exact Mine.News.drop1 (by k_asm)); (case ko => assumption)) | (refine' Spec.useF [_] (pow_fresh _ _ _ _ _ _ _ _ _ _ ?q1 ?q2) ?k1 ?k2 ?k3 ?k4 ?k5 ?kK ?ko ?kp ?kd ?ku ?_; (case k4 => exact Mine.News.drop1 (by k_asm)); (case ko => assumption))); (case k1 => k_asm); (case k2 => k_asm); (case k3 => k_asm); (case k5 => k_asm); (case kK => first | exact rfl | assumption); (case kp => ((refine ⟨?_, NumIn.mono (by assumption) (by (intro p hp; (repeat (first | exact hp | refine List.Mem.tail _ ?_ | refine Ext.mem (by assumption) ?_))))⟩); rfl)); (case q1 => assumption); (case q2 => omega); (case kd => ktr_room); (case ku => ktr_units); k_whole; intro r9 X9 h9 tk9 F9 N9 x9 o9 p9; (try simp only [List.cons_append, List.nil_append] at N9); (try dsimp only); walk_say "FRESH NUMBER 156"))
local macro_rules | `(tactic| walk_at "eval ListComp") => `(tactic| (k_here; k_dflt (refine LCg.ListComp_U (F₀ := by k_asm) (by rfl) (by decide) (by rfl) (by decide) (by rfl) ?_)))
local macro_rules | `(tactic| walk_at "CompSrc") => `(tactic| (refine Halt.out ?_))
local macro_rules | `(tactic| walk_at "subscriptTail") => `(tactic| (k_here; (with_reducible show wpAny _ _ (subscriptTail _ _ (Value.ref _) (Value.int _ _)) _ _ _); k_dflt (refine' list_item ?k1 ?k2 ?k3 ?k4 ?k5 ?_ ?k6; (case k1 => k_asm); (case k2 => (repeat (first | assumption | refine List.Mem.tail _ ?_ | refine Ext.mem (by assumption) ?_))); (case k3 => omega); (case k4 => omega); (case k5 => assumption); (case k6 => with_unfolding_all rfl); k_whole)))
local macro_rules | `(tactic| walk_at "call ref") => `(tactic| (k_here; (with_reducible show wpAny _ _ (call (Value.ref 123) _) _ _ _); k_dflt (first | (refine' Spec.useD [_, _, _, _, _, _, _] (sum_walk _ _ _ _ _ _ _ _ ?q1 ?q2) ?k1 ?k2 ?k3 ?k4 ?k5 ?kK ?ko ?kn ?kp ?kd ?ku ?_; (case k4 => k_asm); (case ko => assumption)) | (refine' Spec.useD [_, _, _, _, _, _] (sum_walk _ _ _ _ _ _ _ _ ?q1 ?q2) ?k1 ?k2 ?k3 ?k4 ?k5 ?kK ?ko ?kn ?kp ?kd ?ku ?_; (case k4 => k_asm); (case ko => assumption)) | (refine' Spec.useD [_, _, _, _, _] (sum_walk _ _ _ _ _ _ _ _ ?q1 ?q2) ?k1 ?k2 ?k3 ?k4 ?k5 ?kK ?ko ?kn ?kp ?kd ?ku ?_; (case k4 => k_asm); (case ko => assumption)) | (refine' Spec.useD [_, _, _, _] (sum_walk _ _ _ _ _ _ _ _ ?q1 ?q2) ?k1 ?k2 ?k3 ?k4 ?k5 ?kK ?ko ?kn ?kp ?kd ?ku ?_; (case k4 => k_asm); (case ko => assumption)) | (refine' Spec.useD [_, _, _] (sum_walk _ _ _ _ _ _ _ _ ?q1 ?q2) ?k1 ?k2 ?k3 ?k4 ?k5 ?kK ?ko ?kn ?kp ?kd ?ku ?_; (case k4 => k_asm); (case ko => assumption)) | (refine' Spec.useD [_, _] (sum_walk _ _ _ _ _ _ _ _ ?q1 ?q2) ?k1 ?k2 ?k3 ?k4 ?k5 ?kK ?ko ?kn ?kp ?kd ?ku ?_; (case k4 => k_asm); (case ko => assumption)) | (refine' Spec.useD [_] (sum_walk _ _ _ _ _ _ _ _ ?q1 ?q2) ?k1 ?k2 ?k3 ?k4 ?k5 ?kK ?ko ?kn ?kp ?kd ?ku ?_; (case k4 => k_asm); (case ko => assumption)) | (refine' Spec.useD [_, _, _, _, _, _, _] (sum_walk _ _ _ _ _ _ _ _ ?q1 ?q2) ?k1 ?k2 ?k3 ?k4 ?k5 ?kK ?ko ?kn ?kp ?kd ?ku ?_; (case k4 => exact Mine.News.drop1 (by k_asm)); (case ko => assumption)) | (refine' Spec.useD [_, _, _, _, _, _] (sum_walk _ _ _ _ _ _ _ _ ?q1 ?q2) ?k1 ?k2 ?k3 ?k4 ?k5 ?kK ?ko ?kn ?kp ?kd ?ku ?_; (case k4 => exact Mine.News.drop1 (by k_asm)); (case ko => assumption)) | (refine' Spec.useD [_, _, _, _, _] (sum_walk _ _ _ _ _ _ _ _ ?q1 ?q2) ?k1 ?k2 ?k3 ?k4 ?k5 ?kK ?ko ?kn ?kp ?kd ?ku ?_; (case k4 => exact Mine.News.drop1 (by k_asm)); (case ko => assumption)) | (refine' Spec.useD [_, _, _, _] (sum_walk _ _ _ _ _ _ _ _ ?q1 ?q2) ?k1 ?k2 ?k3 ?k4 ?k5 ?kK ?ko ?kn ?kp ?kd ?ku ?_; (case k4 => exact Mine.News.drop1 (by k_asm)); (case ko => assumption)) | (refine' Spec.useD [_, _, _] (sum_walk _ _ _ _ _ _ _ _ ?q1 ?q2) ?k1 ?k2 ?k3 ?k4 ?k5 ?kK ?ko ?kn ?kp ?kd ?ku ?_; (case k4 => exact Mine.News.drop1 (by k_asm)); (case ko => assumption)) | (refine' Spec.useD [_, _] (sum_walk _ _ _ _ _ _ _ _ ?q1 ?q2) ?k1 ?k2 ?k3 ?k4 ?k5 ?kK ?ko ?kn ?kp ?kd ?ku ?_; (case k4 => exact Mine.News.drop1 (by k_asm)); (case ko => assumption)) | (refine' Spec.useD [_] (sum_walk _ _ _ _ _ _ _ _ ?q1 ?q2) ?k1 ?k2 ?k3 ?k4 ?k5 ?kK ?ko ?kn ?kp ?kd ?ku ?_; (case k4 => exact Mine.News.drop1 (by k_asm)); (case ko => assumption))); (case k1 => k_asm); (case k2 => k_asm); (case k3 => k_asm); (case k5 => k_asm); (case kK => first | exact rfl | assumption); (case kn => (repeat (first | exact nt_nil | (refine nt_cons ?_ ?_; first | assumption | exact notT_of (cell_notTl (by assumption)) | exact notT_of (by assumption))))); (case kp => exact ⟨(by first | exact List.Mem.head _ | (repeat (first | assumption | refine List.Mem.tail _ ?_ | refine Ext.mem (by assumption) ?_))), NumsIn.mono (by assumption) (by (intro p hp; (repeat (first | exact hp | refine List.Mem.tail _ ?_ | refine Ext.mem (by assumption) ?_))))⟩); (case q1 => assumption); (case q2 => assumption); (case kd => ktr_room); (case ku => ktr_units); k_whole; intro r9 X9 h9 tk9 F9 N9 x9 o9 p9; (try simp only [List.cons_append, List.nil_append] at N9); (try dsimp only); walk_say "NUMBER 123"))
theorem sign_cases (x z : Int) (h : (0 < x ∧ z = 1) ∨ (x = 0 ∧ z = 0) ∨ (x < 0 ∧ z = -1)) : z = Int.sign x := by
  rcases h with ⟨h, rfl⟩ | ⟨rfl, rfl⟩ | ⟨h, rfl⟩
  · rw [Int.sign_eq_one_of_pos h]
  · rfl
  · rw [Int.sign_eq_neg_one_of_neg h]
theorem cmp_dy {a b c e a' b' c' e' z : Int} (h : Can a b c e) (h' : Can a' b' c' e') (q : CmpOk a b c e a' b' c' e' z) : z = dsgn (dy a b c - dy a' b' c') := by
  have f := h.facts
  have f' := h'.facts
  rcases q with ⟨hb, rfl⟩ | ⟨hb, hb', rfl⟩ | ⟨hb, hb', q⟩
  · rw [dy_nilx _ _ _ hb, sgn_dy h']
    have e : (0 : Dyadic) - dy a' b' c' = - dy a' b' c' := by grind
    rw [e, dy_sv, o_neg, dsgn_o, dsgn_o, Int.sign_neg]
  · have e : dy a b c - 0 = dy a b c := by grind
    rw [dy_nilx a' _ _ hb', e, sgn_dy h]
  · have p : 0 < b := by omega
    have p' : 0 < b' := by omega
    rcases Int.le_total c' c with hc | hc
    · rw [dsgn_sub_up hc]
      refine sign_cases _ _ ?_
      have hp : (0 : Int) < 2 ^ (c - c').toNat := Int.pow_pos (by decide)
      have hx := Int.mul_pos p hp
      have t1 := top_lt (k := (c - c').toNat) p p'
      have t2 := top_gt (k := (c - c').toNat) p p'
      rcases q with ⟨q1, q2⟩ | ⟨q1, ⟨q2, q3⟩ | ⟨q2, ⟨q3, q4⟩ | ⟨q3, q4⟩ | ⟨q3, sg, ⟨q5, q6, q7⟩, q4⟩⟩⟩
      · rw [← sv_mul]; unfold sv; split <;> split <;> omega
      · have e1 : (c - c').toNat = 0 := by omega
        rw [e1]; unfold sv; split <;> split <;> omega
      · have t := t1 (by omega)
        rw [← sv_mul]; unfold sv; split <;> split <;> omega
      · have t := t2 (by omega)
        rw [← sv_mul]; unfold sv; split <;> split <;> omega
      · have t := q6 (by omega)
        have ne := odd_ne (b := b) (b' := b') (k := c - c') (by omega) (by omega)
        rw [sv_mul] at t
        have ne2 : sv a b * 2 ^ (c - c').toNat - sv a' b' ≠ 0 := by rw [← sv_mul]; unfold sv; split <;> split <;> omega
        rcases q5 with rfl | rfl <;> omega
    · rw [dsgn_sub_dn hc]
      refine sign_cases _ _ ?_
      have hp : (0 : Int) < 2 ^ (c' - c).toNat := Int.pow_pos (by decide)
      have hx := Int.mul_pos p' hp
      have t1 := top_lt (k := (c' - c).toNat) p' p
      have t2 := top_gt (k := (c' - c).toNat) p' p
      rcases q with ⟨q1, q2⟩ | ⟨q1, ⟨q2, q3⟩ | ⟨q2, ⟨q3, q4⟩ | ⟨q3, q4⟩ | ⟨q3, sg, ⟨q5, q6, q7⟩, q4⟩⟩⟩
      · rw [← sv_mul]; unfold sv; split <;> split <;> omega
      · have e1 : (c' - c).toNat = 0 := by omega
        rw [e1]; unfold sv; split <;> split <;> omega
      · have t := t2 (by omega)
        rw [← sv_mul]; unfold sv; split <;> split <;> omega
      · have t := t1 (by omega)
        rw [← sv_mul]; unfold sv; split <;> split <;> omega
      · have t := q7 (by omega)
        have ne := odd_ne (b := b') (b' := b) (k := c' - c) (by omega) (by omega)
        rw [show -(c - c') = c' - c by omega, sv_mul] at t
        have ne2 : sv a b - sv a' b' * 2 ^ (c' - c).toNat ≠ 0 := by rw [← sv_mul]; unfold sv; split <;> split <;> omega
        rcases q5 with rfl | rfl <;> omega
theorem dsgn_bits (d : Dyadic) : Builtin.Int.intBits (dsgn d) ≤ 1 := by
  unfold dsgn
  split
  · decide
  · split <;> decide
set_option maxRecDepth 100000 in
set_option maxHeartbeats 8000000 in
theorem sign_spec (w : World) (mean : ExcName → Option Value) (mg mb : Str → Option Value) (v : Value) (d : Dyadic) :
    Spec w mean mg mb 99 3 130 [v] (fun news => NumIn news v d) (fun news r => ∃ tk, r = .int (dsgn d) tk) := by
  unfold Spec
  intro dp un gd cn cs a₀ ccd cl outer A₀ base h₀ L m news s Q E B F X N T hk hpre hdp hun hret
  obtain ⟨a, b, c, e, h1, hC, rfl⟩ := hpre
  rw [← sgn_dy hC] at hret
  exact sign_walk w mean mg mb v a b c e hC dp un gd cn cs a₀ ccd cl outer A₀ base h₀ L m news s Q E B F X N T hk h1 hdp hun hret
set_option maxRecDepth 100000 in
set_option maxHeartbeats 8000000 in
theorem cmp_spec (w : World) (mean : ExcName → Option Value) (mg mb : Str → Option Value) (v v' : Value) (d d' : Dyadic) (hb : Bd 50 d) (hb' : Bd 50 d') :
    Spec w mean mg mb 68 18 280 [v, v'] (fun news => NumIn news v d ∧ NumIn news v' d') (fun news r => ∃ tk, r = .int (dsgn (d - d')) tk) := by
  unfold Spec
  intro dp un gd cn cs a₀ ccd cl outer A₀ base h₀ L m news s Q E B F X N T hk hpre hdp hun hret
  obtain ⟨h1, h2⟩ := hpre
  obtain ⟨a, b, c, e, q1, hC, rfl, k1, k2, k3⟩ := h1.open hb (by decide)
  obtain ⟨a', b', c', e', q2, hC', rfl, k1', k2', k3'⟩ := h2.open hb' (by decide)
  refine cmp_walk w mean mg mb v v' a b c e a' b' c' e' hC hC' (by omega) (by omega) dp un gd cn cs a₀ ccd cl outer A₀ base h₀ L m news s Q E B F X N T hk ⟨q1, q2⟩ hdp hun fun r n' h' tk' F' N' x q => ?_
  obtain ⟨z, tk, rfl, hz⟩ := q
  exact hret _ n' h' tk' F' N' x ⟨tk, by rw [cmp_dy hC hC' hz]⟩
local macro_rules | `(tactic| walk_at "call ref") => `(tactic| (k_here; (with_reducible show wpAny _ _ (call (Value.ref 99) _) _ _ _); k_dflt (first | (refine' Spec.useC (fun _ => False) [_, _, _, _, _, _, _] (sign_spec _ _ _ _ _ _) ?k1 ?k2 ?k3 ?k4 ?k5 ?kK ?ko ?kn ?kp ?kh ?kd ?ku ?_; (case k4 => k_asm); (case ko => assumption)) | (refine' Spec.useC (fun _ => False) [_, _, _, _, _, _] (sign_spec _ _ _ _ _ _) ?k1 ?k2 ?k3 ?k4 ?k5 ?kK ?ko ?kn ?kp ?kh ?kd ?ku ?_; (case k4 => k_asm); (case ko => assumption)) | (refine' Spec.useC (fun _ => False) [_, _, _, _, _] (sign_spec _ _ _ _ _ _) ?k1 ?k2 ?k3 ?k4 ?k5 ?kK ?ko ?kn ?kp ?kh ?kd ?ku ?_; (case k4 => k_asm); (case ko => assumption)) | (refine' Spec.useC (fun _ => False) [_, _, _, _] (sign_spec _ _ _ _ _ _) ?k1 ?k2 ?k3 ?k4 ?k5 ?kK ?ko ?kn ?kp ?kh ?kd ?ku ?_; (case k4 => k_asm); (case ko => assumption)) | (refine' Spec.useC (fun _ => False) [_, _, _] (sign_spec _ _ _ _ _ _) ?k1 ?k2 ?k3 ?k4 ?k5 ?kK ?ko ?kn ?kp ?kh ?kd ?ku ?_; (case k4 => k_asm); (case ko => assumption)) | (refine' Spec.useC (fun _ => False) [_, _] (sign_spec _ _ _ _ _ _) ?k1 ?k2 ?k3 ?k4 ?k5 ?kK ?ko ?kn ?kp ?kh ?kd ?ku ?_; (case k4 => k_asm); (case ko => assumption)) | (refine' Spec.useC (fun _ => False) [_] (sign_spec _ _ _ _ _ _) ?k1 ?k2 ?k3 ?k4 ?k5 ?kK ?ko ?kn ?kp ?kh ?kd ?ku ?_; (case k4 => k_asm); (case ko => assumption)) | (refine' Spec.useC (fun _ => False) [_, _, _, _, _, _, _] (sign_spec _ _ _ _ _ _) ?k1 ?k2 ?k3 ?k4 ?k5 ?kK ?ko ?kn ?kp ?kh ?kd ?ku ?_; (case k4 => exact Mine.News.drop1 (by k_asm)); (case ko => assumption)) | (refine' Spec.useC (fun _ => False) [_, _, _, _, _, _] (sign_spec _ _ _ _ _ _) ?k1 ?k2 ?k3 ?k4 ?k5 ?kK ?ko ?kn ?kp ?kh ?kd ?ku ?_; (case k4 => exact Mine.News.drop1 (by k_asm)); (case ko => assumption)) | (refine' Spec.useC (fun _ => False) [_, _, _, _, _] (sign_spec _ _ _ _ _ _) ?k1 ?k2 ?k3 ?k4 ?k5 ?kK ?ko ?kn ?kp ?kh ?kd ?ku ?_; (case k4 => exact Mine.News.drop1 (by k_asm)); (case ko => assumption)) | (refine' Spec.useC (fun _ => False) [_, _, _, _] (sign_spec _ _ _ _ _ _) ?k1 ?k2 ?k3 ?k4 ?k5 ?kK ?ko ?kn ?kp ?kh ?kd ?ku ?_; (case k4 => exact Mine.News.drop1 (by k_asm)); (case ko => assumption)) | (refine' Spec.useC (fun _ => False) [_, _, _] (sign_spec _ _ _ _ _ _) ?k1 ?k2 ?k3 ?k4 ?k5 ?kK ?ko ?kn ?kp ?kh ?kd ?ku ?_; (case k4 => exact Mine.News.drop1 (by k_asm)); (case ko => assumption)) | (refine' Spec.useC (fun _ => False) [_, _] (sign_spec _ _ _ _ _ _) ?k1 ?k2 ?k3 ?k4 ?k5 ?kK ?ko ?kn ?kp ?kh ?kd ?ku ?_; (case k4 => exact Mine.News.drop1 (by k_asm)); (case ko => assumption)) | (refine' Spec.useC (fun _ => False) [_] (sign_spec _ _ _ _ _ _) ?k1 ?k2 ?k3 ?k4 ?k5 ?kK ?ko ?kn ?kp ?kh ?kd ?ku ?_; (case k4 => exact Mine.News.drop1 (by k_asm)); (case ko => assumption))); (case k1 => k_asm); (case k2 => k_asm); (case k3 => k_asm); (case k5 => k_asm); (case kK => first | exact rfl | assumption); (case kn => exact fun _ _ h => h); (case kh => exact fun _ _ _ _ h => h); (case kp => exact NumIn.mono (by assumption) (by (intro p hp; (repeat (first | exact hp | refine List.Mem.tail _ ?_ | refine Ext.mem (by assumption) ?_))))); (case kd => ktr_room); (case ku => ktr_units); k_whole; intro r9 X9 h9 tk9 F9 N9 x9 o9 p9; (obtain ⟨tkk9, e9⟩ := p9; subst e9); (try simp only [List.cons_append, List.nil_append] at N9); (try dsimp only); walk_say "WHOLE NUMBER 99"))
local macro_rules | `(tactic| walk_at "call ref") => `(tactic| (k_here; (with_reducible show wpAny _ _ (call (Value.ref 68) _) _ _ _); k_dflt (first | (refine' Spec.useC (fun _ => False) [_, _, _, _, _, _, _] (cmp_spec _ _ _ _ _ _ _ _ ?q1 ?q2) ?k1 ?k2 ?k3 ?k4 ?k5 ?kK ?ko ?kn ?kp ?kh ?kd ?ku ?_; (case k4 => k_asm); (case ko => assumption)) | (refine' Spec.useC (fun _ => False) [_, _, _, _, _, _] (cmp_spec _ _ _ _ _ _ _ _ ?q1 ?q2) ?k1 ?k2 ?k3 ?k4 ?k5 ?kK ?ko ?kn ?kp ?kh ?kd ?ku ?_; (case k4 => k_asm); (case ko => assumption)) | (refine' Spec.useC (fun _ => False) [_, _, _, _, _] (cmp_spec _ _ _ _ _ _ _ _ ?q1 ?q2) ?k1 ?k2 ?k3 ?k4 ?k5 ?kK ?ko ?kn ?kp ?kh ?kd ?ku ?_; (case k4 => k_asm); (case ko => assumption)) | (refine' Spec.useC (fun _ => False) [_, _, _, _] (cmp_spec _ _ _ _ _ _ _ _ ?q1 ?q2) ?k1 ?k2 ?k3 ?k4 ?k5 ?kK ?ko ?kn ?kp ?kh ?kd ?ku ?_; (case k4 => k_asm); (case ko => assumption)) | (refine' Spec.useC (fun _ => False) [_, _, _] (cmp_spec _ _ _ _ _ _ _ _ ?q1 ?q2) ?k1 ?k2 ?k3 ?k4 ?k5 ?kK ?ko ?kn ?kp ?kh ?kd ?ku ?_; (case k4 => k_asm); (case ko => assumption)) | (refine' Spec.useC (fun _ => False) [_, _] (cmp_spec _ _ _ _ _ _ _ _ ?q1 ?q2) ?k1 ?k2 ?k3 ?k4 ?k5 ?kK ?ko ?kn ?kp ?kh ?kd ?ku ?_; (case k4 => k_asm); (case ko => assumption)) | (refine' Spec.useC (fun _ => False) [_] (cmp_spec _ _ _ _ _ _ _ _ ?q1 ?q2) ?k1 ?k2 ?k3 ?k4 ?k5 ?kK ?ko ?kn ?kp ?kh ?kd ?ku ?_; (case k4 => k_asm); (case ko => assumption)) | (refine' Spec.useC (fun _ => False) [_, _, _, _, _, _, _] (cmp_spec _ _ _ _ _ _ _ _ ?q1 ?q2) ?k1 ?k2 ?k3 ?k4 ?k5 ?kK ?ko ?kn ?kp ?kh ?kd ?ku ?_; (case k4 => exact Mine.News.drop1 (by k_asm)); (case ko => assumption)) | (refine' Spec.useC (fun _ => False) [_, _, _, _, _, _] (cmp_spec _ _ _ _ _ _ _ _ ?q1 ?q2) ?k1 ?k2 ?k3 ?k4 ?k5 ?kK ?ko ?kn ?kp ?kh ?kd ?ku ?_; (case k4 => exact Mine.News.drop1 (by k_asm)); (case ko => assumption)) | (refine' Spec.useC (fun _ => False) [_, _, _, _, _] (cmp_spec _ _ _ _ _ _ _ _ ?q1 ?q2) ?k1 ?k2 ?k3 ?k4 ?k5 ?kK ?ko ?kn ?kp ?kh ?kd ?ku ?_; (case k4 => exact Mine.News.drop1 (by k_asm)); (case ko => assumption)) | (refine' Spec.useC (fun _ => False) [_, _, _, _] (cmp_spec _ _ _ _ _ _ _ _ ?q1 ?q2) ?k1 ?k2 ?k3 ?k4 ?k5 ?kK ?ko ?kn ?kp ?kh ?kd ?ku ?_; (case k4 => exact Mine.News.drop1 (by k_asm)); (case ko => assumption)) | (refine' Spec.useC (fun _ => False) [_, _, _] (cmp_spec _ _ _ _ _ _ _ _ ?q1 ?q2) ?k1 ?k2 ?k3 ?k4 ?k5 ?kK ?ko ?kn ?kp ?kh ?kd ?ku ?_; (case k4 => exact Mine.News.drop1 (by k_asm)); (case ko => assumption)) | (refine' Spec.useC (fun _ => False) [_, _] (cmp_spec _ _ _ _ _ _ _ _ ?q1 ?q2) ?k1 ?k2 ?k3 ?k4 ?k5 ?kK ?ko ?kn ?kp ?kh ?kd ?ku ?_; (case k4 => exact Mine.News.drop1 (by k_asm)); (case ko => assumption)) | (refine' Spec.useC (fun _ => False) [_] (cmp_spec _ _ _ _ _ _ _ _ ?q1 ?q2) ?k1 ?k2 ?k3 ?k4 ?k5 ?kK ?ko ?kn ?kp ?kh ?kd ?ku ?_; (case k4 => exact Mine.News.drop1 (by k_asm)); (case ko => assumption))); (case k1 => k_asm); (case k2 => k_asm); (case k3 => k_asm); (case k5 => k_asm); (case kK => first | exact rfl | assumption); (case kn => exact fun _ _ h => h); (case kh => exact fun _ _ _ _ h => h); (case kp => exact ⟨NumIn.mono (by assumption) (by (intro p hp; (repeat (first | exact hp | refine List.Mem.tail _ ?_ | refine Ext.mem (by assumption) ?_)))), NumIn.mono (by assumption) (by (intro p hp; (repeat (first | exact hp | refine List.Mem.tail _ ?_ | refine Ext.mem (by assumption) ?_))))⟩); (case q1 => assumption); (case q2 => assumption); (case kd => ktr_room); (case ku => ktr_units); k_whole; intro r9 X9 h9 tk9 F9 N9 x9 o9 p9; (obtain ⟨tkk9, e9⟩ := p9; subst e9); (try simp only [List.cons_append, List.nil_append] at N9); (try dsimp only); walk_say "WHOLE NUMBER 68"))
section
variable {prog : Program} {w : World} {A : Around} {E : Value → Shared → Prop} {s : Shared} {h₀ : Heap} {env : Env} {x : Str} {body : List Stmt} {Q : Flow → Shared → Prop}
/-- a for over a list of the ledger, some entries ahead of the rest and unturned -/
theorem aj_listK {σ : Type} {l : Addr} {vs : List Value} {nn : Nat} {m₀ : Str → Option Value} {X₀ : List (Addr × Obj)} (pre : List (Addr × Obj)) (ps : σ → List (Str × Value)) (stored : List Str) (P : Nat → List (Addr × Obj) → σ → Prop) (c₀ : σ)
    (hh : A.handled = none) (hl : (l, W.listOf vs.toArray nn) ∈ X₀) (F : Fr h₀ env.locals s.heap m₀) (N : News h₀ env.locals s.heap (pre ++ X₀)) (hoff : OffA (pre.map fun q : Addr × Obj => q.1) X₀)
    (hps : ∀ p ∈ ps c₀, m₀ p.1 = some p.2) (hP : P 0 X₀ c₀)
    (turn : ∀ i v c X (u : Str → Option Value) h tk I oI, vs[i]? = some v → Ext X₀ X → OffA (I :: pre.map fun q : Addr × Obj => q.1) X → ¬ Tl oI → P i X c → Fr h₀ env.locals h (frT x v (ps c) stored u m₀) → News h₀ env.locals h ((I, oI) :: (pre ++ X)) →
      wpAny (model prog w) A (execs body env) (TurnPost' h₀ env.locals I oI x (fun _ => pre) ps stored m₀ (pre.map fun q : Addr × Obj => q.1) X (P (i + 1)) { s with heap := h, toks := tk } Q) E { s with heap := h, toks := tk })
    (done : ∀ c X (u : Str → Option Value) h tk, Ext X₀ X → OffA (pre.map fun q : Addr × Obj => q.1) X → P vs.length X c → Fr h₀ env.locals h (frO x (ps c) stored u m₀) → News h₀ env.locals h (pre ++ X) → Q .next { s with heap := h, toks := tk }) :
    wpAny (model prog w) A (pyIter (.ref l)) (fun it s₂ => LoopAtV prog w A h₀ env x body Q E it s₂) E s :=
  aj_list (fun _ => pre) (pre.map fun q : Addr × Obj => q.1) ps stored P c₀ hh hl (fun _ => rfl) F N hoff hps hP (fun i v c X u h tk I oI h1 h2 h3 _ h5 h6 h7 h8 => turn i v c X u h tk I oI h1 h2 (offA_cons (fun q hq => (h3 q hq).2) fun q hq => (h3 q hq).1) h5 h6 h7 h8) done
end
def ValuePre (lp lr : Addr) (np nr : Nat) (vl vx : Value) (pv rv : List Value) (poly roots : List Dyadic) (lead x : Dyadic) (news : List (Addr × Obj)) : Prop :=
  NumIn news vl lead ∧ NumIn news vx x ∧ (lp, W.listOf pv.toArray np) ∈ news ∧ NumsIn news pv poly ∧ (lr, W.listOf rv.toArray nr) ∈ news ∧ NumsIn news rv roots
set_option maxRecDepth 100000 in
set_option maxHeartbeats 8000000 in
theorem value_walk (w : World) (mean : ExcName → Option Value) (mg mb : Str → Option Value) (lp lr : Addr) (np nr : Nat) (vl vx : Value) (pv rv : List Value) (poly roots : List Dyadic) (lead x : Dyadic) (hval : nestOf poly x = prodOf lead x roots) (hpl : pv.length ≤ 5) (hx : Bd 400000 x) (hx1 : Bd 100 x) (hx5 : Bd 50 x) (hterm : (termsOf poly x).sum = prodOf lead x roots) (htb : ∀ d ∈ termsOf poly x, Bd 1000 d) (hxp : ∀ k : Nat, k ≤ 4 → Bd 400000 (x ^ k)) (hrs : ∀ r ∈ roots, Bd 400000 r ∧ Bd 400000 (x - r)) (hr5 : ∀ r ∈ roots, Bd 50 r) (hpp : ∀ i, i ≤ roots.length → Bd 400000 (prodOf lead x (roots.take i))) (hcs : ∀ c ∈ poly, Bd 400000 c) (hnn : ∀ i, i ≤ poly.length → Bd 400000 (nestOf (poly.take i) x) ∧ Bd 400000 (nestOf (poly.take i) x * x)) :
    Spec w mean mg mb 196 60 500 [.ref lp, vl, .ref lr, vx] (ValuePre lp lr np nr vl vx pv rv poly roots lead x) (fun news r => r = .bool true) := by
  unfold Spec
  w_top off
  k_fill
  intro dp un gd cn cs a₀ ccd cl outer A₀ base h₀ L m news s Q E B F X N T hk hpre hdp hun hret
  obtain ⟨h1, h2, hlp, hpv, hlr, hrv⟩ := hpre
  refine wpAny_call ?_
  k_dflt ktr_enter
  rename (∀ p ∈ news, p.1 < _) => l1
  have hoff := off3 l1
  k_steps
  rename Fr _ _ _ _ => F1
  rename News _ _ _ _ => N1
  rename IsRange _ _ _ _ _ _ _ _ => R1
  rename OffA _ _ => o1
  rename NumIn _ _ (prodOf lead x roots) => hdue
  rename NumIn _ _ (nestOf poly x) => hnest
  have epl : (pv.length : Int) - 1 + 1 = (pv.length : Int) := by omega
  rw [epl] at R1
  unfold Halt
  refine LCg.CompSrc.range rfl F1 N1 R1 (n := pv.length) ?hsm ?hn ?hsz ?_
  case hsm => exact small_one (by decide) (by decide) (by omega) (by omega)
  case hn => rw [rangeSize_nat]; omega
  case hsz => rw [sizeLine_eq]; omega
  intro g
  refine comp_inv pv.length (fun i ys news => ∃ X, news = [_, _, _] ++ X ∧ Ext _ X ∧ OffA [_, _, _] X ∧ NumsIn X ys ((termsOf poly x).take i)) ?fin ?step _ 0 [] _ (by omega) ⟨_, rfl, Ext.refl, o1, .nil⟩
  case step =>
    rintro i ys news9 hi ⟨X9, rfl, hx9, ho9, hys⟩ v I oI C oC D m₂ h tk E' ⟨t, rfl⟩ hC hxx F2 N2 o3 ne
    obtain ⟨vi, hvi⟩ : ∃ vi, pv[i]? = some vi := ⟨_, List.getElem?_eq_getElem hi⟩
    obtain ⟨ci, hci, hni⟩ := hpv.get hvi
    have hvi' : pv[((0 : Int) + (i : Int)).toNat]? = some vi := by rw [show ((0 : Int) + (i : Int)).toNat = i by omega]; exact hvi
    have hbi := hcs _ (List.mem_of_getElem? hci)
    simp only [List.cons_append, List.nil_append] at N2
    have ho6 := offA6 (off3_app (p := [_, _, _]) o3) ho9
    have hbp := hxp ((pv.length : Int) - 1 - (0 + (i : Int))).toNat (by omega)
    k_steps
    rename NumIn _ _ (ci * _) => hfin
    rename OffA [I, _, _, _, _, _] _ => hofin
    refine LCg.CompEnd.intro (by assumption) (by assumption) ([_, _, _] ++ _) (fun p hp => hp) (off3_pre (p := [_, _, _]) o3 (by assumption)) trivial ⟨_, rfl, ?x1, ?x2, ?x3⟩
    case x1 => exact hx9.trans (Ext.trans (by assumption) (by assumption))
    case x2 => exact fun q hq hm => hofin q hq (.tail _ (.tail _ (.tail _ hm)))
    case x3 =>
      rw [terms_step hci]
      refine NumsIn.snoc (hys.mono fun p hp => ?_) ?_
      · exact Ext.mem (by assumption) (Ext.mem (by assumption) hp)
      · rw [← hpv.len]
        have e : ((pv.length : Int) - 1 - (0 + (i : Int))).toNat = pv.length - 1 - i := by omega
        rw [e] at hfin
        exact hfin
  case fin =>
    rintro ys news9 ⟨X, rfl, hx9, ho9, hys⟩
    unfold LCg.FinE
    intro D h tk F2 N2 o2
    rw [hpv.len, ← terms_len poly x, List.take_length] at hys
    have hoD := offA_cons (fun q hq => off1_mem o2 q (List.mem_append.mpr (.inr hq))) ho9
    simp only [List.cons_append, List.nil_append] at N2
    have hnl := list_notT (ys := ys)
    have hyl : ys.length ≤ 10 := by have := hpv.len; rw [hys.len, terms_len]; omega
    k_steps
    rename Fr _ _ _ _ => F3
    rename News _ _ _ _ => N3
    rename OffA _ _ => o3
    refine' aj_listK (σ := Int × Tok) [_, _, _, _] (fun c => [(Str.ofString "sign", Value.int c.1 c.2)]) [] (fun i X c => c.1 = dsgn (prodOf lead x (roots.take i))) (dsgn lead, ?tk0) rfl ?hl F3 N3 o3 ?hps ?hP ?turn ?done
    case hps =>
      intro p hp
      rw [List.mem_singleton.mp hp]; exact rfl
    case hP => rfl
    case hl => (repeat (first | assumption | refine List.Mem.tail _ ?_ | refine Ext.mem (by assumption) ?_))
    case turn =>
      intro i v c X u h tk I oI hv hxx hX hnt hP F4 N4
      obtain ⟨z, tz⟩ := c
      obtain ⟨r, hr, hn⟩ := hrv.get hv
      have hrm := hr5 _ (List.mem_of_getElem? hr)
      replace F4 : Fr _ _ _ (frT (Str.ofString "root") v [(Str.ofString "sign", Value.int z tz)] _ u _) := F4
      simp only [List.cons_append, List.nil_append] at N4
      dsimp only at hP
      subst hP
      have hb1 := dsgn_bits (prodOf lead x (roots.take i))
      have hb2 := dsgn_bits (x - r)
      k_steps
      rename OffA (List.map _ ((I, oI) :: _)) _ => o9
      rename Ext X _ => x9
      refine ⟨_, _, _, (?zz, ?tt), _, rfl, by assumption, by assumption, x9, fun p hp => ⟨fun hm => o9 p hp (.tail _ hm), fun e => o9 p hp (by rw [e]; exact .head _)⟩, ?ps, ?ag, ?pp⟩
      case ps =>
        intro p hp
        rw [List.mem_singleton.mp hp]; exact rfl
      case ag => (repeat' (first | exact Agr.base rfl | (refine Agr.st ?_ ?_; rotate_left; (first | exact .inl rfl | exact .inr (.inr rfl) | exact .inr (.inl ⟨_, List.Mem.head _, rfl⟩) | exact .inr (.inl ⟨_, List.Mem.tail _ (List.Mem.head _), rfl⟩)))))
      case pp =>
        show _ = dsgn _
        rw [prod_step hr, dsgn_mul]
    case done =>
      intro c X u h tk hxx hX hP F4 N4
      obtain ⟨z, tz⟩ := c
      replace F4 : Fr _ _ _ (frO (Str.ofString "root") [(Str.ofString "sign", Value.int z tz)] _ u _) := F4
      simp only [List.cons_append, List.nil_append] at N4
      dsimp only at hP
      rw [hrv.len, List.take_length] at hP
      k_steps
      rename News _ _ _ _ => N5
      rename Fr _ _ _ _ => F5
      refine hret _ _ _ _ F5 (News.drop1 (News.drop1 (News.drop1 (News.drop1 N5)))) ?f3 ?f4
      case f3 => (repeat (first | assumption | refine Ext.trans ?_ (by assumption)))
      case f4 =>
        rw [hP]
        simp
end

section
local macro_rules | `(tactic| walk_at "pad") => `(tactic| skip)
local macro_rules | `(tactic| kun_tup) => `(tactic| exact TupIn.isTup (by assumption) (by k_asm) (by k_asm) (by k_asm))
local macro_rules | `(tactic| cell_enter) => `(tactic| (refine' code_def ?k1 ?k2 ?k3 ?k4 ?k5 ?kA ?kF ?kK ?k6 ?k7 ?k8 ?k9 ?kB ?_ ?c2 ?c3 ?c4 ?c5; (case kA => exact rfl); (case kF => exact rfl); (case kK => assumption); (case k1 => k_asm); (case k2 => k_asm); (case k3 => k_asm); (case k4 => k_asm); (case k5 => k_asm); (case k6 => k_is); (case k7 => k_is); (case k8 => ktr_room); (case k9 => first | exact (by assumption : BindAs _ _ _ _) _ _ _ _ _ (by k_in) (by k_is) | exact BindsTo.of_eq rfl | exact binds_K (by k_in) rfl (by k_is) rfl rfl rfl); (case c5 => decide); (case kB => exact locs rfl); (case c2 => exact rfl); (case c3 => exact rfl); (case c4 => exact rfl); k_whole; intro g' L' h' FG' F' N' B' X' T'; (try dsimp only); (try k_lift B'); (try k_fold)))
local macro_rules | `(tactic| walk_at "ite") => `(tactic| (k_here; first
  | (refine' ite_pos ?hc9 ?_; (case hc9 => ((try simp only [bne_iff_ne, beq_iff_eq, Bool.not_eq_true', bne_eq_false_iff_eq, beq_eq_false_iff_ne, decide_eq_true_eq, decide_eq_false_iff_not, ne_eq, Bool.and_eq_true, Bool.or_eq_true, not_false_eq_true]); first | done | omega)); walk_say "PRUNED +")
  | (refine' ite_neg ?hc9 ?_; (case hc9 => ((try simp only [bne_iff_ne, beq_iff_eq, Bool.not_eq_true', bne_eq_false_iff_eq, beq_eq_false_iff_ne, decide_eq_true_eq, decide_eq_false_iff_not, ne_eq, Bool.and_eq_true, Bool.or_eq_true, not_false_eq_true]); first | done | omega)); walk_say "PRUNED -")))
local macro_rules | `(tactic| ke_read) => `(tactic| first | exact TupIn.reads (by with_reducible assumption) (by k_asm) (by k_asm) (by k_asm) | exact TupIn.reads TupIn.zero (by k_asm) (by k_asm) (by k_asm) | exact TupIn.reads TupIn.inf (by k_asm) (by k_asm) (by k_asm) | exact TupIn.reads TupIn.ninf (by k_asm) (by k_asm) (by k_asm) | exact TupIn.reads TupIn.nan (by k_asm) (by k_asm) (by k_asm))
local macro_rules | `(tactic| walk_at "compareOp Eq ref ref") => `(tactic| (k_here; (with_reducible show wpAny _ _ (compareOp CmpOp.Eq (Value.ref _) (Value.ref _)) _ _ _); k_dflt (refine eq_dataH (by ke_read) (by ke_read) rfl rfl (by ktr_units) ?_); ke_norm))
local macro_rules | `(tactic| walk_at "compareOp NotEq ref ref") => `(tactic| (k_here; (with_reducible show wpAny _ _ (compareOp CmpOp.NotEq (Value.ref _) (Value.ref _)) _ _ _); k_dflt (refine ne_dataH (by ke_read) (by ke_read) rfl rfl (by ktr_units) ?_); ke_norm))
local macro_rules | `(tactic| walk_at "binaryOp LShift int int") => `(tactic| (k_here; (with_reducible refine lshift_int ?kn ?ks ?_); (case kn => omega); (case ks => omega)))
local macro_rules | `(tactic| walk_at "binaryOp Mult int int") => `(tactic| (k_here; (with_reducible refine mul_int ?_ ?km); rotate_left; (case km => exact IntMulOk.of_le (m := 60000000) (n := 60000000) (by omega) (by omega) (by decide))))
local macro_rules | `(tactic| walk_at "eval Name") => `(tactic| (k_here; (with_reducible show wpAny _ _ (eval (Expr.Name _ _) (envOf _ _ _ _ _)) _ _ _); name_kind "local"; k_dflt (refine' ld ?k1 ?k2 ?_; (case k1 => k_asm); (case k2 => exact rfl); k_whole)))
local macro_rules | `(tactic| walk_at "binaryOp RShift int int") => `(tactic| (k_here; (with_reducible refine rshift_int ?kn ?_); (case kn => omega)))
local macro_rules | `(tactic| walk_at "inplaceOp Pow int int") => `(tactic| (k_here; (with_reducible refine ipow_int ?kn ?ks ?_); (case kn => omega); (case ks => omega)))
local macro_rules | `(tactic| walk_at "inplaceOp Mult int int") => `(tactic| (k_here; (with_reducible refine imul_int ?_ ?km); rotate_left; (case km => exact IntMulOk.of_le (m := 60000000) (n := 60000000) (by omega) (by omega) (by decide))))
local macro_rules | `(tactic| walk_at "subscriptTail") => `(tactic| (k_here; (with_reducible show wpAny _ _ (subscriptTail _ _ (Value.ref _) (Value.int _ _)) _ _ _); k_dflt (refine' item_tupleT ?k1 ?k2 ?k3 ?k4 ?k5 ?_ ?k6; (case k1 => first | exact TupIn.isTup (by with_reducible assumption) (by k_asm) (by k_asm) (by k_asm)); (case k2 => decide); (case k3 => decide); (case k4 => exact rfl); (case k5 => exact rfl); (case k6 => with_unfolding_all rfl); k_whole)))
local macro_rules | `(tactic| walk_at "exec For Name Name cons nil") => `(tactic| (k_here; (rename Fr _ _ _ _ => lF'); (with_unfolding_all refine' For_invVF lF' ?k1 ?k2 ?_; (case k1 => exact rfl); (case k2 => exact rfl); k_whole)))
local macro_rules | `(tactic| walk_at "compareOp NotEq") => `(tactic| (k_here; k_dflt (refine' ne_num (NumIn.mono ?ha ?hb) (NumIn.mono ?hc ?hd) ?he ?hF ?hK ?hN ?hu ?_; (case ha => assumption); (case hc => assumption); (case he => assumption); (case hF => k_asm); (case hK => k_asm); (case hN => k_asm); (case hb => (intro p hp; (repeat (first | exact hp | refine List.Mem.tail _ ?_ | refine Ext.mem (by assumption) ?_)))); (case hd => (intro p hp; (repeat (first | exact hp | refine List.Mem.tail _ ?_ | refine Ext.mem (by assumption) ?_)))); (case hu => ktr_units)); walk_say "NOT UNLIKE"))
local macro_rules | `(tactic| walk_at "call builtin:len") => `(tactic| (k_here; (with_reducible show wpAny _ _ (call (Value.builtin "len") [Value.ref _]) _ _ _); k_dflt (refine' call_len_list (News.isList ?kN ?km) ?kf ?_; (case kN => k_asm); (case km => (repeat (first | assumption | refine List.Mem.tail _ ?_ | refine Ext.mem (by assumption) ?_))); (case kf => (simp only [List.size_toArray]; omega)); k_whole); (try simp only [List.size_toArray])))
local macro_rules | `(tactic| walk_at "call ref") => `(tactic| (k_here; (with_reducible show wpAny _ _ (call (Value.ref 184) _) _ _ _); k_dflt (first | (refine' Spec.useD [_, _, _, _, _, _, _] (product_walk _ _ _ _ _ _ _ _ _ _ _ _ ?q1 ?q2 ?q3) ?k1 ?k2 ?k3 ?k4 ?k5 ?kK ?ko ?kn ?kp ?kd ?ku ?_; (case k4 => k_asm); (case ko => assumption)) | (refine' Spec.useD [_, _, _, _, _, _] (product_walk _ _ _ _ _ _ _ _ _ _ _ _ ?q1 ?q2 ?q3) ?k1 ?k2 ?k3 ?k4 ?k5 ?kK ?ko ?kn ?kp ?kd ?ku ?_; (case k4 => k_asm); (case ko => assumption)) | (refine' Spec.useD [_, _, _, _, _] (product_walk _ _ _ _ _ _ _ _ _ _ _ _ ?q1 ?q2 ?q3) ?k1 ?k2 ?k3 ?k4 ?k5 ?kK ?ko ?kn ?kp ?kd ?ku ?_; (case k4 => k_asm); (case ko => assumption)) | (refine' Spec.useD [_, _, _, _] (product_walk _ _ _ _ _ _ _ _ _ _ _ _ ?q1 ?q2 ?q3) ?k1 ?k2 ?k3 ?k4 ?k5 ?kK ?ko ?kn ?kp ?kd ?ku ?_; (case k4 => k_asm); (case ko => assumption)) | (refine' Spec.useD [_, _, _] (product_walk _ _ _ _ _ _ _ _ _ _ _ _ ?q1 ?q2 ?q3) ?k1 ?k2 ?k3 ?k4 ?k5 ?kK ?ko ?kn ?kp ?kd ?ku ?_; (case k4 => k_asm); (case ko => assumption)) | (refine' Spec.useD [_, _] (product_walk _ _ _ _ _ _ _ _ _ _ _ _ ?q1 ?q2 ?q3) ?k1 ?k2 ?k3 ?k4 ?k5 ?kK ?ko ?kn ?kp ?kd ?ku ?_; (case k4 => k_asm); (case ko => assumption)) | (refine' Spec.useD [_] (product_walk _ _ _ _ _ _ _ _ _ _ _ _ ?q1 ?q2 ?q3) ?k1 ?k2 ?k3 ?k4 ?k5 ?kK ?ko ?kn ?kp ?kd ?ku ?_; (case k4 => k_asm); (case ko => assumption)) | (refine' Spec.useD [_, _, _, _, _, _, _] (product_walk _ _ _ _ _ _ _ _ _ _ _ _ ?q1 ?q2 ?q3) ?k1 ?k2 ?k3 ?k4 ?k5 ?kK ?ko ?kn ?kp ?kd ?ku ?_; (case k4 => exact Mine.News.drop1 (by k_asm)); (case ko => assumption)) | (refine' Spec.useD [_, _, _, _, _, _] (product_walk _ _ _ _ _ _ _ _ _ _ _ _ ?q1 ?q2 ?q3) ?k1 ?k2 ?k3 ?k4 ?k5 ?kK ?ko ?kn ?kp ?kd ?ku ?_; (case k4 => exact Mine.News.drop1 (by k_asm)); (case ko => assumption)) | (refine' Spec.useD [_, _, _, _, _] (product_walk _ _ _ _ _ _ _ _ _ _ _ _ ?q1 ?q2 ?q3) ?k1 ?k2 ?k3 ?k4 ?k5 ?kK ?ko ?kn ?kp ?kd ?ku ?_; (case k4 => exact Mine.News.drop1 (by k_asm)); (case ko => assumption)) | (refine' Spec.useD [_, _, _, _] (product_walk _ _ _ _ _ _ _ _ _ _ _ _ ?q1 ?q2 ?q3) ?k1 ?k2 ?k3 ?k4 ?k5 ?kK ?ko ?kn ?kp ?kd ?ku ?_; (case k4 => exact Mine.News.drop1 (by k_asm)); (case ko => assumption)) | (refine' Spec.useD [_, _, _] (product_walk _ _ _ _ _ _ _ _ _ _ _ _ ?q1 ?q2 ?q3) ?k1 ?k2 ?k3 ?k4 ?k5 ?kK ?ko ?kn ?kp ?kd ?ku ?_; (case k4 => exact Mine.News.drop1 (by k_asm)); (case ko => assumption)) | (refine' Spec.useD [_, _] (product_walk _ _ _ _ _ _ _ _ _ _ _ _ ?q1 ?q2 ?q3) ?k1 ?k2 ?k3 ?k4 ?k5 ?kK ?ko ?kn ?kp ?kd ?ku ?_; (case k4 => exact Mine.News.drop1 (by k_asm)); (case ko => assumption)) | (refine' Spec.useD [_] (product_walk _ _ _ _ _ _ _ _ _ _ _ _ ?q1 ?q2 ?q3) ?k1 ?k2 ?k3 ?k4 ?k5 ?kK ?ko ?kn ?kp ?kd ?ku ?_; (case k4 => exact Mine.News.drop1 (by k_asm)); (case ko => assumption))); (case k1 => k_asm); (case k2 => k_asm); (case k3 => k_asm); (case k5 => k_asm); (case kK => first | exact rfl | assumption); (case kn => (repeat (first | exact nt_nil | (refine nt_cons ?_ ?_; first | assumption | exact notT_of (cell_notTl (by assumption)) | exact notT_of (by assumption))))); (case kp => exact ⟨NumIn.mono (by assumption) (by (intro p hp; (repeat (first | exact hp | refine List.Mem.tail _ ?_ | refine Ext.mem (by assumption) ?_)))), NumIn.mono (by assumption) (by (intro p hp; (repeat (first | exact hp | refine List.Mem.tail _ ?_ | refine Ext.mem (by assumption) ?_)))), (by (repeat (first | assumption | refine List.Mem.tail _ ?_ | refine Ext.mem (by assumption) ?_))), NumsIn.mono (by assumption) (by (intro p hp; (repeat (first | exact hp | refine List.Mem.tail _ ?_ | refine Ext.mem (by assumption) ?_))))⟩); (case q1 => assumption); (case q2 => assumption); (case q3 => assumption); (case kd => ktr_room); (case ku => ktr_units); k_whole; intro r9 X9 h9 tk9 F9 N9 x9 o9 p9; (try simp only [List.cons_append, List.nil_append] at N9); (try dsimp only); walk_say "NUMBER 184"))
local macro_rules | `(tactic| walk_at "call ref") => `(tactic| (k_here; (with_reducible show wpAny _ _ (call (Value.ref 191) _) _ _ _); k_dflt (first | (refine' Spec.useD [_, _, _, _, _, _, _] (nested_walk _ _ _ _ _ _ _ _ _ _ ?q1 ?q2 ?q3) ?k1 ?k2 ?k3 ?k4 ?k5 ?kK ?ko ?kn ?kp ?kd ?ku ?_; (case k4 => k_asm); (case ko => assumption)) | (refine' Spec.useD [_, _, _, _, _, _] (nested_walk _ _ _ _ _ _ _ _ _ _ ?q1 ?q2 ?q3) ?k1 ?k2 ?k3 ?k4 ?k5 ?kK ?ko ?kn ?kp ?kd ?ku ?_; (case k4 => k_asm); (case ko => assumption)) | (refine' Spec.useD [_, _, _, _, _] (nested_walk _ _ _ _ _ _ _ _ _ _ ?q1 ?q2 ?q3) ?k1 ?k2 ?k3 ?k4 ?k5 ?kK ?ko ?kn ?kp ?kd ?ku ?_; (case k4 => k_asm); (case ko => assumption)) | (refine' Spec.useD [_, _, _, _] (nested_walk _ _ _ _ _ _ _ _ _ _ ?q1 ?q2 ?q3) ?k1 ?k2 ?k3 ?k4 ?k5 ?kK ?ko ?kn ?kp ?kd ?ku ?_; (case k4 => k_asm); (case ko => assumption)) | (refine' Spec.useD [_, _, _] (nested_walk _ _ _ _ _ _ _ _ _ _ ?q1 ?q2 ?q3) ?k1 ?k2 ?k3 ?k4 ?k5 ?kK ?ko ?kn ?kp ?kd ?ku ?_; (case k4 => k_asm); (case ko => assumption)) | (refine' Spec.useD [_, _] (nested_walk _ _ _ _ _ _ _ _ _ _ ?q1 ?q2 ?q3) ?k1 ?k2 ?k3 ?k4 ?k5 ?kK ?ko ?kn ?kp ?kd ?ku ?_; (case k4 => k_asm); (case ko => assumption)) | (refine' Spec.useD [_] (nested_walk _ _ _ _ _ _ _ _ _ _ ?q1 ?q2 ?q3) ?k1 ?k2 ?k3 ?k4 ?k5 ?kK ?ko ?kn ?kp ?kd ?ku ?_; (case k4 => k_asm); (case ko => assumption)) | (refine' Spec.useD [_, _, _, _, _, _, _] (nested_walk _ _ _ _ _ _ _ _ _ _ ?q1 ?q2 ?q3) ?k1 ?k2 ?k3 ?k4 ?k5 ?kK ?ko ?kn ?kp ?kd ?ku ?_; (case k4 => exact Mine.News.drop1 (by k_asm)); (case ko => assumption)) | (refine' Spec.useD [_, _, _, _, _, _] (nested_walk _ _ _ _ _ _ _ _ _ _ ?q1 ?q2 ?q3) ?k1 ?k2 ?k3 ?k4 ?k5 ?kK ?ko ?kn ?kp ?kd ?ku ?_; (case k4 => exact Mine.News.drop1 (by k_asm)); (case ko => assumption)) | (refine' Spec.useD [_, _, _, _, _] (nested_walk _ _ _ _ _ _ _ _ _ _ ?q1 ?q2 ?q3) ?k1 ?k2 ?k3 ?k4 ?k5 ?kK ?ko ?kn ?kp ?kd ?ku ?_; (case k4 => exact Mine.News.drop1 (by k_asm)); (case ko => assumption)) | (refine' Spec.useD [_, _, _, _] (nested_walk _ _ _ _ _ _ _ _ _ _ ?q1 ?q2 ?q3) ?k1 ?k2 ?k3 ?k4 ?k5 ?kK ?ko ?kn ?kp ?kd ?ku ?_; (case k4 => exact Mine.News.drop1 (by k_asm)); (case ko => assumption)) | (refine' Spec.useD [_, _, _] (nested_walk _ _ _ _ _ _ _ _ _ _ ?q1 ?q2 ?q3) ?k1 ?k2 ?k3 ?k4 ?k5 ?kK ?ko ?kn ?kp ?kd ?ku ?_; (case k4 => exact Mine.News.drop1 (by k_asm)); (case ko => assumption)) | (refine' Spec.useD [_, _] (nested_walk _ _ _ _ _ _ _ _ _ _ ?q1 ?q2 ?q3) ?k1 ?k2 ?k3 ?k4 ?k5 ?kK ?ko ?kn ?kp ?kd ?ku ?_; (case k4 => exact Mine.News.drop1 (by k_asm)); (case ko => assumption)) | (refine' Spec.useD [_] (nested_walk _ _ _ _ _ _ _ _ _ _ ?q1 ?q2 ?q3) ?k1 ?k2 ?k3 ?k4 ?k5 ?kK ?ko ?kn ?kp ?kd ?ku ?_; (case k4 => exact Mine.News.drop1 (by k_asm)); (case ko => assumption))); (case k1 => k_asm); (case k2 => k_asm); (case k3 => k_asm); (case k5 => k_asm); (case kK => first | exact rfl | assumption); (case kn => (repeat (first | exact nt_nil | (refine nt_cons ?_ ?_; first | assumption | exact notT_of (cell_notTl (by assumption)) | exact notT_of (by assumption))))); (case kp => exact ⟨NumIn.mono (by assumption) (by (intro p hp; (repeat (first | exact hp | refine List.Mem.tail _ ?_ | refine Ext.mem (by assumption) ?_)))), (by (repeat (first | assumption | refine List.Mem.tail _ ?_ | refine Ext.mem (by assumption) ?_))), NumsIn.mono (by assumption) (by (intro p hp; (repeat (first | exact hp | refine List.Mem.tail _ ?_ | refine Ext.mem (by assumption) ?_))))⟩); (case q1 => assumption); (case q2 => assumption); (case q3 => assumption); (case kd => ktr_room); (case ku => ktr_units); k_whole; intro r9 X9 h9 tk9 F9 N9 x9 o9 p9; (try simp only [List.cons_append, List.nil_append] at N9); (try dsimp only); walk_say "NUMBER 191"))
local macro_rules | `(tactic| k_all) => `(tactic| first | exact offA_ne (by assumption) (by repeat (first | exact List.Mem.head _ | refine List.Mem.tail _ ?_)) | exact off_lt (by assumption) (by omega))
local macro_rules | `(tactic| ktr_enter) => `(tactic| (refine' code_defC ?k1 ?k2 ?k3 ?k4 ?k5 ?kA ?kF ?kK ?k6 ?k7 ?k8 ?k9 ?kB ?kD ?_ ?c2 ?c3 ?c4; (case kA => exact rfl); (case kF => exact rfl); (case kK => assumption); (case k1 => k_asm); (case k2 => k_asm); (case k3 => k_asm); (case k4 => k_asm); (case k5 => k_asm); (case k6 => k_is); (case k7 => k_is); (case k8 => ktr_room); (case k9 => first | exact BindsTo.of_eq rfl | exact binds_K (by k_in) rfl (by k_is) rfl rfl rfl); (case kB => exact rfl); (case kD => decide +kernel); (case c2 => exact rfl); (case c3 => exact rfl); (case c4 => exact rfl); k_whole; intro g' L' h' tk' cells' FG' F' N' Y' B' X' T' l1; k_cells Y'; (try simp only [List.cons_append, List.nil_append] at N'); (try dsimp only); (try k_lift B'); (try k_fold)))
local macro_rules | `(tactic| walk_at "call ref") => `(tactic| (k_here; (with_reducible show wpAny _ _ (call (Value.ref 131) _) _ _ _); k_dflt (first | (refine' Spec.useF [_, _, _, _, _, _, _, _] (mul_fresh _ _ _ _ _ _ _ _ _ ?q1 ?q2) ?k1 ?k2 ?k3 ?k4 ?k5 ?kK ?ko ?kp ?kd ?ku ?_; (case k4 => k_asm); (case ko => assumption)) | (refine' Spec.useF [_, _, _, _, _, _, _] (mul_fresh _ _ _ _ _ _ _ _ _ ?q1 ?q2) ?k1 ?k2 ?k3 ?k4 ?k5 ?kK ?ko ?kp ?kd ?ku ?_; (case k4 => k_asm); (case ko => assumption)) | (refine' Spec.useF [_, _, _, _, _, _] (mul_fresh _ _ _ _ _ _ _ _ _ ?q1 ?q2) ?k1 ?k2 ?k3 ?k4 ?k5 ?kK ?ko ?kp ?kd ?ku ?_; (case k4 => k_asm); (case ko => assumption)) | (refine' Spec.useF [_, _, _, _, _] (mul_fresh _ _ _ _ _ _ _ _ _ ?q1 ?q2) ?k1 ?k2 ?k3 ?k4 ?k5 ?kK ?ko ?kp ?kd ?ku ?_; (case k4 => k_asm); (case ko => assumption)) | (refine' Spec.useF [_, _, _, _] (mul_fresh _ _ _ _ _ _ _ _ _ ?q1 ?q2) ?k1 ?k2 ?k3 ?k4 ?k5 ?kK ?ko ?kp ?kd ?ku ?_; (case k4 => k_asm); (case ko => assumption)) | (refine' Spec.useF [_, _, _] (mul_fresh _ _ _ _ _ _ _ _ _ ?q1 ?q2) ?k1 ?k2 ?k3 ?k4 ?k5 ?kK ?ko ?kp ?kd ?ku ?_; (case k4 => k_asm); (case ko => assumption)) | (refine' Spec.useF [_, _] (mul_fresh _ _ _ _ _ _ _ _ _ ?q1 ?q2) ?k1 ?k2 ?k3 ?k4 ?k5 ?kK ?ko ?kp ?kd ?ku ?_; (case k4 => k_asm); (case ko => assumption)) | (refine' Spec.useF [_] (mul_fresh _ _ _ _ _ _ _ _ _ ?q1 ?q2) ?k1 ?k2 ?k3 ?k4 ?k5 ?kK ?ko ?kp ?kd ?ku ?_; (case k4 => k_asm); (case ko => assumption)) | (refine' Spec.useF [_, _, _, _, _, _, _, _] (mul_fresh _ _ _ _ _ _ _ _ _ ?q1 ?q2) ?k1 ?k2 ?k3 ?k4 ?k5 ?kK ?ko ?kp ?kd ?ku ?_; (case k4 => exact Mine.News.drop1 (by k_asm)); (case ko => assumption)) | (refine' Spec.useF [_, _, _, _, _, _, _] (mul_fresh _ _ _ _ _ _ _ _ _ ?q1 ?q2) ?k1 ?k2 ?k3 ?k4 ?k5 ?kK ?ko ?kp ?kd ?ku ?_; (case k4 => exact Mine.News.drop1 (by k_asm)); (case ko => assumption)) | (refine' Spec.useF [_, _, _, _, _, _] (mul_fresh _ _ _ _ _ _ _ _ _ ?q1 ?q2) ?k1 ?k2 ?k3 ?k4 ?k5 ?kK ?ko ?kp ?kd ?ku ?_; (case k4 => exact Mine.News.drop1 (by k_asm)); (case ko => assumption)) | (refine' Spec.useF [_, _, _, _, _] (mul_fresh _ _ _ _ _ _ _ _ _ ?q1 ?q2) ?k1 ?k2 ?k3 ?k4 ?k5 ?kK ?ko ?kp ?kd ?ku ?_; (case k4 => exact Mine.News.drop1 (by k_asm)); (case ko => assumption)) | (refine' Spec.useF [_, _, _, _] (mul_fresh _ _ _ _ _ _ _ _ _ ?q1 ?q2) ?k1 ?k2 ?k3 ?k4 ?k5 ?kK ?ko ?kp ?kd ?ku ?_; (case k4 => exact Mine.News.drop1 (by k_asm)); (case ko => assumption)) | (refine' Spec.useF [_, _, _] (mul_fresh _ _ _ _ _ _ _ _ _ ?q1 ?q2) ?k1 ?k2 ?k3 ?k4 ?k5 ?kK ?ko ?kp ?kd ?ku ?_; (case k4 => exact Mine.News.drop1 (by k_asm)); (case ko => assumption)) | (refine' Spec.useF [_, _] (mul_fresh _ _ _ _ _ _ _ _ _ ?q1 ?q2) ?k1 ?k2 ?k3 ?k4 ?k5 ?kK ?ko ?kp ?kd ?ku ?_; (case k4 => exact Mine.News.drop1 (by k_asm)); (case ko => assumption)) | (refine' Spec.useF [_] (mul_fresh _ _ _ _ _ _ _ _ _ ?q1 ?q2) ?k1 ?k2 ?k3 ?k4 ?k5 ?kK ?ko ?kp ?kd ?ku ?_; (case k4 => exact Mine.News.drop1 (by k_asm)); (case ko => assumption))); (case k1 => k_asm); (case k2 => k_asm); (case k3 => k_asm); (case k5 => k_asm); (case kK => first | exact rfl | assumption); (case kp => ((refine ⟨?_, NumIn.mono (by assumption) (by (intro p hp; (repeat (first | exact hp | refine List.Mem.tail _ ?_ | refine Ext.mem (by assumption) ?_)))), NumIn.mono (by assumption) (by (intro p hp; (repeat (first | exact hp | refine List.Mem.tail _ ?_ | refine Ext.mem (by assumption) ?_))))⟩); rfl)); (case q1 => assumption); (case q2 => assumption); (case kd => ktr_room); (case ku => ktr_units); k_whole; intro r9 X9 h9 tk9 F9 N9 x9 o9 p9; (try simp only [List.cons_append, List.nil_append] at N9); (try dsimp only); walk_say "FRESH NUMBER 131"))
local macro_rules | `(tactic| walk_at "call ref") => `(tactic| (k_here; (with_reducible show wpAny _ _ (call (Value.ref 156) _) _ _ _); k_dflt (first | (refine' Spec.useF [_, _, _, _, _, _, _, _] (pow_fresh _ _ _ _ _ _ _ _ _ _ ?q1 ?q2) ?k1 ?k2 ?k3 ?k4 ?k5 ?kK ?ko ?kp ?kd ?ku ?_; (case k4 => k_asm); (case ko => assumption)) | (refine' Spec.useF [_, _, _, _, _, _, _] (pow_fresh _ _ _ _ _ _ _ _ _ _ ?q1 ?q2) ?k1 ?k2 ?k3 ?k4 ?k5 ?kK ?ko ?kp ?kd ?ku ?_; (case k4 => k_asm); (case ko => assumption)) | (refine' Spec.useF [_, _, _, _, _, _] (pow_fresh _ _ _ _ _ _ _ _ _ _ ?q1 ?q2) ?k1 ?k2 ?k3 ?k4 ?k5 ?kK ?ko ?kp ?kd ?ku ?_; (case k4 => k_asm); (case ko => assumption)) | (refine' Spec.useF [_, _, _, _, _] (pow_fresh _ _ _ _ _ _ _ _ _ _ ?q1 ?q2) ?k1 ?k2 ?k3 ?k4 ?k5 ?kK ?ko ?kp ?kd ?ku ?_; (case k4 => k_asm); (case ko => assumption)) | (refine' Spec.useF [_, _, _, _] (pow_fresh _ _ _ _ _ _ _ _ _ _ ?q1 ?q2) ?k1 ?k2 ?k3 ?k4 ?k5 ?kK ?ko ?kp ?kd ?ku ?_; (case k4 => k_asm); (case ko => assumption)) | (refine' Spec.useF [_, _, _] (pow_fresh _ _ _ _ _ _ _ _ _ _ ?q1 ?q2) ?k1 ?k2 ?k3 ?k4 ?k5 ?kK ?ko ?kp ?kd ?ku ?_; (case k4 => k_asm); (case ko => assumption)) | (refine' Spec.useF [_, _] (pow_fresh _ _ _ _ _ _ _ _ _ _ ?q1 ?q2) ?k1 ?k2 ?k3 ?k4 ?k5 ?kK ?ko ?kp ?kd ?ku ?_; (case k4 => k_asm); (case ko => assumption)) | (refine' Spec.useF [_] (pow_fresh _ _ _ _ _ _ _ _ _ _ ?q1 ?q2) ?k1 ?k2 ?k3 ?k4 ?k5 ?kK ?ko ?kp ?kd ?ku ?_; (case k4 => k_asm); (case ko => assumption)) | (refine' Spec.useF [_, _, _, _, _, _, _, _] (pow_fresh _ _ _ _ _ _ _ _ _ _ ?q1 ?q2) ?k1 ?k2 ?k3 ?k4 ?k5 ?kK ?ko ?kp ?kd ?ku ?_; (case k4 => exact Mine.News.drop1 (by k_asm)); (case ko => assumption)) | (refine' Spec.useF [_, _, _, _, _, _, _] (pow_fresh _ _ _ _ _ _ _ _ _ _ ?q1 ?q2) ?k1 ?k2 ?k3 ?k4 ?k5 ?kK ?ko ?kp ?kd ?ku ?_; (case k4 => exact Mine.News.drop1 (by k_asm)); (case ko => assumption)) | (refine' Spec.useF [_, _, _, _, _, _] (pow_fresh _ _ _ _ _ _ _ _ _ _ ?q1 ?q2) ?k1 ?k2 ?k3 ?k4 ?k5 ?kK ?ko ?kp ?kd ?ku ?_; (case k4 => exact Mine.News.drop1 (by k_asm)); (case ko => assumption)) | (refine' Spec.useF [_, _, _, _, _] (pow_fresh _ _ _ _ _ _ _ _ _ _ ?q1 ?q2) ?k1 ?k2 ?k3 ?k4 ?k5 ?kK ?ko ?kp ?kd ?ku ?_; (case k4 => exact Mine.News.drop1 (by k_asm)); (case ko => assumption)) | (refine' Spec.useF [_, _, _, _] (pow_fresh _ _ _ _ _ _ _ _ _ _ ?q1 ?q2) ?k1 ?k2 ?k3 ?k4 ?k5 ?kK ?ko ?kp ?kd ?ku ?_; (case k4 => exact Mine.News.drop1 (by k_asm)); (case ko => assumption)) | (refine' Spec.useF [_, _, _] (pow_fresh _ _ _ _ _ _ _ _ _ _ ?q1 ?q2) ?k1 ?k2 ?k3 ?k4 ?k5 ?kK ?ko ?kp ?kd ?ku ?_; (case k4 => exact Mine.News.drop1 (by k_asm)); (case ko => assumption)) | (refine' Spec.useF [_, _] (pow_fresh _ _ _ _ _ _ _ _ _ _ ?q1 ?q2) ?k1 ?k2 ?k3 ?k4 ?k5 ?kK ?ko ?kp ?kd ?ku ?_; (case k4 => exact Mine.News.drop1 (by k_asm)); (case ko => assumption)) | (refine' Spec.useF [_] (pow_fresh _ _ _ _ _ _ _ _ _ _ ?q1 ?q2) ?k1 ?k2 ?k3 ?k4 ?k5 ?kK ?ko ?kp ?kd ?ku ?_; (case k4 => exact Mine.News.drop1 (by k_asm)); (case ko => assumption))); (case k1 => k_asm); (case k2 => k_asm); (case k3 => k_asm); (case k5 => k_asm); (case kK => first | exact rfl | assumption); (case kp => ((refine ⟨?_, NumIn.mono (by assumption) (by (intro p hp; (repeat (first | exact hp | refine List.Mem.tail _ ?_ | refine Ext.mem (by assumption) ?_))))⟩); rfl)); (case q1 => assumption); (case q2 => omega); (case kd => ktr_room); (case ku => ktr_units); k_whole; intro r9 X9 h9 tk9 F9 N9 x9 o9 p9; (try simp only [List.cons_append, List.nil_append] at N9); (try dsimp only); walk_say "FRESH NUMBER 156"))
local macro_rules | `(tactic| walk_at "eval ListComp") => `(tactic| (k_here; k_dflt (refine LCg.ListComp_U (F₀ := by k_asm) (by rfl) (by decide) (by rfl) (by decide) (by rfl) ?_)))
local macro_rules | `(tactic| walk_at "CompSrc") => `(tactic| (refine Halt.out ?_))
local macro_rules | `(tactic| walk_at "subscriptTail") => `(tactic| (k_here; (with_reducible show wpAny _ _ (subscriptTail _ _ (Value.ref _) (Value.int _ _)) _ _ _); k_dflt (refine' list_item ?k1 ?k2 ?k3 ?k4 ?k5 ?_ ?k6; (case k1 => k_asm); (case k2 => (repeat (first | assumption | refine List.Mem.tail _ ?_ | refine Ext.mem (by assumption) ?_))); (case k3 => omega); (case k4 => omega); (case k5 => assumption); (case k6 => with_unfolding_all rfl); k_whole)))
local macro_rules | `(tactic| walk_at "call ref") => `(tactic| (k_here; (with_reducible show wpAny _ _ (call (Value.ref 123) _) _ _ _); k_dflt (first | (refine' Spec.useD [_, _, _, _, _, _, _] (sum_walk _ _ _ _ _ _ _ _ ?q1 ?q2) ?k1 ?k2 ?k3 ?k4 ?k5 ?kK ?ko ?kn ?kp ?kd ?ku ?_; (case k4 => k_asm); (case ko => assumption)) | (refine' Spec.useD [_, _, _, _, _, _] (sum_walk _ _ _ _ _ _ _ _ ?q1 ?q2) ?k1 ?k2 ?k3 ?k4 ?k5 ?kK ?ko ?kn ?kp ?kd ?ku ?_; (case k4 => k_asm); (case ko => assumption)) | (refine' Spec.useD [_, _, _, _, _] (sum_walk _ _ _ _ _ _ _ _ ?q1 ?q2) ?k1 ?k2 ?k3 ?k4 ?k5 ?kK ?ko ?kn ?kp ?kd ?ku ?_; (case k4 => k_asm); (case ko => assumption)) | (refine' Spec.useD [_, _, _, _] (sum_walk _ _ _ _ _ _ _ _ ?q1 ?q2) ?k1 ?k2 ?k3 ?k4 ?k5 ?kK ?ko ?kn ?kp ?kd ?ku ?_; (case k4 => k_asm); (case ko => assumption)) | (refine' Spec.useD [_, _, _] (sum_walk _ _ _ _ _ _ _ _ ?q1 ?q2) ?k1 ?k2 ?k3 ?k4 ?k5 ?kK ?ko ?kn ?kp ?kd ?ku ?_; (case k4 => k_asm); (case ko => assumption)) | (refine' Spec.useD [_, _] (sum_walk _ _ _ _ _ _ _ _ ?q1 ?q2) ?k1 ?k2 ?k3 ?k4 ?k5 ?kK ?ko ?kn ?kp ?kd ?ku ?_; (case k4 => k_asm); (case ko => assumption)) | (refine' Spec.useD [_] (sum_walk _ _ _ _ _ _ _ _ ?q1 ?q2) ?k1 ?k2 ?k3 ?k4 ?k5 ?kK ?ko ?kn ?kp ?kd ?ku ?_; (case k4 => k_asm); (case ko => assumption)) | (refine' Spec.useD [_, _, _, _, _, _, _] (sum_walk _ _ _ _ _ _ _ _ ?q1 ?q2) ?k1 ?k2 ?k3 ?k4 ?k5 ?kK ?ko ?kn ?kp ?kd ?ku ?_; (case k4 => exact Mine.News.drop1 (by k_asm)); (case ko => assumption)) | (refine' Spec.useD [_, _, _, _, _, _] (sum_walk _ _ _ _ _ _ _ _ ?q1 ?q2) ?k1 ?k2 ?k3 ?k4 ?k5 ?kK ?ko ?kn ?kp ?kd ?ku ?_; (case k4 => exact Mine.News.drop1 (by k_asm)); (case ko => assumption)) | (refine' Spec.useD [_, _, _, _, _] (sum_walk _ _ _ _ _ _ _ _ ?q1 ?q2) ?k1 ?k2 ?k3 ?k4 ?k5 ?kK ?ko ?kn ?kp ?kd ?ku ?_; (case k4 => exact Mine.News.drop1 (by k_asm)); (case ko => assumption)) | (refine' Spec.useD [_, _, _, _] (sum_walk _ _ _ _ _ _ _ _ ?q1 ?q2) ?k1 ?k2 ?k3 ?k4 ?k5 ?kK ?ko ?kn ?kp ?kd ?ku ?_; (case k4 => exact Mine.News.drop1 (by k_asm)); (case ko => assumption)) | (refine' Spec.useD [_, _, _] (sum_walk _ _ _ _ _ _ _ _ ?q1 ?q2) ?k1 ?k2 ?k3 ?k4 ?k5 ?kK ?ko ?kn ?kp ?kd ?ku ?_; (case k4 => exact Mine.News.drop1 (by k_asm)); (case ko => assumption)) | (refine' Spec.useD [_, _] (sum_walk _ _ _ _ _ _ _ _ ?q1 ?q2) ?k1 ?k2 ?k3 ?k4 ?k5 ?kK ?ko ?kn ?kp ?kd ?ku ?_; (case k4 => exact Mine.News.drop1 (by k_asm)); (case ko => assumption)) | (refine' Spec.useD [_] (sum_walk _ _ _ _ _ _ _ _ ?q1 ?q2) ?k1 ?k2 ?k3 ?k4 ?k5 ?kK ?ko ?kn ?kp ?kd ?ku ?_; (case k4 => exact Mine.News.drop1 (by k_asm)); (case ko => assumption))); (case k1 => k_asm); (case k2 => k_asm); (case k3 => k_asm); (case k5 => k_asm); (case kK => first | exact rfl | assumption); (case kn => (repeat (first | exact nt_nil | (refine nt_cons ?_ ?_; first | assumption | exact notT_of (cell_notTl (by assumption)) | exact notT_of (by assumption))))); (case kp => exact ⟨(by first | exact List.Mem.head _ | (repeat (first | assumption | refine List.Mem.tail _ ?_ | refine Ext.mem (by assumption) ?_))), NumsIn.mono (by assumption) (by (intro p hp; (repeat (first | exact hp | refine List.Mem.tail _ ?_ | refine Ext.mem (by assumption) ?_))))⟩); (case q1 => assumption); (case q2 => assumption); (case kd => ktr_room); (case ku => ktr_units); k_whole; intro r9 X9 h9 tk9 F9 N9 x9 o9 p9; (try simp only [List.cons_append, List.nil_append] at N9); (try dsimp only); walk_say "NUMBER 123"))
local macro_rules | `(tactic| walk_at "exec For Name Call cons nil") => `(tactic| (k_here; (rename Fr _ _ _ _ => lF'); (with_unfolding_all refine' For_invVF lF' ?k1 ?k2 ?_; (case k1 => exact rfl); (case k2 => exact rfl); k_whole)))
local macro_rules | `(tactic| walk_at "pyIter ref") => `(tactic| (k_here; (with_reducible show wpAny _ _ (pyIter (Value.ref _)) _ _ _); refine Halt.out ?_))
theorem Agr.inner {x y : Str} {ps : List (Str × Value)} {stored : List Str} {u m m₀ : Str → Option Value} (h : Agr x ps stored m m₀) (hy : y = x ∨ (∃ p ∈ ps, y = p.1) ∨ stored.contains y = true) : Agr x ps stored (frO y [] [] u m) m₀ := by
  intro z h1 h2 h3
  have hne : z ≠ y := fun e => by
    rcases hy with hy | ⟨p, hp, hy⟩ | hy
    · exact h1 (e.trans hy)
    · exact h2 p hp (e.trans hy)
    · rw [e, hy] at h3; cases h3
  show (if z = y then u z else m z) = m₀ z
  rw [if_neg hne]; exact h z h1 h2 h3
theorem allLt_nm {d I : Addr} {X : List (Addr × Obj)} (h : I < d ∧ AllLt d X) : ∃ D, D = d ∧ I < D ∧ ∀ p ∈ X, p.1 < D := ⟨d, rfl, h.1, allLt_mem h.2⟩
theorem listOf_notT {its : Array Value} {n : Nat} : ¬ IsT (W.listOf its n) := fun h => by have := h.1; exact absurd (Value.type.inj this) (by decide)
theorem list_neg {prog : Program} {w : World} {A : Around} {E : Value → Shared → Prop} {s : Shared} {h₀ : Heap} {L l : Addr} {led : List (Addr × Obj)} {value slice : Expr} {vs : List Value} {nn : Nat} {k : Int} {u : Tok} {v : Value} {Q : Value → Shared → Prop}
    (N : News h₀ L s.heap led) (hm : (l, W.listOf vs.toArray nn) ∈ led) (h0 : k < 0) (h1 : -(vs.length : Int) ≤ k) (hhi : -(2 ^ 63) ≤ k) (hx : vs[(k + (vs.length : Int)).toNat]? = some v) (h : Q v s)
    (hs : subscripted slice false (.ref l) (.int k u) = operate [.ref l, .int k u] (getItem (.ref l) (.int k u))) :
    wpAny (model prog w) A (subscriptTail value slice (.ref l) (.int k u)) Q E s :=
  have hl : s.heap.IsList l vs.toArray := N.isList hm
  tail_any hl.typeIs slot_list_getitem.lookup (wpAny_getItem_list_neg hl h0 (by simpa using h1) hhi (by simpa using hx) h) hs
local macro_rules | `(tactic| walk_at "subscriptTail") => `(tactic| (k_here; (with_reducible show wpAny _ _ (subscriptTail _ _ (Value.ref _) (Value.int _ _)) _ _ _); k_dflt (first
  | (refine' list_item ?k1 ?k2 ?k3 ?k4 ?k5 ?_ ?k6; (case k1 => k_asm); (case k2 => (repeat (first | assumption | refine List.Mem.tail _ ?_ | refine Ext.mem (by assumption) ?_))); (case k3 => omega); (case k4 => omega); (case k5 => assumption); (case k6 => with_unfolding_all rfl))
  | (refine' list_neg ?k1 ?k2 ?k3 ?k3b ?k4 ?k5 ?_ ?k6; (case k1 => k_asm); (case k2 => (repeat (first | assumption | refine List.Mem.tail _ ?_ | refine Ext.mem (by assumption) ?_))); (case k3 => omega); (case k3b => omega); (case k4 => omega); (case k5 => assumption); (case k6 => with_unfolding_all rfl))); k_whole))
local macro_rules | `(tactic| walk_at "call ref") => `(tactic| (k_here; (with_reducible show wpAny _ _ (call (Value.ref 115) _) _ _ _); k_dflt (first | (refine' Spec.useD [_, _, _, _, _, _, _] (sub_spec _ _ _ _ _ _ _ _ ?q1 ?q2) ?k1 ?k2 ?k3 ?k4 ?k5 ?kK ?ko ?kn ?kp ?kd ?ku ?_; (case k4 => k_asm); (case ko => assumption)) | (refine' Spec.useD [_, _, _, _, _, _] (sub_spec _ _ _ _ _ _ _ _ ?q1 ?q2) ?k1 ?k2 ?k3 ?k4 ?k5 ?kK ?ko ?kn ?kp ?kd ?ku ?_; (case k4 => k_asm); (case ko => assumption)) | (refine' Spec.useD [_, _, _, _, _] (sub_spec _ _ _ _ _ _ _ _ ?q1 ?q2) ?k1 ?k2 ?k3 ?k4 ?k5 ?kK ?ko ?kn ?kp ?kd ?ku ?_; (case k4 => k_asm); (case ko => assumption)) | (refine' Spec.useD [_, _, _, _] (sub_spec _ _ _ _ _ _ _ _ ?q1 ?q2) ?k1 ?k2 ?k3 ?k4 ?k5 ?kK ?ko ?kn ?kp ?kd ?ku ?_; (case k4 => k_asm); (case ko => assumption)) | (refine' Spec.useD [_, _, _] (sub_spec _ _ _ _ _ _ _ _ ?q1 ?q2) ?k1 ?k2 ?k3 ?k4 ?k5 ?kK ?ko ?kn ?kp ?kd ?ku ?_; (case k4 => k_asm); (case ko => assumption)) | (refine' Spec.useD [_, _] (sub_spec _ _ _ _ _ _ _ _ ?q1 ?q2) ?k1 ?k2 ?k3 ?k4 ?k5 ?kK ?ko ?kn ?kp ?kd ?ku ?_; (case k4 => k_asm); (case ko => assumption)) | (refine' Spec.useD [_] (sub_spec _ _ _ _ _ _ _ _ ?q1 ?q2) ?k1 ?k2 ?k3 ?k4 ?k5 ?kK ?ko ?kn ?kp ?kd ?ku ?_; (case k4 => k_asm); (case ko => assumption)) | (refine' Spec.useD [_, _, _, _, _, _, _] (sub_spec _ _ _ _ _ _ _ _ ?q1 ?q2) ?k1 ?k2 ?k3 ?k4 ?k5 ?kK ?ko ?kn ?kp ?kd ?ku ?_; (case k4 => exact Mine.News.drop1 (by k_asm)); (case ko => assumption)) | (refine' Spec.useD [_, _, _, _, _, _] (sub_spec _ _ _ _ _ _ _ _ ?q1 ?q2) ?k1 ?k2 ?k3 ?k4 ?k5 ?kK ?ko ?kn ?kp ?kd ?ku ?_; (case k4 => exact Mine.News.drop1 (by k_asm)); (case ko => assumption)) | (refine' Spec.useD [_, _, _, _, _] (sub_spec _ _ _ _ _ _ _ _ ?q1 ?q2) ?k1 ?k2 ?k3 ?k4 ?k5 ?kK ?ko ?kn ?kp ?kd ?ku ?_; (case k4 => exact Mine.News.drop1 (by k_asm)); (case ko => assumption)) | (refine' Spec.useD [_, _, _, _] (sub_spec _ _ _ _ _ _ _ _ ?q1 ?q2) ?k1 ?k2 ?k3 ?k4 ?k5 ?kK ?ko ?kn ?kp ?kd ?ku ?_; (case k4 => exact Mine.News.drop1 (by k_asm)); (case ko => assumption)) | (refine' Spec.useD [_, _, _] (sub_spec _ _ _ _ _ _ _ _ ?q1 ?q2) ?k1 ?k2 ?k3 ?k4 ?k5 ?kK ?ko ?kn ?kp ?kd ?ku ?_; (case k4 => exact Mine.News.drop1 (by k_asm)); (case ko => assumption)) | (refine' Spec.useD [_, _] (sub_spec _ _ _ _ _ _ _ _ ?q1 ?q2) ?k1 ?k2 ?k3 ?k4 ?k5 ?kK ?ko ?kn ?kp ?kd ?ku ?_; (case k4 => exact Mine.News.drop1 (by k_asm)); (case ko => assumption)) | (refine' Spec.useD [_] (sub_spec _ _ _ _ _ _ _ _ ?q1 ?q2) ?k1 ?k2 ?k3 ?k4 ?k5 ?kK ?ko ?kn ?kp ?kd ?ku ?_; (case k4 => exact Mine.News.drop1 (by k_asm)); (case ko => assumption))); (case k1 => k_asm); (case k2 => k_asm); (case k3 => k_asm); (case k5 => k_asm); (case kK => first | exact rfl | assumption); (case kn => (repeat (first | exact nt_nil | (refine nt_cons ?_ ?_; first | assumption | exact notT_of (cell_notTl (by assumption)) | exact notT_of (by assumption))))); (case kp => exact ⟨NumIn.mono (by assumption) (by (intro p hp; (repeat (first | exact hp | refine List.Mem.tail _ ?_ | refine Ext.mem (by assumption) ?_)))), NumIn.mono (by assumption) (by (intro p hp; (repeat (first | exact hp | refine List.Mem.tail _ ?_ | refine Ext.mem (by assumption) ?_))))⟩); (case q1 => assumption); (case q2 => assumption); (case kd => ktr_room); (case ku => ktr_units); k_whole; intro r9 X9 h9 tk9 F9 N9 x9 o9 p9; (try simp only [List.cons_append, List.nil_append] at N9); (try dsimp only); walk_say "NUMBER 115"))
local macro_rules | `(tactic| walk_at "call ref") => `(tactic| (k_here; (with_reducible show wpAny _ _ (call (Value.ref 84) _) _ _ _); k_dflt (first | (refine' Spec.useD [_, _, _, _, _, _, _] (neg_spec _ _ _ _ _ _) ?k1 ?k2 ?k3 ?k4 ?k5 ?kK ?ko ?kn ?kp ?kd ?ku ?_; (case k4 => k_asm); (case ko => assumption)) | (refine' Spec.useD [_, _, _, _, _, _] (neg_spec _ _ _ _ _ _) ?k1 ?k2 ?k3 ?k4 ?k5 ?kK ?ko ?kn ?kp ?kd ?ku ?_; (case k4 => k_asm); (case ko => assumption)) | (refine' Spec.useD [_, _, _, _, _] (neg_spec _ _ _ _ _ _) ?k1 ?k2 ?k3 ?k4 ?k5 ?kK ?ko ?kn ?kp ?kd ?ku ?_; (case k4 => k_asm); (case ko => assumption)) | (refine' Spec.useD [_, _, _, _] (neg_spec _ _ _ _ _ _) ?k1 ?k2 ?k3 ?k4 ?k5 ?kK ?ko ?kn ?kp ?kd ?ku ?_; (case k4 => k_asm); (case ko => assumption)) | (refine' Spec.useD [_, _, _] (neg_spec _ _ _ _ _ _) ?k1 ?k2 ?k3 ?k4 ?k5 ?kK ?ko ?kn ?kp ?kd ?ku ?_; (case k4 => k_asm); (case ko => assumption)) | (refine' Spec.useD [_, _] (neg_spec _ _ _ _ _ _) ?k1 ?k2 ?k3 ?k4 ?k5 ?kK ?ko ?kn ?kp ?kd ?ku ?_; (case k4 => k_asm); (case ko => assumption)) | (refine' Spec.useD [_] (neg_spec _ _ _ _ _ _) ?k1 ?k2 ?k3 ?k4 ?k5 ?kK ?ko ?kn ?kp ?kd ?ku ?_; (case k4 => k_asm); (case ko => assumption)) | (refine' Spec.useD [_, _, _, _, _, _, _] (neg_spec _ _ _ _ _ _) ?k1 ?k2 ?k3 ?k4 ?k5 ?kK ?ko ?kn ?kp ?kd ?ku ?_; (case k4 => exact Mine.News.drop1 (by k_asm)); (case ko => assumption)) | (refine' Spec.useD [_, _, _, _, _, _] (neg_spec _ _ _ _ _ _) ?k1 ?k2 ?k3 ?k4 ?k5 ?kK ?ko ?kn ?kp ?kd ?ku ?_; (case k4 => exact Mine.News.drop1 (by k_asm)); (case ko => assumption)) | (refine' Spec.useD [_, _, _, _, _] (neg_spec _ _ _ _ _ _) ?k1 ?k2 ?k3 ?k4 ?k5 ?kK ?ko ?kn ?kp ?kd ?ku ?_; (case k4 => exact Mine.News.drop1 (by k_asm)); (case ko => assumption)) | (refine' Spec.useD [_, _, _, _] (neg_spec _ _ _ _ _ _) ?k1 ?k2 ?k3 ?k4 ?k5 ?kK ?ko ?kn ?kp ?kd ?ku ?_; (case k4 => exact Mine.News.drop1 (by k_asm)); (case ko => assumption)) | (refine' Spec.useD [_, _, _] (neg_spec _ _ _ _ _ _) ?k1 ?k2 ?k3 ?k4 ?k5 ?kK ?ko ?kn ?kp ?kd ?ku ?_; (case k4 => exact Mine.News.drop1 (by k_asm)); (case ko => assumption)) | (refine' Spec.useD [_, _] (neg_spec _ _ _ _ _ _) ?k1 ?k2 ?k3 ?k4 ?k5 ?kK ?ko ?kn ?kp ?kd ?ku ?_; (case k4 => exact Mine.News.drop1 (by k_asm)); (case ko => assumption)) | (refine' Spec.useD [_] (neg_spec _ _ _ _ _ _) ?k1 ?k2 ?k3 ?k4 ?k5 ?kK ?ko ?kn ?kp ?kd ?ku ?_; (case k4 => exact Mine.News.drop1 (by k_asm)); (case ko => assumption))); (case k1 => k_asm); (case k2 => k_asm); (case k3 => k_asm); (case k5 => k_asm); (case kK => first | exact rfl | assumption); (case kn => (repeat (first | exact nt_nil | (refine nt_cons ?_ ?_; first | assumption | exact notT_of (cell_notTl (by assumption)) | exact notT_of (by assumption))))); (case kp => exact NumIn.mono (by assumption) (by (intro p hp; (repeat (first | exact hp | refine List.Mem.tail _ ?_ | refine Ext.mem (by assumption) ?_))))); (case kd => ktr_room); (case ku => ktr_units); k_whole; intro r9 X9 h9 tk9 F9 N9 x9 o9 p9; (try simp only [List.cons_append, List.nil_append] at N9); (try dsimp only); walk_say "NUMBER 84"))
theorem Ext.ins {X X' : List (Addr × Obj)} {D : Addr} {o : Obj} (h : Ext X X') (l : ∀ p ∈ X, p.1 < D) : Ext X ((D, o) :: X') :=
  ⟨fun p hp => .tail _ (h.1 p hp), fun q hq => by
    rcases List.mem_cons.mp hq with rfl | hq
    · exact .inr l
    · exact h.2 q hq⟩
def BuiltPre (lr : Addr) (nr : Nat) (vl : Value) (rv : List Value) (roots : List Dyadic) (lead : Dyadic) (news : List (Addr × Obj)) : Prop :=
  NumIn news vl lead ∧ (lr, W.listOf rv.toArray nr) ∈ news ∧ NumsIn news rv roots
/-- v is a list of the numbers ds -/
def ListIn (news : List (Addr × Obj)) (v : Value) (ds : List Dyadic) : Prop := ∃ l n vs, v = .ref l ∧ (l, W.listOf (List.toArray vs) n) ∈ news ∧ NumsIn news vs ds
set_option maxRecDepth 100000 in
set_option maxHeartbeats 8000000 in
theorem built_walk (w : World) (mean : ExcName → Option Value) (mg mb : Str → Option Value) (lr : Addr) (nr : Nat) (vl : Value) (rv : List Value) (roots : List Dyadic) (lead : Dyadic) (hlen : rv.length ≤ 4)
    (hrb : ∀ r ∈ roots, Bd 400000 r) (hcb : ∀ i, i ≤ roots.length → ∀ c ∈ builtOf lead (roots.take i), Bd 400000 c)
    (hmb : ∀ i r, roots[i]? = some r → ∀ c ∈ builtOf lead (roots.take i), Bd 400000 (r * c)) :
    Spec w mean mg mb 177 30 350 [vl, .ref lr] (BuiltPre lr nr vl rv roots lead) (fun news r => ListIn news r (builtOf lead roots)) := by
  unfold Spec
  w_top off
  k_fill
  intro dp un gd cn cs a₀ ccd cl outer A₀ base h₀ L m news s Q E B F X N T hk hpre hdp hun hret
  obtain ⟨h1, hlr, hrv⟩ := hpre
  refine wpAny_call ?_
  k_dflt cell_enter
  k_steps
  unfold Halt
  rename Fr _ _ _ _ => F1
  rename News _ _ _ _ => N1
  rename (∀ p ∈ news, p.1 < _) => l1
  refine aj_list (σ := Value) (fun _ => []) [] (fun c => [(Str.ofString "poly", c)]) [Str.ofString "more", Str.ofString "k"] (fun i X c => ListIn X c (builtOf lead (roots.take i))) ?c0 rfl (List.Mem.tail _ hlr) (fun _ => rfl) F1 N1 (fun _ _ h => nomatch h) ?hps ?hP ?turn ?done
  case hps =>
    intro p hp
    rw [List.mem_singleton.mp hp]; exact rfl
  case hP => exact ⟨_, _, _, rfl, List.Mem.head _, .cons (h1.mono fun p hp => .tail _ hp) .nil⟩
  case turn =>
    intro i v c X u h tk I oI hv hxx hX hI hnt hP F2 N2
    obtain ⟨r, hr, hn⟩ := hrv.get hv
    obtain ⟨lp, np, pv, rfl, hlp, hpv⟩ := hP
    have hrm := hrb _ (List.mem_of_getElem? hr)
    replace N2 : News _ _ _ ((I, oI) :: X) := N2
    replace F2 : Fr _ _ _ (frT (Str.ofString "root") v [(Str.ofString "poly", Value.ref lp)] _ u _) := F2
    have hoff : OffA [I] X := fun q hq hm => (hX q hq).2 (List.mem_singleton.mp hm)
    have hil : i < roots.length := (List.getElem?_eq_some_iff.mp hr).1
    have hrl := hrv.len
    have hpl := hpv.len
    rw [built_len, List.length_take] at hpl
    have hr' : NumIn X v r := hn.mono fun p hp => hxx.1 p (.tail _ hp)
    have hpl1 : 1 ≤ pv.length := by omega
    have hpl2 : pv.length ≤ 1000 := by omega
    obtain ⟨v0, hv0⟩ : ∃ v0, pv[(0 : Int).toNat]? = some v0 := ⟨_, List.getElem?_eq_getElem (by show 0 < pv.length; omega)⟩
    replace hpl := Hid.mk hpl
    k_steps
    unfold Halt
    rename Fr _ _ _ _ => F3
    rename News _ _ _ _ => N3
    rename IsRange _ _ _ _ _ _ _ _ => R3
    rename (_ < _ ∧ AllLt _ X) => hD0
    obtain ⟨D, rfl, hID, hD⟩ := allLt_nm hD0
    replace hpl := hpl.out
    have hDI : (@Ne Nat D I) := fun e => by rw [e] at hID; exact Nat.lt_irrefl _ hID
    have hIDn : (@Ne Nat I D) := fun e => hDI e.symm
    have hoD : OffA [D, I] X := offA_cons (fun q hq e => Nat.lt_irrefl _ (by have := hD q hq; rw [e] at this; exact this)) hoff
    have hmi : min i roots.length = i := by omega
    rw [hmi] at hpl
    have hpb := hcb i (by omega)
    have hpm := hmb i r hr
    have hbs := built_step (lead := lead) hr
    obtain ⟨pq, hpf, _⟩ := built_form lead (roots.take i)
    refine aj_range (σ := List Value × Nat) (fun c => [(D, W.listOf (List.toArray c.1) c.2), (I, oI)]) [D, I] (fun _ => []) [] (fun j X c => NumsIn X c.1 ((builtOf lead (roots.take (i + 1))).take (j + 1)) ∧ c.1.length = j + 1) ([v0], 0) rfl R3 (n := pv.length - 1) ?hsm ?hsz (fun _ => rfl) F3 N3 (fun q hq => hoD q hq) (fun _ h => nomatch h) ?hP2 ?turn2 ?done2
    case hsm => exact small_one (by decide) (by decide) (by omega) (by omega)
    case hsz => rw [rangeSize_nat]; omega
    case hP2 =>
      obtain ⟨c0, hc0, hn0⟩ := hpv.get hv0
      rw [hbs]
      rw [hpf] at hc0 ⊢
      rw [step_form]
      have e0 : lead = c0 := by simpa using hc0
      subst e0
      exact ⟨.cons hn0 .nil, rfl⟩
    case turn2 =>
      intro j tj c X2 u2 h2 tk2 I2 oI2 hj hxx2 hX2 hI2 hnt2 hP2 F4 N4
      obtain ⟨ys, n⟩ := c
      obtain ⟨hP2, hyl⟩ := hP2
      dsimp only at hP2 hyl
      replace N4 : News _ _ _ ((I2, oI2) :: (D, W.listOf (List.toArray ys) n) :: (I, oI) :: X2) := N4
      have hI2D : (@Ne Nat I2 D) := fun e => hI2 (by rw [e]; exact .head _)
      have hDI2 : (@Ne Nat D I2) := fun e => hI2D e.symm
      have hI2I : (@Ne Nat I2 I) := fun e => hI2 (by rw [e]; exact .tail _ (.head _))
      have hII2 : (@Ne Nat I I2) := fun e => hI2I e.symm
      have hoff4 : OffA [I2, D, I] X2 := offA_cons (fun q hq => (hX2 q hq).2) fun q hq => (hX2 q hq).1
      have hnl := listOf_notT (its := List.toArray ys) (n := n)
      obtain ⟨vj, hvj⟩ : ∃ vj, pv[j]? = some vj := ⟨_, List.getElem?_eq_getElem (by omega)⟩
      obtain ⟨vk, hvk⟩ : ∃ vk, pv[j + 1]? = some vk := ⟨_, List.getElem?_eq_getElem (by omega)⟩
      obtain ⟨cj, hcj, hnj⟩ := hpv.get hvj
      obtain ⟨ck, hck, hnk⟩ := hpv.get hvk
      have hvj' : pv[((1 : Int) + (j : Int) - 1).toNat]? = some vj := by rw [show ((1 : Int) + (j : Int) - 1).toNat = j by omega]; exact hvj
      have hvk' : pv[((1 : Int) + (j : Int)).toNat]? = some vk := by rw [show ((1 : Int) + (j : Int)).toNat = j + 1 by omega]; exact hvk
      have hbj := hpb _ (List.mem_of_getElem? hcj)
      have hbk := hpb _ (List.mem_of_getElem? hck)
      have hbm := hpm _ (List.mem_of_getElem? hcj)
      k_steps
      rename Fr _ _ _ _ => F9
      rename News _ _ _ _ => N9
      rename NumIn _ _ (ck - r * cj) => hfin
      rename Ext X2 _ => xa
      rename Ext _ _ => xb
      rename OffA _ _ => o9
      have est := step_take (r := r) hcj hck
      rw [hbs] at hP2
      refine ⟨_, _, _, (ys ++ [?rr], n + 1), _, rfl, F9, ?N2, xa.trans xb, fun p hp => ⟨fun hm => o9 p hp (.tail _ hm), fun e => o9 p hp (by rw [e]; exact .head _)⟩, ?ps2, ?ag2, ?pp2⟩
      case ps2 => (intro p hp; cases hp)
      case N2 =>
        show News _ _ _ ((I2, oI2) :: (D, W.listOf (List.toArray (ys ++ [_])) (n + 1)) :: (I, oI) :: _)
        rw [← List.push_toArray]
        exact N9
      case ag2 => (repeat' (first | exact Agr.base rfl | (refine Agr.st ?_ ?_; rotate_left; (first | exact .inl rfl | exact .inr (.inr rfl) | exact .inr (.inl ⟨_, List.Mem.head _, rfl⟩) | exact .inr (.inl ⟨_, List.Mem.tail _ (List.Mem.head _), rfl⟩)))))
      case pp2 =>
        rw [hbs]
        show NumsIn _ _ (List.take (j + 2) _) ∧ _
        rw [est]
        exact ⟨NumsIn.snoc (hP2.mono fun p hp => xb.1 p (xa.1 p hp)) hfin, by show (ys ++ [_]).length = _; rw [List.length_append, hyl]; rfl⟩
    case done2 =>
      intro c X2 u2 h2 tk2 hxx2 hX2 hP2 F4 N4
      obtain ⟨ys, n⟩ := c
      obtain ⟨hP2, hyl⟩ := hP2
      dsimp only at hP2 hyl
      replace N4 : News _ _ _ ((D, W.listOf (List.toArray ys) n) :: (I, oI) :: X2) := N4
      have hoff4 : OffA [D, I] X2 := hX2
      have hnl := listOf_notT (its := List.toArray ys) (n := n)
      obtain ⟨vj, hvj⟩ : ∃ vj, pv[pv.length - 1]? = some vj := ⟨_, List.getElem?_eq_getElem (by omega)⟩
      obtain ⟨cj, hcj, hnj⟩ := hpv.get hvj
      have hvj' : pv[((-1 : Int) + (pv.length : Int)).toNat]? = some vj := by rw [show ((-1 : Int) + (pv.length : Int)).toNat = pv.length - 1 by omega]; exact hvj
      have hbj := hpb _ (List.mem_of_getElem? hcj)
      have hbm := hpm _ (List.mem_of_getElem? hcj)
      k_steps
      rename Fr _ _ _ _ => F9
      rename News _ _ _ _ => N9
      rename NumIn _ _ (-(r * cj)) => hfin
      rename Ext X2 _ => xa
      rename Ext _ _ => xb
      rename OffA _ _ => o9
      have hn1 : pv.length - 1 = i := by omega
      rw [hn1] at hcj hP2
      have est := step_end (r := r) (hpv.len.symm.trans hpl) hcj
      rw [hbs] at hP2
      rw [List.push_toArray] at N9
      refine ⟨_, _, _, Value.ref D, (D, W.listOf (List.toArray (ys ++ [?rr3])) (n + 1)) :: _, rfl, F9, ?N3, Ext.ins (hxx2.trans (xa.trans xb)) hD, ?off3, ?ps3, ?ag3, ?pp3⟩
      case N3 => exact fun p hp => N9 p (by rcases List.mem_cons.mp hp with rfl | hp; exact .tail _ (.head _); rcases List.mem_cons.mp hp with rfl | hp; exact .head _; exact .tail _ (.tail _ hp))
      case off3 =>
        intro p hp
        refine ⟨fun h => (by cases h), ?_⟩
        rcases List.mem_cons.mp hp with rfl | hp
        · exact hDI
        · exact fun e => o9 p hp (by rw [e]; exact .tail _ (.head _))
      case ps3 =>
        intro p hp
        rw [List.mem_singleton.mp hp]; exact rfl
      case ag3 => (repeat' (first | exact Agr.base rfl | ((first | refine Agr.inner ?_ ?_ | refine Agr.st ?_ ?_); rotate_left; (first | exact .inl rfl | exact .inr (.inr rfl) | exact .inr (.inl ⟨_, List.Mem.head _, rfl⟩) | exact .inr (.inl ⟨_, List.Mem.tail _ (List.Mem.head _), rfl⟩)))))
      case pp3 =>
        show ListIn _ _ _
        rw [hbs, est]
        exact ⟨_, _, _, rfl, List.Mem.head _, NumsIn.snoc (hP2.mono fun p hp => .tail _ (xb.1 p (xa.1 p hp))) (hfin.mono fun p hp => .tail _ hp)⟩
  case done =>
    intro c X u h tk hxx hX hP F2 N2
    replace N2 : News _ _ _ X := N2
    replace F2 : Fr _ _ _ (frO (Str.ofString "root") [(Str.ofString "poly", c)] _ u _) := F2
    k_steps
    refine hret _ _ _ _ (by k_asm) (by k_asm) ((Ext.cons Ext.refl l1).trans hxx) ?_
    rw [hrv.len, List.take_length] at hP
    exact hP
end

section
local macro_rules | `(tactic| kun_tup) => `(tactic| exact TupIn.isTup (by assumption) (by k_asm) (by k_asm) (by k_asm))
local macro_rules | `(tactic| cell_enter) => `(tactic| (refine' code_def ?k1 ?k2 ?k3 ?k4 ?k5 ?kA ?kF ?kK ?k6 ?k7 ?k8 ?k9 ?kB ?_ ?c2 ?c3 ?c4 ?c5; (case kA => exact rfl); (case kF => exact rfl); (case kK => assumption); (case k1 => k_asm); (case k2 => k_asm); (case k3 => k_asm); (case k4 => k_asm); (case k5 => k_asm); (case k6 => k_is); (case k7 => k_is); (case k8 => ktr_room); (case k9 => first | exact (by assumption : BindAs _ _ _ _) _ _ _ _ _ (by k_in) (by k_is) | exact BindsTo.of_eq rfl | exact binds_K (by k_in) rfl (by k_is) rfl rfl rfl); (case c5 => decide); (case kB => exact locs rfl); (case c2 => exact rfl); (case c3 => exact rfl); (case c4 => exact rfl); k_whole; intro g' L' h' FG' F' N' B' X' T'; (try dsimp only); (try k_lift B'); (try k_fold)))
local macro_rules | `(tactic| walk_at "ite") => `(tactic| (k_here; first
  | (refine' ite_pos ?hc9 ?_; (case hc9 => ((try simp only [bne_iff_ne, beq_iff_eq, Bool.not_eq_true', bne_eq_false_iff_eq, beq_eq_false_iff_ne, decide_eq_true_eq, decide_eq_false_iff_not, ne_eq, Bool.and_eq_true, Bool.or_eq_true, not_false_eq_true]); first | done | omega)); walk_say "PRUNED +")
  | (refine' ite_neg ?hc9 ?_; (case hc9 => ((try simp only [bne_iff_ne, beq_iff_eq, Bool.not_eq_true', bne_eq_false_iff_eq, beq_eq_false_iff_ne, decide_eq_true_eq, decide_eq_false_iff_not, ne_eq, Bool.and_eq_true, Bool.or_eq_true, not_false_eq_true]); first | done | omega)); walk_say "PRUNED -")))
local macro_rules | `(tactic| ke_read) => `(tactic| first | exact TupIn.reads (by with_reducible assumption) (by k_asm) (by k_asm) (by k_asm) | exact TupIn.reads TupIn.zero (by k_asm) (by k_asm) (by k_asm) | exact TupIn.reads TupIn.inf (by k_asm) (by k_asm) (by k_asm) | exact TupIn.reads TupIn.ninf (by k_asm) (by k_asm) (by k_asm) | exact TupIn.reads TupIn.nan (by k_asm) (by k_asm) (by k_asm))
local macro_rules | `(tactic| walk_at "compareOp Eq ref ref") => `(tactic| (k_here; (with_reducible show wpAny _ _ (compareOp CmpOp.Eq (Value.ref _) (Value.ref _)) _ _ _); k_dflt (refine eq_dataH (by ke_read) (by ke_read) rfl rfl (by ktr_units) ?_); ke_norm))
local macro_rules | `(tactic| walk_at "compareOp NotEq ref ref") => `(tactic| (k_here; (with_reducible show wpAny _ _ (compareOp CmpOp.NotEq (Value.ref _) (Value.ref _)) _ _ _); k_dflt (refine ne_dataH (by ke_read) (by ke_read) rfl rfl (by ktr_units) ?_); ke_norm))
local macro_rules | `(tactic| walk_at "binaryOp LShift int int") => `(tactic| (k_here; (with_reducible refine lshift_int ?kn ?ks ?_); (case kn => omega); (case ks => omega)))
local macro_rules | `(tactic| walk_at "binaryOp Mult int int") => `(tactic| (k_here; (with_reducible refine mul_int ?_ ?km); rotate_left; (case km => exact IntMulOk.of_le (m := 60000000) (n := 60000000) (by omega) (by omega) (by decide))))
local macro_rules | `(tactic| walk_at "eval Name") => `(tactic| (k_here; (with_reducible show wpAny _ _ (eval (Expr.Name _ _) (envOf _ _ _ _ _)) _ _ _); name_kind "local"; k_dflt (refine' ld ?k1 ?k2 ?_; (case k1 => k_asm); (case k2 => exact rfl); k_whole)))
local macro_rules | `(tactic| walk_at "binaryOp RShift int int") => `(tactic| (k_here; (with_reducible refine rshift_int ?kn ?_); (case kn => omega)))
local macro_rules | `(tactic| walk_at "inplaceOp Pow int int") => `(tactic| (k_here; (with_reducible refine ipow_int ?kn ?ks ?_); (case kn => omega); (case ks => omega)))
local macro_rules | `(tactic| walk_at "inplaceOp Mult int int") => `(tactic| (k_here; (with_reducible refine imul_int ?_ ?km); rotate_left; (case km => exact IntMulOk.of_le (m := 60000000) (n := 60000000) (by omega) (by omega) (by decide))))
local macro_rules | `(tactic| walk_at "subscriptTail") => `(tactic| (k_here; (with_reducible show wpAny _ _ (subscriptTail _ _ (Value.ref _) (Value.int _ _)) _ _ _); k_dflt (refine' item_tupleT ?k1 ?k2 ?k3 ?k4 ?k5 ?_ ?k6; (case k1 => first | exact TupIn.isTup (by with_reducible assumption) (by k_asm) (by k_asm) (by k_asm)); (case k2 => decide); (case k3 => decide); (case k4 => exact rfl); (case k5 => exact rfl); (case k6 => with_unfolding_all rfl); k_whole)))
local macro_rules | `(tactic| walk_at "exec For Name Name cons nil") => `(tactic| (k_here; (rename Fr _ _ _ _ => lF'); (with_unfolding_all refine' For_invVF lF' ?k1 ?k2 ?_; (case k1 => exact rfl); (case k2 => exact rfl); k_whole)))
local macro_rules | `(tactic| walk_at "compareOp NotEq") => `(tactic| (k_here; k_dflt (refine' ne_num (NumIn.mono ?ha ?hb) (NumIn.mono ?hc ?hd) ?he ?hF ?hK ?hN ?hu ?_; (case ha => assumption); (case hc => assumption); (case he => assumption); (case hF => k_asm); (case hK => k_asm); (case hN => k_asm); (case hb => (intro p hp; (repeat (first | exact hp | refine List.Mem.tail _ ?_ | refine Ext.mem (by assumption) ?_)))); (case hd => (intro p hp; (repeat (first | exact hp | refine List.Mem.tail _ ?_ | refine Ext.mem (by assumption) ?_)))); (case hu => ktr_units)); walk_say "NOT UNLIKE"))
local macro_rules | `(tactic| walk_at "call builtin:len") => `(tactic| (k_here; (with_reducible show wpAny _ _ (call (Value.builtin "len") [Value.ref _]) _ _ _); k_dflt (refine' call_len_list (News.isList ?kN ?km) ?kf ?_; (case kN => k_asm); (case km => (repeat (first | assumption | refine List.Mem.tail _ ?_ | refine Ext.mem (by assumption) ?_))); (case kf => (simp only [List.size_toArray]; omega)); k_whole); (try simp only [List.size_toArray])))
local macro_rules | `(tactic| walk_at "call ref") => `(tactic| (k_here; (with_reducible show wpAny _ _ (call (Value.ref 184) _) _ _ _); k_dflt (first | (refine' Spec.useD [_, _, _, _, _, _, _] (product_walk _ _ _ _ _ _ _ _ _ _ _ _ ?q1 ?q2 ?q3) ?k1 ?k2 ?k3 ?k4 ?k5 ?kK ?ko ?kn ?kp ?kd ?ku ?_; (case k4 => k_asm); (case ko => assumption)) | (refine' Spec.useD [_, _, _, _, _, _] (product_walk _ _ _ _ _ _ _ _ _ _ _ _ ?q1 ?q2 ?q3) ?k1 ?k2 ?k3 ?k4 ?k5 ?kK ?ko ?kn ?kp ?kd ?ku ?_; (case k4 => k_asm); (case ko => assumption)) | (refine' Spec.useD [_, _, _, _, _] (product_walk _ _ _ _ _ _ _ _ _ _ _ _ ?q1 ?q2 ?q3) ?k1 ?k2 ?k3 ?k4 ?k5 ?kK ?ko ?kn ?kp ?kd ?ku ?_; (case k4 => k_asm); (case ko => assumption)) | (refine' Spec.useD [_, _, _, _] (product_walk _ _ _ _ _ _ _ _ _ _ _ _ ?q1 ?q2 ?q3) ?k1 ?k2 ?k3 ?k4 ?k5 ?kK ?ko ?kn ?kp ?kd ?ku ?_; (case k4 => k_asm); (case ko => assumption)) | (refine' Spec.useD [_, _, _] (product_walk _ _ _ _ _ _ _ _ _ _ _ _ ?q1 ?q2 ?q3) ?k1 ?k2 ?k3 ?k4 ?k5 ?kK ?ko ?kn ?kp ?kd ?ku ?_; (case k4 => k_asm); (case ko => assumption)) | (refine' Spec.useD [_, _] (product_walk _ _ _ _ _ _ _ _ _ _ _ _ ?q1 ?q2 ?q3) ?k1 ?k2 ?k3 ?k4 ?k5 ?kK ?ko ?kn ?kp ?kd ?ku ?_; (case k4 => k_asm); (case ko => assumption)) | (refine' Spec.useD [_] (product_walk _ _ _ _ _ _ _ _ _ _ _ _ ?q1 ?q2 ?q3) ?k1 ?k2 ?k3 ?k4 ?k5 ?kK ?ko ?kn ?kp ?kd ?ku ?_; (case k4 => k_asm); (case ko => assumption)) | (refine' Spec.useD [_, _, _, _, _, _, _] (product_walk _ _ _ _ _ _ _ _ _ _ _ _ ?q1 ?q2 ?q3) ?k1 ?k2 ?k3 ?k4 ?k5 ?kK ?ko ?kn ?kp ?kd ?ku ?_; (case k4 => exact Mine.News.drop1 (by k_asm)); (case ko => assumption)) | (refine' Spec.useD [_, _, _, _, _, _] (product_walk _ _ _ _ _ _ _ _ _ _ _ _ ?q1 ?q2 ?q3) ?k1 ?k2 ?k3 ?k4 ?k5 ?kK ?ko ?kn ?kp ?kd ?ku ?_; (case k4 => exact Mine.News.drop1 (by k_asm)); (case ko => assumption)) | (refine' Spec.useD [_, _, _, _, _] (product_walk _ _ _ _ _ _ _ _ _ _ _ _ ?q1 ?q2 ?q3) ?k1 ?k2 ?k3 ?k4 ?k5 ?kK ?ko ?kn ?kp ?kd ?ku ?_; (case k4 => exact Mine.News.drop1 (by k_asm)); (case ko => assumption)) | (refine' Spec.useD [_, _, _, _] (product_walk _ _ _ _ _ _ _ _ _ _ _ _ ?q1 ?q2 ?q3) ?k1 ?k2 ?k3 ?k4 ?k5 ?kK ?ko ?kn ?kp ?kd ?ku ?_; (case k4 => exact Mine.News.drop1 (by k_asm)); (case ko => assumption)) | (refine' Spec.useD [_, _, _] (product_walk _ _ _ _ _ _ _ _ _ _ _ _ ?q1 ?q2 ?q3) ?k1 ?k2 ?k3 ?k4 ?k5 ?kK ?ko ?kn ?kp ?kd ?ku ?_; (case k4 => exact Mine.News.drop1 (by k_asm)); (case ko => assumption)) | (refine' Spec.useD [_, _] (product_walk _ _ _ _ _ _ _ _ _ _ _ _ ?q1 ?q2 ?q3) ?k1 ?k2 ?k3 ?k4 ?k5 ?kK ?ko ?kn ?kp ?kd ?ku ?_; (case k4 => exact Mine.News.drop1 (by k_asm)); (case ko => assumption)) | (refine' Spec.useD [_] (product_walk _ _ _ _ _ _ _ _ _ _ _ _ ?q1 ?q2 ?q3) ?k1 ?k2 ?k3 ?k4 ?k5 ?kK ?ko ?kn ?kp ?kd ?ku ?_; (case k4 => exact Mine.News.drop1 (by k_asm)); (case ko => assumption))); (case k1 => k_asm); (case k2 => k_asm); (case k3 => k_asm); (case k5 => k_asm); (case kK => first | exact rfl | assumption); (case kn => (repeat (first | exact nt_nil | (refine nt_cons ?_ ?_; first | assumption | exact notT_of (cell_notTl (by assumption)) | exact notT_of (by assumption))))); (case kp => exact ⟨NumIn.mono (by assumption) (by (intro p hp; (repeat (first | exact hp | refine List.Mem.tail _ ?_ | refine Ext.mem (by assumption) ?_)))), NumIn.mono (by assumption) (by (intro p hp; (repeat (first | exact hp | refine List.Mem.tail _ ?_ | refine Ext.mem (by assumption) ?_)))), (by (repeat (first | assumption | refine List.Mem.tail _ ?_ | refine Ext.mem (by assumption) ?_))), NumsIn.mono (by assumption) (by (intro p hp; (repeat (first | exact hp | refine List.Mem.tail _ ?_ | refine Ext.mem (by assumption) ?_))))⟩); (case q1 => assumption); (case q2 => assumption); (case q3 => assumption); (case kd => ktr_room); (case ku => ktr_units); k_whole; intro r9 X9 h9 tk9 F9 N9 x9 o9 p9; (try simp only [List.cons_append, List.nil_append] at N9); (try dsimp only); walk_say "NUMBER 184"))
local macro_rules | `(tactic| walk_at "call ref") => `(tactic| (k_here; (with_reducible show wpAny _ _ (call (Value.ref 191) _) _ _ _); k_dflt (first | (refine' Spec.useD [_, _, _, _, _, _, _] (nested_walk _ _ _ _ _ _ _ _ _ _ ?q1 ?q2 ?q3) ?k1 ?k2 ?k3 ?k4 ?k5 ?kK ?ko ?kn ?kp ?kd ?ku ?_; (case k4 => k_asm); (case ko => assumption)) | (refine' Spec.useD [_, _, _, _, _, _] (nested_walk _ _ _ _ _ _ _ _ _ _ ?q1 ?q2 ?q3) ?k1 ?k2 ?k3 ?k4 ?k5 ?kK ?ko ?kn ?kp ?kd ?ku ?_; (case k4 => k_asm); (case ko => assumption)) | (refine' Spec.useD [_, _, _, _, _] (nested_walk _ _ _ _ _ _ _ _ _ _ ?q1 ?q2 ?q3) ?k1 ?k2 ?k3 ?k4 ?k5 ?kK ?ko ?kn ?kp ?kd ?ku ?_; (case k4 => k_asm); (case ko => assumption)) | (refine' Spec.useD [_, _, _, _] (nested_walk _ _ _ _ _ _ _ _ _ _ ?q1 ?q2 ?q3) ?k1 ?k2 ?k3 ?k4 ?k5 ?kK ?ko ?kn ?kp ?kd ?ku ?_; (case k4 => k_asm); (case ko => assumption)) | (refine' Spec.useD [_, _, _] (nested_walk _ _ _ _ _ _ _ _ _ _ ?q1 ?q2 ?q3) ?k1 ?k2 ?k3 ?k4 ?k5 ?kK ?ko ?kn ?kp ?kd ?ku ?_; (case k4 => k_asm); (case ko => assumption)) | (refine' Spec.useD [_, _] (nested_walk _ _ _ _ _ _ _ _ _ _ ?q1 ?q2 ?q3) ?k1 ?k2 ?k3 ?k4 ?k5 ?kK ?ko ?kn ?kp ?kd ?ku ?_; (case k4 => k_asm); (case ko => assumption)) | (refine' Spec.useD [_] (nested_walk _ _ _ _ _ _ _ _ _ _ ?q1 ?q2 ?q3) ?k1 ?k2 ?k3 ?k4 ?k5 ?kK ?ko ?kn ?kp ?kd ?ku ?_; (case k4 => k_asm); (case ko => assumption)) | (refine' Spec.useD [_, _, _, _, _, _, _] (nested_walk _ _ _ _ _ _ _ _ _ _ ?q1 ?q2 ?q3) ?k1 ?k2 ?k3 ?k4 ?k5 ?kK ?ko ?kn ?kp ?kd ?ku ?_; (case k4 => exact Mine.News.drop1 (by k_asm)); (case ko => assumption)) | (refine' Spec.useD [_, _, _, _, _, _] (nested_walk _ _ _ _ _ _ _ _ _ _ ?q1 ?q2 ?q3) ?k1 ?k2 ?k3 ?k4 ?k5 ?kK ?ko ?kn ?kp ?kd ?ku ?_; (case k4 => exact Mine.News.drop1 (by k_asm)); (case ko => assumption)) | (refine' Spec.useD [_, _, _, _, _] (nested_walk _ _ _ _ _ _ _ _ _ _ ?q1 ?q2 ?q3) ?k1 ?k2 ?k3 ?k4 ?k5 ?kK ?ko ?kn ?kp ?kd ?ku ?_; (case k4 => exact Mine.News.drop1 (by k_asm)); (case ko => assumption)) | (refine' Spec.useD [_, _, _, _] (nested_walk _ _ _ _ _ _ _ _ _ _ ?q1 ?q2 ?q3) ?k1 ?k2 ?k3 ?k4 ?k5 ?kK ?ko ?kn ?kp ?kd ?ku ?_; (case k4 => exact Mine.News.drop1 (by k_asm)); (case ko => assumption)) | (refine' Spec.useD [_, _, _] (nested_walk _ _ _ _ _ _ _ _ _ _ ?q1 ?q2 ?q3) ?k1 ?k2 ?k3 ?k4 ?k5 ?kK ?ko ?kn ?kp ?kd ?ku ?_; (case k4 => exact Mine.News.drop1 (by k_asm)); (case ko => assumption)) | (refine' Spec.useD [_, _] (nested_walk _ _ _ _ _ _ _ _ _ _ ?q1 ?q2 ?q3) ?k1 ?k2 ?k3 ?k4 ?k5 ?kK ?ko ?kn ?kp ?kd ?ku ?_; (case k4 => exact Mine.News.drop1 (by k_asm)); (case ko => assumption)) | (refine' Spec.useD [_] (nested_walk _ _ _ _ _ _ _ _ _ _ ?q1 ?q2 ?q3) ?k1 ?k2 ?k3 ?k4 ?k5 ?kK ?ko ?kn ?kp ?kd ?ku ?_; (case k4 => exact Mine.News.drop1 (by k_asm)); (case ko => assumption))); (case k1 => k_asm); (case k2 => k_asm); (case k3 => k_asm); (case k5 => k_asm); (case kK => first | exact rfl | assumption); (case kn => (repeat (first | exact nt_nil | (refine nt_cons ?_ ?_; first | assumption | exact notT_of (cell_notTl (by assumption)) | exact notT_of (by assumption))))); (case kp => exact ⟨NumIn.mono (by assumption) (by (intro p hp; (repeat (first | exact hp | refine List.Mem.tail _ ?_ | refine Ext.mem (by assumption) ?_)))), (by (repeat (first | assumption | refine List.Mem.tail _ ?_ | refine Ext.mem (by assumption) ?_))), NumsIn.mono (by assumption) (by (intro p hp; (repeat (first | exact hp | refine List.Mem.tail _ ?_ | refine Ext.mem (by assumption) ?_))))⟩); (case q1 => assumption); (case q2 => assumption); (case q3 => assumption); (case kd => ktr_room); (case ku => ktr_units); k_whole; intro r9 X9 h9 tk9 F9 N9 x9 o9 p9; (try simp only [List.cons_append, List.nil_append] at N9); (try dsimp only); walk_say "NUMBER 191"))
local macro_rules | `(tactic| k_all) => `(tactic| first | exact offA_ne (by assumption) (by repeat (first | exact List.Mem.head _ | refine List.Mem.tail _ ?_)) | exact off_lt (by assumption) (by omega))
local macro_rules | `(tactic| ktr_enter) => `(tactic| (refine' code_defC ?k1 ?k2 ?k3 ?k4 ?k5 ?kA ?kF ?kK ?k6 ?k7 ?k8 ?k9 ?kB ?kD ?_ ?c2 ?c3 ?c4; (case kA => exact rfl); (case kF => exact rfl); (case kK => assumption); (case k1 => k_asm); (case k2 => k_asm); (case k3 => k_asm); (case k4 => k_asm); (case k5 => k_asm); (case k6 => k_is); (case k7 => k_is); (case k8 => ktr_room); (case k9 => first | exact BindsTo.of_eq rfl | exact binds_K (by k_in) rfl (by k_is) rfl rfl rfl); (case kB => exact rfl); (case kD => decide +kernel); (case c2 => exact rfl); (case c3 => exact rfl); (case c4 => exact rfl); k_whole; intro g' L' h' tk' cells' FG' F' N' Y' B' X' T' l1; k_cells Y'; (try simp only [List.cons_append, List.nil_append] at N'); (try dsimp only); (try k_lift B'); (try k_fold)))
local macro_rules | `(tactic| walk_at "call ref") => `(tactic| (k_here; (with_reducible show wpAny _ _ (call (Value.ref 131) _) _ _ _); k_dflt (first | (refine' Spec.useF [_, _, _, _, _, _, _, _] (mul_fresh _ _ _ _ _ _ _ _ _ ?q1 ?q2) ?k1 ?k2 ?k3 ?k4 ?k5 ?kK ?ko ?kp ?kd ?ku ?_; (case k4 => k_asm); (case ko => assumption)) | (refine' Spec.useF [_, _, _, _, _, _, _] (mul_fresh _ _ _ _ _ _ _ _ _ ?q1 ?q2) ?k1 ?k2 ?k3 ?k4 ?k5 ?kK ?ko ?kp ?kd ?ku ?_; (case k4 => k_asm); (case ko => assumption)) | (refine' Spec.useF [_, _, _, _, _, _] (mul_fresh _ _ _ _ _ _ _ _ _ ?q1 ?q2) ?k1 ?k2 ?k3 ?k4 ?k5 ?kK ?ko ?kp ?kd ?ku ?_; (case k4 => k_asm); (case ko => assumption)) | (refine' Spec.useF [_, _, _, _, _] (mul_fresh _ _ _ _ _ _ _ _ _ ?q1 ?q2) ?k1 ?k2 ?k3 ?k4 ?k5 ?kK ?ko ?kp ?kd ?ku ?_; (case k4 => k_asm); (case ko => assumption)) | (refine' Spec.useF [_, _, _, _] (mul_fresh _ _ _ _ _ _ _ _ _ ?q1 ?q2) ?k1 ?k2 ?k3 ?k4 ?k5 ?kK ?ko ?kp ?kd ?ku ?_; (case k4 => k_asm); (case ko => assumption)) | (refine' Spec.useF [_, _, _] (mul_fresh _ _ _ _ _ _ _ _ _ ?q1 ?q2) ?k1 ?k2 ?k3 ?k4 ?k5 ?kK ?ko ?kp ?kd ?ku ?_; (case k4 => k_asm); (case ko => assumption)) | (refine' Spec.useF [_, _] (mul_fresh _ _ _ _ _ _ _ _ _ ?q1 ?q2) ?k1 ?k2 ?k3 ?k4 ?k5 ?kK ?ko ?kp ?kd ?ku ?_; (case k4 => k_asm); (case ko => assumption)) | (refine' Spec.useF [_] (mul_fresh _ _ _ _ _ _ _ _ _ ?q1 ?q2) ?k1 ?k2 ?k3 ?k4 ?k5 ?kK ?ko ?kp ?kd ?ku ?_; (case k4 => k_asm); (case ko => assumption)) | (refine' Spec.useF [_, _, _, _, _, _, _, _] (mul_fresh _ _ _ _ _ _ _ _ _ ?q1 ?q2) ?k1 ?k2 ?k3 ?k4 ?k5 ?kK ?ko ?kp ?kd ?ku ?_; (case k4 => exact Mine.News.drop1 (by k_asm)); (case ko => assumption)) | (refine' Spec.useF [_, _, _, _, _, _, _] (mul_fresh _ _ _ _ _ _ _ _ _ ?q1 ?q2) ?k1 ?k2 ?k3 ?k4 ?k5 ?kK ?ko ?kp ?kd ?ku ?_; (case k4 => exact Mine.News.drop1 (by k_asm)); (case ko => assumption)) | (refine' Spec.useF [_, _, _, _, _, _] (mul_fresh _ _ _ _ _ _ _ _ _ ?q1 ?q2) ?k1 ?k2 ?k3 ?k4 ?k5 ?kK ?ko ?kp ?kd ?ku ?_; (case k4 => exact Mine.News.drop1 (by k_asm)); (case ko => assumption)) | (refine' Spec.useF [_, _, _, _, _] (mul_fresh _ _ _ _ _ _ _ _ _ ?q1 ?q2) ?k1 ?k2 ?k3 ?k4 ?k5 ?kK ?ko ?kp ?kd ?ku ?_; (case k4 => exact Mine.News.drop1 (by k_asm)); (case ko => assumption)) | (refine' Spec.useF [_, _, _, _] (mul_fresh _ _ _ _ _ _ _ _ _ ?q1 ?q2) ?k1 ?k2 ?k3 ?k4 ?k5 ?kK ?ko ?kp ?kd ?ku ?_; (case k4 => exact Mine.News.drop1 (by k_asm)); (case ko => assumption)) | (refine' Spec.useF [_, _, _] (mul_fresh _ _ _ _ _ _ _ _ _ ?q1 ?q2) ?k1 ?k2 ?k3 ?k4 ?k5 ?kK ?ko ?kp ?kd ?ku ?_; (case k4 => exact Mine.News.drop1 (by k_asm)); (case ko => assumption)) | (refine' Spec.useF [_, _] (mul_fresh _ _ _ _ _ _ _ _ _ ?q1 ?q2) ?k1 ?k2 ?k3 ?k4 ?k5 ?kK ?ko ?kp ?kd ?ku ?_; (case k4 => exact Mine.News.drop1 (by k_asm)); (case ko => assumption)) | (refine' Spec.useF [_] (mul_fresh _ _ _ _ _ _ _ _ _ ?q1 ?q2) ?k1 ?k2 ?k3 ?k4 ?k5 ?kK ?ko ?kp ?kd ?ku ?_; (case k4 => exact Mine.News.drop1 (by k_asm)); (case ko => assumption))); (case k1 => k_asm); (case k2 => k_asm); (case k3 => k_asm); (case k5 => k_asm); (case kK => first | exact rfl | assumption); (case kp => ((refine ⟨?_, NumIn.mono (by assumption) (by (intro p hp; (repeat (first | exact hp | refine List.Mem.tail _ ?_ | refine Ext.mem (by assumption) ?_)))), NumIn.mono (by assumption) (by (intro p hp; (repeat (first | exact hp | refine List.Mem.tail _ ?_ | refine Ext.mem (by assumption) ?_))))⟩); rfl)); (case q1 => assumption); (case q2 => assumption); (case kd => ktr_room); (case ku => ktr_units); k_whole; intro r9 X9 h9 tk9 F9 N9 x9 o9 p9; (try simp only [List.cons_append, List.nil_append] at N9); (try dsimp only); walk_say "FRESH NUMBER 131"))
local macro_rules | `(tactic| walk_at "call ref") => `(tactic| (k_here; (with_reducible show wpAny _ _ (call (Value.ref 156) _) _ _ _); k_dflt (first | (refine' Spec.useF [_, _, _, _, _, _, _, _] (pow_fresh _ _ _ _ _ _ _ _ _ _ ?q1 ?q2) ?k1 ?k2 ?k3 ?k4 ?k5 ?kK ?ko ?kp ?kd ?ku ?_; (case k4 => k_asm); (case ko => assumption)) | (refine' Spec.useF [_, _, _, _, _, _, _] (pow_fresh _ _ _ _ _ _ _ _ _ _ ?q1 ?q2) ?k1 ?k2 ?k3 ?k4 ?k5 ?kK ?ko ?kp ?kd ?ku ?_; (case k4 => k_asm); (case ko => assumption)) | (refine' Spec.useF [_, _, _, _, _, _] (pow_fresh _ _ _ _ _ _ _ _ _ _ ?q1 ?q2) ?k1 ?k2 ?k3 ?k4 ?k5 ?kK ?ko ?kp ?kd ?ku ?_; (case k4 => k_asm); (case ko => assumption)) | (refine' Spec.useF [_, _, _, _, _] (pow_fresh _ _ _ _ _ _ _ _ _ _ ?q1 ?q2) ?k1 ?k2 ?k3 ?k4 ?k5 ?kK ?ko ?kp ?kd ?ku ?_; (case k4 => k_asm); (case ko => assumption)) | (refine' Spec.useF [_, _, _, _] (pow_fresh _ _ _ _ _ _ _ _ _ _ ?q1 ?q2) ?k1 ?k2 ?k3 ?k4 ?k5 ?kK ?ko ?kp ?kd ?ku ?_; (case k4 => k_asm); (case ko => assumption)) | (refine' Spec.useF [_, _, _] (pow_fresh _ _ _ _ _ _ _ _ _ _ ?q1 ?q2) ?k1 ?k2 ?k3 ?k4 ?k5 ?kK ?ko ?kp ?kd ?ku ?_; (case k4 => k_asm); (case ko => assumption)) | (refine' Spec.useF [_, _] (pow_fresh _ _ _ _ _ _ _ _ _ _ ?q1 ?q2) ?k1 ?k2 ?k3 ?k4 ?k5 ?kK ?ko ?kp ?kd ?ku ?_; (case k4 => k_asm); (case ko => assumption)) | (refine' Spec.useF [_] (pow_fresh _ _ _ _ _ _ _ _ _ _ ?q1 ?q2) ?k1 ?k2 ?k3 ?k4 ?k5 ?kK ?ko ?kp ?kd ?ku ?_; (case k4 => k_asm); (case ko => assumption)) | (refine' Spec.useF [_, _, _, _, _, _, _, _] (pow_fresh _ _ _ _ _ _ _ _ _ _ ?q1 ?q2) ?k1 ?k2 ?k3 ?k4 ?k5 ?kK ?ko ?kp ?kd ?ku ?_; (case k4 => exact Mine.News.drop1 (by k_asm)); (case ko => assumption)) | (refine' Spec.useF [_, _, _, _, _, _, _] (pow_fresh _ _ _ _ _ _ _ _ _ _ ?q1 ?q2) ?k1 ?k2 ?k3 ?k4 ?k5 ?kK ?ko ?kp ?kd ?ku ?_; (case k4 => exact Mine.News.drop1 (by k_asm)); (case ko => assumption)) | (refine' Spec.useF [_, _, _, _, _, _] (pow_fresh _ _ _ _ _ _ _ _ _ _ ?q1 ?q2) ?k1 ?k2 ?k3 ?k4 ?k5 ?kK ?ko ?kp ?kd ?ku ?_; (case k4 => exact Mine.News.drop1 (by k_asm)); (case ko => assumption)) | (refine' Spec.useF [_, _, _, _, _] (pow_fresh _ _ _ _ _ _ _ _ _ _ ?q1 ?q2) ?k1 ?k2 ?k3 ?k4 ?k5 ?kK ?ko ?kp ?kd ?ku ?_; (case k4 => exact Mine.News.drop1 (by k_asm)); (case ko => assumption)) | (refine' Spec.useF [_, _, _, _] (pow_fresh _ _ _ _ _ _ _ _ _ _ ?q1 ?q2) ?k1 ?k2 ?k3 ?k4 ?k5 ?kK ?ko ?kp ?kd ?ku ?_; (case k4 => exact Mine.News.drop1 (by k_asm)); (case ko => assumption)) | (refine' Spec.useF [_, _, _] (pow_fresh _ _ _ _ _ _ _ _ _ _ ?q1 ?q2) ?k1 ?k2 ?k3 ?k4 ?k5 ?kK ?ko ?kp ?kd ?ku ?_; (case k4 => exact Mine.News.drop1 (by k_asm)); (case ko => assumption)) | (refine' Spec.useF [_, _] (pow_fresh _ _ _ _ _ _ _ _ _ _ ?q1 ?q2) ?k1 ?k2 ?k3 ?k4 ?k5 ?kK ?ko ?kp ?kd ?ku ?_; (case k4 => exact Mine.News.drop1 (by k_asm)); (case ko => assumption)) | (refine' Spec.useF [_] (pow_fresh _ _ _ _ _ _ _ _ _ _ ?q1 ?q2) ?k1 ?k2 ?k3 ?k4 ?k5 ?kK ?ko ?kp ?kd ?ku ?_; (case k4 => exact Mine.News.drop1 (by k_asm)); (case ko => assumption))); (case k1 => k_asm); (case k2 => k_asm); (case k3 => k_asm); (case k5 => k_asm); (case kK => first | exact rfl | assumption); (case kp => ((refine ⟨?_, NumIn.mono (by assumption) (by (intro p hp; (repeat (first | exact hp | refine List.Mem.tail _ ?_ | refine Ext.mem (by assumption) ?_))))⟩); rfl)); (case q1 => assumption); (case q2 => omega); (case kd => ktr_room); (case ku => ktr_units); k_whole; intro r9 X9 h9 tk9 F9 N9 x9 o9 p9; (try simp only [List.cons_append, List.nil_append] at N9); (try dsimp only); walk_say "FRESH NUMBER 156"))
local macro_rules | `(tactic| walk_at "eval ListComp") => `(tactic| (k_here; k_dflt (refine LCg.ListComp_U (F₀ := by k_asm) (by rfl) (by decide) (by rfl) (by decide) (by rfl) ?_)))
local macro_rules | `(tactic| walk_at "CompSrc") => `(tactic| (refine Halt.out ?_))
local macro_rules | `(tactic| walk_at "subscriptTail") => `(tactic| (k_here; (with_reducible show wpAny _ _ (subscriptTail _ _ (Value.ref _) (Value.int _ _)) _ _ _); k_dflt (refine' list_item ?k1 ?k2 ?k3 ?k4 ?k5 ?_ ?k6; (case k1 => k_asm); (case k2 => (repeat (first | assumption | refine List.Mem.tail _ ?_ | refine Ext.mem (by assumption) ?_))); (case k3 => omega); (case k4 => omega); (case k5 => assumption); (case k6 => with_unfolding_all rfl); k_whole)))
local macro_rules | `(tactic| walk_at "call ref") => `(tactic| (k_here; (with_reducible show wpAny _ _ (call (Value.ref 123) _) _ _ _); k_dflt (first | (refine' Spec.useD [_, _, _, _, _, _, _] (sum_walk _ _ _ _ _ _ _ _ ?q1 ?q2) ?k1 ?k2 ?k3 ?k4 ?k5 ?kK ?ko ?kn ?kp ?kd ?ku ?_; (case k4 => k_asm); (case ko => assumption)) | (refine' Spec.useD [_, _, _, _, _, _] (sum_walk _ _ _ _ _ _ _ _ ?q1 ?q2) ?k1 ?k2 ?k3 ?k4 ?k5 ?kK ?ko ?kn ?kp ?kd ?ku ?_; (case k4 => k_asm); (case ko => assumption)) | (refine' Spec.useD [_, _, _, _, _] (sum_walk _ _ _ _ _ _ _ _ ?q1 ?q2) ?k1 ?k2 ?k3 ?k4 ?k5 ?kK ?ko ?kn ?kp ?kd ?ku ?_; (case k4 => k_asm); (case ko => assumption)) | (refine' Spec.useD [_, _, _, _] (sum_walk _ _ _ _ _ _ _ _ ?q1 ?q2) ?k1 ?k2 ?k3 ?k4 ?k5 ?kK ?ko ?kn ?kp ?kd ?ku ?_; (case k4 => k_asm); (case ko => assumption)) | (refine' Spec.useD [_, _, _] (sum_walk _ _ _ _ _ _ _ _ ?q1 ?q2) ?k1 ?k2 ?k3 ?k4 ?k5 ?kK ?ko ?kn ?kp ?kd ?ku ?_; (case k4 => k_asm); (case ko => assumption)) | (refine' Spec.useD [_, _] (sum_walk _ _ _ _ _ _ _ _ ?q1 ?q2) ?k1 ?k2 ?k3 ?k4 ?k5 ?kK ?ko ?kn ?kp ?kd ?ku ?_; (case k4 => k_asm); (case ko => assumption)) | (refine' Spec.useD [_] (sum_walk _ _ _ _ _ _ _ _ ?q1 ?q2) ?k1 ?k2 ?k3 ?k4 ?k5 ?kK ?ko ?kn ?kp ?kd ?ku ?_; (case k4 => k_asm); (case ko => assumption)) | (refine' Spec.useD [_, _, _, _, _, _, _] (sum_walk _ _ _ _ _ _ _ _ ?q1 ?q2) ?k1 ?k2 ?k3 ?k4 ?k5 ?kK ?ko ?kn ?kp ?kd ?ku ?_; (case k4 => exact Mine.News.drop1 (by k_asm)); (case ko => assumption)) | (refine' Spec.useD [_, _, _, _, _, _] (sum_walk _ _ _ _ _ _ _ _ ?q1 ?q2) ?k1 ?k2 ?k3 ?k4 ?k5 ?kK ?ko ?kn ?kp ?kd ?ku ?_; (case k4 => exact Mine.News.drop1 (by k_asm)); (case ko => assumption)) | (refine' Spec.useD [_, _, _, _, _] (sum_walk _ _ _ _ _ _ _ _ ?q1 ?q2) ?k1 ?k2 ?k3 ?k4 ?k5 ?kK ?ko ?kn ?kp ?kd ?ku ?_; (case k4 => exact Mine.News.drop1 (by k_asm)); (case ko => assumption)) | (refine' Spec.useD [_, _, _, _] (sum_walk _ _ _ _ _ _ _ _ ?q1 ?q2) ?k1 ?k2 ?k3 ?k4 ?k5 ?kK ?ko ?kn ?kp ?kd ?ku ?_; (case k4 => exact Mine.News.drop1 (by k_asm)); (case ko => assumption)) | (refine' Spec.useD [_, _, _] (sum_walk _ _ _ _ _ _ _ _ ?q1 ?q2) ?k1 ?k2 ?k3 ?k4 ?k5 ?kK ?ko ?kn ?kp ?kd ?ku ?_; (case k4 => exact Mine.News.drop1 (by k_asm)); (case ko => assumption)) | (refine' Spec.useD [_, _] (sum_walk _ _ _ _ _ _ _ _ ?q1 ?q2) ?k1 ?k2 ?k3 ?k4 ?k5 ?kK ?ko ?kn ?kp ?kd ?ku ?_; (case k4 => exact Mine.News.drop1 (by k_asm)); (case ko => assumption)) | (refine' Spec.useD [_] (sum_walk _ _ _ _ _ _ _ _ ?q1 ?q2) ?k1 ?k2 ?k3 ?k4 ?k5 ?kK ?ko ?kn ?kp ?kd ?ku ?_; (case k4 => exact Mine.News.drop1 (by k_asm)); (case ko => assumption))); (case k1 => k_asm); (case k2 => k_asm); (case k3 => k_asm); (case k5 => k_asm); (case kK => first | exact rfl | assumption); (case kn => (repeat (first | exact nt_nil | (refine nt_cons ?_ ?_; first | assumption | exact notT_of (cell_notTl (by assumption)) | exact notT_of (by assumption))))); (case kp => exact ⟨(by first | exact List.Mem.head _ | (repeat (first | assumption | refine List.Mem.tail _ ?_ | refine Ext.mem (by assumption) ?_))), NumsIn.mono (by assumption) (by (intro p hp; (repeat (first | exact hp | refine List.Mem.tail _ ?_ | refine Ext.mem (by assumption) ?_))))⟩); (case q1 => assumption); (case q2 => assumption); (case kd => ktr_room); (case ku => ktr_units); k_whole; intro r9 X9 h9 tk9 F9 N9 x9 o9 p9; (try simp only [List.cons_append, List.nil_append] at N9); (try dsimp only); walk_say "NUMBER 123"))
local macro_rules | `(tactic| walk_at "exec For Name Call cons nil") => `(tactic| (k_here; (rename Fr _ _ _ _ => lF'); (with_unfolding_all refine' For_invVF lF' ?k1 ?k2 ?_; (case k1 => exact rfl); (case k2 => exact rfl); k_whole)))
local macro_rules | `(tactic| walk_at "pyIter ref") => `(tactic| (k_here; (with_reducible show wpAny _ _ (pyIter (Value.ref _)) _ _ _); refine Halt.out ?_))
local macro_rules | `(tactic| walk_at "subscriptTail") => `(tactic| (k_here; (with_reducible show wpAny _ _ (subscriptTail _ _ (Value.ref _) (Value.int _ _)) _ _ _); k_dflt (first
  | (refine' list_item ?k1 ?k2 ?k3 ?k4 ?k5 ?_ ?k6; (case k1 => k_asm); (case k2 => (repeat (first | assumption | refine List.Mem.tail _ ?_ | refine Ext.mem (by assumption) ?_))); (case k3 => omega); (case k4 => omega); (case k5 => assumption); (case k6 => with_unfolding_all rfl))
  | (refine' list_neg ?k1 ?k2 ?k3 ?k3b ?k4 ?k5 ?_ ?k6; (case k1 => k_asm); (case k2 => (repeat (first | assumption | refine List.Mem.tail _ ?_ | refine Ext.mem (by assumption) ?_))); (case k3 => omega); (case k3b => omega); (case k4 => omega); (case k5 => assumption); (case k6 => with_unfolding_all rfl))); k_whole))
local macro_rules | `(tactic| walk_at "call ref") => `(tactic| (k_here; (with_reducible show wpAny _ _ (call (Value.ref 115) _) _ _ _); k_dflt (first | (refine' Spec.useD [_, _, _, _, _, _, _] (sub_spec _ _ _ _ _ _ _ _ ?q1 ?q2) ?k1 ?k2 ?k3 ?k4 ?k5 ?kK ?ko ?kn ?kp ?kd ?ku ?_; (case k4 => k_asm); (case ko => assumption)) | (refine' Spec.useD [_, _, _, _, _, _] (sub_spec _ _ _ _ _ _ _ _ ?q1 ?q2) ?k1 ?k2 ?k3 ?k4 ?k5 ?kK ?ko ?kn ?kp ?kd ?ku ?_; (case k4 => k_asm); (case ko => assumption)) | (refine' Spec.useD [_, _, _, _, _] (sub_spec _ _ _ _ _ _ _ _ ?q1 ?q2) ?k1 ?k2 ?k3 ?k4 ?k5 ?kK ?ko ?kn ?kp ?kd ?ku ?_; (case k4 => k_asm); (case ko => assumption)) | (refine' Spec.useD [_, _, _, _] (sub_spec _ _ _ _ _ _ _ _ ?q1 ?q2) ?k1 ?k2 ?k3 ?k4 ?k5 ?kK ?ko ?kn ?kp ?kd ?ku ?_; (case k4 => k_asm); (case ko => assumption)) | (refine' Spec.useD [_, _, _] (sub_spec _ _ _ _ _ _ _ _ ?q1 ?q2) ?k1 ?k2 ?k3 ?k4 ?k5 ?kK ?ko ?kn ?kp ?kd ?ku ?_; (case k4 => k_asm); (case ko => assumption)) | (refine' Spec.useD [_, _] (sub_spec _ _ _ _ _ _ _ _ ?q1 ?q2) ?k1 ?k2 ?k3 ?k4 ?k5 ?kK ?ko ?kn ?kp ?kd ?ku ?_; (case k4 => k_asm); (case ko => assumption)) | (refine' Spec.useD [_] (sub_spec _ _ _ _ _ _ _ _ ?q1 ?q2) ?k1 ?k2 ?k3 ?k4 ?k5 ?kK ?ko ?kn ?kp ?kd ?ku ?_; (case k4 => k_asm); (case ko => assumption)) | (refine' Spec.useD [_, _, _, _, _, _, _] (sub_spec _ _ _ _ _ _ _ _ ?q1 ?q2) ?k1 ?k2 ?k3 ?k4 ?k5 ?kK ?ko ?kn ?kp ?kd ?ku ?_; (case k4 => exact Mine.News.drop1 (by k_asm)); (case ko => assumption)) | (refine' Spec.useD [_, _, _, _, _, _] (sub_spec _ _ _ _ _ _ _ _ ?q1 ?q2) ?k1 ?k2 ?k3 ?k4 ?k5 ?kK ?ko ?kn ?kp ?kd ?ku ?_; (case k4 => exact Mine.News.drop1 (by k_asm)); (case ko => assumption)) | (refine' Spec.useD [_, _, _, _, _] (sub_spec _ _ _ _ _ _ _ _ ?q1 ?q2) ?k1 ?k2 ?k3 ?k4 ?k5 ?kK ?ko ?kn ?kp ?kd ?ku ?_; (case k4 => exact Mine.News.drop1 (by k_asm)); (case ko => assumption)) | (refine' Spec.useD [_, _, _, _] (sub_spec _ _ _ _ _ _ _ _ ?q1 ?q2) ?k1 ?k2 ?k3 ?k4 ?k5 ?kK ?ko ?kn ?kp ?kd ?ku ?_; (case k4 => exact Mine.News.drop1 (by k_asm)); (case ko => assumption)) | (refine' Spec.useD [_, _, _] (sub_spec _ _ _ _ _ _ _ _ ?q1 ?q2) ?k1 ?k2 ?k3 ?k4 ?k5 ?kK ?ko ?kn ?kp ?kd ?ku ?_; (case k4 => exact Mine.News.drop1 (by k_asm)); (case ko => assumption)) | (refine' Spec.useD [_, _] (sub_spec _ _ _ _ _ _ _ _ ?q1 ?q2) ?k1 ?k2 ?k3 ?k4 ?k5 ?kK ?ko ?kn ?kp ?kd ?ku ?_; (case k4 => exact Mine.News.drop1 (by k_asm)); (case ko => assumption)) | (refine' Spec.useD [_] (sub_spec _ _ _ _ _ _ _ _ ?q1 ?q2) ?k1 ?k2 ?k3 ?k4 ?k5 ?kK ?ko ?kn ?kp ?kd ?ku ?_; (case k4 => exact Mine.News.drop1 (by k_asm)); (case ko => assumption))); (case k1 => k_asm); (case k2 => k_asm); (case k3 => k_asm); (case k5 => k_asm); (case kK => first | exact rfl | assumption); (case kn => (repeat (first | exact nt_nil | (refine nt_cons ?_ ?_; first | assumption | exact notT_of (cell_notTl (by assumption)) | exact notT_of (by assumption))))); (case kp => exact ⟨NumIn.mono (by assumption) (by (intro p hp; (repeat (first | exact hp | refine List.Mem.tail _ ?_ | refine Ext.mem (by assumption) ?_)))), NumIn.mono (by assumption) (by (intro p hp; (repeat (first | exact hp | refine List.Mem.tail _ ?_ | refine Ext.mem (by assumption) ?_))))⟩); (case q1 => assumption); (case q2 => assumption); (case kd => ktr_room); (case ku => ktr_units); k_whole; intro r9 X9 h9 tk9 F9 N9 x9 o9 p9; (try simp only [List.cons_append, List.nil_append] at N9); (try dsimp only); walk_say "NUMBER 115"))
local macro_rules | `(tactic| walk_at "call ref") => `(tactic| (k_here; (with_reducible show wpAny _ _ (call (Value.ref 84) _) _ _ _); k_dflt (first | (refine' Spec.useD [_, _, _, _, _, _, _] (neg_spec _ _ _ _ _ _) ?k1 ?k2 ?k3 ?k4 ?k5 ?kK ?ko ?kn ?kp ?kd ?ku ?_; (case k4 => k_asm); (case ko => assumption)) | (refine' Spec.useD [_, _, _, _, _, _] (neg_spec _ _ _ _ _ _) ?k1 ?k2 ?k3 ?k4 ?k5 ?kK ?ko ?kn ?kp ?kd ?ku ?_; (case k4 => k_asm); (case ko => assumption)) | (refine' Spec.useD [_, _, _, _, _] (neg_spec _ _ _ _ _ _) ?k1 ?k2 ?k3 ?k4 ?k5 ?kK ?ko ?kn ?kp ?kd ?ku ?_; (case k4 => k_asm); (case ko => assumption)) | (refine' Spec.useD [_, _, _, _] (neg_spec _ _ _ _ _ _) ?k1 ?k2 ?k3 ?k4 ?k5 ?kK ?ko ?kn ?kp ?kd ?ku ?_; (case k4 => k_asm); (case ko => assumption)) | (refine' Spec.useD [_, _, _] (neg_spec _ _ _ _ _ _) ?k1 ?k2 ?k3 ?k4 ?k5 ?kK ?ko ?kn ?kp ?kd ?ku ?_; (case k4 => k_asm); (case ko => assumption)) | (refine' Spec.useD [_, _] (neg_spec _ _ _ _ _ _) ?k1 ?k2 ?k3 ?k4 ?k5 ?kK ?ko ?kn ?kp ?kd ?ku ?_; (case k4 => k_asm); (case ko => assumption)) | (refine' Spec.useD [_] (neg_spec _ _ _ _ _ _) ?k1 ?k2 ?k3 ?k4 ?k5 ?kK ?ko ?kn ?kp ?kd ?ku ?_; (case k4 => k_asm); (case ko => assumption)) | (refine' Spec.useD [_, _, _, _, _, _, _] (neg_spec _ _ _ _ _ _) ?k1 ?k2 ?k3 ?k4 ?k5 ?kK ?ko ?kn ?kp ?kd ?ku ?_; (case k4 => exact Mine.News.drop1 (by k_asm)); (case ko => assumption)) | (refine' Spec.useD [_, _, _, _, _, _] (neg_spec _ _ _ _ _ _) ?k1 ?k2 ?k3 ?k4 ?k5 ?kK ?ko ?kn ?kp ?kd ?ku ?_; (case k4 => exact Mine.News.drop1 (by k_asm)); (case ko => assumption)) | (refine' Spec.useD [_, _, _, _, _] (neg_spec _ _ _ _ _ _) ?k1 ?k2 ?k3 ?k4 ?k5 ?kK ?ko ?kn ?kp ?kd ?ku ?_; (case k4 => exact Mine.News.drop1 (by k_asm)); (case ko => assumption)) | (refine' Spec.useD [_, _, _, _] (neg_spec _ _ _ _ _ _) ?k1 ?k2 ?k3 ?k4 ?k5 ?kK ?ko ?kn ?kp ?kd ?ku ?_; (case k4 => exact Mine.News.drop1 (by k_asm)); (case ko => assumption)) | (refine' Spec.useD [_, _, _] (neg_spec _ _ _ _ _ _) ?k1 ?k2 ?k3 ?k4 ?k5 ?kK ?ko ?kn ?kp ?kd ?ku ?_; (case k4 => exact Mine.News.drop1 (by k_asm)); (case ko => assumption)) | (refine' Spec.useD [_, _] (neg_spec _ _ _ _ _ _) ?k1 ?k2 ?k3 ?k4 ?k5 ?kK ?ko ?kn ?kp ?kd ?ku ?_; (case k4 => exact Mine.News.drop1 (by k_asm)); (case ko => assumption)) | (refine' Spec.useD [_] (neg_spec _ _ _ _ _ _) ?k1 ?k2 ?k3 ?k4 ?k5 ?kK ?ko ?kn ?kp ?kd ?ku ?_; (case k4 => exact Mine.News.drop1 (by k_asm)); (case ko => assumption))); (case k1 => k_asm); (case k2 => k_asm); (case k3 => k_asm); (case k5 => k_asm); (case kK => first | exact rfl | assumption); (case kn => (repeat (first | exact nt_nil | (refine nt_cons ?_ ?_; first | assumption | exact notT_of (cell_notTl (by assumption)) | exact notT_of (by assumption))))); (case kp => exact NumIn.mono (by assumption) (by (intro p hp; (repeat (first | exact hp | refine List.Mem.tail _ ?_ | refine Ext.mem (by assumption) ?_))))); (case kd => ktr_room); (case ku => ktr_units); k_whole; intro r9 X9 h9 tk9 F9 N9 x9 o9 p9; (try simp only [List.cons_append, List.nil_append] at N9); (try dsimp only); walk_say "NUMBER 84"))
section
variable {prog : Program} {w : World} {A : Around} {E Q : Value → Shared → Prop} {s : Shared} {h₀ : Heap} {L l b : Addr} {m : Str → Option Value} {led : List (Addr × Obj)} {value slice : Expr} {vs ws zs : List Value} {nn n2 : Nat} {vl vu : Value} {lo hi : Option Int}
theorem slice_led (F : Fr h₀ L s.heap m) (N : News h₀ L s.heap led) (hm : (l, W.listOf vs.toArray nn) ∈ led) (pl : IsPart vl lo) (pu : IsPart vu hi) (e : slicePick vs.toArray lo hi none = List.toArray zs)
    (h : ∀ D h', Fr h₀ L h' m → News h₀ L h' ((D, W.listOf zs.toArray 0) :: led) → (∀ p ∈ led, p.1 < D) → Q (.ref D) { s with heap := h' })
    (hs : subscripted slice false (.ref l) (.ref s.heap.objs.size) = operate [.ref s.heap.objs.size, .ref l] (getItem (.ref l) (.ref s.heap.objs.size))) (ht : ∀ r, letTemporaryGo value (.ref l) r = pure ()) (hz : vs.length ≤ sizeLine) :
    wpAny (model prog w) A (subscriptTail value slice (.ref l) (.ref s.heap.objs.size)) Q E { s with heap := s.heap.push { cls := .type "slice", data := .fields #[vl, vu, .none] } } := by
  refine W.kmk_slice F N (N.isList hm) pl pu (fun D h' F' N' l1 => h D h' F' ?_ l1) hs ht (by simpa using hz)
  rw [e] at N'
  exact N'
theorem pick_to (b : Int) (h0 : 0 ≤ b) (h1 : b ≤ (vs.length : Int)) : slicePick vs.toArray none (some b) none = (vs.take b.toNat).toArray := by
  have := slicePick_upto vs.toArray b.toNat (by simp; omega)
  rw [show ((b.toNat : Nat) : Int) = b by omega] at this
  exact this
theorem pick_from (b : Int) (h0 : 0 ≤ b) (h1 : b ≤ (vs.length : Int)) : slicePick vs.toArray (some b) none none = (vs.drop b.toNat).toArray := by
  have := slicePick_from vs.toArray b.toNat (by simp; omega)
  rw [show ((b.toNat : Nat) : Int) = b by omega] at this
  exact this
theorem pick_neg (b : Int) (h0 : b < 0) (h1 : -(vs.length : Int) ≤ b) : slicePick vs.toArray none (some b) none = (vs.take (b + (vs.length : Int)).toNat).toArray := by
  have e : sliceBounds none (some b) none vs.toArray.size = (((0 : Nat) : Int), (((b + (vs.length : Int)).toNat : Nat) : Int), 1) := by
    simp only [sliceBounds, Option.getD_none, show (1 : Int) > 0 by decide, if_true, if_pos h0]
    congr 1
    congr 1
    simp
    omega
  rw [W.kmk_pick_nat _ e]
  show ((vs.drop 0).take _).toArray = _
  rw [List.drop_zero, Nat.sub_zero]
theorem add_led (F : Fr h₀ L s.heap m) (N : News h₀ L s.heap led) (hl : (l, W.listOf vs.toArray nn) ∈ led) (hb : (b, W.listOf ws.toArray n2) ∈ led)
    (h : ∀ D h', Fr h₀ L h' m → News h₀ L h' ((D, W.listOf (List.toArray (vs ++ ws)) 0) :: led) → (∀ p ∈ led, p.1 < D) → Q (.ref D) { s with heap := h' }) (hsz : vs.length + ws.length ≤ sizeLine) :
    wpAny (model prog w) A (binaryOp .Add (.ref l) (.ref b)) Q E s :=
  add_lists (vs := vs) (ws := ws) (hsz := hsz) F N (N.isList hl) (N.isList hb) fun h' F' N' => h _ h' F' N' fun p hp => Heap.lt_size (N p hp).1
end
local macro_rules | `(tactic| walk_at "subscriptTail") => `(tactic| (k_here; (with_reducible show wpAny _ _ (subscriptTail _ (PySem.Expr.Slice _ _ none _) (Value.ref _) (Value.ref _)) _ _ _); k_dflt (refine' slice_led ?F ?N ?l ?p ?q ?e ?_ ?s ?t ?z; (case F => k_asm); (case N => k_asm); (case l => (repeat (first | assumption | refine List.Mem.tail _ ?_ | refine Ext.mem (by assumption) ?_))); (case p => kmk_part); (case q => kmk_part); (case e => first | exact pick_to _ (by omega) (by omega) | exact pick_from _ (by omega) (by omega) | exact pick_neg _ (by omega) (by omega)); (case s => with_unfolding_all rfl); (case t => kmk_pure); (case z => (rw [sizeLine_eq]; omega))); intro D' h' F' N' l1; (try k_lt l1)))
local macro_rules | `(tactic| walk_at "subscriptTail Name Slice ref ref") => `(tactic| (k_here; (with_reducible show wpAny _ _ (subscriptTail _ (PySem.Expr.Slice _ _ none _) (Value.ref _) (Value.ref _)) _ _ _); k_dflt (refine' slice_led ?F ?N ?l ?p ?q ?e ?_ ?s ?t ?z; (case F => k_asm); (case N => k_asm); (case l => (repeat (first | assumption | refine List.Mem.tail _ ?_ | refine Ext.mem (by assumption) ?_))); (case p => kmk_part); (case q => kmk_part); (case e => first | exact pick_to _ (by omega) (by omega) | exact pick_from _ (by omega) (by omega) | exact pick_neg _ (by omega) (by omega)); (case s => with_unfolding_all rfl); (case t => kmk_pure); (case z => (rw [sizeLine_eq]; omega))); intro D' h' F' N' l1; (try k_lt l1)))
local macro_rules | `(tactic| walk_at "binaryOp Add ref ref") => `(tactic| (k_here; k_dflt (refine' add_led ?F ?N ?l ?p ?_ ?z; (case F => k_asm); (case N => k_asm); (case l => (repeat (first | assumption | exact List.Mem.head _ | refine List.Mem.tail _ ?_ | refine Ext.mem (by assumption) ?_))); (case p => (repeat (first | assumption | exact List.Mem.head _ | refine List.Mem.tail _ ?_ | refine Ext.mem (by assumption) ?_))); (case z => (rw [sizeLine_eq]; simp only [List.length_take, List.length_drop]; omega))); intro D' h' F' N' l1; (try k_lt l1)))
theorem ListIn.sub {n n' : List (Addr × Obj)} {v : Value} {ds : List Dyadic} (hs : SubC Tl n n') (h : ListIn n v ds) : ListIn n' v ds := by
  obtain ⟨l, nn, vs, e, hm, hn⟩ := h
  refine ⟨l, nn, vs, e, hs _ hm ⟨.inr rfl, _, _, rfl⟩, ?_⟩
  clear hm e
  induction hn with
  | nil => exact .nil
  | cons h _ ih => exact .cons (h.sub hs.toT) ih
/-- a number's data -/
theorem NumIn.data {w : World} {h₀ h : Heap} {L : Addr} {m : Str → Option Value} {n : List (Addr × Obj)} {v v' : Value} {d : Dyadic} (h1 : NumIn n v d) (h2 : NumIn n v' d) (F : Fr h₀ L h m) (K : (Mine.hd.heap_39 w.params).In h₀) (N : News h₀ L h n) :
    ∃ a b c e : Int, Reads h v (.tuple [.int a, .int b, .int c, .int e]) [] ∧ Reads h v' (.tuple [.int a, .int b, .int c, .int e]) [] := by
  obtain ⟨a, b, c, e1, h1, hC, rfl⟩ := h1
  obtain ⟨a', b', c', e2, h2, hC', e⟩ := h2
  obtain ⟨rfl, rfl, rfl, rfl⟩ := can_uniq hC hC' e
  exact ⟨_, _, _, _, h1.reads F K N, h2.reads F K N⟩
theorem NumsIn.data {w : World} {h₀ h : Heap} {L : Addr} {m : Str → Option Value} {n : List (Addr × Obj)} {vs : List Value} {ds : List Dyadic} (h1 : NumsIn n vs ds) (F : Fr h₀ L h m) (K : (Mine.hd.heap_39 w.params).In h₀) (N : News h₀ L h n) :
    ∀ {vs' : List Value}, NumsIn n vs' ds → ∃ dats, ReadsAll h vs dats [] ∧ ReadsAll h vs' dats [] ∧ (∀ d ∈ dats, ∃ a b c e : Int, d = .tuple [.int a, .int b, .int c, .int e]) := by
  induction h1 with
  | nil =>
    intro vs' h2
    cases h2
    exact ⟨[], .nil, .nil, fun _ h => nomatch h⟩
  | cons h _ ih =>
    intro vs' h2
    cases h2 with
    | cons h2 hs2 =>
      obtain ⟨a, b, c, e, r1, r2⟩ := h.data h2 F K N
      obtain ⟨dats, q1, q2, q3⟩ := ih hs2
      refine ⟨_ :: dats, .cons r1 q1, .cons r2 q2, fun d hd => ?_⟩
      rcases List.mem_cons.mp hd with rfl | hd
      · exact ⟨_, _, _, _, rfl⟩
      · exact q3 d hd
theorem shaped_all (dats : List PyData) (h : ∀ d ∈ dats, ∃ a b c e : Int, d = .tuple [.int a, .int b, .int c, .int e]) : PyData.canLayAll0 dats = true ∧ PyData.depthAll dats ≤ 2 ∧ PyData.eqvAll dats dats = true := by
  induction dats with
  | nil => exact ⟨rfl, by decide, by simp [PyData.eqvAll]⟩
  | cons d r ih =>
    obtain ⟨h1, h2, h3⟩ := ih fun d hd => h d (.tail _ hd)
    obtain ⟨a, b, c, e, rfl⟩ := h d (.head _)
    refine ⟨?_, ?_, ?_⟩
    · simp [PyData.canLayAll0, PyData.canLay0, h1]
    · simp [PyData.depthAll, PyData.depth]; omega
    · simp [PyData.eqvAll, PyData.eqv, h3]
section
variable {w : World} {A : Around} {E : Value → Shared → Prop} {s : Shared} {h₀ : Heap} {L : Addr} {m : Str → Option Value} {n : List (Addr × Obj)} {v v' : Value} {d d' : Dyadic} {ds : List Dyadic} {Q : Value → Shared → Prop}
theorem ne_list {l l' : Addr} {vs vs' : List Value} {k k' : Nat} (hm : (l, W.listOf (List.toArray vs) k) ∈ n) (hm' : (l', W.listOf (List.toArray vs') k') ∈ n) (h : NumsIn n vs ds) (h' : NumsIn n vs' ds) (F : Fr h₀ L s.heap m) (K : (Mine.hd.heap_39 w.params).In h₀) (N : News h₀ L s.heap n) (hu : A.units + 64 < cLine) (hq : Q (.bool false) s) :
    wpAny (model PySem.Challenge.rw_aj5013_01.row.prog w) A (compareOp .NotEq (.ref l) (.ref l')) Q E s := by
  obtain ⟨dats, r1, r2, hd⟩ := h.data F K N h'
  obtain ⟨q1, q2, q3⟩ := shaped_all dats hd
  have sh : PySem.SeqAt.shaped (.list dats) = true := by
    unfold PySem.SeqAt.shaped
    rw [Bool.and_eq_true, decide_eq_true_eq]
    refine ⟨by simpa [PyData.canLay0] using q1, ?_⟩
    simp [PyData.depth]; omega
  refine ne_dataH (reads_list_at (N _ hm).1 rfl rfl (by simpa using r1)) (reads_list_at (N _ hm').1 rfl rfl (by simpa using r2)) sh sh hu ?_
  have e : PyData.eqv (.list dats) (.list dats) = true := by simpa [PyData.eqv] using q3
  rw [e]
  exact hq
theorem eq_num (h : NumIn n v d) (h' : NumIn n v' d') (e : d = d') (F : Fr h₀ L s.heap m) (K : (Mine.hd.heap_39 w.params).In h₀) (N : News h₀ L s.heap n) (hu : A.units + 64 < cLine) (hq : Q (.bool true) s) :
    wpAny (model PySem.Challenge.rw_aj5013_01.row.prog w) A (compareOp .Eq v v') Q E s := by
  obtain ⟨a, b, c, e1, h1, hC, rfl⟩ := h
  obtain ⟨a', b', c', e2, h2, hC', rfl⟩ := h'
  obtain ⟨rfl, rfl, rfl, rfl⟩ := can_uniq hC hC' e
  refine eq_dataH (h1.reads F K N) (h2.reads F K N) rfl rfl hu ?_
  simp only [PyData.eqv, PyData.eqvAll, beq_self_eq_true, Bool.and_true]
  exact hq
end
/-- the carried value of a division -/
def cvOf (r : Dyadic) (p : List Dyadic) : Dyadic := p.foldl (fun v c => c + r * v) 0
theorem cv_step {r c : Dyadic} {p : List Dyadic} {i : Nat} (h : p[i]? = some c) : cvOf r (p.take (i + 1)) = c + r * cvOf r (p.take i) := by
  rw [List.take_add_one, h, cvOf, Option.toList_some, List.foldl_append]; rfl
theorem div_get (r : Dyadic) (p : List Dyadic) : ∀ (v : Dyadic) (i : Nat), i < p.length → (divOf r v p)[i]? = some ((p.take (i + 1)).foldl (fun v c => c + r * v) v) := by
  induction p with
  | nil => intro v i h; simp at h
  | cons c p ih =>
    intro v i h
    cases i with
    | zero => simp [divOf]
    | succ i =>
      simp only [divOf, List.getElem?_cons_succ, List.take_succ_cons, List.foldl_cons]
      exact ih _ i (by simpa using h)
theorem div_len (r : Dyadic) (p : List Dyadic) : ∀ v, (divOf r v p).length = p.length := by
  induction p with
  | nil => intro v; rfl
  | cons c p ih => intro v; simp [divOf, ih]
theorem div_take {r c : Dyadic} {p : List Dyadic} {i : Nat} (h : p[i]? = some c) : (divOf r 0 p).take (i + 1) = (divOf r 0 p).take i ++ [c + r * cvOf r (p.take i)] := by
  rw [List.take_add_one, div_get r p 0 i (List.getElem?_eq_some_iff.mp h).1]
  have := cv_step (r := r) h
  unfold cvOf at this ⊢
  rw [this]; rfl
theorem slp_get (p : List Dyadic) : ∀ (i : Nat) (c : Dyadic), i + 1 < p.length → p[i]? = some c → (slp p)[i]? = some (c * nOf (p.length - 1 - i)) := by
  induction p with
  | nil => intro i c h; simp at h
  | cons a p ih =>
    intro i c h hc
    cases p with
    | nil => simp at h
    | cons b p =>
      cases i with
      | zero => simp only [slp]; simp at hc ⊢; rw [hc]
      | succ i =>
        simp only [slp, List.getElem?_cons_succ] at hc ⊢
        rw [ih i c (by simpa using h) hc]
        simp
theorem slp_len (p : List Dyadic) : (slp p).length = p.length - 1 := by
  induction p with
  | nil => rfl
  | cons a p ih =>
    cases p with
    | nil => rfl
    | cons b p => simp only [slp, List.length_cons] at ih ⊢; omega
theorem slp_take {p : List Dyadic} {i : Nat} {c : Dyadic} (h : i + 1 < p.length) (hc : p[i]? = some c) : (slp p).take (i + 1) = (slp p).take i ++ [c * nOf (p.length - 1 - i)] := by
  rw [List.take_add_one, slp_get p i c h hc]; rfl
theorem nm8 {C T lf O a2 a1 S2 S1 : Addr} {X : List (Addr × Obj)} (h : T < C ∧ lf < C ∧ O < C ∧ S2 < C ∧ S1 < C ∧ a2 < C ∧ a1 < C ∧ AllLt C X) : ∃ C' T' lf' O', C' = C ∧ T' = T ∧ lf' = lf ∧ O' = O ∧ T' < C' ∧ lf' < C' ∧ O' < C' ∧ a2 < C' ∧ a1 < C' ∧ AllLt C' X :=
  ⟨C, T, lf, O, rfl, rfl, rfl, rfl, h.1, h.2.1, h.2.2.1, h.2.2.2.2.2.1, h.2.2.2.2.2.2.1, h.2.2.2.2.2.2.2⟩
local macro_rules | `(tactic| walk_at "call ref") => `(tactic| (k_here; (with_reducible show wpAny _ _ (call (Value.ref 107) _) _ _ _); k_dflt (first | (refine' Spec.useD [_, _, _, _, _, _, _] (add_spec _ _ _ _ _ _ _ _ ?q1 ?q2) ?k1 ?k2 ?k3 ?k4 ?k5 ?kK ?ko ?kn ?kp ?kd ?ku ?_; (case k4 => k_asm); (case ko => assumption)) | (refine' Spec.useD [_, _, _, _, _, _] (add_spec _ _ _ _ _ _ _ _ ?q1 ?q2) ?k1 ?k2 ?k3 ?k4 ?k5 ?kK ?ko ?kn ?kp ?kd ?ku ?_; (case k4 => k_asm); (case ko => assumption)) | (refine' Spec.useD [_, _, _, _, _] (add_spec _ _ _ _ _ _ _ _ ?q1 ?q2) ?k1 ?k2 ?k3 ?k4 ?k5 ?kK ?ko ?kn ?kp ?kd ?ku ?_; (case k4 => k_asm); (case ko => assumption)) | (refine' Spec.useD [_, _, _, _] (add_spec _ _ _ _ _ _ _ _ ?q1 ?q2) ?k1 ?k2 ?k3 ?k4 ?k5 ?kK ?ko ?kn ?kp ?kd ?ku ?_; (case k4 => k_asm); (case ko => assumption)) | (refine' Spec.useD [_, _, _] (add_spec _ _ _ _ _ _ _ _ ?q1 ?q2) ?k1 ?k2 ?k3 ?k4 ?k5 ?kK ?ko ?kn ?kp ?kd ?ku ?_; (case k4 => k_asm); (case ko => assumption)) | (refine' Spec.useD [_, _] (add_spec _ _ _ _ _ _ _ _ ?q1 ?q2) ?k1 ?k2 ?k3 ?k4 ?k5 ?kK ?ko ?kn ?kp ?kd ?ku ?_; (case k4 => k_asm); (case ko => assumption)) | (refine' Spec.useD [_] (add_spec _ _ _ _ _ _ _ _ ?q1 ?q2) ?k1 ?k2 ?k3 ?k4 ?k5 ?kK ?ko ?kn ?kp ?kd ?ku ?_; (case k4 => k_asm); (case ko => assumption)) | (refine' Spec.useD [_, _, _, _, _, _, _] (add_spec _ _ _ _ _ _ _ _ ?q1 ?q2) ?k1 ?k2 ?k3 ?k4 ?k5 ?kK ?ko ?kn ?kp ?kd ?ku ?_; (case k4 => exact Mine.News.drop1 (by k_asm)); (case ko => assumption)) | (refine' Spec.useD [_, _, _, _, _, _] (add_spec _ _ _ _ _ _ _ _ ?q1 ?q2) ?k1 ?k2 ?k3 ?k4 ?k5 ?kK ?ko ?kn ?kp ?kd ?ku ?_; (case k4 => exact Mine.News.drop1 (by k_asm)); (case ko => assumption)) | (refine' Spec.useD [_, _, _, _, _] (add_spec _ _ _ _ _ _ _ _ ?q1 ?q2) ?k1 ?k2 ?k3 ?k4 ?k5 ?kK ?ko ?kn ?kp ?kd ?ku ?_; (case k4 => exact Mine.News.drop1 (by k_asm)); (case ko => assumption)) | (refine' Spec.useD [_, _, _, _] (add_spec _ _ _ _ _ _ _ _ ?q1 ?q2) ?k1 ?k2 ?k3 ?k4 ?k5 ?kK ?ko ?kn ?kp ?kd ?ku ?_; (case k4 => exact Mine.News.drop1 (by k_asm)); (case ko => assumption)) | (refine' Spec.useD [_, _, _] (add_spec _ _ _ _ _ _ _ _ ?q1 ?q2) ?k1 ?k2 ?k3 ?k4 ?k5 ?kK ?ko ?kn ?kp ?kd ?ku ?_; (case k4 => exact Mine.News.drop1 (by k_asm)); (case ko => assumption)) | (refine' Spec.useD [_, _] (add_spec _ _ _ _ _ _ _ _ ?q1 ?q2) ?k1 ?k2 ?k3 ?k4 ?k5 ?kK ?ko ?kn ?kp ?kd ?ku ?_; (case k4 => exact Mine.News.drop1 (by k_asm)); (case ko => assumption)) | (refine' Spec.useD [_] (add_spec _ _ _ _ _ _ _ _ ?q1 ?q2) ?k1 ?k2 ?k3 ?k4 ?k5 ?kK ?ko ?kn ?kp ?kd ?ku ?_; (case k4 => exact Mine.News.drop1 (by k_asm)); (case ko => assumption))); (case k1 => k_asm); (case k2 => k_asm); (case k3 => k_asm); (case k5 => k_asm); (case kK => first | exact rfl | assumption); (case kn => (repeat (first | exact nt_nil | (refine nt_cons ?_ ?_; first | assumption | exact notT_of (cell_notTl (by assumption)) | exact notT_of (by assumption))))); (case kp => exact ⟨NumIn.mono (by assumption) (by (intro p hp; (repeat (first | exact hp | refine List.Mem.tail _ ?_ | refine Ext.mem (by assumption) ?_)))), NumIn.mono (by assumption) (by (intro p hp; (repeat (first | exact hp | refine List.Mem.tail _ ?_ | refine Ext.mem (by assumption) ?_))))⟩); (case q1 => assumption); (case q2 => assumption); (case kd => ktr_room); (case ku => ktr_units); k_whole; intro r9 X9 h9 tk9 F9 N9 x9 o9 p9; (try simp only [List.cons_append, List.nil_append] at N9); (try dsimp only); walk_say "NUMBER 107"))
local macro_rules | `(tactic| walk_at "call ref") => `(tactic| (k_here; (with_reducible show wpAny _ _ (call (Value.ref 184) _) _ _ _); k_dflt (first | (refine' Spec.useD [_, _, _, _, _, _, _] (product_walk _ _ _ _ _ _ _ _ _ _ _ _ ?q1 ?q2 ?q3) ?k1 ?k2 ?k3 ?k4 ?k5 ?kK ?ko ?kn ?kp ?kd ?ku ?_; (case k4 => k_asm); (case ko => assumption)) | (refine' Spec.useD [_, _, _, _, _, _] (product_walk _ _ _ _ _ _ _ _ _ _ _ _ ?q1 ?q2 ?q3) ?k1 ?k2 ?k3 ?k4 ?k5 ?kK ?ko ?kn ?kp ?kd ?ku ?_; (case k4 => k_asm); (case ko => assumption)) | (refine' Spec.useD [_, _, _, _, _] (product_walk _ _ _ _ _ _ _ _ _ _ _ _ ?q1 ?q2 ?q3) ?k1 ?k2 ?k3 ?k4 ?k5 ?kK ?ko ?kn ?kp ?kd ?ku ?_; (case k4 => k_asm); (case ko => assumption)) | (refine' Spec.useD [_, _, _, _] (product_walk _ _ _ _ _ _ _ _ _ _ _ _ ?q1 ?q2 ?q3) ?k1 ?k2 ?k3 ?k4 ?k5 ?kK ?ko ?kn ?kp ?kd ?ku ?_; (case k4 => k_asm); (case ko => assumption)) | (refine' Spec.useD [_, _, _] (product_walk _ _ _ _ _ _ _ _ _ _ _ _ ?q1 ?q2 ?q3) ?k1 ?k2 ?k3 ?k4 ?k5 ?kK ?ko ?kn ?kp ?kd ?ku ?_; (case k4 => k_asm); (case ko => assumption)) | (refine' Spec.useD [_, _] (product_walk _ _ _ _ _ _ _ _ _ _ _ _ ?q1 ?q2 ?q3) ?k1 ?k2 ?k3 ?k4 ?k5 ?kK ?ko ?kn ?kp ?kd ?ku ?_; (case k4 => k_asm); (case ko => assumption)) | (refine' Spec.useD [_] (product_walk _ _ _ _ _ _ _ _ _ _ _ _ ?q1 ?q2 ?q3) ?k1 ?k2 ?k3 ?k4 ?k5 ?kK ?ko ?kn ?kp ?kd ?ku ?_; (case k4 => k_asm); (case ko => assumption)) | (refine' Spec.useD [_, _, _, _, _, _, _] (product_walk _ _ _ _ _ _ _ _ _ _ _ _ ?q1 ?q2 ?q3) ?k1 ?k2 ?k3 ?k4 ?k5 ?kK ?ko ?kn ?kp ?kd ?ku ?_; (case k4 => exact Mine.News.drop1 (by k_asm)); (case ko => assumption)) | (refine' Spec.useD [_, _, _, _, _, _] (product_walk _ _ _ _ _ _ _ _ _ _ _ _ ?q1 ?q2 ?q3) ?k1 ?k2 ?k3 ?k4 ?k5 ?kK ?ko ?kn ?kp ?kd ?ku ?_; (case k4 => exact Mine.News.drop1 (by k_asm)); (case ko => assumption)) | (refine' Spec.useD [_, _, _, _, _] (product_walk _ _ _ _ _ _ _ _ _ _ _ _ ?q1 ?q2 ?q3) ?k1 ?k2 ?k3 ?k4 ?k5 ?kK ?ko ?kn ?kp ?kd ?ku ?_; (case k4 => exact Mine.News.drop1 (by k_asm)); (case ko => assumption)) | (refine' Spec.useD [_, _, _, _] (product_walk _ _ _ _ _ _ _ _ _ _ _ _ ?q1 ?q2 ?q3) ?k1 ?k2 ?k3 ?k4 ?k5 ?kK ?ko ?kn ?kp ?kd ?ku ?_; (case k4 => exact Mine.News.drop1 (by k_asm)); (case ko => assumption)) | (refine' Spec.useD [_, _, _] (product_walk _ _ _ _ _ _ _ _ _ _ _ _ ?q1 ?q2 ?q3) ?k1 ?k2 ?k3 ?k4 ?k5 ?kK ?ko ?kn ?kp ?kd ?ku ?_; (case k4 => exact Mine.News.drop1 (by k_asm)); (case ko => assumption)) | (refine' Spec.useD [_, _] (product_walk _ _ _ _ _ _ _ _ _ _ _ _ ?q1 ?q2 ?q3) ?k1 ?k2 ?k3 ?k4 ?k5 ?kK ?ko ?kn ?kp ?kd ?ku ?_; (case k4 => exact Mine.News.drop1 (by k_asm)); (case ko => assumption)) | (refine' Spec.useD [_] (product_walk _ _ _ _ _ _ _ _ _ _ _ _ ?q1 ?q2 ?q3) ?k1 ?k2 ?k3 ?k4 ?k5 ?kK ?ko ?kn ?kp ?kd ?ku ?_; (case k4 => exact Mine.News.drop1 (by k_asm)); (case ko => assumption))); (case k1 => k_asm); (case k2 => k_asm); (case k3 => k_asm); (case k5 => k_asm); (case kK => first | exact rfl | assumption); (case kn => (repeat (first | exact nt_nil | (refine nt_cons ?_ ?_; first | assumption | exact notT_of (cell_notTl (by assumption)) | exact notT_of (by assumption))))); (case kp => exact ⟨NumIn.mono (by assumption) (by (intro p hp; (repeat (first | exact hp | refine List.Mem.tail _ ?_ | refine Ext.mem (by assumption) ?_)))), NumIn.mono (by assumption) (by (intro p hp; (repeat (first | exact hp | refine List.Mem.tail _ ?_ | refine Ext.mem (by assumption) ?_)))), (by (repeat (first | assumption | exact List.Mem.head _ | refine List.Mem.tail _ ?_ | refine Ext.mem (by assumption) ?_))), NumsIn.mono (by assumption) (by (intro p hp; (repeat (first | exact hp | refine List.Mem.tail _ ?_ | refine Ext.mem (by assumption) ?_))))⟩); (case q1 => assumption); (case q2 => assumption); (case q3 => assumption); (case kd => ktr_room); (case ku => ktr_units); k_whole; intro r9 X9 h9 tk9 F9 N9 x9 o9 p9; (try simp only [List.cons_append, List.nil_append] at N9); (try dsimp only); walk_say "NUMBER 184"))
local macro_rules | `(tactic| walk_at "call ref") => `(tactic| (k_here; (with_reducible show wpAny _ _ (call (Value.ref 191) _) _ _ _); k_dflt (first | (refine' Spec.useD [_, _, _, _, _, _, _] (nested_walk _ _ _ _ _ _ _ _ _ _ ?q1 ?q2 ?q3) ?k1 ?k2 ?k3 ?k4 ?k5 ?kK ?ko ?kn ?kp ?kd ?ku ?_; (case k4 => k_asm); (case ko => assumption)) | (refine' Spec.useD [_, _, _, _, _, _] (nested_walk _ _ _ _ _ _ _ _ _ _ ?q1 ?q2 ?q3) ?k1 ?k2 ?k3 ?k4 ?k5 ?kK ?ko ?kn ?kp ?kd ?ku ?_; (case k4 => k_asm); (case ko => assumption)) | (refine' Spec.useD [_, _, _, _, _] (nested_walk _ _ _ _ _ _ _ _ _ _ ?q1 ?q2 ?q3) ?k1 ?k2 ?k3 ?k4 ?k5 ?kK ?ko ?kn ?kp ?kd ?ku ?_; (case k4 => k_asm); (case ko => assumption)) | (refine' Spec.useD [_, _, _, _] (nested_walk _ _ _ _ _ _ _ _ _ _ ?q1 ?q2 ?q3) ?k1 ?k2 ?k3 ?k4 ?k5 ?kK ?ko ?kn ?kp ?kd ?ku ?_; (case k4 => k_asm); (case ko => assumption)) | (refine' Spec.useD [_, _, _] (nested_walk _ _ _ _ _ _ _ _ _ _ ?q1 ?q2 ?q3) ?k1 ?k2 ?k3 ?k4 ?k5 ?kK ?ko ?kn ?kp ?kd ?ku ?_; (case k4 => k_asm); (case ko => assumption)) | (refine' Spec.useD [_, _] (nested_walk _ _ _ _ _ _ _ _ _ _ ?q1 ?q2 ?q3) ?k1 ?k2 ?k3 ?k4 ?k5 ?kK ?ko ?kn ?kp ?kd ?ku ?_; (case k4 => k_asm); (case ko => assumption)) | (refine' Spec.useD [_] (nested_walk _ _ _ _ _ _ _ _ _ _ ?q1 ?q2 ?q3) ?k1 ?k2 ?k3 ?k4 ?k5 ?kK ?ko ?kn ?kp ?kd ?ku ?_; (case k4 => k_asm); (case ko => assumption)) | (refine' Spec.useD [_, _, _, _, _, _, _] (nested_walk _ _ _ _ _ _ _ _ _ _ ?q1 ?q2 ?q3) ?k1 ?k2 ?k3 ?k4 ?k5 ?kK ?ko ?kn ?kp ?kd ?ku ?_; (case k4 => exact Mine.News.drop1 (by k_asm)); (case ko => assumption)) | (refine' Spec.useD [_, _, _, _, _, _] (nested_walk _ _ _ _ _ _ _ _ _ _ ?q1 ?q2 ?q3) ?k1 ?k2 ?k3 ?k4 ?k5 ?kK ?ko ?kn ?kp ?kd ?ku ?_; (case k4 => exact Mine.News.drop1 (by k_asm)); (case ko => assumption)) | (refine' Spec.useD [_, _, _, _, _] (nested_walk _ _ _ _ _ _ _ _ _ _ ?q1 ?q2 ?q3) ?k1 ?k2 ?k3 ?k4 ?k5 ?kK ?ko ?kn ?kp ?kd ?ku ?_; (case k4 => exact Mine.News.drop1 (by k_asm)); (case ko => assumption)) | (refine' Spec.useD [_, _, _, _] (nested_walk _ _ _ _ _ _ _ _ _ _ ?q1 ?q2 ?q3) ?k1 ?k2 ?k3 ?k4 ?k5 ?kK ?ko ?kn ?kp ?kd ?ku ?_; (case k4 => exact Mine.News.drop1 (by k_asm)); (case ko => assumption)) | (refine' Spec.useD [_, _, _] (nested_walk _ _ _ _ _ _ _ _ _ _ ?q1 ?q2 ?q3) ?k1 ?k2 ?k3 ?k4 ?k5 ?kK ?ko ?kn ?kp ?kd ?ku ?_; (case k4 => exact Mine.News.drop1 (by k_asm)); (case ko => assumption)) | (refine' Spec.useD [_, _] (nested_walk _ _ _ _ _ _ _ _ _ _ ?q1 ?q2 ?q3) ?k1 ?k2 ?k3 ?k4 ?k5 ?kK ?ko ?kn ?kp ?kd ?ku ?_; (case k4 => exact Mine.News.drop1 (by k_asm)); (case ko => assumption)) | (refine' Spec.useD [_] (nested_walk _ _ _ _ _ _ _ _ _ _ ?q1 ?q2 ?q3) ?k1 ?k2 ?k3 ?k4 ?k5 ?kK ?ko ?kn ?kp ?kd ?ku ?_; (case k4 => exact Mine.News.drop1 (by k_asm)); (case ko => assumption))); (case k1 => k_asm); (case k2 => k_asm); (case k3 => k_asm); (case k5 => k_asm); (case kK => first | exact rfl | assumption); (case kn => (repeat (first | exact nt_nil | (refine nt_cons ?_ ?_; first | assumption | exact notT_of (cell_notTl (by assumption)) | exact notT_of (by assumption))))); (case kp => exact ⟨NumIn.mono (by assumption) (by (intro p hp; (repeat (first | exact hp | refine List.Mem.tail _ ?_ | refine Ext.mem (by assumption) ?_)))), (by (repeat (first | assumption | exact List.Mem.head _ | refine List.Mem.tail _ ?_ | refine Ext.mem (by assumption) ?_))), NumsIn.mono (by assumption) (by (intro p hp; (repeat (first | exact hp | refine List.Mem.tail _ ?_ | refine Ext.mem (by assumption) ?_))))⟩); (case q1 => assumption); (case q2 => assumption); (case q3 => assumption); (case kd => ktr_room); (case ku => ktr_units); k_whole; intro r9 X9 h9 tk9 F9 N9 x9 o9 p9; (try simp only [List.cons_append, List.nil_append] at N9); (try dsimp only); walk_say "NUMBER 191"))
local macro_rules | `(tactic| walk_at "call ref") => `(tactic| (k_here; (with_reducible show wpAny _ _ (call (Value.ref 139) _) _ _ _); k_dflt (first | (refine' Spec.useF [_, _, _, _, _, _, _, _] (mulint_fresh _ _ _ _ _ _ _ _ _ _ ?q1 ?q2 ?q3) ?k1 ?k2 ?k3 ?k4 ?k5 ?kK ?ko ?kp ?kd ?ku ?_; (case k4 => k_asm); (case ko => assumption)) | (refine' Spec.useF [_, _, _, _, _, _, _] (mulint_fresh _ _ _ _ _ _ _ _ _ _ ?q1 ?q2 ?q3) ?k1 ?k2 ?k3 ?k4 ?k5 ?kK ?ko ?kp ?kd ?ku ?_; (case k4 => k_asm); (case ko => assumption)) | (refine' Spec.useF [_, _, _, _, _, _] (mulint_fresh _ _ _ _ _ _ _ _ _ _ ?q1 ?q2 ?q3) ?k1 ?k2 ?k3 ?k4 ?k5 ?kK ?ko ?kp ?kd ?ku ?_; (case k4 => k_asm); (case ko => assumption)) | (refine' Spec.useF [_, _, _, _, _] (mulint_fresh _ _ _ _ _ _ _ _ _ _ ?q1 ?q2 ?q3) ?k1 ?k2 ?k3 ?k4 ?k5 ?kK ?ko ?kp ?kd ?ku ?_; (case k4 => k_asm); (case ko => assumption)) | (refine' Spec.useF [_, _, _, _] (mulint_fresh _ _ _ _ _ _ _ _ _ _ ?q1 ?q2 ?q3) ?k1 ?k2 ?k3 ?k4 ?k5 ?kK ?ko ?kp ?kd ?ku ?_; (case k4 => k_asm); (case ko => assumption)) | (refine' Spec.useF [_, _, _] (mulint_fresh _ _ _ _ _ _ _ _ _ _ ?q1 ?q2 ?q3) ?k1 ?k2 ?k3 ?k4 ?k5 ?kK ?ko ?kp ?kd ?ku ?_; (case k4 => k_asm); (case ko => assumption)) | (refine' Spec.useF [_, _] (mulint_fresh _ _ _ _ _ _ _ _ _ _ ?q1 ?q2 ?q3) ?k1 ?k2 ?k3 ?k4 ?k5 ?kK ?ko ?kp ?kd ?ku ?_; (case k4 => k_asm); (case ko => assumption)) | (refine' Spec.useF [_] (mulint_fresh _ _ _ _ _ _ _ _ _ _ ?q1 ?q2 ?q3) ?k1 ?k2 ?k3 ?k4 ?k5 ?kK ?ko ?kp ?kd ?ku ?_; (case k4 => k_asm); (case ko => assumption)) | (refine' Spec.useF [_, _, _, _, _, _, _, _] (mulint_fresh _ _ _ _ _ _ _ _ _ _ ?q1 ?q2 ?q3) ?k1 ?k2 ?k3 ?k4 ?k5 ?kK ?ko ?kp ?kd ?ku ?_; (case k4 => exact Mine.News.drop1 (by k_asm)); (case ko => assumption)) | (refine' Spec.useF [_, _, _, _, _, _, _] (mulint_fresh _ _ _ _ _ _ _ _ _ _ ?q1 ?q2 ?q3) ?k1 ?k2 ?k3 ?k4 ?k5 ?kK ?ko ?kp ?kd ?ku ?_; (case k4 => exact Mine.News.drop1 (by k_asm)); (case ko => assumption)) | (refine' Spec.useF [_, _, _, _, _, _] (mulint_fresh _ _ _ _ _ _ _ _ _ _ ?q1 ?q2 ?q3) ?k1 ?k2 ?k3 ?k4 ?k5 ?kK ?ko ?kp ?kd ?ku ?_; (case k4 => exact Mine.News.drop1 (by k_asm)); (case ko => assumption)) | (refine' Spec.useF [_, _, _, _, _] (mulint_fresh _ _ _ _ _ _ _ _ _ _ ?q1 ?q2 ?q3) ?k1 ?k2 ?k3 ?k4 ?k5 ?kK ?ko ?kp ?kd ?ku ?_; (case k4 => exact Mine.News.drop1 (by k_asm)); (case ko => assumption)) | (refine' Spec.useF [_, _, _, _] (mulint_fresh _ _ _ _ _ _ _ _ _ _ ?q1 ?q2 ?q3) ?k1 ?k2 ?k3 ?k4 ?k5 ?kK ?ko ?kp ?kd ?ku ?_; (case k4 => exact Mine.News.drop1 (by k_asm)); (case ko => assumption)) | (refine' Spec.useF [_, _, _] (mulint_fresh _ _ _ _ _ _ _ _ _ _ ?q1 ?q2 ?q3) ?k1 ?k2 ?k3 ?k4 ?k5 ?kK ?ko ?kp ?kd ?ku ?_; (case k4 => exact Mine.News.drop1 (by k_asm)); (case ko => assumption)) | (refine' Spec.useF [_, _] (mulint_fresh _ _ _ _ _ _ _ _ _ _ ?q1 ?q2 ?q3) ?k1 ?k2 ?k3 ?k4 ?k5 ?kK ?ko ?kp ?kd ?ku ?_; (case k4 => exact Mine.News.drop1 (by k_asm)); (case ko => assumption)) | (refine' Spec.useF [_] (mulint_fresh _ _ _ _ _ _ _ _ _ _ ?q1 ?q2 ?q3) ?k1 ?k2 ?k3 ?k4 ?k5 ?kK ?ko ?kp ?kd ?ku ?_; (case k4 => exact Mine.News.drop1 (by k_asm)); (case ko => assumption))); (case k1 => k_asm); (case k2 => k_asm); (case k3 => k_asm); (case k5 => k_asm); (case kK => first | exact rfl | assumption); (case kp => ((refine ⟨?_, NumIn.mono (by assumption) (by (intro p hp; (repeat (first | exact hp | refine List.Mem.tail _ ?_ | refine Ext.mem (by assumption) ?_))))⟩); rfl)); (case q1 => assumption); (case q2 => omega); (case q3 => omega); (case kd => ktr_room); (case ku => ktr_units); k_whole; intro r9 X9 h9 tk9 F9 N9 x9 o9 p9; (try simp only [List.cons_append, List.nil_append] at N9); (try dsimp only); walk_say "FRESH NUMBER 139"))
local macro_rules | `(tactic| walk_at "call ref") => `(tactic| (k_here; (with_reducible show wpAny _ _ (call (Value.ref 177) _) _ _ _); refine Halt.out ?_))
local macro_rules | `(tactic| walk_at "compareOp NotEq") => `(tactic| (k_here; k_dflt (refine' ne_num (NumIn.mono ?ha ?hb) (NumIn.mk ?hc can_nil rfl) ?he ?hF ?hK ?hN ?hu ?_; (case hF => k_asm); (case hK => k_asm); (case hN => k_asm); (case ha => assumption); (case hc => (repeat (first | assumption | exact List.Mem.head _ | refine List.Mem.tail _ ?_ | refine Ext.mem (by assumption) ?_))); (case he => assumption); (case hb => (intro p hp; (repeat (first | exact hp | refine List.Mem.tail _ ?_ | refine Ext.mem (by assumption) ?_)))); (case hu => ktr_units)); walk_say "NOT UNLIKE NOUGHT"))
local macro_rules | `(tactic| walk_at "compareOp NotEq ref ref") => `(tactic| (k_here; k_dflt (refine' ne_list ?hm ?hm2 (NumsIn.mono ?ha ?hb) (NumsIn.mono ?hc ?hd) ?hF ?hK ?hN ?hu ?_; (case hF => k_asm); (case hK => k_asm); (case hN => k_asm); (case hm => (repeat (first | assumption | exact List.Mem.head _ | refine List.Mem.tail _ ?_ | refine Ext.mem (by assumption) ?_))); (case hm2 => (repeat (first | assumption | exact List.Mem.head _ | refine List.Mem.tail _ ?_ | refine Ext.mem (by assumption) ?_))); (case ha => assumption); (case hc => assumption); (case hb => (intro p hp; (repeat (first | exact hp | refine List.Mem.tail _ ?_ | refine Ext.mem (by assumption) ?_)))); (case hd => (intro p hp; (repeat (first | exact hp | refine List.Mem.tail _ ?_ | refine Ext.mem (by assumption) ?_)))); (case hu => ktr_units)); walk_say "NO OTHER LIST"))
local macro_rules | `(tactic| walk_at "compareOp Eq") => `(tactic| (k_here; k_dflt (refine' eq_num (NumIn.mono ?ha ?hb) (NumIn.mono ?hc ?hd) ?he ?hF ?hK ?hN ?hu ?_; (case hF => k_asm); (case hK => k_asm); (case hN => k_asm); (case ha => assumption); (case hc => assumption); (case he => assumption); (case hb => (intro p hp; (repeat (first | exact hp | refine List.Mem.tail _ ?_ | refine Ext.mem (by assumption) ?_)))); (case hd => (intro p hp; (repeat (first | exact hp | refine List.Mem.tail _ ?_ | refine Ext.mem (by assumption) ?_)))); (case hu => ktr_units)); walk_say "ALIKE"))
def RootPre (lp lr : Addr) (np nr : Nat) (vl : Value) (pv rv : List Value) (poly roots : List Dyadic) (lead : Dyadic) (news : List (Addr × Obj)) : Prop :=
  NumIn news vl lead ∧ (lp, W.listOf pv.toArray np) ∈ news ∧ NumsIn news pv poly ∧ (lr, W.listOf rv.toArray nr) ∈ news ∧ NumsIn news rv roots
theorem nmL {d : Addr} {X : List (Addr × Obj)} (h : ∀ p ∈ X, p.1 < d) : ∃ D, D = d ∧ ∀ p ∈ X, p.1 < D := ⟨d, rfl, h⟩
theorem nmV {n : List (Addr × Obj)} {v : Value} {d : Dyadic} (h : NumIn n v d) : ∃ v', v' = v ∧ NumIn n v' d := ⟨v, rfl, h⟩
theorem nmO {o : Obj} {x : Data} (h : o.data = x) : ∃ o', o' = o ∧ o'.data = x := ⟨o, rfl, h⟩
theorem News.re8 {h₀ h : Heap} {L : Addr} {p1 p2 p3 p4 p5 p6 p7 p8 : Addr × Obj} {X : List (Addr × Obj)} (N : News h₀ L h (p1 :: p2 :: p3 :: p4 :: p5 :: p6 :: p7 :: p8 :: X)) : News h₀ L h (p3 :: p7 :: p8 :: p1 :: p4 :: X) := fun p hp => N p (by
  simp only [List.mem_cons] at hp ⊢
  rcases hp with h | h | h | h | h | h <;> simp [h])
theorem nm5 {D T a2 a1 lf : Addr} {X : List (Addr × Obj)} (h : T < D ∧ a2 < D ∧ a1 < D ∧ lf < D ∧ AllLt D X) : ∃ D', D' = D ∧ a2 < D' ∧ a1 < D' ∧ lf < D' := ⟨D, rfl, h.2.1, h.2.2.1, h.2.2.2.1⟩
theorem News.re5 {h₀ h : Heap} {L : Addr} {p1 p2 p3 p4 : Addr × Obj} {X : List (Addr × Obj)} (N : News h₀ L h (p1 :: p2 :: p3 :: p4 :: X)) : News h₀ L h (p3 :: p4 :: p1 :: X) := fun p hp => N p (by
  simp only [List.mem_cons] at hp ⊢
  rcases hp with h | h | h | h <;> simp [h])
theorem notin2 {x a b : Addr} (h1 : x ≠ a) (h2 : x ≠ b) : x ∉ [a, b] := by
  intro h
  rcases List.mem_cons.mp h with h | h
  · exact h1 h
  · exact h2 (List.mem_singleton.mp h)
theorem notin3 {x a b c : Addr} (h1 : x ≠ a) (h2 : x ≠ b) (h3 : x ≠ c) : x ∉ [a, b, c] := by
  intro h
  rcases List.mem_cons.mp h with h | h
  · exact h1 h
  · rcases List.mem_cons.mp h with h | h
    · exact h2 h
    · exact h3 (List.mem_singleton.mp h)
theorem offA_ins {adr : List Addr} {a : Addr} {o : Obj} {X : List (Addr × Obj)} (h : a ∉ adr) (k : OffA adr X) : OffA adr ((a, o) :: X) := by
  intro q hq
  rcases List.mem_cons.mp hq with rfl | hq
  · exact h
  · exact k q hq
theorem NumsIn.take {n : List (Addr × Obj)} {vs : List Value} {ds : List Dyadic} (h : NumsIn n vs ds) : ∀ k, NumsIn n (vs.take k) (ds.take k) := by
  induction h with
  | nil => intro k; simp only [List.take_nil]; exact .nil
  | cons h _ ih => intro k; cases k with
    | zero => exact .nil
    | succ k => exact .cons h (ih k)
theorem NumsIn.drop {n : List (Addr × Obj)} {vs : List Value} {ds : List Dyadic} (h : NumsIn n vs ds) : ∀ k, NumsIn n (vs.drop k) (ds.drop k) := by
  induction h with
  | nil => intro k; simp only [List.drop_nil]; exact .nil
  | cons h hs ih => intro k; cases k with
    | zero => exact .cons h hs
    | succ k => exact ih k
theorem NumsIn.app {n : List (Addr × Obj)} {vs vs' : List Value} {ds ds' : List Dyadic} (h : NumsIn n vs ds) (h' : NumsIn n vs' ds') : NumsIn n (vs ++ vs') (ds ++ ds') := by
  induction h with
  | nil => exact h'
  | cons h _ ih => exact .cons h ih
set_option maxRecDepth 100000 in
set_option maxHeartbeats 8000000 in
theorem root_walk (w : World) (mean : ExcName → Option Value) (mg mb : Str → Option Value) (lp lr : Addr) (np nr : Nat) (vl : Value) (pv rv : List Value) (poly roots : List Dyadic) (lead r : Dyadic) (k : Nat) (tk0 : Tok) (hpl : pv.length ≤ 5) (hrl : rv.length ≤ 4) (hkr : roots[k]? = some r)
    (hdiv : divOf r 0 poly = builtOf lead (roots.take k ++ roots.drop (k + 1)) ++ [0]) (hrb : Bd 400000 r) (hpb : ∀ c ∈ poly, Bd 400000 c) (hcv : ∀ i, i ≤ poly.length → Bd 400000 (cvOf r (poly.take i)) ∧ Bd 400000 (r * cvOf r (poly.take i)))
    (hob : ∀ q ∈ roots.take k ++ roots.drop (k + 1), Bd 400000 q) (hoc : ∀ i, i ≤ (roots.take k ++ roots.drop (k + 1)).length → ∀ c ∈ builtOf lead ((roots.take k ++ roots.drop (k + 1)).take i), Bd 400000 c)
    (hp4 : ∀ c ∈ poly, Bd 400 c) (hsb : ∀ c ∈ slp poly, Bd 400000 c) (hsn : ∀ i, i ≤ (slp poly).length → Bd 400000 (nestOf ((slp poly).take i) r) ∧ Bd 400000 (nestOf ((slp poly).take i) r * r))
    (hod : ∀ q ∈ roots.take k ++ roots.drop (k + 1), Bd 400000 q ∧ Bd 400000 (r - q)) (hop : ∀ i, i ≤ (roots.take k ++ roots.drop (k + 1)).length → Bd 400000 (prodOf lead r ((roots.take k ++ roots.drop (k + 1)).take i)))
    (hval : nestOf (slp poly) r = prodOf lead r (roots.take k ++ roots.drop (k + 1)))
    (hom : ∀ i q, (roots.take k ++ roots.drop (k + 1))[i]? = some q → ∀ c ∈ builtOf lead ((roots.take k ++ roots.drop (k + 1)).take i), Bd 400000 (q * c)) :
    Spec w mean mg mb 201 60 500 [.ref lp, vl, .ref lr, .int k tk0] (RootPre lp lr np nr vl pv rv poly roots lead) (fun news r => r = .bool true) := by
  unfold Spec
  w_top off
  k_fill
  intro dp un gd cn cs a₀ ccd cl outer A₀ base h₀ L m news s Q E B F X N T hk hpre hdp hun hret
  obtain ⟨h1, hlp, hpv, hlr, hrv⟩ := hpre
  have hrl2 := hrv.len
  have hkl : (k : Int) + 1 ≤ (rv.length : Int) := by have := (List.getElem?_eq_some_iff.mp hkr).1; omega
  have hk4 : (k : Int) < 4 := by have := (List.getElem?_eq_some_iff.mp hkr).1; omega
  obtain ⟨vr, hvr⟩ : ∃ vr, rv[((k : Int)).toNat]? = some vr := ⟨_, List.getElem?_eq_getElem (by have := (List.getElem?_eq_some_iff.mp hkr).1; omega)⟩
  refine wpAny_call ?_
  k_dflt ktr_enter
  rename (∀ p ∈ news, p.1 < _) => l1
  obtain ⟨P, rfl, l1⟩ := nmL l1
  have hoff := off2 l1
  k_steps
  unfold Halt
  rename Fr _ _ _ _ => F1
  rename News _ _ _ _ => N1
  rename (_ < _ ∧ _ < _ ∧ _ < _ ∧ _ < _ ∧ _ < _ ∧ _ < _ ∧ _ < _ ∧ AllLt _ news) => hl8
  obtain ⟨C, T, lf, O, rfl, rfl, rfl, rfl, hTC, hlC, hOC, h2C, h1C, hAC⟩ := nm8 hl8
  rename (Obj.data _ = _) => d2
  have d2z := nmO d2
  clear d2
  obtain ⟨o2, rfl, d2⟩ := d2z
  replace d2 := Hid.mk d2
  rename (Obj.data _ = _) => d1
  have d1z := nmO d1
  clear d1
  obtain ⟨o1, rfl, d1⟩ := d1z
  replace d2 := d2.out
  rename (O < lf ∧ _) => hlf
  have N2 := News.re8 N1
  have hl2 : P + 1 + 1 < lf := hlf.2.2.2.1
  have hl1 : P + 1 < lf := hlf.2.2.2.2.1
  rename (_ < O ∧ _) => hlO
  have hO2 : P + 1 + 1 < O := hlO.2.2.1
  have hO1 : P + 1 < O := hlO.2.2.2.1
  have hl2n : (@Ne Nat lf (P + 1 + 1)) := Nat.ne_of_gt hl2
  have hl1n : (@Ne Nat lf (P + 1)) := Nat.ne_of_gt hl1
  have hoffX : ∀ c t, OffA [lf, P + 1 + 1, P + 1] ((C, c) :: (O, t) :: news) := fun _ _ => offA_ins (notin3 (Nat.ne_of_gt hlC) (Nat.ne_of_gt h2C) (Nat.ne_of_gt h1C)) (offA_ins (notin3 (Nat.ne_of_lt hlf.1) (Nat.ne_of_gt hO2) (Nat.ne_of_gt hO1)) (offA_cons (fun q hq => Nat.ne_of_lt (allLt_mem hlf.2.2.2.2.2 q hq)) hoff))
  obtain ⟨r', hr', hnr⟩ := hrv.get hvr
  obtain rfl : r = r' := by
    rw [show ((k : Int)).toNat = k by omega, hkr] at hr'
    exact Option.some.inj hr'
  refine aj_list (σ := List Value × Nat × Value) (fun c => [(lf, W.listOf (List.toArray c.1) c.2.1), (P + 1 + 1, o1), (P + 1, o2)]) [lf, P + 1 + 1, P + 1] (fun c => [(Str.ofString "carry", c.2.2)]) [] (fun i X c => NumsIn X c.1 ((divOf r 0 poly).take i) ∧ c.1.length = i ∧ NumIn X c.2.2 (cvOf r (poly.take i))) ([], 0, Value.ref C) rfl (.tail _ (.tail _ hlp)) (fun _ => rfl) F1 N2 (hoffX _ _) ?hps ?hP ?turn ?done
  case hps =>
    intro p hp
    rw [List.mem_singleton.mp hp]; exact rfl
  case hP => exact ⟨.nil, rfl, NumIn.mk (List.Mem.head _) can_nil rfl⟩
  case turn =>
    intro i v c X u h tk I oI hv hxx hX hI hnt hP F3 N3
    obtain ⟨ys, n, cy⟩ := c
    obtain ⟨hP1, hyl, hP2⟩ := hP
    dsimp only at hP1 hyl hP2
    replace N3 : News _ _ _ ((I, oI) :: (lf, W.listOf (List.toArray ys) n) :: (P + 1 + 1, o1) :: (P + 1, o2) :: X) := N3
    replace F3 : Fr _ _ _ (frT (Str.ofString "c") v [(Str.ofString "carry", cy)] _ u _) := F3
    have hil : (@Ne Nat I lf) := fun e => hI (by rw [e]; exact .head _)
    have hli : (@Ne Nat lf I) := fun e => hil e.symm
    have hoff4 : OffA [I, lf, P + 1 + 1, P + 1] X := offA_cons (fun q hq => (hX q hq).2) fun q hq => (hX q hq).1
    have hnl := listOf_notT (its := List.toArray ys) (n := n)
    obtain ⟨ci, hci, hni⟩ := hpv.get hv
    have hbi := hpb _ (List.mem_of_getElem? hci)
    have hil2 : i < pv.length := (List.getElem?_eq_some_iff.mp hv).1
    obtain ⟨hcb1, hcb2⟩ := hcv i (by have := hpv.len; omega)
    k_steps
    rename Fr _ _ _ _ => F9
    rename News _ _ _ _ => N9
    rename NumIn _ _ (ci + _) => hfin
    rename Ext X _ => xa
    rename Ext _ _ => xb
    rename OffA _ _ => o9
    have hfz := nmV hfin
    clear hfin
    obtain ⟨rv9, rfl, hfin⟩ := hfz
    rw [List.push_toArray] at N9
    refine ⟨_, _, _, (ys ++ [rv9], n + 1, rv9), _, rfl, F9, N9, xa.trans xb, fun p hp => ⟨fun hm => o9 p hp (.tail _ hm), fun e => o9 p hp (by rw [e]; exact .head _)⟩, ?ps, ?ag, ?pp⟩
    case ps =>
      intro p hp
      rw [List.mem_singleton.mp hp]; exact rfl
    case ag => (repeat' (first | exact Agr.base rfl | (refine Agr.st ?_ ?_; rotate_left; (first | exact .inl rfl | exact .inr (.inr rfl) | exact .inr (.inl ⟨_, List.Mem.head _, rfl⟩) | exact .inr (.inl ⟨_, List.Mem.tail _ (List.Mem.head _), rfl⟩)))))
    case pp =>
      refine ⟨?_, ?_, ?_⟩
      · rw [div_take hci]
        exact NumsIn.snoc (hP1.mono fun p hp => xb.1 p (xa.1 p hp)) hfin
      · show (ys ++ [rv9]).length = _
        rw [List.length_append, hyl]; rfl
      · rw [cv_step hci]
        exact hfin
  case done =>
    intro c X u h tk hxx hX hP F3 N3
    obtain ⟨ys, n, cy⟩ := c
    obtain ⟨hP1, hyl, hP2⟩ := hP
    dsimp only at hP1 hyl hP2
    replace N3 : News _ _ _ ((P + 1 + 1, o1) :: (P + 1, o2) :: (lf, W.listOf (List.toArray ys) n) :: X) := fun p hp => N3 p (by
      simp only [List.cons_append, List.nil_append, List.mem_cons] at hp ⊢
      rcases hp with h | h | h | h
      · exact .inr (.inl h)
      · exact .inr (.inr (.inl h))
      · exact .inl h
      · exact .inr (.inr (.inr h)))
    replace F3 : Fr _ _ _ (frO (Str.ofString "c") [(Str.ofString "carry", cy)] _ u _) := F3
    have hoff4 : OffA [P + 1 + 1, P + 1] ((lf, W.listOf (List.toArray ys) n) :: X) := offA_ins (fun hm => by
      rcases List.mem_cons.mp hm with e | hm
      · exact hl2n e
      · exact hl1n (List.mem_singleton.mp hm)) fun q hq hm => hX q hq (.tail _ hm)
    have hdl : divOf r 0 poly = (divOf r 0 poly).take pv.length := by rw [hpv.len, ← div_len r poly 0, List.take_length]
    rw [← hdl, hdiv] at hP1
    have hpl1 : 1 ≤ pv.length := by have := hP1.len; rw [List.length_append] at this; simp at this; omega
    obtain ⟨ve, hve⟩ : ∃ ve, ys[((-1 : Int) + (ys.length : Int)).toNat]? = some ve := ⟨_, List.getElem?_eq_getElem (by omega)⟩
    obtain ⟨de, hde, hne⟩ := hP1.get hve
    have hP3 : NumsIn X (ys.take ((-1 : Int) + (ys.length : Int)).toNat) (builtOf lead (roots.take k ++ roots.drop (k + 1))) := by
      have e1 := hP1.len
      rw [List.length_append, List.length_singleton] at e1
      have e := hP1.take ((-1 : Int) + (ys.length : Int)).toNat
      have e2 : (builtOf lead (roots.take k ++ roots.drop (k + 1))).take ((-1 : Int) + (ys.length : Int)).toNat = builtOf lead (roots.take k ++ roots.drop (k + 1)) := List.take_of_length_le (by omega)
      rw [List.take_append_of_le_length (by omega), e2] at e
      exact e
    have hde0 : de = dy 0 0 0 := by
      have e1 := hP1.len
      rw [List.length_append, List.length_singleton] at e1
      rw [List.getElem?_append_right (by omega), show ((-1 : Int) + (ys.length : Int)).toNat - (builtOf lead (roots.take k ++ roots.drop (k + 1))).length = 0 by omega] at hde
      exact (Option.some.inj hde).symm
    have hmlf : (lf, W.listOf (List.toArray ys) n) ∈ (lf, W.listOf (List.toArray ys) n) :: X := .head _
    have hol : (rv.take ((k : Int)).toNat ++ rv.drop ((k : Int) + 1).toNat).length ≤ 4 := by rw [List.length_append, List.length_take, List.length_drop]; omega
    have hon : NumsIn news (rv.take ((k : Int)).toNat ++ rv.drop ((k : Int) + 1).toNat) (roots.take k ++ roots.drop (k + 1)) := by
      have e1 : ((k : Int)).toNat = k := by omega
      have e2 : ((k : Int) + 1).toNat = k + 1 := by omega
      rw [e1, e2]
      exact (hrv.take k).app (hrv.drop (k + 1))
    k_steps
    unfold Halt
    rename Fr _ _ _ _ => F4
    rename News _ _ _ _ => N4
    rename (_ < _ ∧ _ < _ ∧ _ < _ ∧ _ < _ ∧ AllLt _ X) => hl5
    obtain ⟨D, rfl, hD2, hD1, hDl⟩ := nm5 hl5
    have N5 := News.re5 N4
    have hoff5 : ∀ t, OffA [P + 1 + 1, P + 1] ((D, t) :: (lf, W.listOf (List.toArray ys) n) :: X) := fun t => offA_ins (notin2 (Nat.ne_of_gt hD2) (Nat.ne_of_gt hD1)) hoff4
    refine' Spec.useC Tl [(P + 1 + 1, o1), (P + 1, o2)] (built_walk w mean mg mb O 0 vl _ _ lead hol hob hoc hom) ?k1 ?k2 ?k3 N5 ?k5 rfl (hoff5 _) ?kn ?kp (fun _ _ _ hs h => ListIn.sub hs h) ?kd ?ku ?_
    case k1 => k_asm
    case k2 => k_asm
    case k3 => k_asm
    case k5 => k_asm
    case kn => exact nt_cons (cell_notTl d1) (nt_cons (cell_notTl d2) nt_nil)
    case kp => exact ⟨h1.mono fun p hp => .tail _ (.tail _ (.tail _ (.tail _ (hxx.1 p (.tail _ (.tail _ hp)))))), .tail _ (.tail _ (.tail _ (.tail _ (hxx.1 _ (.tail _ (.head _)))))), hon.mono fun p hp => .tail _ (.tail _ (.tail _ (.tail _ (hxx.1 p (.tail _ (.tail _ hp))))))⟩
    case kd => ktr_room
    case ku => ktr_units
    k_whole
    intro r9 X9 h9 tk9 F9 N9 x9 o9 p9
    obtain ⟨l9, n9, vs9, rfl, hm9, hn9⟩ := p9
    simp only [List.cons_append, List.nil_append] at N9
    k_steps
    unfold Halt
    rename Fr _ _ _ _ => F5
    rename News _ _ _ _ => N6
    rename IsRange _ _ _ _ _ _ _ _ => R1
    have hcl := hpv.len
    have epl : (pv.length : Int) - 1 = ((pv.length - 1 : Nat) : Int) := by omega
    refine LCg.CompSrc.range rfl F5 N6 R1 (n := pv.length - 1) ?hsm ?hn ?hsz ?_
    case hsm => exact small_one (by decide) (by decide) (by omega) (by omega)
    case hn => rw [rangeSize_nat]; omega
    case hsz => rw [sizeLine_eq]; omega
    intro g
    refine comp_inv (pv.length - 1) (fun i ys news => ∃ X, news = [_, _] ++ X ∧ Ext _ X ∧ OffA [_, _] X ∧ NumsIn X ys ((slp poly).take i)) ?fin ?step _ 0 [] _ (by omega) ⟨_, rfl, Ext.refl, o9, .nil⟩
    case step =>
      rintro i ys2 news9 hi ⟨X8, rfl, hx8, ho8, hys⟩ v I oI C' oC D' m₂ h tk E' ⟨t, rfl⟩ hC hxx2 F6 N7 o3 ne
      obtain ⟨vi, hvi⟩ : ∃ vi, pv[i]? = some vi := ⟨_, List.getElem?_eq_getElem (by omega)⟩
      obtain ⟨ci, hci, hni⟩ := hpv.get hvi
      have hvi' : pv[((0 : Int) + (i : Int)).toNat]? = some vi := by rw [show ((0 : Int) + (i : Int)).toNat = i by omega]; exact hvi
      have hbi := hp4 _ (List.mem_of_getElem? hci)
      simp only [List.cons_append, List.nil_append] at N7
      have ho6 := offA6 (off3_app (p := [_, _]) o3) ho8
      k_steps
      rename NumIn _ _ (ci * _) => hfin
      rename OffA [I, _, _, _, _] _ => hofin
      refine LCg.CompEnd.intro (by assumption) (by assumption) ([_, _] ++ _) (fun p hp => hp) (off3_pre (p := [_, _]) o3 (by assumption)) trivial ⟨_, rfl, ?x1, ?x2, ?x3⟩
      case x1 => exact hx8.trans (by assumption)
      case x2 => exact fun q hq hm => hofin q hq (.tail _ (.tail _ (.tail _ hm)))
      case x3 =>
        rw [slp_take (by omega) hci]
        refine NumsIn.snoc (hys.mono fun p hp => Ext.mem (by assumption) hp) ?_
        have e : (pv.length : Int) - 1 - (0 + (i : Int)) = ((poly.length - 1 - i : Nat) : Int) := by omega
        rw [e] at hfin
        exact hfin
    case fin =>
      rintro ys2 news9 ⟨X8, rfl, hx8, ho8, hys⟩
      unfold LCg.FinA
      intro D2 h tk F6 N7 o2
      rw [hcl, ← slp_len poly, List.take_length] at hys
      have hoD := offA_cons (fun q hq => off1_mem o2 q (List.mem_append.mpr (.inr hq))) ho8
      simp only [List.cons_append, List.nil_append] at N7
      have hnl := list_notT (ys := ys2)
      have en : Ext news X := (Ext.ins (Ext.ins Ext.refl (allLt_mem hlO.2.2.2.2)) (allLt_mem hAC)).trans hxx
      have hlfn : ∀ p ∈ news, p.1 < lf := allLt_mem hlf.2.2.2.2.2
      have en2 : ∀ t t', Ext news ((D, t) :: (lf, t') :: X) := fun t t' => Ext.ins (Ext.ins en hlfn) fun p hp => Nat.lt_trans (hlfn p hp) hDl
      have en3 : Ext news X8 := ((en2 _ _).trans x9).trans hx8
      have hO8 : (O, W.listOf (List.toArray (rv.take ((k : Int)).toNat ++ rv.drop ((k : Int) + 1).toNat)) 0) ∈ X8 := hx8.1 _ (x9.1 _ (.tail _ (.tail _ (hxx.1 _ (.tail _ (.head _))))))
      k_steps
      rename Fr _ _ _ _ => F9z
      rename News _ _ _ _ => N9z
      rename Ext _ _ => xb
      rename Ext X8 _ => xa
      exact hret _ _ _ _ F9z (News.drop1 (News.drop1 (News.drop1 N9z))) ((en3.trans xa).trans xb) rfl
end

section
local macro_rules | `(tactic| kun_tup) => `(tactic| exact TupIn.isTup (by assumption) (by k_asm) (by k_asm) (by k_asm))
local macro_rules | `(tactic| cell_enter) => `(tactic| (refine' code_def ?k1 ?k2 ?k3 ?k4 ?k5 ?kA ?kF ?kK ?k6 ?k7 ?k8 ?k9 ?kB ?_ ?c2 ?c3 ?c4 ?c5; (case kA => exact rfl); (case kF => exact rfl); (case kK => assumption); (case k1 => k_asm); (case k2 => k_asm); (case k3 => k_asm); (case k4 => k_asm); (case k5 => k_asm); (case k6 => k_is); (case k7 => k_is); (case k8 => ktr_room); (case k9 => first | exact (by assumption : BindAs _ _ _ _) _ _ _ _ _ (by k_in) (by k_is) | exact BindsTo.of_eq rfl | exact binds_K (by k_in) rfl (by k_is) rfl rfl rfl); (case c5 => decide); (case kB => exact locs rfl); (case c2 => exact rfl); (case c3 => exact rfl); (case c4 => exact rfl); k_whole; intro g' L' h' FG' F' N' B' X' T'; (try dsimp only); (try k_lift B'); (try k_fold)))
local macro_rules | `(tactic| walk_at "ite") => `(tactic| (k_here; first
  | (refine' ite_pos ?hc9 ?_; (case hc9 => ((try simp only [bne_iff_ne, beq_iff_eq, Bool.not_eq_true', bne_eq_false_iff_eq, beq_eq_false_iff_ne, decide_eq_true_eq, decide_eq_false_iff_not, ne_eq, Bool.and_eq_true, Bool.or_eq_true, not_false_eq_true]); first | done | omega)); walk_say "PRUNED +")
  | (refine' ite_neg ?hc9 ?_; (case hc9 => ((try simp only [bne_iff_ne, beq_iff_eq, Bool.not_eq_true', bne_eq_false_iff_eq, beq_eq_false_iff_ne, decide_eq_true_eq, decide_eq_false_iff_not, ne_eq, Bool.and_eq_true, Bool.or_eq_true, not_false_eq_true]); first | done | omega)); walk_say "PRUNED -")))
local macro_rules | `(tactic| ke_read) => `(tactic| first | exact TupIn.reads (by with_reducible assumption) (by k_asm) (by k_asm) (by k_asm) | exact TupIn.reads TupIn.zero (by k_asm) (by k_asm) (by k_asm) | exact TupIn.reads TupIn.inf (by k_asm) (by k_asm) (by k_asm) | exact TupIn.reads TupIn.ninf (by k_asm) (by k_asm) (by k_asm) | exact TupIn.reads TupIn.nan (by k_asm) (by k_asm) (by k_asm))
local macro_rules | `(tactic| walk_at "compareOp Eq ref ref") => `(tactic| (k_here; (with_reducible show wpAny _ _ (compareOp CmpOp.Eq (Value.ref _) (Value.ref _)) _ _ _); k_dflt (refine eq_dataH (by ke_read) (by ke_read) rfl rfl (by ktr_units) ?_); ke_norm))
local macro_rules | `(tactic| walk_at "compareOp NotEq ref ref") => `(tactic| (k_here; (with_reducible show wpAny _ _ (compareOp CmpOp.NotEq (Value.ref _) (Value.ref _)) _ _ _); k_dflt (refine ne_dataH (by ke_read) (by ke_read) rfl rfl (by ktr_units) ?_); ke_norm))
local macro_rules | `(tactic| walk_at "binaryOp LShift int int") => `(tactic| (k_here; (with_reducible refine lshift_int ?kn ?ks ?_); (case kn => omega); (case ks => omega)))
local macro_rules | `(tactic| walk_at "binaryOp Mult int int") => `(tactic| (k_here; (with_reducible refine mul_int ?_ ?km); rotate_left; (case km => exact IntMulOk.of_le (m := 60000000) (n := 60000000) (by omega) (by omega) (by decide))))
local macro_rules | `(tactic| walk_at "eval Name") => `(tactic| (k_here; (with_reducible show wpAny _ _ (eval (Expr.Name _ _) (envOf _ _ _ _ _)) _ _ _); name_kind "local"; k_dflt (refine' ld ?k1 ?k2 ?_; (case k1 => k_asm); (case k2 => exact rfl); k_whole)))
local macro_rules | `(tactic| walk_at "binaryOp RShift int int") => `(tactic| (k_here; (with_reducible refine rshift_int ?kn ?_); (case kn => omega)))
local macro_rules | `(tactic| walk_at "inplaceOp Pow int int") => `(tactic| (k_here; (with_reducible refine ipow_int ?kn ?ks ?_); (case kn => omega); (case ks => omega)))
local macro_rules | `(tactic| walk_at "inplaceOp Mult int int") => `(tactic| (k_here; (with_reducible refine imul_int ?_ ?km); rotate_left; (case km => exact IntMulOk.of_le (m := 60000000) (n := 60000000) (by omega) (by omega) (by decide))))
local macro_rules | `(tactic| walk_at "subscriptTail") => `(tactic| (k_here; (with_reducible show wpAny _ _ (subscriptTail _ _ (Value.ref _) (Value.int _ _)) _ _ _); k_dflt (refine' item_tupleT ?k1 ?k2 ?k3 ?k4 ?k5 ?_ ?k6; (case k1 => first | exact TupIn.isTup (by with_reducible assumption) (by k_asm) (by k_asm) (by k_asm)); (case k2 => decide); (case k3 => decide); (case k4 => exact rfl); (case k5 => exact rfl); (case k6 => with_unfolding_all rfl); k_whole)))
theorem Wd.up {u v u' v' : Nat} {d : Dyadic} (h : Wd u v d) (hu : u ≤ u') (hv : v + (u' - u) ≤ v') : Wd u' v' d := by
  have := h.lift (u' - u)
  rw [show u + (u' - u) = u' by omega] at this
  exact this.mono hv
theorem wd_zero (u v : Nat) : Wd u v 0 := ⟨0, by simp, by rw [show Builtin.Int.intBits 0 = 0 by decide]; exact Nat.zero_le _⟩
theorem wd_next {u v : Nat} {r : Dyadic} (hr : Wd 20 70 r) : ∀ (p : List Dyadic) (c : Dyadic), Wd u v c → (∀ d ∈ p, Wd u v d) → ∀ d ∈ nextOf r c p, Wd (u + 20) (v + 71) d := by
  intro p
  induction p with
  | nil =>
    intro c hc _ d hd
    simp only [nextOf, List.mem_singleton] at hd
    subst hd
    exact (hr.mul hc).neg.up (by omega) (by omega)
  | cons e p ih =>
    intro c hc hp d hd
    simp only [nextOf] at hd
    rcases List.mem_cons.mp hd with rfl | hd
    · have h1 : Wd (u + 20) (v + 70) (r * c) := (hr.mul hc).up (by omega) (by omega)
      have h2 : Wd (u + 20) (v + 20) e := (hp e (.head _)).up (by omega) (by omega)
      exact (h2.sub h1).mono (by omega)
    · exact ih e (hp e (.head _)) (fun d hd => hp d (.tail _ hd)) d hd
theorem wd_step {u v : Nat} {r : Dyadic} {p : List Dyadic} (hr : Wd 20 70 r) (hp : ∀ d ∈ p, Wd u v d) : ∀ d ∈ stepOf r p, Wd (u + 20) (v + 71) d := by
  cases p with
  | nil => intro d hd; cases hd
  | cons c p =>
    intro d hd
    rw [step_form] at hd
    rcases List.mem_cons.mp hd with rfl | hd
    · exact (hp d (.head _)).up (by omega) (by omega)
    · exact wd_next hr p c (hp c (.head _)) (fun d hd => hp d (.tail _ hd)) d hd
theorem wd_fold : ∀ (rs : List Dyadic) (u v : Nat) (p : List Dyadic), (∀ r ∈ rs, Wd 20 70 r) → (∀ d ∈ p, Wd u v d) → ∀ d ∈ rs.foldl (fun p r => stepOf r p) p, Wd (u + 20 * rs.length) (v + 71 * rs.length) d := by
  intro rs
  induction rs with
  | nil => intro u v p _ hp d hd; exact hp d hd
  | cons r rs ih =>
    intro u v p hr hp d hd
    have := ih (u + 20) (v + 71) (stepOf r p) (fun q hq => hr q (.tail _ hq)) (wd_step (hr r (.head _)) hp) d hd
    exact this.up (by simp only [List.length_cons]; omega) (by simp only [List.length_cons]; omega)
theorem wd_built {lead : Dyadic} {rs : List Dyadic} (hl : Wd 20 70 lead) (hr : ∀ r ∈ rs, Wd 20 70 r) (hn : rs.length ≤ 4) : ∀ d ∈ builtOf lead rs, Wd 100 354 d := by
  intro d hd
  have := wd_fold rs 20 70 [lead] hr (fun d hd => by rw [List.mem_singleton.mp hd]; exact hl) d hd
  exact this.up (by omega) (by omega)
theorem wd_foldl (f : Dyadic → Dyadic → Dyadic) (hf : ∀ U V a b, Wd U V a → 100 ≤ U → U + 260 ≤ V → Wd 100 360 b → Wd (U + 20) (V + 100) (f a b)) : ∀ (p : List Dyadic) (U V : Nat) (a : Dyadic), (∀ d ∈ p, Wd 100 360 d) → 100 ≤ U → U + 260 ≤ V → Wd U V a → Wd (U + 20 * p.length) (V + 100 * p.length) (p.foldl f a) := by
  intro p
  induction p with
  | nil => intro U V a _ _ _ h; exact h
  | cons b p ih =>
    intro U V a hp hV hU ha
    have := ih (U + 20) (V + 100) (f a b) (fun d hd => hp d (.tail _ hd)) (by omega) (by omega) (hf U V a b ha hV hU (hp b (.head _)))
    exact this.up (by simp only [List.length_cons]; omega) (by simp only [List.length_cons]; omega)
theorem wd_lin {U V : Nat} {x a b : Dyadic} (hx : Wd 20 70 x) (ha : Wd U V a) (hU : 100 ≤ U) (hV : U + 260 ≤ V) (hb : Wd 100 360 b) : Wd (U + 20) (V + 100) (a * x + b) := by
  have h1 : Wd (U + 20) (V + 70) (a * x) := ha.mul hx
  have h2 : Wd (U + 20) (V + 20) b := hb.up (by omega) (by omega)
  exact (h1.add h2).mono (by omega)
theorem wd_nest {x : Dyadic} {p : List Dyadic} (hx : Wd 20 70 x) (hp : ∀ d ∈ p, Wd 100 360 d) (hn : p.length ≤ 5) : Wd 200 860 (nestOf p x) := by
  have := wd_foldl (fun v c => v * x + c) (fun U V a b ha hU hV hb => wd_lin hx ha hU hV hb) p 100 360 0 hp (by omega) (by omega) (wd_zero _ _)
  exact this.up (by omega) (by omega)
theorem wd_cv {r : Dyadic} {p : List Dyadic} (hx : Wd 20 70 r) (hp : ∀ d ∈ p, Wd 100 360 d) (hn : p.length ≤ 5) : Wd 200 860 (cvOf r p) := by
  have := wd_foldl (fun v c => c + r * v) (fun U V a b ha hU hV hb => by
    have e : b + r * a = a * r + b := by grind
    show Wd _ _ (b + r * a)
    rw [e]
    exact wd_lin hx ha hU hV hb) p 100 360 0 hp (by omega) (by omega) (wd_zero _ _)
  exact this.up (by omega) (by omega)
theorem wd_prod {lead x : Dyadic} : ∀ (rs : List Dyadic) (u v : Nat), Wd u v lead → (∀ r ∈ rs, Wd 20 71 (x - r)) → Wd (u + 20 * rs.length) (v + 71 * rs.length) (prodOf lead x rs) := by
  intro rs
  induction rs generalizing lead with
  | nil => intro u v h _; exact h
  | cons r rs ih =>
    intro u v h hr
    have := ih (lead := lead * (x - r)) (u + 20) (v + 71) (h.mul (hr r (.head _))) fun q hq => hr q (.tail _ hq)
    exact this.up (by simp only [List.length_cons]; omega) (by simp only [List.length_cons]; omega)
theorem wd_mulfold {lead : Dyadic} : ∀ (rs : List Dyadic) (u v : Nat), Wd u v lead → (∀ r ∈ rs, Wd 20 70 r) → Wd (u + 20 * rs.length) (v + 70 * rs.length) (rs.foldl (fun v r => v * r) lead) := by
  intro rs
  induction rs generalizing lead with
  | nil => intro u v h _; exact h
  | cons r rs ih =>
    intro u v h hr
    have := ih (lead := lead * r) (u + 20) (v + 70) (h.mul (hr r (.head _))) fun q hq => hr q (.tail _ hq)
    exact this.up (by simp only [List.length_cons]; omega) (by simp only [List.length_cons]; omega)
theorem wd_sum : ∀ (rs : List Dyadic), (∀ r ∈ rs, Wd 20 70 r) → Wd 20 (70 + rs.length) rs.sum := by
  intro rs
  induction rs with
  | nil => intro _; exact wd_zero _ _
  | cons r rs ih =>
    intro hr
    rw [List.sum_cons]
    exact ((hr r (.head _)).add (ih fun q hq => hr q (.tail _ hq))).mono (by simp only [List.length_cons]; omega)
theorem wd_pow {x : Dyadic} (hx : Wd 20 70 x) : ∀ k : Nat, Wd (20 * k) (70 * k + 1) (x ^ k) := by
  intro k
  induction k with
  | zero =>
    rw [Dyadic.pow_zero]
    exact ⟨1, rfl, by decide⟩
  | succ k ih =>
    rw [Dyadic.pow_succ]
    exact (ih.mul hx).up (by omega) (by omega)
theorem nOf_wd {n : Nat} (h : n ≤ 4) : Wd 0 3 (nOf n) := by
  refine ⟨n, rfl, ?_⟩
  obtain h | h | h | h | h : n = 0 ∨ n = 1 ∨ n = 2 ∨ n = 3 ∨ n = 4 := by omega
  all_goals (subst h; decide)
theorem wd_slp {p : List Dyadic} (hp : ∀ d ∈ p, Wd 100 354 d) (hn : p.length ≤ 5) : ∀ d ∈ slp p, Wd 100 360 d := by
  intro d hd
  obtain ⟨i, hi⟩ := List.mem_iff_getElem?.mp hd
  have hl := (List.getElem?_eq_some_iff.mp hi).1
  rw [slp_len] at hl
  have hc : p[i]? = some p[i] := List.getElem?_eq_getElem (by omega)
  have := slp_get p i _ (by omega) hc
  rw [hi] at this
  rw [Option.some.inj this]
  exact ((hp _ (List.mem_of_getElem? hc)).mul (nOf_wd (by omega))).up (by omega) (by omega)
theorem wd_terms {p : List Dyadic} {x : Dyadic} (hx : Wd 20 70 x) (hp : ∀ d ∈ p, Wd 100 354 d) (hn : p.length ≤ 5) : ∀ d ∈ termsOf p x, Wd 180 640 d := by
  intro d hd
  obtain ⟨i, hi⟩ := List.mem_iff_getElem?.mp hd
  have hl := (List.getElem?_eq_some_iff.mp hi).1
  rw [terms_len] at hl
  have hc : p[i]? = some p[i] := List.getElem?_eq_getElem (by omega)
  have := terms_get (x := x) hc
  rw [hi] at this
  rw [Option.some.inj this]
  exact ((hp _ (List.mem_of_getElem? hc)).mul (wd_pow hx (p.length - 1 - i))).up (by omega) (by omega)
theorem mem_take {l : List Dyadic} {i : Nat} {d : Dyadic} (h : d ∈ l.take i) : d ∈ l := List.mem_of_mem_take h
theorem bd4 {u v : Nat} {d : Dyadic} (h : Wd u v d) (h1 : u ≤ 400000) (h2 : v ≤ 400000) : Bd 400000 d := h.bd (by omega) (by omega)
set_option maxRecDepth 100000 in
set_option maxHeartbeats 8000000 in
theorem built_ok (w : World) (mean : ExcName → Option Value) (mg mb : Str → Option Value) (lr : Addr) (nr : Nat) (vl : Value) (rv : List Value) (roots : List Dyadic) (lead : Dyadic) (hrl : rv.length ≤ 4) (hn : roots.length ≤ 4) (hl : Wd 20 70 lead) (hr : ∀ r ∈ roots, Wd 20 70 r) :
    Spec w mean mg mb 177 30 350 [vl, .ref lr] (BuiltPre lr nr vl rv roots lead) (fun news r => ListIn news r (builtOf lead roots)) := by
  have hb : ∀ i, ∀ c ∈ builtOf lead (roots.take i), Wd 100 354 c := fun i => wd_built hl (fun q hq => hr q (mem_take hq)) (by rw [List.length_take]; omega)
  exact built_walk w mean mg mb lr nr vl rv roots lead hrl (fun r h => bd4 (hr r h) (by omega) (by omega)) (fun i _ c hc => bd4 (hb i c hc) (by omega) (by omega))
    (fun i r h c hc => bd4 ((hr r (List.mem_of_getElem? h)).mul (hb i c hc)) (by omega) (by omega))
set_option maxRecDepth 100000 in
set_option maxHeartbeats 8000000 in
theorem value_ok (w : World) (mean : ExcName → Option Value) (mg mb : Str → Option Value) (lp lr : Addr) (np nr : Nat) (vl vx : Value) (pv rv : List Value) (roots : List Dyadic) (lead x : Dyadic) (hpl : pv.length ≤ 5) (hn : roots.length ≤ 4) (hl : Wd 20 70 lead) (hr : ∀ r ∈ roots, Wd 20 70 r) (hx : Wd 20 70 x) :
    Spec w mean mg mb 196 60 500 [.ref lp, vl, .ref lr, vx] (ValuePre lp lr np nr vl vx pv rv (builtOf lead roots) roots lead x) (fun news r => r = .bool true) := by
  have hp := wd_built hl hr hn
  have hlen : (builtOf lead roots).length ≤ 5 := by rw [built_len]; omega
  have hd : ∀ r ∈ roots, Wd 20 71 (x - r) := fun r h => hx.sub (hr r h)
  refine value_walk w mean mg mb lp lr np nr vl vx pv rv (builtOf lead roots) roots lead x (nest_built lead x roots) hpl (bd4 hx (by omega) (by omega)) (hx.bd (by omega) (by omega)) (hx.bd (by omega) (by omega))
    ((terms_nest x _).trans (nest_built lead x roots)) (fun d h => (wd_terms hx hp hlen d h).bd (by omega) (by omega)) (fun k hk => bd4 (wd_pow hx k) (by omega) (by omega))
    (fun r h => ⟨bd4 (hr r h) (by omega) (by omega), bd4 (hd r h) (by omega) (by omega)⟩) (fun r h => (hr r h).bd (by omega) (by omega))
    (fun i _ => ?_) (fun c h => bd4 (hp c h) (by omega) (by omega)) (fun i _ => ?_)
  · have := wd_prod (lead := lead) (x := x) (roots.take i) 20 70 hl fun r h => hd r (mem_take h)
    exact bd4 this (by rw [List.length_take]; omega) (by rw [List.length_take]; omega)
  · have := wd_nest (p := (builtOf lead roots).take i) hx (fun d h => (hp d (mem_take h)).mono (by omega)) (by rw [List.length_take]; omega)
    exact ⟨bd4 this (by omega) (by omega), bd4 (this.mul hx) (by omega) (by omega)⟩
set_option maxRecDepth 100000 in
set_option maxHeartbeats 8000000 in
theorem root_ok (w : World) (mean : ExcName → Option Value) (mg mb : Str → Option Value) (lp lr : Addr) (np nr : Nat) (vl : Value) (pv rv : List Value) (roots : List Dyadic) (lead r : Dyadic) (k : Nat) (tk0 : Tok) (hpl : pv.length ≤ 5) (hrl : rv.length ≤ 4) (hkr : roots[k]? = some r) (hn : roots.length ≤ 4) (hl : Wd 20 70 lead) (hr : ∀ r ∈ roots, Wd 20 70 r) :
    Spec w mean mg mb 201 60 500 [.ref lp, vl, .ref lr, .int k tk0] (RootPre lp lr np nr vl pv rv (builtOf lead roots) roots lead) (fun news r => r = .bool true) := by
  have hrr := hr r (List.mem_of_getElem? hkr)
  have hp := wd_built hl hr hn
  have hlen : (builtOf lead roots).length ≤ 5 := by rw [built_len]; omega
  have ho : ∀ q ∈ roots.take k ++ roots.drop (k + 1), Wd 20 70 q := fun q hq => by
    rcases List.mem_append.mp hq with h | h
    · exact hr q (List.mem_of_mem_take h)
    · exact hr q (List.mem_of_mem_drop h)
  have hon : (roots.take k ++ roots.drop (k + 1)).length ≤ 4 := by rw [List.length_append, List.length_take, List.length_drop]; omega
  have hob : ∀ i, ∀ c ∈ builtOf lead ((roots.take k ++ roots.drop (k + 1)).take i), Wd 100 354 c := fun i => wd_built hl (fun q hq => ho q (mem_take hq)) (by rw [List.length_take]; omega)
  have hs := wd_slp hp hlen
  have hsl : (slp (builtOf lead roots)).length ≤ 5 := by rw [slp_len]; omega
  have hd : ∀ q ∈ roots.take k ++ roots.drop (k + 1), Wd 20 71 (r - q) := fun q h => hrr.sub (ho q h)
  have hbt := built_take (lead := lead) hkr
  obtain ⟨pq, hpq, _⟩ := built_form lead (roots.take k ++ roots.drop (k + 1))
  refine root_walk w mean mg mb lp lr np nr vl pv rv (builtOf lead roots) roots lead r k tk0 hpl hrl hkr ?_ (bd4 hrr (by omega) (by omega)) (fun c h => bd4 (hp c h) (by omega) (by omega)) (fun i _ => ?_)
    (fun q h => bd4 (ho q h) (by omega) (by omega)) (fun i _ c h => bd4 (hob i c h) (by omega) (by omega)) (fun c h => (hp c h).bd (by omega) (by omega)) (fun c h => bd4 (hs c h) (by omega) (by omega)) (fun i _ => ?_)
    (fun q h => ⟨bd4 (ho q h) (by omega) (by omega), bd4 (hd q h) (by omega) (by omega)⟩) (fun i _ => ?_) ?_ (fun i q h c hc => bd4 ((ho q (List.mem_of_getElem? h)).mul (hob i c hc)) (by omega) (by omega))
  · rw [hbt, hpq]; exact div_step r lead pq
  · have := wd_cv (p := (builtOf lead roots).take i) hrr (fun d h => (hp d (mem_take h)).mono (by omega)) (by rw [List.length_take]; omega)
    exact ⟨bd4 this (by omega) (by omega), bd4 (hrr.mul this) (by omega) (by omega)⟩
  · have := wd_nest (p := (slp (builtOf lead roots)).take i) hrr (fun d h => hs d (mem_take h)) (by rw [List.length_take]; omega)
    exact ⟨bd4 this (by omega) (by omega), bd4 (this.mul hrr) (by omega) (by omega)⟩
  · have := wd_prod (lead := lead) (x := r) ((roots.take k ++ roots.drop (k + 1)).take i) 20 70 hl fun q h => hd q (mem_take h)
    exact bd4 this (by rw [List.length_take]; omega) (by rw [List.length_take]; omega)
  · rw [hbt, hpq, slope_step, ← hpq, nest_built]
end

section
local macro_rules | `(tactic| kun_tup) => `(tactic| exact TupIn.isTup (by assumption) (by k_asm) (by k_asm) (by k_asm))
local macro_rules | `(tactic| cell_enter) => `(tactic| (refine' code_def ?k1 ?k2 ?k3 ?k4 ?k5 ?kA ?kF ?kK ?k6 ?k7 ?k8 ?k9 ?kB ?_ ?c2 ?c3 ?c4 ?c5; (case kA => exact rfl); (case kF => exact rfl); (case kK => assumption); (case k1 => k_asm); (case k2 => k_asm); (case k3 => k_asm); (case k4 => k_asm); (case k5 => k_asm); (case k6 => k_is); (case k7 => k_is); (case k8 => ktr_room); (case k9 => first | exact (by assumption : BindAs _ _ _ _) _ _ _ _ _ (by k_in) (by k_is) | exact BindsTo.of_eq rfl | exact binds_K (by k_in) rfl (by k_is) rfl rfl rfl); (case c5 => decide); (case kB => exact locs rfl); (case c2 => exact rfl); (case c3 => exact rfl); (case c4 => exact rfl); k_whole; intro g' L' h' FG' F' N' B' X' T'; (try dsimp only); (try k_lift B'); (try k_fold)))
local macro_rules | `(tactic| walk_at "ite") => `(tactic| (k_here; first
  | (refine' ite_pos ?hc9 ?_; (case hc9 => ((try simp only [bne_iff_ne, beq_iff_eq, Bool.not_eq_true', bne_eq_false_iff_eq, beq_eq_false_iff_ne, decide_eq_true_eq, decide_eq_false_iff_not, ne_eq, Bool.and_eq_true, Bool.or_eq_true, not_false_eq_true]); first | done | omega)); walk_say "PRUNED +")
  | (refine' ite_neg ?hc9 ?_; (case hc9 => ((try simp only [bne_iff_ne, beq_iff_eq, Bool.not_eq_true', bne_eq_false_iff_eq, beq_eq_false_iff_ne, decide_eq_true_eq, decide_eq_false_iff_not, ne_eq, Bool.and_eq_true, Bool.or_eq_true, not_false_eq_true]); first | done | omega)); walk_say "PRUNED -")))
local macro_rules | `(tactic| ke_read) => `(tactic| first | exact TupIn.reads (by with_reducible assumption) (by k_asm) (by k_asm) (by k_asm) | exact TupIn.reads TupIn.zero (by k_asm) (by k_asm) (by k_asm) | exact TupIn.reads TupIn.inf (by k_asm) (by k_asm) (by k_asm) | exact TupIn.reads TupIn.ninf (by k_asm) (by k_asm) (by k_asm) | exact TupIn.reads TupIn.nan (by k_asm) (by k_asm) (by k_asm))
local macro_rules | `(tactic| walk_at "compareOp Eq ref ref") => `(tactic| (k_here; (with_reducible show wpAny _ _ (compareOp CmpOp.Eq (Value.ref _) (Value.ref _)) _ _ _); k_dflt (refine eq_dataH (by ke_read) (by ke_read) rfl rfl (by ktr_units) ?_); ke_norm))
local macro_rules | `(tactic| walk_at "compareOp NotEq ref ref") => `(tactic| (k_here; (with_reducible show wpAny _ _ (compareOp CmpOp.NotEq (Value.ref _) (Value.ref _)) _ _ _); k_dflt (refine ne_dataH (by ke_read) (by ke_read) rfl rfl (by ktr_units) ?_); ke_norm))
local macro_rules | `(tactic| walk_at "binaryOp LShift int int") => `(tactic| (k_here; (with_reducible refine lshift_int ?kn ?ks ?_); (case kn => omega); (case ks => omega)))
local macro_rules | `(tactic| walk_at "binaryOp Mult int int") => `(tactic| (k_here; (with_reducible refine mul_int ?_ ?km); rotate_left; (case km => exact IntMulOk.of_le (m := 60000000) (n := 60000000) (by omega) (by omega) (by decide))))
local macro_rules | `(tactic| walk_at "eval Name") => `(tactic| (k_here; (with_reducible show wpAny _ _ (eval (Expr.Name _ _) (envOf _ _ _ _ _)) _ _ _); name_kind "local"; k_dflt (refine' ld ?k1 ?k2 ?_; (case k1 => k_asm); (case k2 => exact rfl); k_whole)))
local macro_rules | `(tactic| walk_at "binaryOp RShift int int") => `(tactic| (k_here; (with_reducible refine rshift_int ?kn ?_); (case kn => omega)))
local macro_rules | `(tactic| walk_at "inplaceOp Pow int int") => `(tactic| (k_here; (with_reducible refine ipow_int ?kn ?ks ?_); (case kn => omega); (case ks => omega)))
local macro_rules | `(tactic| walk_at "inplaceOp Mult int int") => `(tactic| (k_here; (with_reducible refine imul_int ?_ ?km); rotate_left; (case km => exact IntMulOk.of_le (m := 60000000) (n := 60000000) (by omega) (by omega) (by decide))))
local macro_rules | `(tactic| walk_at "subscriptTail") => `(tactic| (k_here; (with_reducible show wpAny _ _ (subscriptTail _ _ (Value.ref _) (Value.int _ _)) _ _ _); k_dflt (refine' item_tupleT ?k1 ?k2 ?k3 ?k4 ?k5 ?_ ?k6; (case k1 => first | exact TupIn.isTup (by with_reducible assumption) (by k_asm) (by k_asm) (by k_asm)); (case k2 => decide); (case k3 => decide); (case k4 => exact rfl); (case k5 => exact rfl); (case k6 => with_unfolding_all rfl); k_whole)))
def RootsInv (cells : List (Addr × Obj)) (i : Nat) (ys : List Value) (news : List (Addr × Obj)) : Prop :=
  ∃ X ds, news = cells ++ X ∧ OffA (cells.map fun q => q.1) X ∧ NumsIn X ys ds ∧ ds.length = i ∧ ∀ d ∈ ds, Wd 20 70 d
theorem RootsInv.nil {cells : List (Addr × Obj)} : RootsInv cells 0 [] cells := ⟨[], [], by rw [List.append_nil], (fun _ h => nomatch h), .nil, rfl, fun _ h => nomatch h⟩
theorem notin_lt {adr : List Addr} {D : Addr} (h : ∀ a ∈ adr, a < D) : D ∉ adr := fun hm => Nat.lt_irrefl _ (h _ hm)
theorem cells_lt {cells rest : List (Addr × Obj)} {D : Addr} (h : ∀ p ∈ rest, p.1 < D) (hs : ∀ p ∈ cells, p ∈ rest) : ∀ a ∈ cells.map (fun q => q.1), a < D := fun a ha => by
  obtain ⟨p, hp, rfl⟩ := List.mem_map.mp ha
  exact h p (hs p hp)
theorem nmI {r : Int} (h : 0 ≤ r) : ∃ r', r' = r ∧ 0 ≤ r' := ⟨r, rfl, h⟩
structure GoIf : Prop where
theorem mod_genH {prog : Program} {w : World} {A : Around} {E Q : Value → Shared → Prop} {s : Shared} {a b : Int} {t u : Tok} (hb : 0 < b) (h : ∀ r, r = a.fmod b → Hid (0 ≤ r ∧ r < b) → Q (.int r s.toks) { s with toks := s.toks + 1 }) : wpAny (model prog w) A (binaryOp .Mod (.int a t) (.int b u)) Q E s :=
  mod_int' (by omega) (h _ rfl ⟨Int.fmod_nonneg_of_pos a hb, Int.fmod_lt_of_pos a hb⟩)
theorem setL_some : ∀ (l : List Value) (j : Nat) (v : Value), j < l.length → W.ki_setL l j v = some (l.set j v)
  | [], _, _, h => by simp at h
  | x :: r, 0, v, _ => rfl
  | x :: r, j + 1, v, h => by
    have := setL_some r j v (by simpa using h)
    unfold W.ki_setL
    rw [this]; rfl
theorem NumsIn.set {n : List (Addr × Obj)} {vs : List Value} {ds : List Dyadic} {v : Value} {d : Dyadic} (h : NumsIn n vs ds) (hv : NumIn n v d) : ∀ j, NumsIn n (vs.set j v) (ds.set j d) := by
  induction h with
  | nil => intro j; exact .nil
  | cons h hs ih => intro j; cases j with
    | zero => exact .cons hv hs
    | succ j => exact .cons h (ih j)
section
variable {prog : Program} {w : World} {A : Around} {E : Value → Shared → Prop} {s : Shared} {h₀ : Heap} {L D : Addr} {m : Str → Option Value} {led led' : List (Addr × Obj)}
theorem set_neg1 {ys : List Value} {k : Nat} {t : Tok} {v : Value} {Q : Unit → Shared → Prop} (F : Fr h₀ L s.heap m) (N : News h₀ L s.heap led) (h1 : 1 ≤ ys.length) (U : W.Upd D (W.listOf (List.toArray ys) k) (W.listOf (List.toArray (ys.set (ys.length - 1) v)) k) led led')
    (h : ∀ h', Fr h₀ L h' m → News h₀ L h' led' → Q () { s with heap := h' }) : wpAny (model prog w) A (setItem (.ref D) (.int (-1) t) v) Q E s := by
  refine W.ki_setNeg (its := ys.toArray) (j := ys.length - 1) F N (by decide) (by decide) ?_ (setL_some ys _ v (by omega)) U h
  rw [PySem.seqIndex_neg (by decide) (by rw [List.size_toArray]; omega), List.size_toArray]
  congr 1
  omega
/-- a statement that ends, the frame kept, the ledger as R says -/
def LawSt (h₀ : Heap) (L : Addr) (m : Str → Option Value) (s : Shared) (R : List (Addr × Obj) → Prop) (f : Flow) (s' : Shared) : Prop := f = .next ∧ ∃ h tk led, s' = { s with heap := h, toks := tk } ∧ Fr h₀ L h m ∧ News h₀ L h led ∧ R led
theorem st_cut {x : Sem Flow} {Q : Flow → Shared → Prop} (R : List (Addr × Obj) → Prop) (h1 : wpAny (model prog w) A x (LawSt h₀ L m s R) E s)
    (h2 : ∀ h tk led, Fr h₀ L h m → News h₀ L h led → R led → Q .next { s with heap := h, toks := tk }) : wpAny (model prog w) A x Q E s := by
  refine wpAny_mono h1 (fun f s' hq => ?_) fun _ _ e => e
  obtain ⟨rfl, h, tk, led, rfl, F, N, hR⟩ := hq
  exact h2 h tk led F N hR
end
def RootsAt (cells : List (Addr × Obj)) (D : Addr) (n : Nat) (led : List (Addr × Obj)) : Prop :=
  ∃ X ys k ds, led = cells ++ X ∧ OffA (cells.map fun q => q.1) X ∧ (D, W.listOf (List.toArray ys) k) ∈ X ∧ NumsIn X ys ds ∧ ds.length = n ∧ ∀ d ∈ ds, Wd 20 70 d
theorem if_cut1 {prog : Program} {w : World} {A : Around} {E : Value → Shared → Prop} {s : Shared} {h₀ : Heap} {L D : Addr} {m : Str → Option Value} {c4 c3 c2 c1 : Addr × Obj} {o : Obj} {X : List (Addr × Obj)} {x : Sem Flow} {Q : Flow → Shared → Prop} (n : Nat)
    (F : Fr h₀ L s.heap m) (N : News h₀ L s.heap ((D, o) :: c4 :: c3 :: c2 :: c1 :: X)) (h1 : wpAny (model prog w) A x (LawSt h₀ L m s (RootsAt [c4, c3, c2, c1] D n)) E s)
    (h2 : ∀ h tk led, Fr h₀ L h m → News h₀ L h led → RootsAt [c4, c3, c2, c1] D n led → Q .next { s with heap := h, toks := tk }) : wpAny (model prog w) A x Q E s := st_cut _ h1 h2
theorem mem_set {l : List Dyadic} {j : Nat} {d e : Dyadic} (h : d ∈ l.set j e) : d ∈ l ∨ d = e := List.mem_or_eq_of_mem_set h
theorem News.sink4 {h₀ h : Heap} {L : Addr} {p c4 c3 c2 c1 : Addr × Obj} {X : List (Addr × Obj)} (N : News h₀ L h (p :: c4 :: c3 :: c2 :: c1 :: X)) : News h₀ L h (c4 :: c3 :: c2 :: c1 :: p :: X) := fun q hq => N q (by
  simp only [List.mem_cons] at hq ⊢
  rcases hq with h | h | h | h | h | h <;> simp [h])
theorem notin4 {x a b c d : Addr} (h1 : x ≠ a) (h2 : x ≠ b) (h3 : x ≠ c) (h4 : x ≠ d) : x ∉ [a, b, c, d] := by
  intro h
  rcases List.mem_cons.mp h with h | h
  · exact h1 h
  · exact notin3 h2 h3 h4 h
theorem cells_lt4 {i c d c4 c3 c2 c1 : Addr × Obj} {X : List (Addr × Obj)} {D : Addr} (h : ∀ p ∈ i :: c :: d :: c4 :: c3 :: c2 :: c1 :: X, p.1 < D) : ∀ a ∈ [c4, c3, c2, c1].map (fun q => q.1), a < D :=
  cells_lt h fun p hp => .tail _ (.tail _ (.tail _ (List.mem_append.mpr (.inl hp : p ∈ [c4, c3, c2, c1] ∨ p ∈ X))))
theorem roots_step {h₀ h' : Heap} {L I C D D9 : Addr} {m : Str → Option Value} {s₁ : Shared} {tk : Nat} {oI oC oD : Obj} {c4 c3 c2 c1 : Addr × Obj} {X : List (Addr × Obj)} {a b c e : Int} {t1 t2 t3 t4 : Tok} {k i : Nat} {ys : List Value} {ds : List Dyadic}
    (F : Fr h₀ L h' m) (N : News h₀ L h' ((D9, tup4 a b c e t1 t2 t3 t4 k) :: (I, oI) :: (C, oC) :: (D, oD) :: c4 :: c3 :: c2 :: c1 :: X)) (l9 : ∀ p ∈ (I, oI) :: (C, oC) :: (D, oD) :: c4 :: c3 :: c2 :: c1 :: X, p.1 < D9)
    (o3 : LCg.Off3 I C D ([c4, c3, c2, c1] ++ X)) (ho : OffA ([c4, c3, c2, c1].map fun q => q.1) X) (hys : NumsIn X ys ds) (hdl : ds.length = i) (hdw : ∀ d ∈ ds, Wd 20 70 d) (hC9 : Can a b c e) (h1 : e ≤ 30) (h2 : -20 ≤ c) (h3 : c ≤ 20) :
    LCg.CompEnd h₀ L m s₁ I oI C oC D oD (fun _ => True) (fun y news' => RootsInv [c4, c3, c2, c1] (i + 1) (ys ++ [y]) news') (.ref D9) { s₁ with heap := h', toks := tk } := by
  have hw9 := Wd.can hC9 h1 h2 h3
  have hD9 := cells_lt4 l9
  refine LCg.CompEnd.intro F N ([c4, c3, c2, c1] ++ ((D9, tup4 a b c e t1 t2 t3 t4 k) :: X)) (fun p hp => ?sub) (LCg.Off3.of fun p hp => ?off) trivial ⟨(D9, tup4 a b c e t1 t2 t3 t4 k) :: X, ds ++ [dy a b c], rfl, offA_ins (notin_lt hD9) ho, NumsIn.snoc (hys.mono fun p hp => .tail _ hp) (NumIn.mk (.head _) hC9 rfl), by rw [List.length_append, hdl]; rfl, fun d hd => ?dw⟩
  case sub =>
    simp only [List.cons_append, List.nil_append, List.mem_cons] at hp ⊢
    rcases hp with h | h | h | h | h | h | h | h | h
    · exact .inr (.inl h)
    · exact .inr (.inr (.inl h))
    · exact .inr (.inr (.inr (.inl h)))
    · exact .inr (.inr (.inr (.inr (.inl h))))
    · exact .inr (.inr (.inr (.inr (.inr (.inl h)))))
    · exact .inr (.inr (.inr (.inr (.inr (.inr (.inl h))))))
    · exact .inr (.inr (.inr (.inr (.inr (.inr (.inr (.inl h)))))))
    · exact .inl h
    · exact .inr (.inr (.inr (.inr (.inr (.inr (.inr (.inr h)))))))
  case off =>
    have hI9 := l9 (I, oI) (.head _)
    have hC10 := l9 (C, oC) (.tail _ (.head _))
    have hD10 := l9 (D, oD) (.tail _ (.tail _ (.head _)))
    rcases List.mem_append.mp hp with hp | hp
    · exact o3.mem p (List.mem_append.mpr (.inl hp))
    · rcases List.mem_cons.mp hp with rfl | hp
      · exact ⟨Nat.ne_of_gt hI9, Nat.ne_of_gt hC10, Nat.ne_of_gt hD10⟩
      · exact o3.mem p (List.mem_append.mpr (.inr hp))
  case dw =>
    rcases List.mem_append.mp hd with hd | hd
    · exact hdw d hd
    · rw [List.mem_singleton.mp hd]; exact hw9
def LeadAt (c4 : Addr × Obj) (a3 : Addr) (c2 c1 : Addr × Obj) (D : Addr) (n : Nat) (vx : Value) (led : List (Addr × Obj)) : Prop :=
  ∃ (o3 : Obj) (vl : Value) (X : List (Addr × Obj)) (ys : List Value) (k : Nat) (ds : List Dyadic) (lead x : Dyadic), led = c4 :: (a3, o3) :: c2 :: c1 :: X ∧ OffA [c4.1, a3, c2.1, c1.1] X ∧ o3.data = .cell (some vl) ∧ NumIn X vl lead ∧ Wd 20 70 lead ∧ NumIn X vx x ∧ Wd 20 70 x ∧
    (D, W.listOf (List.toArray ys) k) ∈ X ∧ NumsIn X ys ds ∧ ds.length = n ∧ ∀ d ∈ ds, Wd 20 70 d
theorem if_cut2 {prog : Program} {w : World} {A : Around} {E : Value → Shared → Prop} {s : Shared} {h₀ : Heap} {L Dx a3 : Addr} {m : Str → Option Value} {T c4 c2 c1 l : Addr × Obj} {o3 ox : Obj} {X : List (Addr × Obj)} {x : Sem Flow} {Q : Flow → Shared → Prop} (D : Addr) (n : Nat)
    (F : Fr h₀ L s.heap m) (N : News h₀ L s.heap (T :: (Dx, ox) :: l :: c4 :: (a3, o3) :: c2 :: c1 :: X)) (h1 : wpAny (model prog w) A x (LawSt h₀ L m s (LeadAt c4 a3 c2 c1 D n (.ref Dx))) E s)
    (h2 : ∀ h tk led, Fr h₀ L h m → News h₀ L h led → LeadAt c4 a3 c2 c1 D n (.ref Dx) led → Q .next { s with heap := h, toks := tk }) : wpAny (model prog w) A x Q E s := st_cut _ h1 h2
theorem News.reA {h₀ h : Heap} {L : Addr} {T p q c4 c3 c2 c1 : Addr × Obj} {X : List (Addr × Obj)} (N : News h₀ L h (T :: p :: q :: c4 :: c3 :: c2 :: c1 :: X)) : News h₀ L h (c4 :: c3 :: c2 :: c1 :: p :: q :: X) := fun r hr => N r (by
  simp only [List.mem_cons] at hr ⊢
  rcases hr with h | h | h | h | h | h | h <;> simp [h])
theorem News.reB {h₀ h : Heap} {L : Addr} {T p q r c4 c3 c2 c1 : Addr × Obj} {X : List (Addr × Obj)} (N : News h₀ L h (r :: T :: p :: q :: c4 :: c3 :: c2 :: c1 :: X)) : News h₀ L h (c4 :: c3 :: c2 :: c1 :: r :: p :: q :: X) := fun z hz => N z (by
  simp only [List.mem_cons] at hz ⊢
  rcases hz with h | h | h | h | h | h | h | h <;> simp [h])
theorem notin4_lt {x a b c d : Addr} {P : Prop} (h : a < x ∧ b < x ∧ c < x ∧ d < x ∧ P) : x ∉ [a, b, c, d] := notin4 (Nat.ne_of_gt h.1) (Nat.ne_of_gt h.2.1) (Nat.ne_of_gt h.2.2.1) (Nat.ne_of_gt h.2.2.2.1)
theorem can_13 : Can 1 3 (-1) 2 := .inr ⟨.inr rfl, by decide, by decide, by decide⟩
def TrueInv (cells X₀ : List (Addr × Obj)) (i : Nat) (ys : List Value) (news : List (Addr × Obj)) : Prop :=
  ∃ X, news = cells ++ X ∧ Ext X₀ X ∧ OffA (cells.map fun q => q.1) X ∧ ys = List.replicate i (.bool true)
theorem all_rep (n : Nat) : (List.replicate n true).all id = true := by
  induction n with
  | zero => rfl
  | succ n ih => rw [List.replicate_succ, List.all_cons, ih]; rfl
theorem bools_rep (n : Nat) : LSm.BoolsAre (List.replicate n (.bool true)) (List.replicate n true) := by
  induction n with
  | zero => exact .nil
  | succ n ih => exact .cons true ih
theorem News.reC {h₀ h : Heap} {L : Addr} {p q c4 c3 c2 c1 : Addr × Obj} {X : List (Addr × Obj)} (N : News h₀ L h (p :: q :: c4 :: c3 :: c2 :: c1 :: X)) : News h₀ L h (c4 :: c3 :: c2 :: c1 :: p :: q :: X) := fun r hr => N r (by
  simp only [List.mem_cons] at hr ⊢
  rcases hr with h | h | h | h | h | h | h <;> simp [h])
theorem mulfold_step {lead r : Dyadic} {ds : List Dyadic} {i : Nat} (h : ds[i]? = some r) : (ds.take (i + 1)).foldl (fun v r => v * r) lead = (ds.take i).foldl (fun v r => v * r) lead * r := by
  rw [List.take_add_one, h, Option.toList_some, List.foldl_append]; rfl
structure LastOk (len : Nat) (dE f : Dyadic) : Prop where
  odd : ∀ r, r = (len : Int).fmod 2 → r = 1 → dE = -f
  even : ∀ r, r = (len : Int).fmod 2 → r ≠ 1 → dE = f
theorem last_ok {lead : Dyadic} {ds : List Dyadic} {dE : Dyadic} {len : Nat} (hl : len = ds.length) (h : (builtOf lead ds)[ds.length]? = some dE) : LastOk len dE (ds.foldl (fun v r => v * r) lead) := by
  have e := built_last lead ds
  rw [List.getLast?_eq_getElem?, built_len, Nat.add_sub_cancel, h, Option.getD_some] at e
  subst hl
  have em : (ds.length : Int).fmod 2 = ((ds.length % 2 : Nat) : Int) := by
    rw [Int.fmod_eq_emod_of_nonneg _ (by decide)]; omega
  constructor
  · intro r hr h1
    rw [e, if_pos (by omega)]
  · intro r hr h1
    rw [e, if_neg (by omega)]
theorem second_ok {lead : Dyadic} {ds : List Dyadic} {d1 : Dyadic} (h : (builtOf lead ds)[1]? = some d1) : d1 = -(lead * ds.sum) := by
  have e := built_second lead ds
  rw [h, Option.getD_some] at e
  exact e
end

section
local macro_rules | `(tactic| kun_tup) => `(tactic| exact TupIn.isTup (by assumption) (by k_asm) (by k_asm) (by k_asm))
local macro_rules | `(tactic| cell_enter) => `(tactic| (refine' code_def ?k1 ?k2 ?k3 ?k4 ?k5 ?kA ?kF ?kK ?k6 ?k7 ?k8 ?k9 ?kB ?_ ?c2 ?c3 ?c4 ?c5; (case kA => exact rfl); (case kF => exact rfl); (case kK => assumption); (case k1 => k_asm); (case k2 => k_asm); (case k3 => k_asm); (case k4 => k_asm); (case k5 => k_asm); (case k6 => k_is); (case k7 => k_is); (case k8 => ktr_room); (case k9 => first | exact (by assumption : BindAs _ _ _ _) _ _ _ _ _ (by k_in) (by k_is) | exact BindsTo.of_eq rfl | exact binds_K (by k_in) rfl (by k_is) rfl rfl rfl); (case c5 => decide); (case kB => exact locs rfl); (case c2 => exact rfl); (case c3 => exact rfl); (case c4 => exact rfl); k_whole; intro g' L' h' FG' F' N' B' X' T'; (try dsimp only); (try k_lift B'); (try k_fold)))
local macro_rules | `(tactic| walk_at "ite") => `(tactic| (k_here; first
  | (refine' ite_pos ?hc9 ?_; (case hc9 => ((try simp only [bne_iff_ne, beq_iff_eq, Bool.not_eq_true', bne_eq_false_iff_eq, beq_eq_false_iff_ne, decide_eq_true_eq, decide_eq_false_iff_not, ne_eq, Bool.and_eq_true, Bool.or_eq_true, not_false_eq_true]); first | done | omega)); walk_say "PRUNED +")
  | (refine' ite_neg ?hc9 ?_; (case hc9 => ((try simp only [bne_iff_ne, beq_iff_eq, Bool.not_eq_true', bne_eq_false_iff_eq, beq_eq_false_iff_ne, decide_eq_true_eq, decide_eq_false_iff_not, ne_eq, Bool.and_eq_true, Bool.or_eq_true, not_false_eq_true]); first | done | omega)); walk_say "PRUNED -")))
local macro_rules | `(tactic| ke_read) => `(tactic| first | exact TupIn.reads (by with_reducible assumption) (by k_asm) (by k_asm) (by k_asm) | exact TupIn.reads TupIn.zero (by k_asm) (by k_asm) (by k_asm) | exact TupIn.reads TupIn.inf (by k_asm) (by k_asm) (by k_asm) | exact TupIn.reads TupIn.ninf (by k_asm) (by k_asm) (by k_asm) | exact TupIn.reads TupIn.nan (by k_asm) (by k_asm) (by k_asm))
local macro_rules | `(tactic| walk_at "compareOp Eq ref ref") => `(tactic| (k_here; (with_reducible show wpAny _ _ (compareOp CmpOp.Eq (Value.ref _) (Value.ref _)) _ _ _); k_dflt (refine eq_dataH (by ke_read) (by ke_read) rfl rfl (by ktr_units) ?_); ke_norm))
local macro_rules | `(tactic| walk_at "compareOp NotEq ref ref") => `(tactic| (k_here; (with_reducible show wpAny _ _ (compareOp CmpOp.NotEq (Value.ref _) (Value.ref _)) _ _ _); k_dflt (refine ne_dataH (by ke_read) (by ke_read) rfl rfl (by ktr_units) ?_); ke_norm))
local macro_rules | `(tactic| walk_at "binaryOp LShift int int") => `(tactic| (k_here; (with_reducible refine lshift_int ?kn ?ks ?_); (case kn => omega); (case ks => omega)))
local macro_rules | `(tactic| walk_at "binaryOp Mult int int") => `(tactic| (k_here; (with_reducible refine mul_int ?_ ?km); rotate_left; (case km => exact IntMulOk.of_le (m := 60000000) (n := 60000000) (by omega) (by omega) (by decide))))
local macro_rules | `(tactic| walk_at "eval Name") => `(tactic| (k_here; (with_reducible show wpAny _ _ (eval (Expr.Name _ _) (envOf _ _ _ _ _)) _ _ _); name_kind "local"; k_dflt (refine' ld ?k1 ?k2 ?_; (case k1 => k_asm); (case k2 => exact rfl); k_whole)))
local macro_rules | `(tactic| walk_at "binaryOp RShift int int") => `(tactic| (k_here; (with_reducible refine rshift_int ?kn ?_); (case kn => omega)))
local macro_rules | `(tactic| walk_at "inplaceOp Pow int int") => `(tactic| (k_here; (with_reducible refine ipow_int ?kn ?ks ?_); (case kn => omega); (case ks => omega)))
local macro_rules | `(tactic| walk_at "inplaceOp Mult int int") => `(tactic| (k_here; (with_reducible refine imul_int ?_ ?km); rotate_left; (case km => exact IntMulOk.of_le (m := 60000000) (n := 60000000) (by omega) (by omega) (by decide))))
local macro_rules | `(tactic| walk_at "subscriptTail") => `(tactic| (k_here; (with_reducible show wpAny _ _ (subscriptTail _ _ (Value.ref _) (Value.int _ _)) _ _ _); k_dflt (refine' item_tupleT ?k1 ?k2 ?k3 ?k4 ?k5 ?_ ?k6; (case k1 => first | exact TupIn.isTup (by with_reducible assumption) (by k_asm) (by k_asm) (by k_asm)); (case k2 => decide); (case k3 => decide); (case k4 => exact rfl); (case k5 => exact rfl); (case k6 => with_unfolding_all rfl); k_whole)))
local macro_rules | `(tactic| walk_at "exec For Name Name cons nil") => `(tactic| (k_here; (rename Fr _ _ _ _ => lF'); (with_unfolding_all refine' For_invVF lF' ?k1 ?k2 ?_; (case k1 => exact rfl); (case k2 => exact rfl); k_whole)))
local macro_rules | `(tactic| walk_at "compareOp NotEq") => `(tactic| (k_here; k_dflt (refine' ne_num (NumIn.mono ?ha ?hb) (NumIn.mono ?hc ?hd) ?he ?hF ?hK ?hN ?hu ?_; (case ha => assumption); (case hc => assumption); (case he => assumption); (case hF => k_asm); (case hK => k_asm); (case hN => k_asm); (case hb => (intro p hp; (repeat (first | exact hp | refine List.Mem.tail _ ?_ | refine Ext.mem (by assumption) ?_)))); (case hd => (intro p hp; (repeat (first | exact hp | refine List.Mem.tail _ ?_ | refine Ext.mem (by assumption) ?_)))); (case hu => ktr_units)); walk_say "NOT UNLIKE"))
local macro_rules | `(tactic| walk_at "call builtin:len") => `(tactic| (k_here; (with_reducible show wpAny _ _ (call (Value.builtin "len") [Value.ref _]) _ _ _); k_dflt (refine' call_len_list (News.isList ?kN ?km) ?kf ?_; (case kN => k_asm); (case km => (repeat (first | assumption | refine List.Mem.tail _ ?_ | refine Ext.mem (by assumption) ?_))); (case kf => (simp only [List.size_toArray]; omega)); k_whole); (try simp only [List.size_toArray])))
local macro_rules | `(tactic| walk_at "call ref") => `(tactic| (k_here; (with_reducible show wpAny _ _ (call (Value.ref 184) _) _ _ _); k_dflt ((first | (refine' Spec.useD [_, _, _, _, _, _, _] (product_walk _ _ _ _ _ _ _ _ _ _ _ _ ?q1 ?q2 ?q3) ?k1 ?k2 ?k3 ?k4 ?k5 ?kK ?ko ?kn ?kp ?kd ?ku ?_; (case k4 => k_asm); (case ko => assumption)) | (refine' Spec.useD [_, _, _, _, _, _] (product_walk _ _ _ _ _ _ _ _ _ _ _ _ ?q1 ?q2 ?q3) ?k1 ?k2 ?k3 ?k4 ?k5 ?kK ?ko ?kn ?kp ?kd ?ku ?_; (case k4 => k_asm); (case ko => assumption)) | (refine' Spec.useD [_, _, _, _, _] (product_walk _ _ _ _ _ _ _ _ _ _ _ _ ?q1 ?q2 ?q3) ?k1 ?k2 ?k3 ?k4 ?k5 ?kK ?ko ?kn ?kp ?kd ?ku ?_; (case k4 => k_asm); (case ko => assumption)) | (refine' Spec.useD [_, _, _, _] (product_walk _ _ _ _ _ _ _ _ _ _ _ _ ?q1 ?q2 ?q3) ?k1 ?k2 ?k3 ?k4 ?k5 ?kK ?ko ?kn ?kp ?kd ?ku ?_; (case k4 => k_asm); (case ko => assumption)) | (refine' Spec.useD [_, _, _] (product_walk _ _ _ _ _ _ _ _ _ _ _ _ ?q1 ?q2 ?q3) ?k1 ?k2 ?k3 ?k4 ?k5 ?kK ?ko ?kn ?kp ?kd ?ku ?_; (case k4 => k_asm); (case ko => assumption)) | (refine' Spec.useD [_, _] (product_walk _ _ _ _ _ _ _ _ _ _ _ _ ?q1 ?q2 ?q3) ?k1 ?k2 ?k3 ?k4 ?k5 ?kK ?ko ?kn ?kp ?kd ?ku ?_; (case k4 => k_asm); (case ko => assumption)) | (refine' Spec.useD [_] (product_walk _ _ _ _ _ _ _ _ _ _ _ _ ?q1 ?q2 ?q3) ?k1 ?k2 ?k3 ?k4 ?k5 ?kK ?ko ?kn ?kp ?kd ?ku ?_; (case k4 => k_asm); (case ko => assumption)) | (refine' Spec.useD [_, _, _, _, _, _, _] (product_walk _ _ _ _ _ _ _ _ _ _ _ _ ?q1 ?q2 ?q3) ?k1 ?k2 ?k3 ?k4 ?k5 ?kK ?ko ?kn ?kp ?kd ?ku ?_; (case k4 => exact Mine.News.drop1 (by k_asm)); (case ko => assumption)) | (refine' Spec.useD [_, _, _, _, _, _] (product_walk _ _ _ _ _ _ _ _ _ _ _ _ ?q1 ?q2 ?q3) ?k1 ?k2 ?k3 ?k4 ?k5 ?kK ?ko ?kn ?kp ?kd ?ku ?_; (case k4 => exact Mine.News.drop1 (by k_asm)); (case ko => assumption)) | (refine' Spec.useD [_, _, _, _, _] (product_walk _ _ _ _ _ _ _ _ _ _ _ _ ?q1 ?q2 ?q3) ?k1 ?k2 ?k3 ?k4 ?k5 ?kK ?ko ?kn ?kp ?kd ?ku ?_; (case k4 => exact Mine.News.drop1 (by k_asm)); (case ko => assumption)) | (refine' Spec.useD [_, _, _, _] (product_walk _ _ _ _ _ _ _ _ _ _ _ _ ?q1 ?q2 ?q3) ?k1 ?k2 ?k3 ?k4 ?k5 ?kK ?ko ?kn ?kp ?kd ?ku ?_; (case k4 => exact Mine.News.drop1 (by k_asm)); (case ko => assumption)) | (refine' Spec.useD [_, _, _] (product_walk _ _ _ _ _ _ _ _ _ _ _ _ ?q1 ?q2 ?q3) ?k1 ?k2 ?k3 ?k4 ?k5 ?kK ?ko ?kn ?kp ?kd ?ku ?_; (case k4 => exact Mine.News.drop1 (by k_asm)); (case ko => assumption)) | (refine' Spec.useD [_, _] (product_walk _ _ _ _ _ _ _ _ _ _ _ _ ?q1 ?q2 ?q3) ?k1 ?k2 ?k3 ?k4 ?k5 ?kK ?ko ?kn ?kp ?kd ?ku ?_; (case k4 => exact Mine.News.drop1 (by k_asm)); (case ko => assumption)) | (refine' Spec.useD [_] (product_walk _ _ _ _ _ _ _ _ _ _ _ _ ?q1 ?q2 ?q3) ?k1 ?k2 ?k3 ?k4 ?k5 ?kK ?ko ?kn ?kp ?kd ?ku ?_; (case k4 => exact Mine.News.drop1 (by k_asm)); (case ko => assumption))); (case k1 => k_asm); (case k2 => k_asm); (case k3 => k_asm); (case k5 => k_asm); (case kK => first | exact rfl | assumption); (case kn => (repeat (first | exact nt_nil | (refine nt_cons ?_ ?_; first | assumption | exact notT_of (cell_notTl (by assumption)) | exact notT_of (by assumption))))); (case kp => exact ⟨NumIn.mono (by assumption) (by (intro p hp; (repeat (first | exact hp | refine List.Mem.tail _ ?_ | refine Ext.mem (by assumption) ?_)))), NumIn.mono (by assumption) (by (intro p hp; (repeat (first | exact hp | refine List.Mem.tail _ ?_ | refine Ext.mem (by assumption) ?_)))), (by (repeat (first | assumption | refine List.Mem.tail _ ?_ | refine Ext.mem (by assumption) ?_))), NumsIn.mono (by assumption) (by (intro p hp; (repeat (first | exact hp | refine List.Mem.tail _ ?_ | refine Ext.mem (by assumption) ?_))))⟩); (case q1 => assumption); (case q2 => assumption); (case q3 => assumption); (case kd => ktr_room); (case ku => ktr_units)); k_whole; intro r9 X9 h9 tk9 F9 N9 x9 o9 p9; (try simp only [List.cons_append, List.nil_append] at N9); (try dsimp only); walk_say "NUMBER 184"))
local macro_rules | `(tactic| walk_at "call ref") => `(tactic| (k_here; (with_reducible show wpAny _ _ (call (Value.ref 191) _) _ _ _); k_dflt ((first | (refine' Spec.useD [_, _, _, _, _, _, _] (nested_walk _ _ _ _ _ _ _ _ _ _ ?q1 ?q2 ?q3) ?k1 ?k2 ?k3 ?k4 ?k5 ?kK ?ko ?kn ?kp ?kd ?ku ?_; (case k4 => k_asm); (case ko => assumption)) | (refine' Spec.useD [_, _, _, _, _, _] (nested_walk _ _ _ _ _ _ _ _ _ _ ?q1 ?q2 ?q3) ?k1 ?k2 ?k3 ?k4 ?k5 ?kK ?ko ?kn ?kp ?kd ?ku ?_; (case k4 => k_asm); (case ko => assumption)) | (refine' Spec.useD [_, _, _, _, _] (nested_walk _ _ _ _ _ _ _ _ _ _ ?q1 ?q2 ?q3) ?k1 ?k2 ?k3 ?k4 ?k5 ?kK ?ko ?kn ?kp ?kd ?ku ?_; (case k4 => k_asm); (case ko => assumption)) | (refine' Spec.useD [_, _, _, _] (nested_walk _ _ _ _ _ _ _ _ _ _ ?q1 ?q2 ?q3) ?k1 ?k2 ?k3 ?k4 ?k5 ?kK ?ko ?kn ?kp ?kd ?ku ?_; (case k4 => k_asm); (case ko => assumption)) | (refine' Spec.useD [_, _, _] (nested_walk _ _ _ _ _ _ _ _ _ _ ?q1 ?q2 ?q3) ?k1 ?k2 ?k3 ?k4 ?k5 ?kK ?ko ?kn ?kp ?kd ?ku ?_; (case k4 => k_asm); (case ko => assumption)) | (refine' Spec.useD [_, _] (nested_walk _ _ _ _ _ _ _ _ _ _ ?q1 ?q2 ?q3) ?k1 ?k2 ?k3 ?k4 ?k5 ?kK ?ko ?kn ?kp ?kd ?ku ?_; (case k4 => k_asm); (case ko => assumption)) | (refine' Spec.useD [_] (nested_walk _ _ _ _ _ _ _ _ _ _ ?q1 ?q2 ?q3) ?k1 ?k2 ?k3 ?k4 ?k5 ?kK ?ko ?kn ?kp ?kd ?ku ?_; (case k4 => k_asm); (case ko => assumption)) | (refine' Spec.useD [_, _, _, _, _, _, _] (nested_walk _ _ _ _ _ _ _ _ _ _ ?q1 ?q2 ?q3) ?k1 ?k2 ?k3 ?k4 ?k5 ?kK ?ko ?kn ?kp ?kd ?ku ?_; (case k4 => exact Mine.News.drop1 (by k_asm)); (case ko => assumption)) | (refine' Spec.useD [_, _, _, _, _, _] (nested_walk _ _ _ _ _ _ _ _ _ _ ?q1 ?q2 ?q3) ?k1 ?k2 ?k3 ?k4 ?k5 ?kK ?ko ?kn ?kp ?kd ?ku ?_; (case k4 => exact Mine.News.drop1 (by k_asm)); (case ko => assumption)) | (refine' Spec.useD [_, _, _, _, _] (nested_walk _ _ _ _ _ _ _ _ _ _ ?q1 ?q2 ?q3) ?k1 ?k2 ?k3 ?k4 ?k5 ?kK ?ko ?kn ?kp ?kd ?ku ?_; (case k4 => exact Mine.News.drop1 (by k_asm)); (case ko => assumption)) | (refine' Spec.useD [_, _, _, _] (nested_walk _ _ _ _ _ _ _ _ _ _ ?q1 ?q2 ?q3) ?k1 ?k2 ?k3 ?k4 ?k5 ?kK ?ko ?kn ?kp ?kd ?ku ?_; (case k4 => exact Mine.News.drop1 (by k_asm)); (case ko => assumption)) | (refine' Spec.useD [_, _, _] (nested_walk _ _ _ _ _ _ _ _ _ _ ?q1 ?q2 ?q3) ?k1 ?k2 ?k3 ?k4 ?k5 ?kK ?ko ?kn ?kp ?kd ?ku ?_; (case k4 => exact Mine.News.drop1 (by k_asm)); (case ko => assumption)) | (refine' Spec.useD [_, _] (nested_walk _ _ _ _ _ _ _ _ _ _ ?q1 ?q2 ?q3) ?k1 ?k2 ?k3 ?k4 ?k5 ?kK ?ko ?kn ?kp ?kd ?ku ?_; (case k4 => exact Mine.News.drop1 (by k_asm)); (case ko => assumption)) | (refine' Spec.useD [_] (nested_walk _ _ _ _ _ _ _ _ _ _ ?q1 ?q2 ?q3) ?k1 ?k2 ?k3 ?k4 ?k5 ?kK ?ko ?kn ?kp ?kd ?ku ?_; (case k4 => exact Mine.News.drop1 (by k_asm)); (case ko => assumption))); (case k1 => k_asm); (case k2 => k_asm); (case k3 => k_asm); (case k5 => k_asm); (case kK => first | exact rfl | assumption); (case kn => (repeat (first | exact nt_nil | (refine nt_cons ?_ ?_; first | assumption | exact notT_of (cell_notTl (by assumption)) | exact notT_of (by assumption))))); (case kp => exact ⟨NumIn.mono (by assumption) (by (intro p hp; (repeat (first | exact hp | refine List.Mem.tail _ ?_ | refine Ext.mem (by assumption) ?_)))), (by (repeat (first | assumption | refine List.Mem.tail _ ?_ | refine Ext.mem (by assumption) ?_))), NumsIn.mono (by assumption) (by (intro p hp; (repeat (first | exact hp | refine List.Mem.tail _ ?_ | refine Ext.mem (by assumption) ?_))))⟩); (case q1 => assumption); (case q2 => assumption); (case q3 => assumption); (case kd => ktr_room); (case ku => ktr_units)); k_whole; intro r9 X9 h9 tk9 F9 N9 x9 o9 p9; (try simp only [List.cons_append, List.nil_append] at N9); (try dsimp only); walk_say "NUMBER 191"))
local macro_rules | `(tactic| k_all) => `(tactic| first | exact offA_ne (by assumption) (by repeat (first | exact List.Mem.head _ | refine List.Mem.tail _ ?_)) | exact off_lt (by assumption) (by omega))
local macro_rules | `(tactic| ktr_enter) => `(tactic| (refine' code_defC ?k1 ?k2 ?k3 ?k4 ?k5 ?kA ?kF ?kK ?k6 ?k7 ?k8 ?k9 ?kB ?kD ?_ ?c2 ?c3 ?c4; (case kA => exact rfl); (case kF => exact rfl); (case kK => assumption); (case k1 => k_asm); (case k2 => k_asm); (case k3 => k_asm); (case k4 => k_asm); (case k5 => k_asm); (case k6 => k_is); (case k7 => k_is); (case k8 => ktr_room); (case k9 => first | exact BindsTo.of_eq rfl | exact binds_K (by k_in) rfl (by k_is) rfl rfl rfl); (case kB => exact rfl); (case kD => decide +kernel); (case c2 => exact rfl); (case c3 => exact rfl); (case c4 => exact rfl); k_whole; intro g' L' h' tk' cells' FG' F' N' Y' B' X' T' l1; k_cells Y'; (try simp only [List.cons_append, List.nil_append] at N'); (try dsimp only); (try k_lift B'); (try k_fold)))
local macro_rules | `(tactic| walk_at "call ref") => `(tactic| (k_here; (with_reducible show wpAny _ _ (call (Value.ref 131) _) _ _ _); k_dflt ((first | (refine' Spec.useF [_, _, _, _, _, _, _, _] (mul_fresh _ _ _ _ _ _ _ _ _ ?q1 ?q2) ?k1 ?k2 ?k3 ?k4 ?k5 ?kK ?ko ?kp ?kd ?ku ?_; (case k4 => k_asm); (case ko => assumption)) | (refine' Spec.useF [_, _, _, _, _, _, _] (mul_fresh _ _ _ _ _ _ _ _ _ ?q1 ?q2) ?k1 ?k2 ?k3 ?k4 ?k5 ?kK ?ko ?kp ?kd ?ku ?_; (case k4 => k_asm); (case ko => assumption)) | (refine' Spec.useF [_, _, _, _, _, _] (mul_fresh _ _ _ _ _ _ _ _ _ ?q1 ?q2) ?k1 ?k2 ?k3 ?k4 ?k5 ?kK ?ko ?kp ?kd ?ku ?_; (case k4 => k_asm); (case ko => assumption)) | (refine' Spec.useF [_, _, _, _, _] (mul_fresh _ _ _ _ _ _ _ _ _ ?q1 ?q2) ?k1 ?k2 ?k3 ?k4 ?k5 ?kK ?ko ?kp ?kd ?ku ?_; (case k4 => k_asm); (case ko => assumption)) | (refine' Spec.useF [_, _, _, _] (mul_fresh _ _ _ _ _ _ _ _ _ ?q1 ?q2) ?k1 ?k2 ?k3 ?k4 ?k5 ?kK ?ko ?kp ?kd ?ku ?_; (case k4 => k_asm); (case ko => assumption)) | (refine' Spec.useF [_, _, _] (mul_fresh _ _ _ _ _ _ _ _ _ ?q1 ?q2) ?k1 ?k2 ?k3 ?k4 ?k5 ?kK ?ko ?kp ?kd ?ku ?_; (case k4 => k_asm); (case ko => assumption)) | (refine' Spec.useF [_, _] (mul_fresh _ _ _ _ _ _ _ _ _ ?q1 ?q2) ?k1 ?k2 ?k3 ?k4 ?k5 ?kK ?ko ?kp ?kd ?ku ?_; (case k4 => k_asm); (case ko => assumption)) | (refine' Spec.useF [_] (mul_fresh _ _ _ _ _ _ _ _ _ ?q1 ?q2) ?k1 ?k2 ?k3 ?k4 ?k5 ?kK ?ko ?kp ?kd ?ku ?_; (case k4 => k_asm); (case ko => assumption)) | (refine' Spec.useF [_, _, _, _, _, _, _, _] (mul_fresh _ _ _ _ _ _ _ _ _ ?q1 ?q2) ?k1 ?k2 ?k3 ?k4 ?k5 ?kK ?ko ?kp ?kd ?ku ?_; (case k4 => exact Mine.News.drop1 (by k_asm)); (case ko => assumption)) | (refine' Spec.useF [_, _, _, _, _, _, _] (mul_fresh _ _ _ _ _ _ _ _ _ ?q1 ?q2) ?k1 ?k2 ?k3 ?k4 ?k5 ?kK ?ko ?kp ?kd ?ku ?_; (case k4 => exact Mine.News.drop1 (by k_asm)); (case ko => assumption)) | (refine' Spec.useF [_, _, _, _, _, _] (mul_fresh _ _ _ _ _ _ _ _ _ ?q1 ?q2) ?k1 ?k2 ?k3 ?k4 ?k5 ?kK ?ko ?kp ?kd ?ku ?_; (case k4 => exact Mine.News.drop1 (by k_asm)); (case ko => assumption)) | (refine' Spec.useF [_, _, _, _, _] (mul_fresh _ _ _ _ _ _ _ _ _ ?q1 ?q2) ?k1 ?k2 ?k3 ?k4 ?k5 ?kK ?ko ?kp ?kd ?ku ?_; (case k4 => exact Mine.News.drop1 (by k_asm)); (case ko => assumption)) | (refine' Spec.useF [_, _, _, _] (mul_fresh _ _ _ _ _ _ _ _ _ ?q1 ?q2) ?k1 ?k2 ?k3 ?k4 ?k5 ?kK ?ko ?kp ?kd ?ku ?_; (case k4 => exact Mine.News.drop1 (by k_asm)); (case ko => assumption)) | (refine' Spec.useF [_, _, _] (mul_fresh _ _ _ _ _ _ _ _ _ ?q1 ?q2) ?k1 ?k2 ?k3 ?k4 ?k5 ?kK ?ko ?kp ?kd ?ku ?_; (case k4 => exact Mine.News.drop1 (by k_asm)); (case ko => assumption)) | (refine' Spec.useF [_, _] (mul_fresh _ _ _ _ _ _ _ _ _ ?q1 ?q2) ?k1 ?k2 ?k3 ?k4 ?k5 ?kK ?ko ?kp ?kd ?ku ?_; (case k4 => exact Mine.News.drop1 (by k_asm)); (case ko => assumption)) | (refine' Spec.useF [_] (mul_fresh _ _ _ _ _ _ _ _ _ ?q1 ?q2) ?k1 ?k2 ?k3 ?k4 ?k5 ?kK ?ko ?kp ?kd ?ku ?_; (case k4 => exact Mine.News.drop1 (by k_asm)); (case ko => assumption))); (case k1 => k_asm); (case k2 => k_asm); (case k3 => k_asm); (case k5 => k_asm); (case kK => first | exact rfl | assumption); (case kp => ((refine ⟨?_, NumIn.mono (by assumption) (by (intro p hp; (repeat (first | exact hp | refine List.Mem.tail _ ?_ | refine Ext.mem (by assumption) ?_)))), NumIn.mono (by assumption) (by (intro p hp; (repeat (first | exact hp | refine List.Mem.tail _ ?_ | refine Ext.mem (by assumption) ?_))))⟩); rfl)); (case q1 => assumption); (case q2 => assumption); (case kd => ktr_room); (case ku => ktr_units)); k_whole; intro r9 X9 h9 tk9 F9 N9 x9 o9 p9; (try simp only [List.cons_append, List.nil_append] at N9); (try dsimp only); walk_say "FRESH NUMBER 131"))
local macro_rules | `(tactic| walk_at "call ref") => `(tactic| (k_here; (with_reducible show wpAny _ _ (call (Value.ref 156) _) _ _ _); k_dflt ((first | (refine' Spec.useF [_, _, _, _, _, _, _, _] (pow_fresh _ _ _ _ _ _ _ _ _ _ ?q1 ?q2) ?k1 ?k2 ?k3 ?k4 ?k5 ?kK ?ko ?kp ?kd ?ku ?_; (case k4 => k_asm); (case ko => assumption)) | (refine' Spec.useF [_, _, _, _, _, _, _] (pow_fresh _ _ _ _ _ _ _ _ _ _ ?q1 ?q2) ?k1 ?k2 ?k3 ?k4 ?k5 ?kK ?ko ?kp ?kd ?ku ?_; (case k4 => k_asm); (case ko => assumption)) | (refine' Spec.useF [_, _, _, _, _, _] (pow_fresh _ _ _ _ _ _ _ _ _ _ ?q1 ?q2) ?k1 ?k2 ?k3 ?k4 ?k5 ?kK ?ko ?kp ?kd ?ku ?_; (case k4 => k_asm); (case ko => assumption)) | (refine' Spec.useF [_, _, _, _, _] (pow_fresh _ _ _ _ _ _ _ _ _ _ ?q1 ?q2) ?k1 ?k2 ?k3 ?k4 ?k5 ?kK ?ko ?kp ?kd ?ku ?_; (case k4 => k_asm); (case ko => assumption)) | (refine' Spec.useF [_, _, _, _] (pow_fresh _ _ _ _ _ _ _ _ _ _ ?q1 ?q2) ?k1 ?k2 ?k3 ?k4 ?k5 ?kK ?ko ?kp ?kd ?ku ?_; (case k4 => k_asm); (case ko => assumption)) | (refine' Spec.useF [_, _, _] (pow_fresh _ _ _ _ _ _ _ _ _ _ ?q1 ?q2) ?k1 ?k2 ?k3 ?k4 ?k5 ?kK ?ko ?kp ?kd ?ku ?_; (case k4 => k_asm); (case ko => assumption)) | (refine' Spec.useF [_, _] (pow_fresh _ _ _ _ _ _ _ _ _ _ ?q1 ?q2) ?k1 ?k2 ?k3 ?k4 ?k5 ?kK ?ko ?kp ?kd ?ku ?_; (case k4 => k_asm); (case ko => assumption)) | (refine' Spec.useF [_] (pow_fresh _ _ _ _ _ _ _ _ _ _ ?q1 ?q2) ?k1 ?k2 ?k3 ?k4 ?k5 ?kK ?ko ?kp ?kd ?ku ?_; (case k4 => k_asm); (case ko => assumption)) | (refine' Spec.useF [_, _, _, _, _, _, _, _] (pow_fresh _ _ _ _ _ _ _ _ _ _ ?q1 ?q2) ?k1 ?k2 ?k3 ?k4 ?k5 ?kK ?ko ?kp ?kd ?ku ?_; (case k4 => exact Mine.News.drop1 (by k_asm)); (case ko => assumption)) | (refine' Spec.useF [_, _, _, _, _, _, _] (pow_fresh _ _ _ _ _ _ _ _ _ _ ?q1 ?q2) ?k1 ?k2 ?k3 ?k4 ?k5 ?kK ?ko ?kp ?kd ?ku ?_; (case k4 => exact Mine.News.drop1 (by k_asm)); (case ko => assumption)) | (refine' Spec.useF [_, _, _, _, _, _] (pow_fresh _ _ _ _ _ _ _ _ _ _ ?q1 ?q2) ?k1 ?k2 ?k3 ?k4 ?k5 ?kK ?ko ?kp ?kd ?ku ?_; (case k4 => exact Mine.News.drop1 (by k_asm)); (case ko => assumption)) | (refine' Spec.useF [_, _, _, _, _] (pow_fresh _ _ _ _ _ _ _ _ _ _ ?q1 ?q2) ?k1 ?k2 ?k3 ?k4 ?k5 ?kK ?ko ?kp ?kd ?ku ?_; (case k4 => exact Mine.News.drop1 (by k_asm)); (case ko => assumption)) | (refine' Spec.useF [_, _, _, _] (pow_fresh _ _ _ _ _ _ _ _ _ _ ?q1 ?q2) ?k1 ?k2 ?k3 ?k4 ?k5 ?kK ?ko ?kp ?kd ?ku ?_; (case k4 => exact Mine.News.drop1 (by k_asm)); (case ko => assumption)) | (refine' Spec.useF [_, _, _] (pow_fresh _ _ _ _ _ _ _ _ _ _ ?q1 ?q2) ?k1 ?k2 ?k3 ?k4 ?k5 ?kK ?ko ?kp ?kd ?ku ?_; (case k4 => exact Mine.News.drop1 (by k_asm)); (case ko => assumption)) | (refine' Spec.useF [_, _] (pow_fresh _ _ _ _ _ _ _ _ _ _ ?q1 ?q2) ?k1 ?k2 ?k3 ?k4 ?k5 ?kK ?ko ?kp ?kd ?ku ?_; (case k4 => exact Mine.News.drop1 (by k_asm)); (case ko => assumption)) | (refine' Spec.useF [_] (pow_fresh _ _ _ _ _ _ _ _ _ _ ?q1 ?q2) ?k1 ?k2 ?k3 ?k4 ?k5 ?kK ?ko ?kp ?kd ?ku ?_; (case k4 => exact Mine.News.drop1 (by k_asm)); (case ko => assumption))); (case k1 => k_asm); (case k2 => k_asm); (case k3 => k_asm); (case k5 => k_asm); (case kK => first | exact rfl | assumption); (case kp => ((refine ⟨?_, NumIn.mono (by assumption) (by (intro p hp; (repeat (first | exact hp | refine List.Mem.tail _ ?_ | refine Ext.mem (by assumption) ?_))))⟩); rfl)); (case q1 => assumption); (case q2 => omega); (case kd => ktr_room); (case ku => ktr_units)); k_whole; intro r9 X9 h9 tk9 F9 N9 x9 o9 p9; (try simp only [List.cons_append, List.nil_append] at N9); (try dsimp only); walk_say "FRESH NUMBER 156"))
local macro_rules | `(tactic| walk_at "eval ListComp") => `(tactic| (k_here; k_dflt (refine LCg.ListComp_U (F₀ := by k_asm) (by rfl) (by decide) (by rfl) (by decide) (by rfl) ?_)))
local macro_rules | `(tactic| walk_at "CompSrc") => `(tactic| (refine Halt.out ?_))
local macro_rules | `(tactic| walk_at "subscriptTail") => `(tactic| (k_here; (with_reducible show wpAny _ _ (subscriptTail _ _ (Value.ref _) (Value.int _ _)) _ _ _); k_dflt (refine' list_item ?k1 ?k2 ?k3 ?k4 ?k5 ?_ ?k6; (case k1 => k_asm); (case k2 => (repeat (first | assumption | refine List.Mem.tail _ ?_ | refine Ext.mem (by assumption) ?_))); (case k3 => omega); (case k4 => omega); (case k5 => assumption); (case k6 => with_unfolding_all rfl); k_whole)))
local macro_rules | `(tactic| walk_at "call ref") => `(tactic| (k_here; (with_reducible show wpAny _ _ (call (Value.ref 123) _) _ _ _); k_dflt ((first | (refine' Spec.useD [_, _, _, _, _, _, _] (sum_walk _ _ _ _ _ _ _ _ ?q1 ?q2) ?k1 ?k2 ?k3 ?k4 ?k5 ?kK ?ko ?kn ?kp ?kd ?ku ?_; (case k4 => k_asm); (case ko => assumption)) | (refine' Spec.useD [_, _, _, _, _, _] (sum_walk _ _ _ _ _ _ _ _ ?q1 ?q2) ?k1 ?k2 ?k3 ?k4 ?k5 ?kK ?ko ?kn ?kp ?kd ?ku ?_; (case k4 => k_asm); (case ko => assumption)) | (refine' Spec.useD [_, _, _, _, _] (sum_walk _ _ _ _ _ _ _ _ ?q1 ?q2) ?k1 ?k2 ?k3 ?k4 ?k5 ?kK ?ko ?kn ?kp ?kd ?ku ?_; (case k4 => k_asm); (case ko => assumption)) | (refine' Spec.useD [_, _, _, _] (sum_walk _ _ _ _ _ _ _ _ ?q1 ?q2) ?k1 ?k2 ?k3 ?k4 ?k5 ?kK ?ko ?kn ?kp ?kd ?ku ?_; (case k4 => k_asm); (case ko => assumption)) | (refine' Spec.useD [_, _, _] (sum_walk _ _ _ _ _ _ _ _ ?q1 ?q2) ?k1 ?k2 ?k3 ?k4 ?k5 ?kK ?ko ?kn ?kp ?kd ?ku ?_; (case k4 => k_asm); (case ko => assumption)) | (refine' Spec.useD [_, _] (sum_walk _ _ _ _ _ _ _ _ ?q1 ?q2) ?k1 ?k2 ?k3 ?k4 ?k5 ?kK ?ko ?kn ?kp ?kd ?ku ?_; (case k4 => k_asm); (case ko => assumption)) | (refine' Spec.useD [_] (sum_walk _ _ _ _ _ _ _ _ ?q1 ?q2) ?k1 ?k2 ?k3 ?k4 ?k5 ?kK ?ko ?kn ?kp ?kd ?ku ?_; (case k4 => k_asm); (case ko => assumption)) | (refine' Spec.useD [_, _, _, _, _, _, _] (sum_walk _ _ _ _ _ _ _ _ ?q1 ?q2) ?k1 ?k2 ?k3 ?k4 ?k5 ?kK ?ko ?kn ?kp ?kd ?ku ?_; (case k4 => exact Mine.News.drop1 (by k_asm)); (case ko => assumption)) | (refine' Spec.useD [_, _, _, _, _, _] (sum_walk _ _ _ _ _ _ _ _ ?q1 ?q2) ?k1 ?k2 ?k3 ?k4 ?k5 ?kK ?ko ?kn ?kp ?kd ?ku ?_; (case k4 => exact Mine.News.drop1 (by k_asm)); (case ko => assumption)) | (refine' Spec.useD [_, _, _, _, _] (sum_walk _ _ _ _ _ _ _ _ ?q1 ?q2) ?k1 ?k2 ?k3 ?k4 ?k5 ?kK ?ko ?kn ?kp ?kd ?ku ?_; (case k4 => exact Mine.News.drop1 (by k_asm)); (case ko => assumption)) | (refine' Spec.useD [_, _, _, _] (sum_walk _ _ _ _ _ _ _ _ ?q1 ?q2) ?k1 ?k2 ?k3 ?k4 ?k5 ?kK ?ko ?kn ?kp ?kd ?ku ?_; (case k4 => exact Mine.News.drop1 (by k_asm)); (case ko => assumption)) | (refine' Spec.useD [_, _, _] (sum_walk _ _ _ _ _ _ _ _ ?q1 ?q2) ?k1 ?k2 ?k3 ?k4 ?k5 ?kK ?ko ?kn ?kp ?kd ?ku ?_; (case k4 => exact Mine.News.drop1 (by k_asm)); (case ko => assumption)) | (refine' Spec.useD [_, _] (sum_walk _ _ _ _ _ _ _ _ ?q1 ?q2) ?k1 ?k2 ?k3 ?k4 ?k5 ?kK ?ko ?kn ?kp ?kd ?ku ?_; (case k4 => exact Mine.News.drop1 (by k_asm)); (case ko => assumption)) | (refine' Spec.useD [_] (sum_walk _ _ _ _ _ _ _ _ ?q1 ?q2) ?k1 ?k2 ?k3 ?k4 ?k5 ?kK ?ko ?kn ?kp ?kd ?ku ?_; (case k4 => exact Mine.News.drop1 (by k_asm)); (case ko => assumption))); (case k1 => k_asm); (case k2 => k_asm); (case k3 => k_asm); (case k5 => k_asm); (case kK => first | exact rfl | assumption); (case kn => (repeat (first | exact nt_nil | (refine nt_cons ?_ ?_; first | assumption | exact notT_of (cell_notTl (by assumption)) | exact notT_of (by assumption))))); (case kp => exact ⟨(by first | exact List.Mem.head _ | (repeat (first | assumption | refine List.Mem.tail _ ?_ | refine Ext.mem (by assumption) ?_))), NumsIn.mono (by assumption) (by (intro p hp; (repeat (first | exact hp | refine List.Mem.tail _ ?_ | refine Ext.mem (by assumption) ?_))))⟩); (case q1 => assumption); (case q2 => assumption); (case kd => ktr_room); (case ku => ktr_units)); k_whole; intro r9 X9 h9 tk9 F9 N9 x9 o9 p9; (try simp only [List.cons_append, List.nil_append] at N9); (try dsimp only); walk_say "NUMBER 123"))
local macro_rules | `(tactic| walk_at "call ref") => `(tactic| (k_here; (with_reducible show wpAny _ _ (call (Value.ref 99) _) _ _ _); k_dflt ((first | (refine' Spec.useC (fun _ => False) [_, _, _, _, _, _, _] (sign_spec _ _ _ _ _ _) ?k1 ?k2 ?k3 ?k4 ?k5 ?kK ?ko ?kn ?kp ?kh ?kd ?ku ?_; (case k4 => k_asm); (case ko => assumption)) | (refine' Spec.useC (fun _ => False) [_, _, _, _, _, _] (sign_spec _ _ _ _ _ _) ?k1 ?k2 ?k3 ?k4 ?k5 ?kK ?ko ?kn ?kp ?kh ?kd ?ku ?_; (case k4 => k_asm); (case ko => assumption)) | (refine' Spec.useC (fun _ => False) [_, _, _, _, _] (sign_spec _ _ _ _ _ _) ?k1 ?k2 ?k3 ?k4 ?k5 ?kK ?ko ?kn ?kp ?kh ?kd ?ku ?_; (case k4 => k_asm); (case ko => assumption)) | (refine' Spec.useC (fun _ => False) [_, _, _, _] (sign_spec _ _ _ _ _ _) ?k1 ?k2 ?k3 ?k4 ?k5 ?kK ?ko ?kn ?kp ?kh ?kd ?ku ?_; (case k4 => k_asm); (case ko => assumption)) | (refine' Spec.useC (fun _ => False) [_, _, _] (sign_spec _ _ _ _ _ _) ?k1 ?k2 ?k3 ?k4 ?k5 ?kK ?ko ?kn ?kp ?kh ?kd ?ku ?_; (case k4 => k_asm); (case ko => assumption)) | (refine' Spec.useC (fun _ => False) [_, _] (sign_spec _ _ _ _ _ _) ?k1 ?k2 ?k3 ?k4 ?k5 ?kK ?ko ?kn ?kp ?kh ?kd ?ku ?_; (case k4 => k_asm); (case ko => assumption)) | (refine' Spec.useC (fun _ => False) [_] (sign_spec _ _ _ _ _ _) ?k1 ?k2 ?k3 ?k4 ?k5 ?kK ?ko ?kn ?kp ?kh ?kd ?ku ?_; (case k4 => k_asm); (case ko => assumption)) | (refine' Spec.useC (fun _ => False) [_, _, _, _, _, _, _] (sign_spec _ _ _ _ _ _) ?k1 ?k2 ?k3 ?k4 ?k5 ?kK ?ko ?kn ?kp ?kh ?kd ?ku ?_; (case k4 => exact Mine.News.drop1 (by k_asm)); (case ko => assumption)) | (refine' Spec.useC (fun _ => False) [_, _, _, _, _, _] (sign_spec _ _ _ _ _ _) ?k1 ?k2 ?k3 ?k4 ?k5 ?kK ?ko ?kn ?kp ?kh ?kd ?ku ?_; (case k4 => exact Mine.News.drop1 (by k_asm)); (case ko => assumption)) | (refine' Spec.useC (fun _ => False) [_, _, _, _, _] (sign_spec _ _ _ _ _ _) ?k1 ?k2 ?k3 ?k4 ?k5 ?kK ?ko ?kn ?kp ?kh ?kd ?ku ?_; (case k4 => exact Mine.News.drop1 (by k_asm)); (case ko => assumption)) | (refine' Spec.useC (fun _ => False) [_, _, _, _] (sign_spec _ _ _ _ _ _) ?k1 ?k2 ?k3 ?k4 ?k5 ?kK ?ko ?kn ?kp ?kh ?kd ?ku ?_; (case k4 => exact Mine.News.drop1 (by k_asm)); (case ko => assumption)) | (refine' Spec.useC (fun _ => False) [_, _, _] (sign_spec _ _ _ _ _ _) ?k1 ?k2 ?k3 ?k4 ?k5 ?kK ?ko ?kn ?kp ?kh ?kd ?ku ?_; (case k4 => exact Mine.News.drop1 (by k_asm)); (case ko => assumption)) | (refine' Spec.useC (fun _ => False) [_, _] (sign_spec _ _ _ _ _ _) ?k1 ?k2 ?k3 ?k4 ?k5 ?kK ?ko ?kn ?kp ?kh ?kd ?ku ?_; (case k4 => exact Mine.News.drop1 (by k_asm)); (case ko => assumption)) | (refine' Spec.useC (fun _ => False) [_] (sign_spec _ _ _ _ _ _) ?k1 ?k2 ?k3 ?k4 ?k5 ?kK ?ko ?kn ?kp ?kh ?kd ?ku ?_; (case k4 => exact Mine.News.drop1 (by k_asm)); (case ko => assumption))); (case k1 => k_asm); (case k2 => k_asm); (case k3 => k_asm); (case k5 => k_asm); (case kK => first | exact rfl | assumption); (case kn => exact fun _ _ h => h); (case kh => exact fun _ _ _ _ h => h); (case kp => exact NumIn.mono (by assumption) (by (intro p hp; (repeat (first | exact hp | refine List.Mem.tail _ ?_ | refine Ext.mem (by assumption) ?_))))); (case kd => ktr_room); (case ku => ktr_units)); k_whole; intro r9 X9 h9 tk9 F9 N9 x9 o9 p9; (obtain ⟨tkk9, e9⟩ := p9; subst e9); (try simp only [List.cons_append, List.nil_append] at N9); (try dsimp only); walk_say "WHOLE NUMBER 99"))
local macro_rules | `(tactic| walk_at "call ref") => `(tactic| (k_here; (with_reducible show wpAny _ _ (call (Value.ref 68) _) _ _ _); k_dflt ((first | (refine' Spec.useC (fun _ => False) [_, _, _, _, _, _, _] (cmp_spec _ _ _ _ _ _ _ _ ?q1 ?q2) ?k1 ?k2 ?k3 ?k4 ?k5 ?kK ?ko ?kn ?kp ?kh ?kd ?ku ?_; (case k4 => k_asm); (case ko => assumption)) | (refine' Spec.useC (fun _ => False) [_, _, _, _, _, _] (cmp_spec _ _ _ _ _ _ _ _ ?q1 ?q2) ?k1 ?k2 ?k3 ?k4 ?k5 ?kK ?ko ?kn ?kp ?kh ?kd ?ku ?_; (case k4 => k_asm); (case ko => assumption)) | (refine' Spec.useC (fun _ => False) [_, _, _, _, _] (cmp_spec _ _ _ _ _ _ _ _ ?q1 ?q2) ?k1 ?k2 ?k3 ?k4 ?k5 ?kK ?ko ?kn ?kp ?kh ?kd ?ku ?_; (case k4 => k_asm); (case ko => assumption)) | (refine' Spec.useC (fun _ => False) [_, _, _, _] (cmp_spec _ _ _ _ _ _ _ _ ?q1 ?q2) ?k1 ?k2 ?k3 ?k4 ?k5 ?kK ?ko ?kn ?kp ?kh ?kd ?ku ?_; (case k4 => k_asm); (case ko => assumption)) | (refine' Spec.useC (fun _ => False) [_, _, _] (cmp_spec _ _ _ _ _ _ _ _ ?q1 ?q2) ?k1 ?k2 ?k3 ?k4 ?k5 ?kK ?ko ?kn ?kp ?kh ?kd ?ku ?_; (case k4 => k_asm); (case ko => assumption)) | (refine' Spec.useC (fun _ => False) [_, _] (cmp_spec _ _ _ _ _ _ _ _ ?q1 ?q2) ?k1 ?k2 ?k3 ?k4 ?k5 ?kK ?ko ?kn ?kp ?kh ?kd ?ku ?_; (case k4 => k_asm); (case ko => assumption)) | (refine' Spec.useC (fun _ => False) [_] (cmp_spec _ _ _ _ _ _ _ _ ?q1 ?q2) ?k1 ?k2 ?k3 ?k4 ?k5 ?kK ?ko ?kn ?kp ?kh ?kd ?ku ?_; (case k4 => k_asm); (case ko => assumption)) | (refine' Spec.useC (fun _ => False) [_, _, _, _, _, _, _] (cmp_spec _ _ _ _ _ _ _ _ ?q1 ?q2) ?k1 ?k2 ?k3 ?k4 ?k5 ?kK ?ko ?kn ?kp ?kh ?kd ?ku ?_; (case k4 => exact Mine.News.drop1 (by k_asm)); (case ko => assumption)) | (refine' Spec.useC (fun _ => False) [_, _, _, _, _, _] (cmp_spec _ _ _ _ _ _ _ _ ?q1 ?q2) ?k1 ?k2 ?k3 ?k4 ?k5 ?kK ?ko ?kn ?kp ?kh ?kd ?ku ?_; (case k4 => exact Mine.News.drop1 (by k_asm)); (case ko => assumption)) | (refine' Spec.useC (fun _ => False) [_, _, _, _, _] (cmp_spec _ _ _ _ _ _ _ _ ?q1 ?q2) ?k1 ?k2 ?k3 ?k4 ?k5 ?kK ?ko ?kn ?kp ?kh ?kd ?ku ?_; (case k4 => exact Mine.News.drop1 (by k_asm)); (case ko => assumption)) | (refine' Spec.useC (fun _ => False) [_, _, _, _] (cmp_spec _ _ _ _ _ _ _ _ ?q1 ?q2) ?k1 ?k2 ?k3 ?k4 ?k5 ?kK ?ko ?kn ?kp ?kh ?kd ?ku ?_; (case k4 => exact Mine.News.drop1 (by k_asm)); (case ko => assumption)) | (refine' Spec.useC (fun _ => False) [_, _, _] (cmp_spec _ _ _ _ _ _ _ _ ?q1 ?q2) ?k1 ?k2 ?k3 ?k4 ?k5 ?kK ?ko ?kn ?kp ?kh ?kd ?ku ?_; (case k4 => exact Mine.News.drop1 (by k_asm)); (case ko => assumption)) | (refine' Spec.useC (fun _ => False) [_, _] (cmp_spec _ _ _ _ _ _ _ _ ?q1 ?q2) ?k1 ?k2 ?k3 ?k4 ?k5 ?kK ?ko ?kn ?kp ?kh ?kd ?ku ?_; (case k4 => exact Mine.News.drop1 (by k_asm)); (case ko => assumption)) | (refine' Spec.useC (fun _ => False) [_] (cmp_spec _ _ _ _ _ _ _ _ ?q1 ?q2) ?k1 ?k2 ?k3 ?k4 ?k5 ?kK ?ko ?kn ?kp ?kh ?kd ?ku ?_; (case k4 => exact Mine.News.drop1 (by k_asm)); (case ko => assumption))); (case k1 => k_asm); (case k2 => k_asm); (case k3 => k_asm); (case k5 => k_asm); (case kK => first | exact rfl | assumption); (case kn => exact fun _ _ h => h); (case kh => exact fun _ _ _ _ h => h); (case kp => exact ⟨NumIn.mono (by assumption) (by (intro p hp; (repeat (first | exact hp | refine List.Mem.tail _ ?_ | refine Ext.mem (by assumption) ?_)))), NumIn.mono (by assumption) (by (intro p hp; (repeat (first | exact hp | refine List.Mem.tail _ ?_ | refine Ext.mem (by assumption) ?_))))⟩); (case q1 => assumption); (case q2 => assumption); (case kd => ktr_room); (case ku => ktr_units)); k_whole; intro r9 X9 h9 tk9 F9 N9 x9 o9 p9; (obtain ⟨tkk9, e9⟩ := p9; subst e9); (try simp only [List.cons_append, List.nil_append] at N9); (try dsimp only); walk_say "WHOLE NUMBER 68"))
local macro_rules | `(tactic| walk_at "exec For Name Call cons nil") => `(tactic| (k_here; (rename Fr _ _ _ _ => lF'); (with_unfolding_all refine' For_invVF lF' ?k1 ?k2 ?_; (case k1 => exact rfl); (case k2 => exact rfl); k_whole)))
local macro_rules | `(tactic| walk_at "pyIter ref") => `(tactic| (k_here; (with_reducible show wpAny _ _ (pyIter (Value.ref _)) _ _ _); refine Halt.out ?_))
local macro_rules | `(tactic| walk_at "subscriptTail") => `(tactic| (k_here; (with_reducible show wpAny _ _ (subscriptTail _ _ (Value.ref _) (Value.int _ _)) _ _ _); k_dflt (first
  | (refine' list_item ?k1 ?k2 ?k3 ?k4 ?k5 ?_ ?k6; (case k1 => k_asm); (case k2 => (repeat (first | assumption | refine List.Mem.tail _ ?_ | refine Ext.mem (by assumption) ?_))); (case k3 => omega); (case k4 => omega); (case k5 => assumption); (case k6 => with_unfolding_all rfl))
  | (refine' list_neg ?k1 ?k2 ?k3 ?k3b ?k4 ?k5 ?_ ?k6; (case k1 => k_asm); (case k2 => (repeat (first | assumption | refine List.Mem.tail _ ?_ | refine Ext.mem (by assumption) ?_))); (case k3 => omega); (case k3b => omega); (case k4 => omega); (case k5 => assumption); (case k6 => with_unfolding_all rfl))); k_whole))
local macro_rules | `(tactic| walk_at "call ref") => `(tactic| (k_here; (with_reducible show wpAny _ _ (call (Value.ref 115) _) _ _ _); k_dflt ((first | (refine' Spec.useD [_, _, _, _, _, _, _] (sub_spec _ _ _ _ _ _ _ _ ?q1 ?q2) ?k1 ?k2 ?k3 ?k4 ?k5 ?kK ?ko ?kn ?kp ?kd ?ku ?_; (case k4 => k_asm); (case ko => assumption)) | (refine' Spec.useD [_, _, _, _, _, _] (sub_spec _ _ _ _ _ _ _ _ ?q1 ?q2) ?k1 ?k2 ?k3 ?k4 ?k5 ?kK ?ko ?kn ?kp ?kd ?ku ?_; (case k4 => k_asm); (case ko => assumption)) | (refine' Spec.useD [_, _, _, _, _] (sub_spec _ _ _ _ _ _ _ _ ?q1 ?q2) ?k1 ?k2 ?k3 ?k4 ?k5 ?kK ?ko ?kn ?kp ?kd ?ku ?_; (case k4 => k_asm); (case ko => assumption)) | (refine' Spec.useD [_, _, _, _] (sub_spec _ _ _ _ _ _ _ _ ?q1 ?q2) ?k1 ?k2 ?k3 ?k4 ?k5 ?kK ?ko ?kn ?kp ?kd ?ku ?_; (case k4 => k_asm); (case ko => assumption)) | (refine' Spec.useD [_, _, _] (sub_spec _ _ _ _ _ _ _ _ ?q1 ?q2) ?k1 ?k2 ?k3 ?k4 ?k5 ?kK ?ko ?kn ?kp ?kd ?ku ?_; (case k4 => k_asm); (case ko => assumption)) | (refine' Spec.useD [_, _] (sub_spec _ _ _ _ _ _ _ _ ?q1 ?q2) ?k1 ?k2 ?k3 ?k4 ?k5 ?kK ?ko ?kn ?kp ?kd ?ku ?_; (case k4 => k_asm); (case ko => assumption)) | (refine' Spec.useD [_] (sub_spec _ _ _ _ _ _ _ _ ?q1 ?q2) ?k1 ?k2 ?k3 ?k4 ?k5 ?kK ?ko ?kn ?kp ?kd ?ku ?_; (case k4 => k_asm); (case ko => assumption)) | (refine' Spec.useD [_, _, _, _, _, _, _] (sub_spec _ _ _ _ _ _ _ _ ?q1 ?q2) ?k1 ?k2 ?k3 ?k4 ?k5 ?kK ?ko ?kn ?kp ?kd ?ku ?_; (case k4 => exact Mine.News.drop1 (by k_asm)); (case ko => assumption)) | (refine' Spec.useD [_, _, _, _, _, _] (sub_spec _ _ _ _ _ _ _ _ ?q1 ?q2) ?k1 ?k2 ?k3 ?k4 ?k5 ?kK ?ko ?kn ?kp ?kd ?ku ?_; (case k4 => exact Mine.News.drop1 (by k_asm)); (case ko => assumption)) | (refine' Spec.useD [_, _, _, _, _] (sub_spec _ _ _ _ _ _ _ _ ?q1 ?q2) ?k1 ?k2 ?k3 ?k4 ?k5 ?kK ?ko ?kn ?kp ?kd ?ku ?_; (case k4 => exact Mine.News.drop1 (by k_asm)); (case ko => assumption)) | (refine' Spec.useD [_, _, _, _] (sub_spec _ _ _ _ _ _ _ _ ?q1 ?q2) ?k1 ?k2 ?k3 ?k4 ?k5 ?kK ?ko ?kn ?kp ?kd ?ku ?_; (case k4 => exact Mine.News.drop1 (by k_asm)); (case ko => assumption)) | (refine' Spec.useD [_, _, _] (sub_spec _ _ _ _ _ _ _ _ ?q1 ?q2) ?k1 ?k2 ?k3 ?k4 ?k5 ?kK ?ko ?kn ?kp ?kd ?ku ?_; (case k4 => exact Mine.News.drop1 (by k_asm)); (case ko => assumption)) | (refine' Spec.useD [_, _] (sub_spec _ _ _ _ _ _ _ _ ?q1 ?q2) ?k1 ?k2 ?k3 ?k4 ?k5 ?kK ?ko ?kn ?kp ?kd ?ku ?_; (case k4 => exact Mine.News.drop1 (by k_asm)); (case ko => assumption)) | (refine' Spec.useD [_] (sub_spec _ _ _ _ _ _ _ _ ?q1 ?q2) ?k1 ?k2 ?k3 ?k4 ?k5 ?kK ?ko ?kn ?kp ?kd ?ku ?_; (case k4 => exact Mine.News.drop1 (by k_asm)); (case ko => assumption))); (case k1 => k_asm); (case k2 => k_asm); (case k3 => k_asm); (case k5 => k_asm); (case kK => first | exact rfl | assumption); (case kn => (repeat (first | exact nt_nil | (refine nt_cons ?_ ?_; first | assumption | exact notT_of (cell_notTl (by assumption)) | exact notT_of (by assumption))))); (case kp => exact ⟨NumIn.mono (by assumption) (by (intro p hp; (repeat (first | exact hp | refine List.Mem.tail _ ?_ | refine Ext.mem (by assumption) ?_)))), NumIn.mono (by assumption) (by (intro p hp; (repeat (first | exact hp | refine List.Mem.tail _ ?_ | refine Ext.mem (by assumption) ?_))))⟩); (case q1 => assumption); (case q2 => assumption); (case kd => ktr_room); (case ku => ktr_units)); k_whole; intro r9 X9 h9 tk9 F9 N9 x9 o9 p9; (try simp only [List.cons_append, List.nil_append] at N9); (try dsimp only); walk_say "NUMBER 115"))
local macro_rules | `(tactic| walk_at "call ref") => `(tactic| (k_here; (with_reducible show wpAny _ _ (call (Value.ref 84) _) _ _ _); k_dflt ((first | (refine' Spec.useD [_, _, _, _, _, _, _] (neg_spec _ _ _ _ _ _) ?k1 ?k2 ?k3 ?k4 ?k5 ?kK ?ko ?kn ?kp ?kd ?ku ?_; (case k4 => k_asm); (case ko => assumption)) | (refine' Spec.useD [_, _, _, _, _, _] (neg_spec _ _ _ _ _ _) ?k1 ?k2 ?k3 ?k4 ?k5 ?kK ?ko ?kn ?kp ?kd ?ku ?_; (case k4 => k_asm); (case ko => assumption)) | (refine' Spec.useD [_, _, _, _, _] (neg_spec _ _ _ _ _ _) ?k1 ?k2 ?k3 ?k4 ?k5 ?kK ?ko ?kn ?kp ?kd ?ku ?_; (case k4 => k_asm); (case ko => assumption)) | (refine' Spec.useD [_, _, _, _] (neg_spec _ _ _ _ _ _) ?k1 ?k2 ?k3 ?k4 ?k5 ?kK ?ko ?kn ?kp ?kd ?ku ?_; (case k4 => k_asm); (case ko => assumption)) | (refine' Spec.useD [_, _, _] (neg_spec _ _ _ _ _ _) ?k1 ?k2 ?k3 ?k4 ?k5 ?kK ?ko ?kn ?kp ?kd ?ku ?_; (case k4 => k_asm); (case ko => assumption)) | (refine' Spec.useD [_, _] (neg_spec _ _ _ _ _ _) ?k1 ?k2 ?k3 ?k4 ?k5 ?kK ?ko ?kn ?kp ?kd ?ku ?_; (case k4 => k_asm); (case ko => assumption)) | (refine' Spec.useD [_] (neg_spec _ _ _ _ _ _) ?k1 ?k2 ?k3 ?k4 ?k5 ?kK ?ko ?kn ?kp ?kd ?ku ?_; (case k4 => k_asm); (case ko => assumption)) | (refine' Spec.useD [_, _, _, _, _, _, _] (neg_spec _ _ _ _ _ _) ?k1 ?k2 ?k3 ?k4 ?k5 ?kK ?ko ?kn ?kp ?kd ?ku ?_; (case k4 => exact Mine.News.drop1 (by k_asm)); (case ko => assumption)) | (refine' Spec.useD [_, _, _, _, _, _] (neg_spec _ _ _ _ _ _) ?k1 ?k2 ?k3 ?k4 ?k5 ?kK ?ko ?kn ?kp ?kd ?ku ?_; (case k4 => exact Mine.News.drop1 (by k_asm)); (case ko => assumption)) | (refine' Spec.useD [_, _, _, _, _] (neg_spec _ _ _ _ _ _) ?k1 ?k2 ?k3 ?k4 ?k5 ?kK ?ko ?kn ?kp ?kd ?ku ?_; (case k4 => exact Mine.News.drop1 (by k_asm)); (case ko => assumption)) | (refine' Spec.useD [_, _, _, _] (neg_spec _ _ _ _ _ _) ?k1 ?k2 ?k3 ?k4 ?k5 ?kK ?ko ?kn ?kp ?kd ?ku ?_; (case k4 => exact Mine.News.drop1 (by k_asm)); (case ko => assumption)) | (refine' Spec.useD [_, _, _] (neg_spec _ _ _ _ _ _) ?k1 ?k2 ?k3 ?k4 ?k5 ?kK ?ko ?kn ?kp ?kd ?ku ?_; (case k4 => exact Mine.News.drop1 (by k_asm)); (case ko => assumption)) | (refine' Spec.useD [_, _] (neg_spec _ _ _ _ _ _) ?k1 ?k2 ?k3 ?k4 ?k5 ?kK ?ko ?kn ?kp ?kd ?ku ?_; (case k4 => exact Mine.News.drop1 (by k_asm)); (case ko => assumption)) | (refine' Spec.useD [_] (neg_spec _ _ _ _ _ _) ?k1 ?k2 ?k3 ?k4 ?k5 ?kK ?ko ?kn ?kp ?kd ?ku ?_; (case k4 => exact Mine.News.drop1 (by k_asm)); (case ko => assumption))); (case k1 => k_asm); (case k2 => k_asm); (case k3 => k_asm); (case k5 => k_asm); (case kK => first | exact rfl | assumption); (case kn => (repeat (first | exact nt_nil | (refine nt_cons ?_ ?_; first | assumption | exact notT_of (cell_notTl (by assumption)) | exact notT_of (by assumption))))); (case kp => exact NumIn.mono (by assumption) (by (intro p hp; (repeat (first | exact hp | refine List.Mem.tail _ ?_ | refine Ext.mem (by assumption) ?_))))); (case kd => ktr_room); (case ku => ktr_units)); k_whole; intro r9 X9 h9 tk9 F9 N9 x9 o9 p9; (try simp only [List.cons_append, List.nil_append] at N9); (try dsimp only); walk_say "NUMBER 84"))
local macro_rules | `(tactic| walk_at "subscriptTail") => `(tactic| (k_here; (with_reducible show wpAny _ _ (subscriptTail _ (PySem.Expr.Slice _ _ none _) (Value.ref _) (Value.ref _)) _ _ _); k_dflt (refine' slice_led ?F ?N ?l ?p ?q ?e ?_ ?s ?t ?z; (case F => k_asm); (case N => k_asm); (case l => (repeat (first | assumption | refine List.Mem.tail _ ?_ | refine Ext.mem (by assumption) ?_))); (case p => kmk_part); (case q => kmk_part); (case e => first | exact pick_to _ (by omega) (by omega) | exact pick_from _ (by omega) (by omega) | exact pick_neg _ (by omega) (by omega)); (case s => with_unfolding_all rfl); (case t => kmk_pure); (case z => (rw [sizeLine_eq]; omega))); intro D' h' F' N' l1; (try k_lt l1)))
local macro_rules | `(tactic| walk_at "subscriptTail Name Slice ref ref") => `(tactic| (k_here; (with_reducible show wpAny _ _ (subscriptTail _ (PySem.Expr.Slice _ _ none _) (Value.ref _) (Value.ref _)) _ _ _); k_dflt (refine' slice_led ?F ?N ?l ?p ?q ?e ?_ ?s ?t ?z; (case F => k_asm); (case N => k_asm); (case l => (repeat (first | assumption | refine List.Mem.tail _ ?_ | refine Ext.mem (by assumption) ?_))); (case p => kmk_part); (case q => kmk_part); (case e => first | exact pick_to _ (by omega) (by omega) | exact pick_from _ (by omega) (by omega) | exact pick_neg _ (by omega) (by omega)); (case s => with_unfolding_all rfl); (case t => kmk_pure); (case z => (rw [sizeLine_eq]; omega))); intro D' h' F' N' l1; (try k_lt l1)))
local macro_rules | `(tactic| walk_at "binaryOp Add ref ref") => `(tactic| (k_here; k_dflt (refine' add_led ?F ?N ?l ?p ?_ ?z; (case F => k_asm); (case N => k_asm); (case l => (repeat (first | assumption | exact List.Mem.head _ | refine List.Mem.tail _ ?_ | refine Ext.mem (by assumption) ?_))); (case p => (repeat (first | assumption | exact List.Mem.head _ | refine List.Mem.tail _ ?_ | refine Ext.mem (by assumption) ?_))); (case z => (rw [sizeLine_eq]; simp only [List.length_take, List.length_drop]; omega))); intro D' h' F' N' l1; (try k_lt l1)))
local macro_rules | `(tactic| walk_at "call ref") => `(tactic| (k_here; (with_reducible show wpAny _ _ (call (Value.ref 107) _) _ _ _); k_dflt ((first | (refine' Spec.useD [_, _, _, _, _, _, _] (add_spec _ _ _ _ _ _ _ _ ?q1 ?q2) ?k1 ?k2 ?k3 ?k4 ?k5 ?kK ?ko ?kn ?kp ?kd ?ku ?_; (case k4 => k_asm); (case ko => assumption)) | (refine' Spec.useD [_, _, _, _, _, _] (add_spec _ _ _ _ _ _ _ _ ?q1 ?q2) ?k1 ?k2 ?k3 ?k4 ?k5 ?kK ?ko ?kn ?kp ?kd ?ku ?_; (case k4 => k_asm); (case ko => assumption)) | (refine' Spec.useD [_, _, _, _, _] (add_spec _ _ _ _ _ _ _ _ ?q1 ?q2) ?k1 ?k2 ?k3 ?k4 ?k5 ?kK ?ko ?kn ?kp ?kd ?ku ?_; (case k4 => k_asm); (case ko => assumption)) | (refine' Spec.useD [_, _, _, _] (add_spec _ _ _ _ _ _ _ _ ?q1 ?q2) ?k1 ?k2 ?k3 ?k4 ?k5 ?kK ?ko ?kn ?kp ?kd ?ku ?_; (case k4 => k_asm); (case ko => assumption)) | (refine' Spec.useD [_, _, _] (add_spec _ _ _ _ _ _ _ _ ?q1 ?q2) ?k1 ?k2 ?k3 ?k4 ?k5 ?kK ?ko ?kn ?kp ?kd ?ku ?_; (case k4 => k_asm); (case ko => assumption)) | (refine' Spec.useD [_, _] (add_spec _ _ _ _ _ _ _ _ ?q1 ?q2) ?k1 ?k2 ?k3 ?k4 ?k5 ?kK ?ko ?kn ?kp ?kd ?ku ?_; (case k4 => k_asm); (case ko => assumption)) | (refine' Spec.useD [_] (add_spec _ _ _ _ _ _ _ _ ?q1 ?q2) ?k1 ?k2 ?k3 ?k4 ?k5 ?kK ?ko ?kn ?kp ?kd ?ku ?_; (case k4 => k_asm); (case ko => assumption)) | (refine' Spec.useD [_, _, _, _, _, _, _] (add_spec _ _ _ _ _ _ _ _ ?q1 ?q2) ?k1 ?k2 ?k3 ?k4 ?k5 ?kK ?ko ?kn ?kp ?kd ?ku ?_; (case k4 => exact Mine.News.drop1 (by k_asm)); (case ko => assumption)) | (refine' Spec.useD [_, _, _, _, _, _] (add_spec _ _ _ _ _ _ _ _ ?q1 ?q2) ?k1 ?k2 ?k3 ?k4 ?k5 ?kK ?ko ?kn ?kp ?kd ?ku ?_; (case k4 => exact Mine.News.drop1 (by k_asm)); (case ko => assumption)) | (refine' Spec.useD [_, _, _, _, _] (add_spec _ _ _ _ _ _ _ _ ?q1 ?q2) ?k1 ?k2 ?k3 ?k4 ?k5 ?kK ?ko ?kn ?kp ?kd ?ku ?_; (case k4 => exact Mine.News.drop1 (by k_asm)); (case ko => assumption)) | (refine' Spec.useD [_, _, _, _] (add_spec _ _ _ _ _ _ _ _ ?q1 ?q2) ?k1 ?k2 ?k3 ?k4 ?k5 ?kK ?ko ?kn ?kp ?kd ?ku ?_; (case k4 => exact Mine.News.drop1 (by k_asm)); (case ko => assumption)) | (refine' Spec.useD [_, _, _] (add_spec _ _ _ _ _ _ _ _ ?q1 ?q2) ?k1 ?k2 ?k3 ?k4 ?k5 ?kK ?ko ?kn ?kp ?kd ?ku ?_; (case k4 => exact Mine.News.drop1 (by k_asm)); (case ko => assumption)) | (refine' Spec.useD [_, _] (add_spec _ _ _ _ _ _ _ _ ?q1 ?q2) ?k1 ?k2 ?k3 ?k4 ?k5 ?kK ?ko ?kn ?kp ?kd ?ku ?_; (case k4 => exact Mine.News.drop1 (by k_asm)); (case ko => assumption)) | (refine' Spec.useD [_] (add_spec _ _ _ _ _ _ _ _ ?q1 ?q2) ?k1 ?k2 ?k3 ?k4 ?k5 ?kK ?ko ?kn ?kp ?kd ?ku ?_; (case k4 => exact Mine.News.drop1 (by k_asm)); (case ko => assumption))); (case k1 => k_asm); (case k2 => k_asm); (case k3 => k_asm); (case k5 => k_asm); (case kK => first | exact rfl | assumption); (case kn => (repeat (first | exact nt_nil | (refine nt_cons ?_ ?_; first | assumption | exact notT_of (cell_notTl (by assumption)) | exact notT_of (by assumption))))); (case kp => exact ⟨NumIn.mono (by assumption) (by (intro p hp; (repeat (first | exact hp | refine List.Mem.tail _ ?_ | refine Ext.mem (by assumption) ?_)))), NumIn.mono (by assumption) (by (intro p hp; (repeat (first | exact hp | refine List.Mem.tail _ ?_ | refine Ext.mem (by assumption) ?_))))⟩); (case q1 => assumption); (case q2 => assumption); (case kd => ktr_room); (case ku => ktr_units)); k_whole; intro r9 X9 h9 tk9 F9 N9 x9 o9 p9; (try simp only [List.cons_append, List.nil_append] at N9); (try dsimp only); walk_say "NUMBER 107"))
local macro_rules | `(tactic| walk_at "call ref") => `(tactic| (k_here; (with_reducible show wpAny _ _ (call (Value.ref 184) _) _ _ _); k_dflt ((first | (refine' Spec.useD [_, _, _, _, _, _, _] (product_walk _ _ _ _ _ _ _ _ _ _ _ _ ?q1 ?q2 ?q3) ?k1 ?k2 ?k3 ?k4 ?k5 ?kK ?ko ?kn ?kp ?kd ?ku ?_; (case k4 => k_asm); (case ko => assumption)) | (refine' Spec.useD [_, _, _, _, _, _] (product_walk _ _ _ _ _ _ _ _ _ _ _ _ ?q1 ?q2 ?q3) ?k1 ?k2 ?k3 ?k4 ?k5 ?kK ?ko ?kn ?kp ?kd ?ku ?_; (case k4 => k_asm); (case ko => assumption)) | (refine' Spec.useD [_, _, _, _, _] (product_walk _ _ _ _ _ _ _ _ _ _ _ _ ?q1 ?q2 ?q3) ?k1 ?k2 ?k3 ?k4 ?k5 ?kK ?ko ?kn ?kp ?kd ?ku ?_; (case k4 => k_asm); (case ko => assumption)) | (refine' Spec.useD [_, _, _, _] (product_walk _ _ _ _ _ _ _ _ _ _ _ _ ?q1 ?q2 ?q3) ?k1 ?k2 ?k3 ?k4 ?k5 ?kK ?ko ?kn ?kp ?kd ?ku ?_; (case k4 => k_asm); (case ko => assumption)) | (refine' Spec.useD [_, _, _] (product_walk _ _ _ _ _ _ _ _ _ _ _ _ ?q1 ?q2 ?q3) ?k1 ?k2 ?k3 ?k4 ?k5 ?kK ?ko ?kn ?kp ?kd ?ku ?_; (case k4 => k_asm); (case ko => assumption)) | (refine' Spec.useD [_, _] (product_walk _ _ _ _ _ _ _ _ _ _ _ _ ?q1 ?q2 ?q3) ?k1 ?k2 ?k3 ?k4 ?k5 ?kK ?ko ?kn ?kp ?kd ?ku ?_; (case k4 => k_asm); (case ko => assumption)) | (refine' Spec.useD [_] (product_walk _ _ _ _ _ _ _ _ _ _ _ _ ?q1 ?q2 ?q3) ?k1 ?k2 ?k3 ?k4 ?k5 ?kK ?ko ?kn ?kp ?kd ?ku ?_; (case k4 => k_asm); (case ko => assumption)) | (refine' Spec.useD [_, _, _, _, _, _, _] (product_walk _ _ _ _ _ _ _ _ _ _ _ _ ?q1 ?q2 ?q3) ?k1 ?k2 ?k3 ?k4 ?k5 ?kK ?ko ?kn ?kp ?kd ?ku ?_; (case k4 => exact Mine.News.drop1 (by k_asm)); (case ko => assumption)) | (refine' Spec.useD [_, _, _, _, _, _] (product_walk _ _ _ _ _ _ _ _ _ _ _ _ ?q1 ?q2 ?q3) ?k1 ?k2 ?k3 ?k4 ?k5 ?kK ?ko ?kn ?kp ?kd ?ku ?_; (case k4 => exact Mine.News.drop1 (by k_asm)); (case ko => assumption)) | (refine' Spec.useD [_, _, _, _, _] (product_walk _ _ _ _ _ _ _ _ _ _ _ _ ?q1 ?q2 ?q3) ?k1 ?k2 ?k3 ?k4 ?k5 ?kK ?ko ?kn ?kp ?kd ?ku ?_; (case k4 => exact Mine.News.drop1 (by k_asm)); (case ko => assumption)) | (refine' Spec.useD [_, _, _, _] (product_walk _ _ _ _ _ _ _ _ _ _ _ _ ?q1 ?q2 ?q3) ?k1 ?k2 ?k3 ?k4 ?k5 ?kK ?ko ?kn ?kp ?kd ?ku ?_; (case k4 => exact Mine.News.drop1 (by k_asm)); (case ko => assumption)) | (refine' Spec.useD [_, _, _] (product_walk _ _ _ _ _ _ _ _ _ _ _ _ ?q1 ?q2 ?q3) ?k1 ?k2 ?k3 ?k4 ?k5 ?kK ?ko ?kn ?kp ?kd ?ku ?_; (case k4 => exact Mine.News.drop1 (by k_asm)); (case ko => assumption)) | (refine' Spec.useD [_, _] (product_walk _ _ _ _ _ _ _ _ _ _ _ _ ?q1 ?q2 ?q3) ?k1 ?k2 ?k3 ?k4 ?k5 ?kK ?ko ?kn ?kp ?kd ?ku ?_; (case k4 => exact Mine.News.drop1 (by k_asm)); (case ko => assumption)) | (refine' Spec.useD [_] (product_walk _ _ _ _ _ _ _ _ _ _ _ _ ?q1 ?q2 ?q3) ?k1 ?k2 ?k3 ?k4 ?k5 ?kK ?ko ?kn ?kp ?kd ?ku ?_; (case k4 => exact Mine.News.drop1 (by k_asm)); (case ko => assumption))); (case k1 => k_asm); (case k2 => k_asm); (case k3 => k_asm); (case k5 => k_asm); (case kK => first | exact rfl | assumption); (case kn => (repeat (first | exact nt_nil | (refine nt_cons ?_ ?_; first | assumption | exact notT_of (cell_notTl (by assumption)) | exact notT_of (by assumption))))); (case kp => exact ⟨NumIn.mono (by assumption) (by (intro p hp; (repeat (first | exact hp | refine List.Mem.tail _ ?_ | refine Ext.mem (by assumption) ?_)))), NumIn.mono (by assumption) (by (intro p hp; (repeat (first | exact hp | refine List.Mem.tail _ ?_ | refine Ext.mem (by assumption) ?_)))), (by (repeat (first | assumption | exact List.Mem.head _ | refine List.Mem.tail _ ?_ | refine Ext.mem (by assumption) ?_))), NumsIn.mono (by assumption) (by (intro p hp; (repeat (first | exact hp | refine List.Mem.tail _ ?_ | refine Ext.mem (by assumption) ?_))))⟩); (case q1 => assumption); (case q2 => assumption); (case q3 => assumption); (case kd => ktr_room); (case ku => ktr_units)); k_whole; intro r9 X9 h9 tk9 F9 N9 x9 o9 p9; (try simp only [List.cons_append, List.nil_append] at N9); (try dsimp only); walk_say "NUMBER 184"))
local macro_rules | `(tactic| walk_at "call ref") => `(tactic| (k_here; (with_reducible show wpAny _ _ (call (Value.ref 191) _) _ _ _); k_dflt ((first | (refine' Spec.useD [_, _, _, _, _, _, _] (nested_walk _ _ _ _ _ _ _ _ _ _ ?q1 ?q2 ?q3) ?k1 ?k2 ?k3 ?k4 ?k5 ?kK ?ko ?kn ?kp ?kd ?ku ?_; (case k4 => k_asm); (case ko => assumption)) | (refine' Spec.useD [_, _, _, _, _, _] (nested_walk _ _ _ _ _ _ _ _ _ _ ?q1 ?q2 ?q3) ?k1 ?k2 ?k3 ?k4 ?k5 ?kK ?ko ?kn ?kp ?kd ?ku ?_; (case k4 => k_asm); (case ko => assumption)) | (refine' Spec.useD [_, _, _, _, _] (nested_walk _ _ _ _ _ _ _ _ _ _ ?q1 ?q2 ?q3) ?k1 ?k2 ?k3 ?k4 ?k5 ?kK ?ko ?kn ?kp ?kd ?ku ?_; (case k4 => k_asm); (case ko => assumption)) | (refine' Spec.useD [_, _, _, _] (nested_walk _ _ _ _ _ _ _ _ _ _ ?q1 ?q2 ?q3) ?k1 ?k2 ?k3 ?k4 ?k5 ?kK ?ko ?kn ?kp ?kd ?ku ?_; (case k4 => k_asm); (case ko => assumption)) | (refine' Spec.useD [_, _, _] (nested_walk _ _ _ _ _ _ _ _ _ _ ?q1 ?q2 ?q3) ?k1 ?k2 ?k3 ?k4 ?k5 ?kK ?ko ?kn ?kp ?kd ?ku ?_; (case k4 => k_asm); (case ko => assumption)) | (refine' Spec.useD [_, _] (nested_walk _ _ _ _ _ _ _ _ _ _ ?q1 ?q2 ?q3) ?k1 ?k2 ?k3 ?k4 ?k5 ?kK ?ko ?kn ?kp ?kd ?ku ?_; (case k4 => k_asm); (case ko => assumption)) | (refine' Spec.useD [_] (nested_walk _ _ _ _ _ _ _ _ _ _ ?q1 ?q2 ?q3) ?k1 ?k2 ?k3 ?k4 ?k5 ?kK ?ko ?kn ?kp ?kd ?ku ?_; (case k4 => k_asm); (case ko => assumption)) | (refine' Spec.useD [_, _, _, _, _, _, _] (nested_walk _ _ _ _ _ _ _ _ _ _ ?q1 ?q2 ?q3) ?k1 ?k2 ?k3 ?k4 ?k5 ?kK ?ko ?kn ?kp ?kd ?ku ?_; (case k4 => exact Mine.News.drop1 (by k_asm)); (case ko => assumption)) | (refine' Spec.useD [_, _, _, _, _, _] (nested_walk _ _ _ _ _ _ _ _ _ _ ?q1 ?q2 ?q3) ?k1 ?k2 ?k3 ?k4 ?k5 ?kK ?ko ?kn ?kp ?kd ?ku ?_; (case k4 => exact Mine.News.drop1 (by k_asm)); (case ko => assumption)) | (refine' Spec.useD [_, _, _, _, _] (nested_walk _ _ _ _ _ _ _ _ _ _ ?q1 ?q2 ?q3) ?k1 ?k2 ?k3 ?k4 ?k5 ?kK ?ko ?kn ?kp ?kd ?ku ?_; (case k4 => exact Mine.News.drop1 (by k_asm)); (case ko => assumption)) | (refine' Spec.useD [_, _, _, _] (nested_walk _ _ _ _ _ _ _ _ _ _ ?q1 ?q2 ?q3) ?k1 ?k2 ?k3 ?k4 ?k5 ?kK ?ko ?kn ?kp ?kd ?ku ?_; (case k4 => exact Mine.News.drop1 (by k_asm)); (case ko => assumption)) | (refine' Spec.useD [_, _, _] (nested_walk _ _ _ _ _ _ _ _ _ _ ?q1 ?q2 ?q3) ?k1 ?k2 ?k3 ?k4 ?k5 ?kK ?ko ?kn ?kp ?kd ?ku ?_; (case k4 => exact Mine.News.drop1 (by k_asm)); (case ko => assumption)) | (refine' Spec.useD [_, _] (nested_walk _ _ _ _ _ _ _ _ _ _ ?q1 ?q2 ?q3) ?k1 ?k2 ?k3 ?k4 ?k5 ?kK ?ko ?kn ?kp ?kd ?ku ?_; (case k4 => exact Mine.News.drop1 (by k_asm)); (case ko => assumption)) | (refine' Spec.useD [_] (nested_walk _ _ _ _ _ _ _ _ _ _ ?q1 ?q2 ?q3) ?k1 ?k2 ?k3 ?k4 ?k5 ?kK ?ko ?kn ?kp ?kd ?ku ?_; (case k4 => exact Mine.News.drop1 (by k_asm)); (case ko => assumption))); (case k1 => k_asm); (case k2 => k_asm); (case k3 => k_asm); (case k5 => k_asm); (case kK => first | exact rfl | assumption); (case kn => (repeat (first | exact nt_nil | (refine nt_cons ?_ ?_; first | assumption | exact notT_of (cell_notTl (by assumption)) | exact notT_of (by assumption))))); (case kp => exact ⟨NumIn.mono (by assumption) (by (intro p hp; (repeat (first | exact hp | refine List.Mem.tail _ ?_ | refine Ext.mem (by assumption) ?_)))), (by (repeat (first | assumption | exact List.Mem.head _ | refine List.Mem.tail _ ?_ | refine Ext.mem (by assumption) ?_))), NumsIn.mono (by assumption) (by (intro p hp; (repeat (first | exact hp | refine List.Mem.tail _ ?_ | refine Ext.mem (by assumption) ?_))))⟩); (case q1 => assumption); (case q2 => assumption); (case q3 => assumption); (case kd => ktr_room); (case ku => ktr_units)); k_whole; intro r9 X9 h9 tk9 F9 N9 x9 o9 p9; (try simp only [List.cons_append, List.nil_append] at N9); (try dsimp only); walk_say "NUMBER 191"))
local macro_rules | `(tactic| walk_at "call ref") => `(tactic| (k_here; (with_reducible show wpAny _ _ (call (Value.ref 139) _) _ _ _); k_dflt ((first | (refine' Spec.useF [_, _, _, _, _, _, _, _] (mulint_fresh _ _ _ _ _ _ _ _ _ _ ?q1 ?q2 ?q3) ?k1 ?k2 ?k3 ?k4 ?k5 ?kK ?ko ?kp ?kd ?ku ?_; (case k4 => k_asm); (case ko => assumption)) | (refine' Spec.useF [_, _, _, _, _, _, _] (mulint_fresh _ _ _ _ _ _ _ _ _ _ ?q1 ?q2 ?q3) ?k1 ?k2 ?k3 ?k4 ?k5 ?kK ?ko ?kp ?kd ?ku ?_; (case k4 => k_asm); (case ko => assumption)) | (refine' Spec.useF [_, _, _, _, _, _] (mulint_fresh _ _ _ _ _ _ _ _ _ _ ?q1 ?q2 ?q3) ?k1 ?k2 ?k3 ?k4 ?k5 ?kK ?ko ?kp ?kd ?ku ?_; (case k4 => k_asm); (case ko => assumption)) | (refine' Spec.useF [_, _, _, _, _] (mulint_fresh _ _ _ _ _ _ _ _ _ _ ?q1 ?q2 ?q3) ?k1 ?k2 ?k3 ?k4 ?k5 ?kK ?ko ?kp ?kd ?ku ?_; (case k4 => k_asm); (case ko => assumption)) | (refine' Spec.useF [_, _, _, _] (mulint_fresh _ _ _ _ _ _ _ _ _ _ ?q1 ?q2 ?q3) ?k1 ?k2 ?k3 ?k4 ?k5 ?kK ?ko ?kp ?kd ?ku ?_; (case k4 => k_asm); (case ko => assumption)) | (refine' Spec.useF [_, _, _] (mulint_fresh _ _ _ _ _ _ _ _ _ _ ?q1 ?q2 ?q3) ?k1 ?k2 ?k3 ?k4 ?k5 ?kK ?ko ?kp ?kd ?ku ?_; (case k4 => k_asm); (case ko => assumption)) | (refine' Spec.useF [_, _] (mulint_fresh _ _ _ _ _ _ _ _ _ _ ?q1 ?q2 ?q3) ?k1 ?k2 ?k3 ?k4 ?k5 ?kK ?ko ?kp ?kd ?ku ?_; (case k4 => k_asm); (case ko => assumption)) | (refine' Spec.useF [_] (mulint_fresh _ _ _ _ _ _ _ _ _ _ ?q1 ?q2 ?q3) ?k1 ?k2 ?k3 ?k4 ?k5 ?kK ?ko ?kp ?kd ?ku ?_; (case k4 => k_asm); (case ko => assumption)) | (refine' Spec.useF [_, _, _, _, _, _, _, _] (mulint_fresh _ _ _ _ _ _ _ _ _ _ ?q1 ?q2 ?q3) ?k1 ?k2 ?k3 ?k4 ?k5 ?kK ?ko ?kp ?kd ?ku ?_; (case k4 => exact Mine.News.drop1 (by k_asm)); (case ko => assumption)) | (refine' Spec.useF [_, _, _, _, _, _, _] (mulint_fresh _ _ _ _ _ _ _ _ _ _ ?q1 ?q2 ?q3) ?k1 ?k2 ?k3 ?k4 ?k5 ?kK ?ko ?kp ?kd ?ku ?_; (case k4 => exact Mine.News.drop1 (by k_asm)); (case ko => assumption)) | (refine' Spec.useF [_, _, _, _, _, _] (mulint_fresh _ _ _ _ _ _ _ _ _ _ ?q1 ?q2 ?q3) ?k1 ?k2 ?k3 ?k4 ?k5 ?kK ?ko ?kp ?kd ?ku ?_; (case k4 => exact Mine.News.drop1 (by k_asm)); (case ko => assumption)) | (refine' Spec.useF [_, _, _, _, _] (mulint_fresh _ _ _ _ _ _ _ _ _ _ ?q1 ?q2 ?q3) ?k1 ?k2 ?k3 ?k4 ?k5 ?kK ?ko ?kp ?kd ?ku ?_; (case k4 => exact Mine.News.drop1 (by k_asm)); (case ko => assumption)) | (refine' Spec.useF [_, _, _, _] (mulint_fresh _ _ _ _ _ _ _ _ _ _ ?q1 ?q2 ?q3) ?k1 ?k2 ?k3 ?k4 ?k5 ?kK ?ko ?kp ?kd ?ku ?_; (case k4 => exact Mine.News.drop1 (by k_asm)); (case ko => assumption)) | (refine' Spec.useF [_, _, _] (mulint_fresh _ _ _ _ _ _ _ _ _ _ ?q1 ?q2 ?q3) ?k1 ?k2 ?k3 ?k4 ?k5 ?kK ?ko ?kp ?kd ?ku ?_; (case k4 => exact Mine.News.drop1 (by k_asm)); (case ko => assumption)) | (refine' Spec.useF [_, _] (mulint_fresh _ _ _ _ _ _ _ _ _ _ ?q1 ?q2 ?q3) ?k1 ?k2 ?k3 ?k4 ?k5 ?kK ?ko ?kp ?kd ?ku ?_; (case k4 => exact Mine.News.drop1 (by k_asm)); (case ko => assumption)) | (refine' Spec.useF [_] (mulint_fresh _ _ _ _ _ _ _ _ _ _ ?q1 ?q2 ?q3) ?k1 ?k2 ?k3 ?k4 ?k5 ?kK ?ko ?kp ?kd ?ku ?_; (case k4 => exact Mine.News.drop1 (by k_asm)); (case ko => assumption))); (case k1 => k_asm); (case k2 => k_asm); (case k3 => k_asm); (case k5 => k_asm); (case kK => first | exact rfl | assumption); (case kp => ((refine ⟨?_, NumIn.mono (by assumption) (by (intro p hp; (repeat (first | exact hp | refine List.Mem.tail _ ?_ | refine Ext.mem (by assumption) ?_))))⟩); rfl)); (case q1 => assumption); (case q2 => omega); (case q3 => omega); (case kd => ktr_room); (case ku => ktr_units)); k_whole; intro r9 X9 h9 tk9 F9 N9 x9 o9 p9; (try simp only [List.cons_append, List.nil_append] at N9); (try dsimp only); walk_say "FRESH NUMBER 139"))
local macro_rules | `(tactic| walk_at "compareOp NotEq") => `(tactic| (k_here; k_dflt (refine' ne_num (NumIn.mono ?ha ?hb) (NumIn.mk ?hc can_nil rfl) ?he ?hF ?hK ?hN ?hu ?_; (case hF => k_asm); (case hK => k_asm); (case hN => k_asm); (case ha => assumption); (case hc => (repeat (first | assumption | exact List.Mem.head _ | refine List.Mem.tail _ ?_ | refine Ext.mem (by assumption) ?_))); (case he => assumption); (case hb => (intro p hp; (repeat (first | exact hp | refine List.Mem.tail _ ?_ | refine Ext.mem (by assumption) ?_)))); (case hu => ktr_units)); walk_say "NOT UNLIKE NOUGHT"))
local macro_rules | `(tactic| walk_at "compareOp NotEq ref ref") => `(tactic| (k_here; k_dflt (refine' ne_list ?hm ?hm2 (NumsIn.mono ?ha ?hb) (NumsIn.mono ?hc ?hd) ?hF ?hK ?hN ?hu ?_; (case hF => k_asm); (case hK => k_asm); (case hN => k_asm); (case hm => (repeat (first | assumption | exact List.Mem.head _ | refine List.Mem.tail _ ?_ | refine Ext.mem (by assumption) ?_))); (case hm2 => (repeat (first | assumption | exact List.Mem.head _ | refine List.Mem.tail _ ?_ | refine Ext.mem (by assumption) ?_))); (case ha => assumption); (case hc => assumption); (case hb => (intro p hp; (repeat (first | exact hp | refine List.Mem.tail _ ?_ | refine Ext.mem (by assumption) ?_)))); (case hd => (intro p hp; (repeat (first | exact hp | refine List.Mem.tail _ ?_ | refine Ext.mem (by assumption) ?_)))); (case hu => ktr_units)); walk_say "NO OTHER LIST"))
local macro_rules | `(tactic| walk_at "compareOp Eq") => `(tactic| (k_here; k_dflt (refine' eq_num (NumIn.mono ?ha ?hb) (NumIn.mono ?hc ?hd) ?he ?hF ?hK ?hN ?hu ?_; (case hF => k_asm); (case hK => k_asm); (case hN => k_asm); (case ha => assumption); (case hc => assumption); (case he => assumption); (case hb => (intro p hp; (repeat (first | exact hp | refine List.Mem.tail _ ?_ | refine Ext.mem (by assumption) ?_)))); (case hd => (intro p hp; (repeat (first | exact hp | refine List.Mem.tail _ ?_ | refine Ext.mem (by assumption) ?_)))); (case hu => ktr_units)); walk_say "ALIKE"))
local macro_rules | `(tactic| walk_at "call ref") => `(tactic| (k_here; (with_reducible show wpAny _ _ (call (Value.ref 163) [Value.ref _, Value.int _ _]) _ _ _); k_dflt (refine' mixed_call ?i ?n ?a ?b ?S ?k1 ?k2 ?k3 ?k4 ?k5 ?kK ?kd ?ku ?_; (case i => assumption); (case n => omega); (case a => omega); (case b => omega); (case S => assumption); (case k1 => k_asm); (case k2 => k_asm); (case k3 => k_asm); (case k4 => k_asm); (case k5 => k_asm); (case kK => first | exact rfl | assumption); (case kd => ktr_room); (case ku => ktr_units)); k_whole; intro z9 tk9 h9 tt9 F9 N9; (try dsimp only); walk_say "MIXED"))
local macro_rules | `(tactic| walk_at "call ref") => `(tactic| (k_here; (with_reducible show wpAny _ _ (call (Value.ref 170) _) _ _ _); k_dflt (refine' raw_call ?k1 ?k2 ?k3 ?k4 ?k5 ?kK ?kd ?ku ?_; (case k1 => k_asm); (case k2 => k_asm); (case k3 => k_asm); (case k4 => k_asm); (case k5 => k_asm); (case kK => first | exact rfl | assumption); (case kd => ktr_room); (case ku => ktr_units)); k_whole; intro D9 a9 b9 c9 e9 u1 u2 u3 u4 n9 h9 tt9 F9 N9 l9 hC9 hb1 hb2 hb3; (try k_lt l9); (try dsimp only); walk_say "RAW"))
local macro_rules | `(tactic| walk_at "binaryOp Mod int int") => `(tactic| (k_here; (with_reducible refine Mine.mod_genH ?k1 ?_); (case k1 => omega); intro r9 er9 hr9))
local macro_rules | `(tactic| walk_at "exec If") => `(tactic| (k_here; (fail_if_success (have : GoIf := by assumption)); refine Halt.out ?_))
local macro_rules | `(tactic| walk_at "call builtin:len") => `(tactic| (k_here; (with_reducible show wpAny _ _ (call (Value.builtin "len") [Value.ref _]) _ _ _); k_dflt (refine' call_len_list (News.isList ?kN ?km) ?kf ?_; (case kN => k_asm); (case km => (repeat (first | assumption | exact List.Mem.head _ | refine List.Mem.tail _ ?_ | refine Ext.mem (by assumption) ?_))); (case kf => (simp only [List.size_toArray]; omega)); k_whole); (try simp only [List.size_toArray])))
local macro_rules | `(tactic| walk_at "subscriptTail") => `(tactic| (k_here; (with_reducible show wpAny _ _ (subscriptTail _ _ (Value.ref _) (Value.int _ _)) _ _ _); k_dflt (first
  | (refine' list_item ?k1 ?k2 ?k3 ?k4 ?k5 ?_ ?k6; (case k1 => k_asm); (case k2 => (repeat (first | assumption | exact List.Mem.head _ | refine List.Mem.tail _ ?_ | refine Ext.mem (by assumption) ?_))); (case k3 => omega); (case k4 => omega); (case k5 => assumption); (case k6 => with_unfolding_all rfl))
  | (refine' list_neg ?k1 ?k2 ?k3 ?k3b ?k4 ?k5 ?_ ?k6; (case k1 => k_asm); (case k2 => (repeat (first | assumption | exact List.Mem.head _ | refine List.Mem.tail _ ?_ | refine Ext.mem (by assumption) ?_))); (case k3 => omega); (case k3b => omega); (case k4 => omega); (case k5 => assumption); (case k6 => with_unfolding_all rfl))); k_whole))
local macro_rules | `(tactic| walk_at "setItem ref int") => `(tactic| (k_here; k_dflt (refine' set_neg1 ?F ?N ?h ?U ?_; (case F => k_asm); (case N => k_asm); (case U => k_upd); (case h => omega)); intro h' F' N'))
local macro_rules | `(tactic| walk_at "call ref") => `(tactic| (k_here; (with_reducible show wpAny _ _ (call (Value.ref 177) _) _ _ _); refine Halt.out ?_))
local macro_rules | `(tactic| walk_at "call builtin:all") => `(tactic| (k_here; (with_reducible show wpAny _ _ (call (Value.builtin "all") [Value.ref _]) _ _ _); k_dflt (refine LSm.all_bools (by k_asm) (by k_asm) (by rfl) (News.isList (by k_asm) (by (repeat (first | assumption | exact List.Mem.head _ | refine List.Mem.tail _ ?_ | refine Ext.mem (by assumption) ?_)))) (by exact bools_rep _) ?_); intro h' tk' F' N'; (try simp only [all_rep])))
local macro_rules | `(tactic| walk_at "binaryOp Add ref ref") => `(tactic| (k_here; k_dflt (refine' add_led ?F ?N ?l ?p ?_ ?z; (case F => k_asm); (case N => k_asm); (case l => (repeat (first | assumption | exact List.Mem.head _ | refine List.Mem.tail _ ?_ | refine Ext.mem (by assumption) ?_))); (case p => (repeat (first | assumption | exact List.Mem.head _ | refine List.Mem.tail _ ?_ | refine Ext.mem (by assumption) ?_))); (case z => (rw [sizeLine_eq]; (try simp only [List.length_cons, List.length_nil]); omega))); intro D' h' F' N' l1; (try k_lt l1)))
local macro_rules | `(tactic| walk_at "call ref") => `(tactic| (k_here; (with_reducible show wpAny _ _ (call (Value.ref 196) _) _ _ _); k_dflt ((first | (refine' Spec.useC (fun _ => False) [_, _, _, _, _, _, _, _] (value_ok _ _ _ _ _ _ _ _ _ _ _ _ _ _ _ ?q1 ?q2 ?q3 ?q4 ?q5) ?k1 ?k2 ?k3 ?k4 ?k5 ?kK ?ko ?kn ?kp ?kh ?kd ?ku ?_; (case k4 => k_asm); (case ko => assumption)) | (refine' Spec.useC (fun _ => False) [_, _, _, _, _, _, _] (value_ok _ _ _ _ _ _ _ _ _ _ _ _ _ _ _ ?q1 ?q2 ?q3 ?q4 ?q5) ?k1 ?k2 ?k3 ?k4 ?k5 ?kK ?ko ?kn ?kp ?kh ?kd ?ku ?_; (case k4 => k_asm); (case ko => assumption)) | (refine' Spec.useC (fun _ => False) [_, _, _, _, _, _] (value_ok _ _ _ _ _ _ _ _ _ _ _ _ _ _ _ ?q1 ?q2 ?q3 ?q4 ?q5) ?k1 ?k2 ?k3 ?k4 ?k5 ?kK ?ko ?kn ?kp ?kh ?kd ?ku ?_; (case k4 => k_asm); (case ko => assumption)) | (refine' Spec.useC (fun _ => False) [_, _, _, _, _] (value_ok _ _ _ _ _ _ _ _ _ _ _ _ _ _ _ ?q1 ?q2 ?q3 ?q4 ?q5) ?k1 ?k2 ?k3 ?k4 ?k5 ?kK ?ko ?kn ?kp ?kh ?kd ?ku ?_; (case k4 => k_asm); (case ko => assumption)) | (refine' Spec.useC (fun _ => False) [_, _, _, _] (value_ok _ _ _ _ _ _ _ _ _ _ _ _ _ _ _ ?q1 ?q2 ?q3 ?q4 ?q5) ?k1 ?k2 ?k3 ?k4 ?k5 ?kK ?ko ?kn ?kp ?kh ?kd ?ku ?_; (case k4 => k_asm); (case ko => assumption))); (case k1 => k_asm); (case k2 => k_asm); (case k3 => k_asm); (case k5 => k_asm); (case kK => first | exact rfl | assumption); (case kn => exact fun _ _ h => h); (case kh => exact fun _ _ _ _ h => h); (case kp => exact ⟨NumIn.mono (by assumption) (by (intro p hp; (repeat (first | exact hp | refine List.Mem.tail _ ?_ | refine Ext.mem (by assumption) ?_)))), NumIn.mono (by assumption) (by (intro p hp; (repeat (first | exact hp | refine List.Mem.tail _ ?_ | refine Ext.mem (by assumption) ?_)))), (by (repeat (first | assumption | exact List.Mem.head _ | refine List.Mem.tail _ ?_ | refine Ext.mem (by assumption) ?_))), NumsIn.mono (by assumption) (by (intro p hp; (repeat (first | exact hp | refine List.Mem.tail _ ?_ | refine Ext.mem (by assumption) ?_)))), (by (repeat (first | assumption | exact List.Mem.head _ | refine List.Mem.tail _ ?_ | refine Ext.mem (by assumption) ?_))), NumsIn.mono (by assumption) (by (intro p hp; (repeat (first | exact hp | refine List.Mem.tail _ ?_ | refine Ext.mem (by assumption) ?_))))⟩); (case q1 => assumption); (case q2 => assumption); (case q3 => assumption); (case q4 => assumption); (case q5 => assumption); (case kd => ktr_room); (case ku => ktr_units)); k_whole; intro r9 X9 h9 tk9 F9 N9 x9 o9 p9; subst p9; (try simp only [List.cons_append, List.nil_append] at N9); (try dsimp only); walk_say "TRUTH 196"))
local macro_rules | `(tactic| walk_at "call ref") => `(tactic| (k_here; (with_reducible show wpAny _ _ (call (Value.ref 201) _) _ _ _); k_dflt ((first | (refine' Spec.useC (fun _ => False) [_, _, _, _, _, _, _, _] (root_ok _ _ _ _ _ _ _ _ _ _ _ _ _ _ _ _ ?q1 ?q2 ?q3 ?q4 ?q5 ?q6) ?k1 ?k2 ?k3 ?k4 ?k5 ?kK ?ko ?kn ?kp ?kh ?kd ?ku ?_; (case k4 => k_asm); (case ko => assumption)) | (refine' Spec.useC (fun _ => False) [_, _, _, _, _, _, _] (root_ok _ _ _ _ _ _ _ _ _ _ _ _ _ _ _ _ ?q1 ?q2 ?q3 ?q4 ?q5 ?q6) ?k1 ?k2 ?k3 ?k4 ?k5 ?kK ?ko ?kn ?kp ?kh ?kd ?ku ?_; (case k4 => k_asm); (case ko => assumption)) | (refine' Spec.useC (fun _ => False) [_, _, _, _, _, _] (root_ok _ _ _ _ _ _ _ _ _ _ _ _ _ _ _ _ ?q1 ?q2 ?q3 ?q4 ?q5 ?q6) ?k1 ?k2 ?k3 ?k4 ?k5 ?kK ?ko ?kn ?kp ?kh ?kd ?ku ?_; (case k4 => k_asm); (case ko => assumption)) | (refine' Spec.useC (fun _ => False) [_, _, _, _, _] (root_ok _ _ _ _ _ _ _ _ _ _ _ _ _ _ _ _ ?q1 ?q2 ?q3 ?q4 ?q5 ?q6) ?k1 ?k2 ?k3 ?k4 ?k5 ?kK ?ko ?kn ?kp ?kh ?kd ?ku ?_; (case k4 => k_asm); (case ko => assumption)) | (refine' Spec.useC (fun _ => False) [_, _, _, _] (root_ok _ _ _ _ _ _ _ _ _ _ _ _ _ _ _ _ ?q1 ?q2 ?q3 ?q4 ?q5 ?q6) ?k1 ?k2 ?k3 ?k4 ?k5 ?kK ?ko ?kn ?kp ?kh ?kd ?ku ?_; (case k4 => k_asm); (case ko => assumption))); (case k1 => k_asm); (case k2 => k_asm); (case k3 => k_asm); (case k5 => k_asm); (case kK => first | exact rfl | assumption); (case kn => exact fun _ _ h => h); (case kh => exact fun _ _ _ _ h => h); (case kp => exact ⟨NumIn.mono (by assumption) (by (intro p hp; (repeat (first | exact hp | refine List.Mem.tail _ ?_ | refine Ext.mem (by assumption) ?_)))), (by (repeat (first | assumption | exact List.Mem.head _ | refine List.Mem.tail _ ?_ | refine Ext.mem (by assumption) ?_))), NumsIn.mono (by assumption) (by (intro p hp; (repeat (first | exact hp | refine List.Mem.tail _ ?_ | refine Ext.mem (by assumption) ?_)))), (by (repeat (first | assumption | exact List.Mem.head _ | refine List.Mem.tail _ ?_ | refine Ext.mem (by assumption) ?_))), NumsIn.mono (by assumption) (by (intro p hp; (repeat (first | exact hp | refine List.Mem.tail _ ?_ | refine Ext.mem (by assumption) ?_))))⟩); (case q1 => assumption); (case q2 => assumption); (case q3 => assumption); (case q4 => assumption); (case q5 => assumption); (case q6 => assumption); (case kd => ktr_room); (case ku => ktr_units)); k_whole; intro r9 X9 h9 tk9 F9 N9 x9 o9 p9; subst p9; (try simp only [List.cons_append, List.nil_append] at N9); (try dsimp only); walk_say "TRUTH 201"))
local macro_rules | `(tactic| walk_at "call ref") => `(tactic| (k_here; (with_reducible show wpAny _ _ (call (Value.ref 196) _) _ _ _); refine Halt.out ?_))
local macro_rules | `(tactic| walk_at "compareOp NotEq") => `(tactic| (k_here; k_dflt (refine' ne_num (NumIn.mono ?ha ?hb) (NumIn.mono ?hc ?hd) ?he ?hF ?hK ?hN ?hu ?_; (case hF => k_asm); (case hK => k_asm); (case hN => k_asm); (case ha => assumption); (case hc => assumption); (case he => first | assumption | exact LastOk.odd (by assumption) _ (by assumption) (by assumption) | exact LastOk.even (by assumption) _ (by assumption) (by assumption)); (case hb => (intro p hp; (repeat (first | exact hp | refine List.Mem.tail _ ?_ | refine Ext.mem (by assumption) ?_)))); (case hd => (intro p hp; (repeat (first | exact hp | refine List.Mem.tail _ ?_ | refine Ext.mem (by assumption) ?_)))); (case hu => ktr_units)); walk_say "NOT UNLIKE"))
set_option maxRecDepth 100000 in
set_option maxHeartbeats 8000000 in
theorem law_holds : PySem.Challenge.rw_aj5013_01.Holds := by
  refine Mine.hd ?_
  w_top off
  k_go0
  (all_goals try k_fold)
  rename IntsAre _ _ => hI
  rename Heap.IsList _ _ _ => hS
  rename (¬ _ < _) => hcond
  rename Below _ _ _ _ => K0
  unfold Top.heap at K0
  k_steps
  unfold Halt
  rename Fr _ _ _ _ => F1
  rename News _ _ _ _ => N1
  rename IsRange _ _ _ _ _ _ _ _ => R1
  rename Hid _ => hrr
  obtain ⟨hr0, hr4⟩ := hrr.out
  obtain ⟨r, rfl, hr0⟩ := nmI hr0
  obtain ⟨n, hn⟩ : ∃ n : Nat, 1 + r = (n : Int) := ⟨(1 + r).toNat, by omega⟩
  rw [hn] at R1
  have hn1 : 1 ≤ n := by omega
  have hn4 : n ≤ 4 := by omega
  refine LCg.CompSrc.range rfl F1 N1 R1 (n := n) ?hsm ?hn ?hsz ?_
  case hsm => exact small_one (by decide) (by decide) (by omega) (by omega)
  case hn => rw [rangeSize_nat]; omega
  case hsz => rw [sizeLine_eq]; omega
  intro g
  refine comp_inv n (RootsInv _) ?fin ?step _ 0 [] _ (by omega) RootsInv.nil
  case step =>
    rintro i ys news9 hi ⟨X, ds, rfl, ho, hys, hdl, hdw⟩ v I oI C oC D m₂ h tk E' ⟨t, rfl⟩ hC hx F2 N2 o3 ne
    simp only [List.cons_append, List.nil_append] at N2
    k_steps
    rename Fr _ _ _ _ => F3
    rename News _ _ _ _ => N3
    rename (_ < _ ∧ _ < _ ∧ _ < _ ∧ _ < _ ∧ _ < _ ∧ _ < _ ∧ _ < _ ∧ AllLt _ X) => l9
    rename Can _ _ _ _ => hC9
    exact roots_step F3 N3 (allLt_mem l9) o3 ho hys hdl hdw hC9 (by assumption) (by assumption) (by assumption)
  case fin =>
    rintro ys news9 ⟨X, ds, rfl, ho, hys, hdl, hdw⟩
    unfold LCg.FinE
    intro D h tk F2 N2 o2
    have o2' := o2
    simp only [List.cons_append, List.nil_append, LCg.Off1] at o2'
    simp only [List.cons_append, List.nil_append] at N2
    k_steps
    unfold Halt
    rename Fr _ _ _ _ => F3
    rename News _ _ _ _ => N3
    have hyl := hys.len
    refine if_cut1 n F3 N3 ?ifp ?rest
    case ifp =>
      have go : GoIf := ⟨⟩
      obtain ⟨v0, hv0⟩ : ∃ v0, ys[(0 : Int).toNat]? = some v0 := ⟨_, List.getElem?_eq_getElem (by show 0 < ys.length; omega)⟩
      obtain ⟨d0, hd0, hn0⟩ := hys.get hv0
      have hoD1 := offA_cons (off1_mem o2'.2.2.2.2) ho
      have hDn := notin4 (Ne.symm o2'.1) (Ne.symm o2'.2.1) (Ne.symm o2'.2.2.1) (Ne.symm o2'.2.2.2.1)
      k_steps
      all_goals (
        rename Fr _ _ _ _ => F5
        rename News _ _ _ _ => N5
        refine ⟨rfl, _, _, _, rfl, F5, News.sink4 N5, ?_⟩
        first
        | exact ⟨_, ys, _, ds, rfl, offA_ins hDn ho, .head _, hys.mono fun p hp => .tail _ hp, hdl, hdw⟩
        | exact ⟨_, ys.set (ys.length - 1) v0, _, ds.set (ys.length - 1) d0, rfl, offA_ins hDn ho, .head _, (hys.set hn0 _).mono fun p hp => .tail _ hp, by rw [List.length_set]; exact hdl, fun d hd => (mem_set hd).elim (hdw d) fun e => e ▸ hdw _ (List.mem_of_getElem? hd0)⟩)
    case rest =>
      rintro h2 tk2 led F4 N4 ⟨X2, ys2, k2, ds2, rfl, ho2, hD2, hys2, hdl2, hdw2⟩
      simp only [List.cons_append, List.nil_append] at N4
      k_steps
      unfold Halt
      rename Fr _ _ _ _ => F5
      rename News _ _ _ _ => N5
      rename (_ < _ ∧ _ < _ ∧ _ < _ ∧ _ < _ ∧ AllLt _ X2) => lDl
      rename (_ < _ ∧ _ < _ ∧ _ < _ ∧ _ < _ ∧ _ < _ ∧ AllLt _ X2) => lDx
      rename Can _ _ _ _ => hCx
      have hCx' := Hid.mk hCx
      clear hCx
      rename Can _ _ _ _ => hCl
      refine if_cut2 D n F5 N5 ?ifp2 ?rest2
      case ifp2 =>
        have go : GoIf := ⟨⟩
        k_steps
        all_goals (
          rename Fr _ _ _ _ => F6
          rename News _ _ _ _ => N6
          first
          | exact ⟨rfl, _, _, _, rfl, F6, News.reA N6, _, _, _, _, _, _, _, _, rfl, offA_ins (notin4_lt lDx.2) (offA_ins (notin4_lt lDl) ho2), by assumption, NumIn.mk (.tail _ (.head _)) hCl rfl, Wd.can hCl (by assumption) (by assumption) (by assumption), NumIn.mk (.head _) hCx'.out rfl, Wd.can hCx'.out (by assumption) (by assumption) (by assumption), .tail _ (.tail _ hD2), hys2.mono fun p hp => .tail _ (.tail _ hp), hdl2, hdw2⟩
          | (rename (_ < _ ∧ _ < _ ∧ _ < _ ∧ _ < _ ∧ _ < _ ∧ _ < _ ∧ _ < _ ∧ AllLt _ X2) => lD5
             exact ⟨rfl, _, _, _, rfl, F6, News.reB N6, _, _, _, _, _, _, _, _, rfl, offA_ins (notin4_lt lD5.2.2.2) (offA_ins (notin4_lt lDx.2) (offA_ins (notin4_lt lDl) ho2)), by assumption, NumIn.mk (.head _) can_13 rfl, Wd.can can_13 (by decide) (by decide) (by decide), NumIn.mk (.tail _ (.head _)) hCx'.out rfl, Wd.can hCx'.out (by assumption) (by assumption) (by assumption), .tail _ (.tail _ (.tail _ hD2)), hys2.mono fun p hp => .tail _ (.tail _ (.tail _ hp)), hdl2, hdw2⟩))
      case rest2 =>
        rintro h3 tk3 led F6 N6 ⟨o3, vl, X3, ys3, k3, ds3, lead, x, rfl, ho3, d3, hl3, hlw, hx3, hxw, hD3, hys3, hdl3, hdw3⟩
        have hyl3 : ys3.length ≤ 4 := by have := hys3.len; omega
        have hdl4 : ds3.length ≤ 4 := by omega
        k_steps
        unfold Halt
        refine' Spec.useC Tl [_, _, _, _] (built_ok _ _ _ _ _ _ _ _ _ _ ?q1 ?q2 ?q3 ?q4) ?k1 ?k2 ?k3 ?k4 ?k5 ?kK ?ko ?kn ?kp ?kh ?kd ?ku ?_
        case k4 => k_asm
        case ko => assumption
        case k1 => k_asm
        case k2 => k_asm
        case k3 => k_asm
        case k5 => k_asm
        case kK => first | exact rfl | assumption
        case kn => exact nt_cons (cell_notTl (by assumption)) (nt_cons (cell_notTl (by assumption)) (nt_cons (cell_notTl (by assumption)) (nt_cons (cell_notTl (by assumption)) nt_nil)))
        case kh => exact fun _ _ _ hs h => ListIn.sub hs h
        case kp => exact ⟨NumIn.mono (by exact hl3) (by (intro p hp; (repeat (first | exact hp | refine List.Mem.tail _ ?_ | refine Ext.mem (by assumption) ?_)))), (by (repeat (first | assumption | exact List.Mem.head _ | refine List.Mem.tail _ ?_ | refine Ext.mem (by assumption) ?_))), NumsIn.mono (by exact hys3) (by (intro p hp; (repeat (first | exact hp | refine List.Mem.tail _ ?_ | refine Ext.mem (by assumption) ?_))))⟩
        case kd => ktr_room
        case ku => ktr_units
        case q1 => assumption
        case q2 => assumption
        case q3 => assumption
        case q4 => assumption
        k_whole
        intro r9 X9 h9 tk9 F9 N9 x9 o9 p9
        obtain ⟨lp, np, pv, rfl, hp9, hpv9⟩ := p9
        simp only [List.cons_append, List.nil_append] at N9
        have go : GoIf := ⟨⟩
        k_steps
        unfold Halt
        rename Fr _ _ _ _ => F10
        rename News _ _ _ _ => N10
        rename (_ < _ ∧ _ < _ ∧ _ < _ ∧ _ < _ ∧ AllLt _ X9) => lD1
        rename (_ < _ ∧ _ < _ ∧ _ < _ ∧ _ < _ ∧ _ < _ ∧ AllLt _ X9) => lD2
        have hpl9 : pv.length ≤ 5 := by have := hpv9.len; rw [built_len] at this; omega
        have hall := NumsIn.cons (hx3.mono x9.1) (hys3.mono x9.1)
        have N11 := News.reC N10
        have ho10 := fun o t => offA_ins (o := o) (notin4_lt lD2.2) (offA_ins (o := t) (notin4_lt lD1) o9)
        refine LCg.CompSrc.ledger rfl F10 N11 (.tail _ (.tail _ (.tail _ (.tail _ (.head _))))) ?hsz2 ?_
        case hsz2 => rw [sizeLine_eq, List.size_toArray]; simp only [List.length_append, List.length_cons, List.length_nil]; omega
        intro g2
        refine comp_inv _ (TrueInv [_, _, _, _] _) ?fin2 ?step2 _ 0 [] _ (Nat.zero_add _) ⟨_, rfl, Ext.refl, ho10 _ _, rfl⟩
        case step2 =>
          rintro i ys9 news9 hi ⟨X11, rfl, hx11, ho11, rfl⟩ v I oI C oC Dc m₂ h tk E' hv hC hx F12 N12 o3c ne
          obtain ⟨dv, hdv, hnv⟩ := hall.get (i := i) (v := v) (by simpa using hv)
          have hwv : Wd 20 70 dv := by
            rcases List.mem_cons.mp (List.mem_of_getElem? hdv) with e | e
            · rw [e]; exact hxw
            · exact hdw3 _ e
          simp only [List.cons_append, List.nil_append] at N12
          have ho12 := offA6 (off3_app (p := [_, _, _, _]) o3c) ho11
          k_steps
          unfold Halt
          refine' Spec.useC (fun _ => False) [_, _, _, _, _, _, _] (value_ok _ _ _ _ _ _ _ _ _ _ _ _ _ _ _ ?q1 ?q2 ?q3 ?q4 ?q5) ?k1 ?k2 ?k3 ?k4 ?k5 ?kK ?ko ?kn ?kp ?kh ?kd ?ku ?_
          case k4 => k_asm
          case ko => assumption
          case k1 => k_asm
          case k2 => k_asm
          case k3 => k_asm
          case k5 => k_asm
          case kK => first | exact rfl | assumption
          case kn => exact fun _ _ h => h
          case kh => exact fun _ _ _ _ h => h
          case kp => exact ⟨NumIn.mono (by assumption) (by (intro p hp; (repeat (first | exact hp | refine List.Mem.tail _ ?_ | refine Ext.mem (by assumption) ?_)))), NumIn.mono (by assumption) (by (intro p hp; (repeat (first | exact hp | refine List.Mem.tail _ ?_ | refine Ext.mem (by assumption) ?_)))), (by (repeat (first | assumption | exact List.Mem.head _ | refine List.Mem.tail _ ?_ | refine Ext.mem (by assumption) ?_))), NumsIn.mono (by assumption) (by (intro p hp; (repeat (first | exact hp | refine List.Mem.tail _ ?_ | refine Ext.mem (by assumption) ?_)))), (by (repeat (first | assumption | exact List.Mem.head _ | refine List.Mem.tail _ ?_ | refine Ext.mem (by assumption) ?_))), NumsIn.mono (by assumption) (by (intro p hp; (repeat (first | exact hp | refine List.Mem.tail _ ?_ | refine Ext.mem (by assumption) ?_))))⟩
          case q1 => assumption
          case q2 => assumption
          case q3 => assumption
          case q4 => assumption
          case q5 => assumption
          case kd => ktr_room
          case ku => ktr_units
          k_whole
          intro r9 X12 h12 tk12 F13 N13 x13 o13 p13
          subst p13
          simp only [List.cons_append, List.nil_append] at N13
          refine LCg.CompEnd.intro F13 N13 ([_, _, _, _] ++ X12) (fun p hp => hp) (off3_pre (p := [_, _, _, _]) o3c o13) (.inr ⟨_, .tail _ (.tail _ (.tail _ (.tail _ (x13.1 _ (hx11.1 _ (.head _)))))), rfl, _, rfl⟩) ⟨_, rfl, hx11.trans x13, fun q hq hm => o13 q hq (.tail _ (.tail _ (.tail _ hm))), List.replicate_succ'.symm⟩
        case fin2 =>
          rintro ys9 news9 ⟨X11, rfl, hx11, ho11, rfl⟩
          unfold LCg.FinE
          intro Dc h tk F12 N12 o2c
          simp only [List.cons_append, List.nil_append] at N12
          k_steps
          unfold Halt
          rename Fr _ _ _ _ => F14
          rename News _ _ _ _ => N14
          have N15 := News.drop1 N14
          have hl11 : NumIn X11 vl lead := hl3.mono fun p hp => hx11.1 p (.tail _ (.tail _ (x9.1 p hp)))
          have hys11 : NumsIn X11 ys3 ds3 := hys3.mono fun p hp => hx11.1 p (.tail _ (.tail _ (x9.1 p hp)))
          have hD11 : (D, W.listOf (List.toArray ys3) k3) ∈ X11 := hx11.1 _ (.tail _ (.tail _ (x9.1 _ hD3)))
          have hlp11 : (lp, W.listOf (List.toArray pv) np) ∈ X11 := hx11.1 _ (.tail _ (.tail _ hp9))
          have hpv11 : NumsIn X11 pv (builtOf lead ds3) := hpv9.mono fun p hp => hx11.1 p (.tail _ (.tail _ hp))
          refine' aj_listK (σ := Value) [_, _, _, _] (fun c => [(Str.ofString "last", c)]) [] (fun i X c => NumIn X c ((ds3.take i).foldl (fun v r => v * r) lead)) vl rfl hD11 F14 N15 ho11 ?hps ?hP ?turn ?done
          case hps =>
            intro p hp
            rw [List.mem_singleton.mp hp]; exact rfl
          case hP => exact hl11
          case turn =>
            intro i v c X u h tk I oI hv hxx hX hnt hP F4 N4
            obtain ⟨r, hr, hn⟩ := hys11.get hv
            have hwr := hdw3 _ (List.mem_of_getElem? hr)
            have hbf : Bd 400000 ((ds3.take i).foldl (fun v r => v * r) lead) := bd4 (wd_mulfold (ds3.take i) 20 70 hlw fun q hq => hdw3 q (mem_take hq)) (by rw [List.length_take]; omega) (by rw [List.length_take]; omega)
            have hbr : Bd 400000 r := bd4 hwr (by omega) (by omega)
            replace F4 : Fr _ _ _ (frT (Str.ofString "root") v [(Str.ofString "last", c)] _ u _) := F4
            simp only [List.cons_append, List.nil_append] at N4
            (try dsimp only at hP)
            k_steps
            rename Fr _ _ _ _ => F9
            rename News _ _ _ _ => N9
            rename NumIn _ _ (_ * r) => hfin
            rename Ext X _ => xa
            rename OffA _ _ => o9b
            refine ⟨_, _, _, ?cc, _, rfl, F9, N9, xa, fun p hp => ⟨fun hm => o9b p hp (.tail _ hm), fun e => o9b p hp (by rw [e]; exact .head _)⟩, ?ps, ?ag, ?pp⟩
            case ps =>
              intro p hp
              rw [List.mem_singleton.mp hp]; exact rfl
            case ag => (repeat' (first | exact Agr.base rfl | (refine Agr.st ?_ ?_; rotate_left; (first | exact .inl rfl | exact .inr (.inr rfl) | exact .inr (.inl ⟨_, List.Mem.head _, rfl⟩) | exact .inr (.inl ⟨_, List.Mem.tail _ (List.Mem.head _), rfl⟩)))))
            case pp =>
              show NumIn _ _ _
              rw [mulfold_step hr]
              exact hfin
          case done =>
            intro c X u h tk hxx hX hP F4 N4
            replace F4 : Fr _ _ _ (frO (Str.ofString "root") [(Str.ofString "last", c)] _ u _) := F4
            simp only [List.cons_append, List.nil_append] at N4
            (try dsimp only at hP)
            have hyl11 := hys11.len
            rw [hyl11, List.take_length] at hP
            have hyl10 : ys3.length ≤ 10 := by omega
            have hpl11 := hpv11.len
            rw [built_len] at hpl11
            have hpl2 : 2 ≤ pv.length := by omega
            obtain ⟨ve, hve⟩ : ∃ ve, pv[((-1 : Int) + (pv.length : Int)).toNat]? = some ve := ⟨_, List.getElem?_eq_getElem (by omega)⟩
            obtain ⟨dE, hdE, hnE⟩ := hpv11.get hve
            rw [show ((-1 : Int) + (pv.length : Int)).toNat = ds3.length by omega] at hdE
            have hlok := last_ok hyl11 hdE
            obtain ⟨v1, hv1⟩ : ∃ v1, pv[(1 : Int).toNat]? = some v1 := ⟨_, List.getElem?_eq_getElem (by show 1 < pv.length; omega)⟩
            obtain ⟨d1, hd1, hn1b⟩ := hpv11.get hv1
            have he1 := second_ok hd1
            have hbl : Bd 400000 lead := bd4 hlw (by omega) (by omega)
            have hbs : Bd 400000 ds3.sum := bd4 (wd_sum ds3 hdw3) (by omega) (by omega)
            have hb10 : ∀ d ∈ ds3, Bd 1000 d := fun d hd => (hdw3 d hd).bd (by omega) (by omega)
            replace hyl3 := Hid.mk hyl3
            replace hyl11 := Hid.mk hyl11
            k_steps
            all_goals (
              unfold Halt
              replace hyl3 := hyl3.out
              replace hyl11 := hyl11.out
              rename Fr _ _ _ _ => F15
              rename News _ _ _ _ => N16
              rename IsRange _ _ _ _ _ _ _ _ => R2
              rename OffA _ _ => o15
              refine LCg.CompSrc.range rfl F15 N16 R2 (n := ys3.length) (small_one (by decide) (by decide) (by omega) (by omega)) (by rw [rangeSize_nat]; omega) (by rw [sizeLine_eq]; omega) ?_
              intro g3
              refine comp_inv _ (TrueInv [_, _, _, _] _) ?fin3 ?step3 _ 0 [] _ (Nat.zero_add _) ⟨_, rfl, Ext.refl, o15, rfl⟩
              case step3 =>
                rintro i ys9 news9 hi ⟨X13, rfl, hx13, ho13, rfl⟩ v I oI C oC Dc m₂ h tk E' ⟨t, rfl⟩ hC hx F12 N12 o3c ne
                rw [Int.zero_add] at hx
                obtain ⟨rr, hrr⟩ : ∃ rr, ds3[i]? = some rr := ⟨_, List.getElem?_eq_getElem (by omega)⟩
                simp only [List.cons_append, List.nil_append] at N12
                have ho12 := offA6 (off3_app (p := [_, _, _, _]) o3c) ho13
                k_steps
                rename Fr _ _ _ _ => F16
                rename News _ _ _ _ => N17
                rename Ext X13 _ => xl
                rename OffA _ _ => o16
                exact LCg.CompEnd.intro F16 N17 ([_, _, _, _] ++ _) (fun p hp => hp) (off3_pre (p := [_, _, _, _]) o3c o16) trivial ⟨_, rfl, hx13.trans xl, fun q hq hm => o16 q hq (.tail _ (.tail _ (.tail _ hm))), List.replicate_succ'.symm⟩
              case fin3 =>
                rintro ys9 news9 ⟨X13, rfl, hx13, ho13, rfl⟩
                unfold LCg.FinE
                intro Dc h tk F12 N12 o2c
                simp only [List.cons_append, List.nil_append] at N12
                k_steps)
end

end Mine
theorem PySem.Challenge.cw_aj5013_01_holds : PySem.Challenge.rw_aj5013_01.Holds :=
  Mine.law_holds
