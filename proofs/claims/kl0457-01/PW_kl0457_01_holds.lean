import PyProof.Rows.All
import Wide.All
import OpenK.AllK
import Wide.FinOn
import PySem.Challenge.RW_kl0457_01
open PySem PySem.W PyProof.Rows PySem.Calls PySem.Spec
set_option Elab.async false
set_option maxRecDepth 100000
local macro_rules | `(tactic| walk_at $s:str) => `(tactic| k_extra $s)
namespace Mine
end Mine
open Mine
namespace Mine
set_option maxRecDepth 100000 in
set_option maxHeartbeats 8000000 in
open_top hd for PySem.Challenge.rw_kl0457_01
end Mine
namespace Mine
theorem laid1 : True := by
  w_top off
  trivial
theorem bitAnd_mask (k : Nat) {x : Int} (h : 0 ≤ x) : Builtin.bitAnd x (2 ^ k - 1) = x % 2 ^ k := by
  have h2 : (0 : Int) ≤ 2 ^ k - 1 := by
    have : (0 : Int) < 2 ^ k := Int.pow_pos (by decide)
    omega
  rw [bitAnd_pp h h2]
  have e : ((2 : Int) ^ k - 1).toNat = 2 ^ k - 1 := by
    have : ((2 : Int) ^ k - 1) = ((2 ^ k - 1 : Nat) : Int) := by
      have : 1 ≤ 2 ^ k := Nat.one_le_two_pow
      rw [Int.natCast_sub this]; simp
    rw [this]; rfl
  rw [e, Nat.and_two_pow_sub_one_eq_mod, Int.natCast_emod, Int.toNat_of_nonneg h]
  simp
structure It where
  kind : Str
  place : Int
  stop : Int
  rest : Int
  other : Int
def rowAt (rows : List It) (k : Int) : Option It := if 0 ≤ k then rows[k.toNat]? else none
def ItIn (news : List (Addr × Obj)) (v : Value) (it : It) : Prop :=
  ∃ a t0 t1 t2 t3 t4 n, v = .ref a ∧ (a, listOf #[.str it.kind t0, .int it.place t1, .int it.stop t2, .int it.rest t3, .int it.other t4] n) ∈ news
structure RowIn (news : List (Addr × Obj)) (r : Addr) (rows : List It) : Prop where
  ok : ∃ (vs : Array Value) (n : Nat), (r, listOf vs n) ∈ news ∧ vs.size = rows.length ∧ ∀ (i : Nat) (it : It), rows[i]? = some it → ∃ v : Value, vs[i]? = some v ∧ ItIn news v it
  small : rows.length < 2 ^ 62
theorem ItIn.mono {news news' : List (Addr × Obj)} {v : Value} {it : It} (h : ItIn news v it) (hs : ∀ p ∈ news, p ∈ news') : ItIn news' v it := by
  obtain ⟨a, t0, t1, t2, t3, t4, n, rfl, hm⟩ := h
  exact ⟨a, t0, t1, t2, t3, t4, n, rfl, hs _ hm⟩
theorem RowIn.mono {news news' : List (Addr × Obj)} {r : Addr} {rows : List It} (h : RowIn news r rows) (hs : ∀ p ∈ news, p ∈ news') : RowIn news' r rows := by
  obtain ⟨⟨vs, n, hm, hsz, hi⟩, h2⟩ := h
  exact ⟨⟨vs, n, hs _ hm, hsz, fun i it e => let ⟨v, a, b⟩ := hi i it e; ⟨v, a, b.mono hs⟩⟩, h2⟩
section
variable {prog : Program} {w : World} {A : Around} {E : Value → Shared → Prop} {s : Shared} {h₀ : Heap} {L r : Addr} {news news' : List (Addr × Obj)}
theorem row_item {value slice : Expr} {rows : List It} {k : Int} {u : Tok} {it : It} {Q : Value → Shared → Prop} (N : News h₀ L s.heap news') (R : RowIn news r rows) (hs : ∀ p ∈ news, p ∈ news') (hk : rowAt rows k = some it)
    (h : ∀ a t0 t1 t2 t3 t4 n, (a, listOf #[.str it.kind t0, .int it.place t1, .int it.stop t2, .int it.rest t3, .int it.other t4] n) ∈ news → Q (.ref a) s)
    (hsub : subscripted slice false (.ref r) (.int k u) = operate [.ref r, .int k u] (getItem (.ref r) (.int k u)) := by with_unfolding_all rfl) :
    wpAny (model prog w) A (subscriptTail value slice (.ref r) (.int k u)) Q E s := by
  obtain ⟨⟨vs, n, hm, hsz, hi⟩, h2⟩ := R
  unfold rowAt at hk
  split at hk
  · rename_i h0
    obtain ⟨v, hv, a, t0, t1, t2, t3, t4, n', rfl, hm'⟩ := hi _ _ hk
    have hl : s.heap.IsList r vs := ⟨_, (N _ (hs _ hm)).1, rfl, n, rfl⟩
    have hlt : k.toNat < rows.length := by
      rcases Nat.lt_or_ge k.toNat rows.length with q | q
      · exact q
      · rw [List.getElem?_eq_none q] at hk; cases hk
    exact tail_any hl.typeIs slot_list_getitem.lookup (wpAny_getItem_list hl h0 (by omega) hv (h _ _ _ _ _ _ _ hm')) hsub
  · cases hk
theorem lit_item {value slice : Expr} {vs : List Value} {a : Addr} {n : Nat} {k : Int} {u : Tok} {v : Value} {Q : Value → Shared → Prop} (N : News h₀ L s.heap news) (hm : (a, listOf vs.toArray n) ∈ news)
    (h0 : 0 ≤ k) (hhi : k < 2 ^ 63) (hx : vs[k.toNat]? = some v) (h : Q v s)
    (hsub : subscripted slice false (.ref a) (.int k u) = operate [.ref a, .int k u] (getItem (.ref a) (.int k u)) := by with_unfolding_all rfl) :
    wpAny (model prog w) A (subscriptTail value slice (.ref a) (.int k u)) Q E s :=
  have hl : s.heap.IsList a vs.toArray := ⟨_, (N _ hm).1, rfl, n, rfl⟩
  tail_any hl.typeIs slot_list_getitem.lookup (wpAny_getItem_list hl h0 hhi (by simpa using hx) h) hsub
end
/-- a contract of a def: given the ledger `news` and what is asked of it, the call hands back r with new entries tl that satisfy Post -/
def Ctr (prog : Program) (w : World) (f : Addr) (need : Nat) (vs : List Value) (news : List (Addr × Obj)) (Post : List (Addr × Obj) → Value → Prop) : Prop :=
  ∀ (p : Program) (loose : List Str) (mean : ExcName → Option Value) (mg mb : Str → Option Value) (dp un : Nat) (gd : Option (List Code)) (cn : Str) (cs : Scope) (a : Addr) (ccd : Value) (cl : List (Str × Addr)) (outer : List Env) (A₀ : Around) (base h₀ : Heap) (L : Addr) (m : Str → Option Value) (s : Shared)
    (Q E : Value → Shared → Prop),
    Below A₀ base outer h₀ → Fr h₀ L s.heap m → (Mine.hd.heap_39 w.params).In h₀ → News h₀ L s.heap news → Top p loose mean mg mb h₀ → cs.kind = .function → dp + need < recursionLimit → un + 8 * need < cLine →
    (∀ r tl h' tk', Fr h₀ L h' m → News h₀ L h' (tl ++ news) → (∀ q ∈ news, ∀ p ∈ tl, q.1 < p.1) → Post tl r → Q r { s with heap := h', toks := tk' }) →
    wpAny (model prog w) (ktrTop dp un gd cn cs L a ccd cl outer) (call (.ref f) vs) Q E s
theorem laid2 : True := by
  k_with "mine in" => (first | with_reducible assumption | exact List.mem_cons_self | (refine List.mem_cons_of_mem _ ?_; k_extra "mine in") | (refine List.mem_append_left _ ?_; k_extra "mine in") | (refine List.mem_append_right _ ?_; k_extra "mine in"))
  trivial
end Mine
local macro_rules | `(tactic| k_mem) => `(tactic| k_extra "mine in")
namespace Mine
theorem laid3 : True := by
  k_with "mine sub" => (intro p9 hp9; k_extra "mine in")
  k_with "mine mem" => k_extra "mine in"
  k_with "subscriptTail" => (k_here; (with_reducible show wpAny _ _ (subscriptTail _ _ (Value.ref _) (Value.int _ _)) _ _ _); first
  | (with_unfolding_all refine' row_item ?q9k1 ?q9k2 ?q9k3 ?q9k4 ?_ ?q9k6; (case q9k1 => k_asm); (case q9k2 => assumption); (case q9k3 => k_extra "mine sub"); (case q9k4 => assumption); (case q9k6 => with_unfolding_all rfl); intro a' t0' t1' t2' t3' t4' n' hm'))
  k_with "subscriptTail" => (k_here; (with_reducible show wpAny _ _ (subscriptTail _ _ (Value.ref _) (Value.int _ _)) _ _ _); first
  | (with_unfolding_all refine' lit_item ?q9k1 ?q9k2 ?q9k3 ?q9k4 ?q9k5 ?_ ?q9k6; (case q9k1 => k_asm); (case q9k2 => (k_extra "mine mem")); (case q9k3 => decide); (case q9k4 => decide); (case q9k5 => rfl); (case q9k6 => with_unfolding_all rfl)))
  trivial
theorem allLt_mem {d : Addr} {l : List (Addr × Obj)} (h : AllLt d l) : ∀ p ∈ l, p.1 < d := by
  induction l with
  | nil => intro p hp; cases hp
  | cons x r ih =>
    unfold AllLt at h
    intro p hp
    rcases List.mem_cons.mp hp with e | hp
    · rw [e]; exact h.1
    · exact ih h.2 p hp
theorem laid4 : True := by
  k_with "mine below" => (first | assumption | exact allLt_mem (by assumption) | exact allLt_mem (And.right (by assumption)) | exact allLt_mem (And.right (And.right (by assumption))) | exact allLt_mem (And.right (And.right (And.right (by assumption)))) | exact allLt_mem (And.right (And.right (And.right (And.right (by assumption))))) | exact allLt_mem (And.right (And.right (And.right (And.right (And.right (by assumption)))))) | exact allLt_mem (And.right (And.right (And.right (And.right (And.right (And.right (by assumption))))))) | exact allLt_mem (And.right (And.right (And.right (And.right (And.right (And.right (And.right (by assumption)))))))) | exact allLt_mem (And.right (And.right (And.right (And.right (And.right (And.right (And.right (And.right (by assumption))))))))) | exact allLt_mem (And.right (And.right (And.right (And.right (And.right (And.right (And.right (And.right (And.right (by assumption)))))))))) | exact allLt_mem (And.right (And.right (And.right (And.right (And.right (And.right (And.right (And.right (And.right (And.right (by assumption))))))))))))
  k_with "mine all" => (first | exact List.forall_mem_nil _ | (refine List.forall_mem_cons.mpr ⟨by k_extra "mine in", ?_⟩; k_extra "mine all") | (k_extra "mine sub"))
  k_with "mine drop" => (refine cb_drop (by assumption) ?_; (try simp only [List.cons_append, List.nil_append]); k_extra "mine all")
  trivial
theorem order1 {news : List (Addr × Obj)} {D : Addr} {o : Obj} (h : ∀ p ∈ news, p.1 < D) : ∀ q ∈ news, ∀ p ∈ [(D, o)], q.1 < p.1 := fun q hq p hp => by rw [List.mem_singleton.mp hp]; exact h q hq
section
variable {prog : Program} {w : World} {f : Addr} {need : Nat} {vs : List Value} {news : List (Addr × Obj)} {Post : List (Addr × Obj) → Value → Prop}
theorem ctr_use {p : Program} {loose : List Str} {mean : ExcName → Option Value} {mg mb : Str → Option Value} {dp un : Nat} {gd : Option (List Code)} {cn : Str} {cs : Scope} {a : Addr} {ccd : Value} {cl : List (Str × Addr)} {outer : List Env} {A₀ : Around} {base h₀ : Heap} {L : Addr} {m : Str → Option Value} {s : Shared}
    {Q E : Value → Shared → Prop} (C : Ctr prog w f need vs news Post)
    (B : Below A₀ base outer h₀) (F : Fr h₀ L s.heap m) (X : (Mine.hd.heap_39 w.params).In h₀) (N : News h₀ L s.heap news) (T : Top p loose mean mg mb h₀) (hk : cs.kind = .function) (hd : dp + need < recursionLimit) (hu : un + 8 * need < cLine)
    (ret : ∀ r tl h' tk', Fr h₀ L h' m → News h₀ L h' (tl ++ news) → (∀ q ∈ news, ∀ p ∈ tl, q.1 < p.1) → Post tl r → Q r { s with heap := h', toks := tk' }) :
    wpAny (model prog w) (ktrTop dp un gd cn cs L a ccd cl outer) (call (.ref f) vs) Q E s := C _ _ _ _ _ _ _ _ _ _ _ _ _ _ _ _ _ _ _ _ _ _ B F X N T hk hd hu ret
end
theorem order1' {news : List (Addr × Obj)} {D : Addr} {o : Obj} (h : ∀ q ∈ news, ∀ p ∈ [(D, o)], q.1 < p.1) : ∀ p ∈ news, p.1 < D := fun q hq => h q hq _ (.head _)
theorem laid5 : True := by
  k_with "mine ctr" => (
  (case q9k1 => k_asm); (case q9k2 => k_asm); (case q9k3 => k_asm); (case q9k4 => k_asm); (case q9k5 => k_asm); (case q9kK => first | exact rfl | assumption); (case q9kd => ktr_room); (case q9ku => ktr_units))
  k_with "mine enterC" => (refine' code_defC ?q9k1 ?q9k2 ?q9k3 ?q9k4 ?q9k5 ?q9kA ?q9kF ?q9kK ?q9k6 ?q9k7 ?q9k8 ?q9k9 ?q9kB ?q9kD ?_ ?q9c2 ?q9c3 ?q9c4; (case q9kA => exact rfl); (case q9kF => exact rfl); (case q9kK => assumption); (case q9k1 => k_asm); (case q9k2 => k_asm); (case q9k3 => k_asm); (case q9k4 => k_asm); (case q9k5 => k_asm); (case q9k6 => k_is); (case q9k7 => k_is); (case q9k8 => ktr_room); (case q9k9 => exact BindsTo.of_eq rfl); (case q9kB => exact rfl); (case q9kD => decide +kernel); (case q9c2 => exact rfl); (case q9c3 => exact rfl); (case q9c4 => exact rfl); k_whole; intro g' L' h' tk' cells' FG' F' N' Y' B' X' T' l1; (try k_lt l1); k_cells Y'; (try simp only [List.cons_append, List.nil_append] at N'); (try dsimp only); (try k_lift B'); (try k_fold))
  trivial
inductive PlainOn : Prop where
  | mk
/-- a state along the walk, laid plain: what only grows (the tokens) gets a new name -/
theorem st_gen {M : Model} {α : Type} {A : Around} {t : Sem α} {Q : α → Shared → Prop} {E : Value → Shared → Prop} {s s₀ : Shared} {h : Heap} (hg : s.gens = s₀.gens) (hd : s.drawn = s₀.drawn) (ho : s.os = s₀.os) (hh : s.heap = h)
    (H : ∀ k, wpAny M A t Q E { heap := h, gens := s₀.gens, drawn := s₀.drawn, toks := k, os := s₀.os }) : wpAny M A t Q E s := by
  obtain ⟨h1, g, d, k, o⟩ := s
  dsimp only at hg hd ho hh
  subst hg hd ho hh
  exact H k
theorem laid6 : True := by
  k_with "execs cons" => (k_here; (with_reducible show wpAny _ _ (execs (_ :: _) _) _ _ (Shared.mk _ _ _ (_ + 1) _)); (rename PlainOn => plainOn); refine' st_gen (s₀ := s) ?q9a ?q9b ?q9c ?q9d ?_; (case q9a => exact rfl); (case q9b => exact rfl); (case q9c => exact rfl); (case q9d => exact rfl); intro k9)
  trivial
end Mine
namespace Mine
theorem laid7 : True := by
  w_top off
  trivial
abbrev tup4 (a b c d : Int) (t1 t2 t3 t4 : Tok) : Obj := { cls := .type "tuple", data := .seq #[.int a t1, .int b t2, .int c t3, .int d t4] }
def GroupIs (rows : List It) (ib : It) (told fault much between : Int) : Prop :=
  (ib.other < 0 ∧ told = ib.place ∧ fault = 0 ∧ much = 0 ∧ between = 0) ∨
  ∃ il, rowAt rows ib.other = some il ∧ 0 ≤ ib.other ∧ fault = il.rest.fmod 10 ∧ much = (il.rest.fdiv 10).fmod 1000 ∧ told = (if fault = 5 then ib.place - 1 - much.fmod 3 else ib.place) ∧ between = il.place - ib.stop
set_option maxHeartbeats 4000000 in
theorem group_ctr {prog : Program} {w : World} {news : List (Addr × Obj)} {r : Addr} {rows : List It} {b : Int} {tb : Tok} {ib : It} {told fault much between : Int} (R : RowIn news r rows) (hb : rowAt rows b = some ib) (hg : GroupIs rows ib told fault much between) :
    Ctr prog w 132 2 [.ref r, .int b tb] news fun tl v => ∃ t t1 t2 t3 t4, v = .ref t ∧ tl = [(t, tup4 told fault much between t1 t2 t3 t4)] := by
  unfold Ctr
  intro p loose mean mg mb dp un gd cn cs a ccd cl outer A₀ base h₀ L m s Q E B F X N T hk hd hu hret
  have plainOn := PlainOn.mk
  refine wpAny_call ?_
  k_dflt ktr_enter
  rcases hg with ⟨hl, rfl, rfl, rfl, rfl⟩ | ⟨il, hl, h0, rfl, rfl, rfl, rfl⟩
  · k_steps
    exact hret _ [_] _ _ (by assumption) (by k_extra "mine drop") (order1 (by k_extra "mine below")) ⟨_, _, _, _, _, rfl, rfl⟩
  · k_steps
    · rename_i h5
      exact hret _ [_] _ _ (by assumption) (by k_extra "mine drop") (order1 (by k_extra "mine below")) ⟨_, _, _, _, _, rfl, by rw [if_pos (by assumption)]⟩
    · exact hret _ [_] _ _ (by assumption) (by k_extra "mine drop") (order1 (by k_extra "mine below")) ⟨_, _, _, _, _, rfl, by rw [if_neg (by assumption)]⟩
theorem laid8 : True := by
  k_with "call ref" => (k_here; (with_reducible show wpAny _ _ (call (Value.ref 132) _ _) _ _ _); k_dflt (
  refine' ctr_use (group_ctr ?q9kR ?q9kb ?q9kg) ?q9k1 ?q9k2 ?q9k3 ?q9k4 ?q9k5 ?q9kK ?q9kd ?q9ku ?_; (case q9kb => assumption); (case q9kg => assumption); k_extra "mine ctr"; (case q9kR => exact RowIn.mono (by assumption) (by k_extra "mine sub"));
  intro r9 tl9 h9 tk9 F9 N9 ho9 hp9; obtain ⟨t9, t19, t29, t39, t49, e9, e99⟩ := hp9; subst e9; subst e99; (simp only [List.cons_append, List.nil_append] at N9); (replace ho9 := order1' ho9); (try k_lt ho9); (try dsimp only); (try k_sweep); (try k_fold)))
  trivial
end Mine
namespace Mine
theorem laid9 : True := by
  w_top off
  trivial
abbrev list6 (c0 c1 c2 c3 c4 c5 : Int) (t0 t1 t2 t3 t4 t5 : Tok) (n : Nat) : Obj := listOf #[.int c0 t0, .int c1 t1, .int c2 t2, .int c3 t3, .int c4 t4, .int c5 t5] n
def cnt0 (rest : Int) : Int := rest % 16777216
def cnt1 (rest : Int) : Int := rest / 3 % 16777216
def cnt2 (rest : Int) : Int := rest / 5 % 16777216 + rest / 7 % 16777216 * 4294967296
def cnt3 (rest : Int) : Int := rest / 11 % 16777216
def cnt5 (told rest : Int) : Int := told / 4294967296 * (rest % 8) / 7 * 4294967296 + told % 4294967296 * (rest % 8) / 7
def cnt4 (told rest fault : Int) : Int := told - cnt5 told rest + (if fault = 8 then 1 else 0)
theorem fm (a : Int) {n : Int} (h : 0 ≤ n := by decide) : a.fmod n = a % n := Int.fmod_eq_emod_of_nonneg a h
theorem fd (a : Int) {n : Int} (h : 0 ≤ n := by decide) : a.fdiv n = a / n := Int.fdiv_eq_ediv_of_nonneg a h
theorem cnt5_eq {told rest : Int} (ht : 0 ≤ told) : (told.fdiv (2 ^ Int.toNat 32) * rest.fmod 8).fdiv 7 * 2 ^ Int.toNat 32 + (Builtin.bitAnd told 4294967295 * rest.fmod 8).fdiv 7 = cnt5 told rest := by
  have e : Builtin.bitAnd told 4294967295 = told % 4294967296 := bitAnd_mask 32 ht
  have e2 : (2 : Int) ^ Int.toNat 32 = 4294967296 := by decide
  rw [e, e2, fd, fm, fd, fd]; rfl
theorem cnt2_eq {rest : Int} : (rest.fdiv 5).fmod 16777216 + (rest.fdiv 7).fmod 16777216 * 2 ^ Int.toNat 32 = cnt2 rest := by
  have e2 : (2 : Int) ^ Int.toNat 32 = 4294967296 := by decide
  rw [e2, fd, fm, fd, fm]; rfl
set_option maxHeartbeats 4000000 in
theorem counts_ctr {prog : Program} {w : World} {news : List (Addr × Obj)} {r : Addr} {rows : List It} {b : Int} {tb : Tok} {ib : It} {told fault much between : Int} (R : RowIn news r rows) (hb : rowAt rows b = some ib) (hg : GroupIs rows ib told fault much between) 
    (ht : 0 ≤ told) (ht2 : told < 2 ^ 60) :
    Ctr prog w 139 4 [.ref r, .int b tb] news fun tl v => ∃ t c0 c1 c2 c3 c4 c5 t0 t1 t2 t3 t4 t5 n, v = .ref t ∧ tl = [(t, list6 c0 c1 c2 c3 c4 c5 t0 t1 t2 t3 t4 t5 n)] ∧
      c0 = cnt0 ib.rest ∧ c1 = cnt1 ib.rest ∧ c2 = cnt2 ib.rest ∧ c3 = cnt3 ib.rest ∧ c4 = cnt4 told ib.rest fault ∧ c5 = cnt5 told ib.rest := by
  unfold Ctr
  intro p loose mean mg mb dp un gd cn cs a ccd cl outer A₀ base h₀ L m s Q E B F X N T hk hd hu hret
  have plainOn := PlainOn.mk
  refine wpAny_call ?_
  k_dflt ktr_enter
  k_steps
  · have h8 : fault = 8 := by assumption
    exact hret _ [_] _ _ (by assumption) (by k_extra "mine drop") (order1 (by k_extra "mine below")) ⟨_, _, _, _, _, _, _, _, _, _, _, _, _, _, rfl, rfl, fm _, by rw [fd, fm]; rfl, cnt2_eq, by rw [fd, fm]; rfl, by rw [cnt5_eq ht]; unfold cnt4; rw [if_pos h8], cnt5_eq ht⟩
  · have h8 : fault ≠ 8 := by assumption
    exact hret _ [_] _ _ (by assumption) (by k_extra "mine drop") (order1 (by k_extra "mine below")) ⟨_, _, _, _, _, _, _, _, _, _, _, _, _, _, rfl, rfl, fm _, by rw [fd, fm]; rfl, cnt2_eq, by rw [fd, fm]; rfl, by rw [cnt5_eq ht]; unfold cnt4; rw [if_neg h8], cnt5_eq ht⟩
theorem laid10 : True := by
  k_with "call ref" => (k_here; (with_reducible show wpAny _ _ (call (Value.ref 139) _ _) _ _ _); k_dflt (
  refine' ctr_use (counts_ctr ?q9kR ?q9kb ?q9kg ?q9kt ?q9kt2) ?q9k1 ?q9k2 ?q9k3 ?q9k4 ?q9k5 ?q9kK ?q9kd ?q9ku ?_; (case q9kb => assumption); (case q9kg => assumption); (case q9kt => omega); (case q9kt2 => omega); k_extra "mine ctr"; (case q9kR => exact RowIn.mono (by assumption) (by k_extra "mine sub"));
  intro r9 tl9 h9 tk9 F9 N9 ho9 hp9; obtain ⟨t9, c09, c19, c29, c39, c49, c59, t09, t19, t29, t39, t49, t59, n9, e9, e99, e09, e19, e29, e39, e49, e59⟩ := hp9; subst e9; subst e99; subst e09; subst e19; subst e29; subst e39; subst e49; subst e59; (simp only [List.cons_append, List.nil_append] at N9); (replace ho9 := order1' ho9); (try k_lt ho9); (try dsimp only); (try k_sweep); (try k_fold)))
  trivial
end Mine
namespace Mine
theorem laid11 : True := by
  w_top off
  trivial
def octs (x : Int) (c : Nat) : List UInt8 := (List.range c).map fun k => (x / 2 ^ (8 * k) % 256).toNat.toUInt8
theorem octs_length (x : Int) (c : Nat) : (octs x c).length = c := by unfold octs; rw [List.length_map, List.length_range]
theorem byte_val {x : Int} (h : 0 ≤ x) (k : Int) : Builtin.bitAnd (x.fdiv (2 ^ (8 * k).toNat)) 255 = x / 2 ^ (8 * k).toNat % 256 := by
  have hp : (0 : Int) < 2 ^ (8 * k).toNat := Int.pow_pos (by decide)
  have h1 : 0 ≤ x / 2 ^ (8 * k).toNat := Int.ediv_nonneg h (Int.le_of_lt hp)
  rw [fd _ (Int.le_of_lt hp)]
  exact bitAnd_mask 8 h1
theorem octs_eq {x c : Int} (h : 0 ≤ x) (hc : 0 ≤ c) : ((List.map (fun k' => Builtin.bitAnd (x.fdiv (2 ^ (8 * k').toNat)) 255) (rangeKs 0 (c - 0).toNat)).map fun n => n.toNat.toUInt8) = octs x c.toNat := by
  unfold octs rangeKs
  rw [List.map_map, List.map_map, Int.sub_zero]
  refine List.map_congr_left fun k _ => ?_
  show (Builtin.bitAnd (x.fdiv (2 ^ (8 * (0 + (k : Int))).toNat)) 255).toNat.toUInt8 = _
  rw [byte_val h]
  have e : (8 * (0 + (k : Int))).toNat = 8 * k := by omega
  rw [e]
set_option maxHeartbeats 4000000 in
theorem octets_ctr {prog : Program} {w : World} {news : List (Addr × Obj)} {x c : Int} {tb tc : Tok} (h0 : 0 ≤ x) (h1 : x < 2 ^ 64) (hc0 : 0 ≤ c) (hc1 : c ≤ 8) :
    Ctr prog w 144 4 [.int x tb, .int c tc] news fun tl v => tl = [] ∧ ∃ t, v = .bytes (octs x c.toNat).toArray t := by
  unfold Ctr
  intro p loose mean mg mb dp un gd cn cs a ccd cl outer A₀ base h₀ L m s Q E B F X N T hk hd hu hret
  have plainOn := PlainOn.mk
  refine wpAny_call ?_
  k_dflt (k_extra "mine enterC")
  k_steps
  refine bytes_K (by k_asm) (by k_asm) (by is_list) (by assumption) ?_ ?_ rfl ?_
  · intro n hn
    obtain ⟨k, hk, rfl⟩ := List.mem_map.mp hn
    rw [byte_val h0]
    omega
  · rename_i hL _ _ _ _ _ _
    rw [hL, List.length_map, rangeKs_length, sizeLine_eq]
    omega
  · intro h' t' k' F' N' hB'
    rw [octs_eq h0 hc0]
    k_steps
    exact hret _ [] _ _ (by assumption) (by k_extra "mine drop") (fun _ _ _ h => nomatch h) ⟨rfl, _, rfl⟩
theorem laid12 : True := by
  k_with "call ref" => (k_here; (with_reducible show wpAny _ _ (call (Value.ref 144) _ _) _ _ _); k_dflt (
  refine' ctr_use (octets_ctr ?q9ka ?q9kb ?q9kc ?q9ke) ?q9k1 ?q9k2 ?q9k3 ?q9k4 ?q9k5 ?q9kK ?q9kd ?q9ku ?_; (case q9ka => k_extra "mine num"); (case q9kb => k_extra "mine num"); (case q9kc => k_extra "mine num"); (case q9ke => k_extra "mine num"); k_extra "mine ctr";
  intro r9 tl9 h9 tk9 F9 N9 ho9 hp9; obtain ⟨e9, t9, e99⟩ := hp9; subst e9; subst e99; (simp only [List.cons_append, List.nil_append] at N9); clear ho9; (try dsimp only); (try k_sweep); (try k_fold)))
  k_with "mine num" => (first | decide | assumption | omega)
  trivial
end Mine
namespace Mine
theorem laid13 : True := by
  w_top off
  trivial
section
variable {prog : Program} {w : World} {A : Around} {E : Value → Shared → Prop} {s : Shared} {env : Env} {h₀ : Heap} {target : Expr} {body : List Stmt} {Q : Flow → Shared → Prop}
/-- a turn's end: what the iterator owns stands, the ledger's part that the word speaks of lies below I or above hi -/
def TurnEnd (h₀ : Heap) (L I hi : Addr) (J : (Str → Option Value) → List (Addr × Obj) → Prop) (own : List (Addr × Obj)) (s₁ s₂ : Shared) : Prop :=
  ∃ h' tk m' led' news', s₂ = { s₁ with heap := h', toks := tk } ∧ Fr h₀ L h' m' ∧ News h₀ L h' led' ∧ (∀ p ∈ own, p ∈ led') ∧ (∀ p ∈ news', p ∈ led') ∧ (∀ p ∈ news', p.1 < I ∨ hi < p.1) ∧ J m' news'
def TurnPost (h₀ : Heap) (L I hi : Addr) (J : (Str → Option Value) → List (Addr × Obj) → Prop) (own : List (Addr × Obj)) (s₁ : Shared) (Q : Flow → Shared → Prop) (f : Flow) (s₂ : Shared) : Prop :=
  match f with
  | .ret v => Q (.ret v) s₂
  | .brk => Q .next s₂
  | _ => TurnEnd h₀ L I hi J own s₁ s₂
theorem turns_core {It I hi : Addr} {fp wr : List Addr} {n : Nat} {P Md : Nat → Value → Heap → Prop} {St : Nat → Heap → Prop} {m₀ : Str → Option Value} {news : List (Addr × Obj)} {hp : Heap} {tk0 : Nat}
    (W : KTurns prog w A target It fp wr n P Md St) (hwr : ∀ b ∈ wr, (I ≤ b ∧ b ≤ hi) ∧ h₀.get? b = none) (hL : env.locals ∉ fp) (hlow : ∀ p ∈ news, p.1 < I) (hst : St 0 hp)
    (F : Fr h₀ env.locals hp m₀) (N : News h₀ env.locals hp news) (hhi : ∀ i h, St i h → ∃ o, h.get? hi = some o) (hhf : hi ∈ fp) (hhn : h₀.get? hi = none)
    (J : Nat → (Str → Option Value) → List (Addr × Obj) → Prop) (h0 : J 0 m₀ news)
    (step : ∀ i v m₁ news₁ h₁ tk₁ own, i < n → P i v h₁ → J i m₁ news₁ → (∀ p ∈ news₁, p.1 < I ∨ hi < p.1) → (∃ o, (hi, o) ∈ own) → Fr h₀ env.locals h₁ m₁ → News h₀ env.locals h₁ (news₁ ++ own) →
      wpAny (model prog w) A (assign target env v) (fun _ s₂ => wpAny (model prog w) A (execs body env) (TurnPost h₀ env.locals I hi (J (i + 1)) own { s with heap := h₁, toks := tk₁ } Q) E s₂) E { s with heap := h₁, toks := tk₁ })
    (done : ∀ h' tk m' news', Fr h₀ env.locals h' m' → News h₀ env.locals h' news' → (∀ p ∈ news', p.1 < I ∨ hi < p.1) → J n m' news' → Q .next { s with heap := h', toks := tk }) :
    TurnsAt prog w A h₀ env target body Q E (.ref It) { s with heap := hp, toks := tk0 } := by
  refine ⟨It, fp, wr, n, P, Md, St, m₀, news, fun i m₁ news₁ => (∀ p ∈ news₁, p.1 < I ∨ hi < p.1) ∧ J i m₁ news₁, rfl, W, hL, fun b hb => (hwr b hb).2, fun p hp hb => ?_, hst, F, N, ⟨fun p hp => .inl (hlow p hp), h0⟩, ?_, ?_⟩
  · exact absurd (hlow p hp) (Nat.not_lt.mpr (hwr _ hb).1.1)
  · intro i v m₁ news₁ h₁ tk₁ own hin hP hJ _ _ _ hall hst₁ F₁ N₁
    obtain ⟨hb, hJ⟩ := hJ
    obtain ⟨o, ho⟩ := hhi _ _ hst₁
    refine wpAny_mono (step i v m₁ news₁ h₁ tk₁ own hin hP hJ hb ⟨o, hall hi hhf hhn o ho⟩ F₁ (fun p hp => N₁ p ((List.mem_append.mp hp).elim (fun h => List.mem_append.mpr (.inr h)) fun h => List.mem_append.mpr (.inl h)))) (fun _ s₂ h₂ => wpAny_mono h₂ (fun f s₃ p => ?_) fun _ _ e => e) fun _ _ e => e
    have fin : TurnEnd h₀ env.locals I hi (J (i + 1)) own { s with heap := h₁, toks := tk₁ } s₃ → LoopStepU h₀ env.locals wr own (fun m₁ news₁ => (∀ p ∈ news₁, p.1 < I ∨ hi < p.1) ∧ J (i + 1) m₁ news₁) { s with heap := h₁, toks := tk₁ } .next s₃ := by
      rintro ⟨h', tk, m', led', news', e, F', N', a, b, c, d⟩
      refine ⟨rfl, h', tk, m', news', e, F', fun p hp => N' p ((List.mem_append.mp hp).elim (a p) (b p)), fun p hp hb => ?_, c, d⟩
      obtain ⟨⟨h1, h2⟩, _⟩ := hwr _ hb
      rcases c p hp with h3 | h3
      · exact absurd h3 (Nat.not_lt.mpr h1)
      · exact absurd h3 (Nat.not_lt.mpr h2)
    cases f with
    | ret v => exact .ret p
    | brk => exact .brk p
    | next => exact .next (fin p)
    | cont => exact .cont (fin p)
  · intro h' tk m' news' F' N' _ hJ
    exact done h' tk m' news' F' N' hJ.1 hJ.2
theorem turns_list {ax : Addr} {vs : List Value} {k : Nat} {m₀ : Str → Option Value} {news : List (Addr × Obj)}
    (hh : A.handled = none) (F : Fr h₀ env.locals s.heap m₀) (N : News h₀ env.locals s.heap news) (hm : (ax, listOf vs.toArray k) ∈ news)
    (J : Nat → (Str → Option Value) → List (Addr × Obj) → Prop) (h0 : J 0 m₀ news)
    (step : ∀ I i v m₁ news₁ h₁ tk₁ own, (∀ p ∈ news, p.1 < I) → vs[i]? = some v → J i m₁ news₁ → (∀ p ∈ news₁, p.1 < I ∨ I < p.1) → (∃ o, (I, o) ∈ own) → Fr h₀ env.locals h₁ m₁ → News h₀ env.locals h₁ (news₁ ++ own) →
      wpAny (model prog w) A (assign target env v) (fun _ s₂ => wpAny (model prog w) A (execs body env) (TurnPost h₀ env.locals I I (J (i + 1)) own { s with heap := h₁, toks := tk₁ } Q) E s₂) E { s with heap := h₁, toks := tk₁ })
    (done : ∀ h' tk m' news', Fr h₀ env.locals h' m' → News h₀ env.locals h' news' → J vs.length m' news' → Q .next { s with heap := h', toks := tk }) :
    wpAny (model prog w) A (pyIter (.ref ax)) (fun it s₂ => TurnsAt prog w A h₀ env target body Q E it s₂) E s := by
  have hax := N _ hm
  have hl : s.heap.IsList ax vs.toArray := ⟨_, hax.1, rfl, k, rfl⟩
  have hlt : ax < s.heap.objs.size := Heap.lt_size hax.1
  have hne : ax ≠ s.heap.objs.size := Nat.ne_of_lt hlt
  refine wpAny_pyIter_list hl ?_
  have W0 := Walks.list (prog := prog) (w := w) hh s.heap.objs.size ax hne vs.toArray
  rw [List.size_toArray] at W0
  refine turns_core (I := s.heap.objs.size) (hi := s.heap.objs.size) (tk0 := s.toks) (n := vs.length) (KTurns.ofWalks W0 fun i v s Q E st q => letGo_listiter st.1 q) ?_ ?_ (fun p hp => Heap.lt_size (N p hp).1) ?_ (F.push _) (fun p hp => ⟨Heap.get?_push_of_some _ (N p hp).1, (N p hp).2⟩) ?_ (by simp) (next_is_new F) J h0 ?_ (fun h' tk m' news' a b _ d => done h' tk m' news' a b d)
  · intro b hb
    rw [List.mem_singleton.mp hb]
    exact ⟨⟨Nat.le_refl _, Nat.le_refl _⟩, next_is_new F⟩
  · intro hI
    rcases List.mem_cons.mp hI with e | hI
    · exact absurd F.ns.lt (e ▸ Nat.lt_irrefl _)
    · exact hax.2.1 (List.mem_singleton.mp hI).symm
  · exact ⟨⟨_, Heap.get?_push_size _ rfl, rfl, rfl⟩, hl.at fun o e => Heap.get?_push_of_some _ e⟩
  · rintro i h ⟨⟨o, ho, _⟩, _⟩
    exact ⟨o, ho⟩
  · intro i v m₁ news₁ h₁ tk₁ own hin hP hJ hb ho F₁ N₁
    exact step s.heap.objs.size i v m₁ news₁ h₁ tk₁ own (fun p hp => Heap.lt_size (N p hp).1) (by have q : vs.toArray[i]? = some v := hP; simpa using q) hJ hb ho F₁ N₁
theorem turns_range {r : Addr} {a₀ b₀ : Int} {t₀ u₀ v₀ : Tok} {n : Nat} {x : Str} {px : Pos} {m₀ : Str → Option Value} {news : List (Addr × Obj)}
    (hh : A.handled = none) (hr : IsRange s.heap r a₀ b₀ 1 t₀ u₀ v₀) (hsmall : Builtin.Range.small a₀ b₀ 1 = true) (hn : Builtin.Range.rangeSize a₀ b₀ 1 = (n : Int)) (F : Fr h₀ env.locals s.heap m₀) (N : News h₀ env.locals s.heap news)
    (J : Nat → (Str → Option Value) → List (Addr × Obj) → Prop) (h0 : J 0 m₀ news)
    (step : ∀ I i t m₁ news₁ h₁ tk₁ own, (∀ p ∈ news, p.1 < I) → i < n → J i m₁ news₁ → (∀ p ∈ news₁, p.1 < I ∨ I < p.1) → (∃ o, (I, o) ∈ own) → Fr h₀ env.locals h₁ m₁ → News h₀ env.locals h₁ (news₁ ++ own) →
      wpAny (model prog w) A (assign (.Name x px) env (.int (a₀ + (i : Int)) t)) (fun _ s₂ => wpAny (model prog w) A (execs body env) (TurnPost h₀ env.locals I I (J (i + 1)) own { s with heap := h₁, toks := tk₁ } Q) E s₂) E { s with heap := h₁, toks := tk₁ })
    (done : ∀ h' tk m' news', Fr h₀ env.locals h' m' → News h₀ env.locals h' news' → J n m' news' → Q .next { s with heap := h', toks := tk }) :
    wpAny (model prog w) A (pyIter (.ref r)) (fun it s₂ => TurnsAt prog w A h₀ env (.Name x px) body Q E it s₂) E s := by
  refine wpAny_pyIter_range hr hsmall ?_
  have W : Walks prog w A s.heap.objs.size [s.heap.objs.size] [s.heap.objs.size] n (fun i v => i < n ∧ ∃ t, v = .int (a₀ + i * 1) t)
      (fun i h => IsRangeIter h s.heap.objs.size (a₀ + (i : Nat) * 1) ((n : Int) - (i : Nat)) 1) := (Walks.range hh _ a₀ 1 n).bound
  refine turns_core (I := s.heap.objs.size) (hi := s.heap.objs.size) (tk0 := s.toks) (n := n) (KTurns.ofWalks W fun i v s Q E st q => wpAny_pure q) ?_ ?_ (fun p hp => Heap.lt_size (N p hp).1) (by show IsRangeIter _ _ _ _ _; rw [hn]; simpa using Heap.get?_push_size _ rfl) (F.push _) (fun p hp => ⟨Heap.get?_push_of_some _ (N p hp).1, (N p hp).2⟩) ?_ (by simp) (next_is_new F) J h0 ?_ (fun h' tk m' news' a b _ d => done h' tk m' news' a b d)
  · intro b hb
    rw [List.mem_singleton.mp hb]
    exact ⟨⟨Nat.le_refl _, Nat.le_refl _⟩, next_is_new F⟩
  · intro hm
    exact absurd F.ns.lt ((List.mem_singleton.mp hm) ▸ Nat.lt_irrefl _)
  · intro i h hst
    exact ⟨_, hst⟩
  · rintro i v m₁ news₁ h₁ tk₁ own hin ⟨_, t, rfl⟩ hJ hb ho F₁ N₁
    rw [Int.mul_one]
    exact step s.heap.objs.size i t m₁ news₁ h₁ tk₁ own (fun p hp => Heap.lt_size (N p hp).1) hin hJ hb ho F₁ N₁
theorem turns_zip {elts : List Expr} {k : Nat} {pos : Pos} {l1 l2 : Addr} {xs ys : List Value} {n1 n2 : Nat} {m₀ : Str → Option Value} {news : List (Addr × Obj)}
    (hh : A.handled = none) (F : Fr h₀ env.locals s.heap m₀) (N : News h₀ env.locals s.heap news) (hm1 : (l1, listOf xs.toArray n1) ∈ news) (hm2 : (l2, listOf ys.toArray n2) ∈ news)
    (J : Nat → (Str → Option Value) → List (Addr × Obj) → Prop) (h0 : J 0 m₀ news)
    (step : ∀ I i T x y m₁ news₁ h₁ tk₁ own, (∀ p ∈ news, p.1 < I) → xs[i]? = some x → ys[i]? = some y → IsTup h₁ T #[x, y] → J i m₁ news₁ → (∀ p ∈ news₁, p.1 < I ∨ I + 4 < p.1) → (∃ o, (I + 4, o) ∈ own) → Fr h₀ env.locals h₁ m₁ → News h₀ env.locals h₁ (news₁ ++ own) →
      wpAny (model prog w) A (assign (.Tuple elts k pos) env (.ref T)) (fun _ s₂ => wpAny (model prog w) A (execs body env) (TurnPost h₀ env.locals I (I + 4) (J (i + 1)) own { s with heap := h₁, toks := tk₁ } Q) E s₂) E { s with heap := h₁, toks := tk₁ })
    (done : ∀ h' tk m' news', Fr h₀ env.locals h' m' → News h₀ env.locals h' news' → J (min xs.length ys.length) m' news' → Q .next { s with heap := h', toks := tk }) :
    wpAny (model prog w) A (call (.type "zip") [.ref l1, .ref l2]) (fun xv s₁ => wpAny (model prog w) A (pyIter xv) (fun it s₂ => TurnsAt prog w A h₀ env (.Tuple elts k pos) body Q E it s₂) E s₁) E s := by
  have hax1 := N _ hm1
  have hax2 := N _ hm2
  have hl1 : s.heap.IsList l1 xs.toArray := ⟨_, hax1.1, rfl, n1, rfl⟩
  have hl2 : s.heap.IsList l2 ys.toArray := ⟨_, hax2.1, rfl, n2, rfl⟩
  have hlt1 : l1 < s.heap.objs.size := Heap.lt_size hax1.1
  have hlt2 : l2 < s.heap.objs.size := Heap.lt_size hax2.1
  have hLs : env.locals < s.heap.objs.size := F.ns.lt
  have D : ZipApart (s.heap.objs.size + 4) (s.heap.objs.size + 2) (s.heap.objs.size + 3) s.heap.objs.size (s.heap.objs.size + 1) l1 l2 := ktu_apart _ _ _ hlt1 hlt2
  refine call_zip_2 hl1 hl2 fun h' hz hTI hTO hi1 hi2 hsz hk => ?_
  refine wpAny_pyIter_zip hz ?_
  have W := (WalksT.zip2 (prog := prog) (w := w) hh _ _ _ _ _ _ _ D xs.toArray ys.toArray).toU
  rw [List.size_toArray, List.size_toArray] at W
  refine turns_core (I := s.heap.objs.size) (hi := s.heap.objs.size + 4) (tk0 := s.toks) (n := min xs.length ys.length) (KTurns.ofWalksU (elts := elts) (k := k) (pos := pos) W) ?_ ?_ (fun p hp => Heap.lt_size (N p hp).1) ⟨hz, hTI, ⟨_, _, hTO⟩, hi1, hi2, hl1.at fun o e => hk _ o e, hl2.at fun o e => hk _ o e⟩ (F.keeps hk) (N.grown hk) ?_ (by simp) (ktu_new F (Nat.le_add_right _ _)) J h0 ?_ (fun h' tk m' news' a b _ d => done h' tk m' news' a b d)
  · intro b hb
    have hb' : b = s.heap.objs.size + 4 ∨ b = s.heap.objs.size + 3 ∨ b = s.heap.objs.size ∨ b = s.heap.objs.size + 1 := by simpa using hb
    have hge : s.heap.objs.size ≤ b ∧ b ≤ s.heap.objs.size + 4 := by rcases hb' with rfl | rfl | rfl | rfl <;> (constructor <;> first | exact Nat.le_refl _ | exact Nat.le_add_right _ _ | exact Nat.add_le_add_left (by decide) _)
    exact ⟨hge, ktu_new F hge.1⟩
  · intro hI
    have hI' : env.locals = s.heap.objs.size + 4 ∨ env.locals = s.heap.objs.size + 2 ∨ env.locals = s.heap.objs.size + 3 ∨ env.locals = s.heap.objs.size ∨ env.locals = s.heap.objs.size + 1 ∨ env.locals = l1 ∨ env.locals = l2 := by simpa using hI
    rcases hI' with e | e | e | e | e | e | e
    · exact absurd e (ktu_ne 4 hLs)
    · exact absurd e (ktu_ne 2 hLs)
    · exact absurd e (ktu_ne 3 hLs)
    · exact absurd e (ktu_ne 0 hLs)
    · exact absurd e (ktu_ne 1 hLs)
    · exact hax1.2.1 e.symm
    · exact hax2.2.1 e.symm
  · rintro i h ⟨hz, _⟩
    exact ⟨_, hz⟩
  · rintro i v m₁ news₁ h₁ tk₁ own hin ⟨T, vals, rfl, ⟨x, y, hx, hy, rfl⟩, hT⟩ hJ hb ho F₁ N₁
    exact step s.heap.objs.size i T x y m₁ news₁ h₁ tk₁ own (fun p hp => Heap.lt_size (N p hp).1) (by simpa using hx) (by simpa using hy) hT hJ hb ho F₁ N₁
end
end Mine
namespace Mine
theorem laid14 : True := by
  w_top off
  trivial
theorem cnt5_bd {told rest : Int} (h : 0 ≤ told) : 0 ≤ cnt5 told rest ∧ cnt5 told rest ≤ told := by
  unfold cnt5
  have h8 : 0 ≤ rest % 8 ∧ rest % 8 ≤ 7 := by omega
  generalize rest % 8 = d at h8
  have e : told = told / 4294967296 * 4294967296 + told % 4294967296 := by omega
  have ha : 0 ≤ told / 4294967296 := by omega
  have hb : 0 ≤ told % 4294967296 := by omega
  generalize told / 4294967296 = a at *
  generalize told % 4294967296 = b at *
  have h1 : 0 ≤ a * d := Int.mul_nonneg ha h8.1
  have h2 : 0 ≤ b * d := Int.mul_nonneg hb h8.1
  have h3 : a * d ≤ a * 7 := Int.mul_le_mul_of_nonneg_left h8.2 ha
  have h4 : b * d ≤ b * 7 := Int.mul_le_mul_of_nonneg_left h8.2 hb
  omega
theorem noI_bytes_add : typeLookup (.type "bytes") (dunderI "add") = pure none := by rw [typeLookup_type, builtinLookup_eq_fast]; kernel_rfl
theorem iadd_bytes {prog : Program} {w : World} {A : Around} {E : Value → Shared → Prop} {s : Shared} {b c : List UInt8} {t u : Tok} {Q : Value → Shared → Prop} (hsz : b.length + c.length ≤ 16777216) (h : ∀ t' k, Q (.bytes (b ++ c).toArray t') { s with toks := k }) :
    wpAny (model prog w) A (inplaceOp .Add (.bytes b.toArray t) (.bytes c.toArray u)) Q E s := by
  refine iconcat_gives (typeIs_bytes s _ t) (typeIs_bytes s _ u) noI_bytes_add KBy.noFill_bytes_add KBy.seq_bytes_add FB.slot_bytes_add FB.entry_bytes_add (FB.args_bytes_add_2 _ _) (KBy.gives_bytes_add (KBy.tooLong_not (by rw [List.size_toArray, List.size_toArray]; exact hsz))) ?_
  by_cases hb : b.toArray.isEmpty = true
  · rw [if_pos hb]
    have e : b = [] := by simpa using hb
    have h' := h u s.toks
    rw [e] at h'
    exact h'
  · rw [if_neg hb]
    by_cases hc : c.toArray.isEmpty = true
    · rw [if_pos hc]
      have e : c = [] := by simpa using hc
      have h' := h t s.toks
      rw [e, List.append_nil] at h'
      exact h'
    · rw [if_neg hc]
      have h' := h s.toks (s.toks + 1)
      rw [← List.append_toArray] at h'
      exact ⟨by rw [Array.size_append, sizeLine_eq, List.size_toArray, List.size_toArray]; exact hsz, h'⟩
theorem laid15 : True := by
  k_with "inplaceOp Add bytes bytes" => (k_here; (with_reducible show wpAny _ _ (inplaceOp Operator.Add (Value.bytes (List.toArray _) _) (Value.bytes (List.toArray _) _)) _ _ _); k_dflt (refine iadd_bytes (by k_extra "mine size") ?_); intro t' k')
  k_with "mine size" => (first | omega | (simp only [octs_length, List.length_append, List.length_cons, List.length_nil] at *; omega))
  trivial
def Hold (P : Prop) : Prop := P
theorem hold {P : Prop} (h : Hold P) : P := h
theorem unhold {P : Prop} (h : P) : Hold P := h
theorem fr_name {h₀ h : Heap} {L : Addr} {m : Str → Option Value} {x : Str} {v : Value} (F : Fr h₀ L h m) (e : m x = some v) : Fr h₀ L h (fun y => if y = x then some v else m y) := by
  have q : (fun y => if y = x then some v else m y) = m := by
    funext y
    by_cases hy : y = x
    · rw [if_pos hy, hy, e]
    · rw [if_neg hy]
  rw [q]; exact F
def sigB : List UInt8 := [80, 75, 6, 6]
def headB (len : Int) : List UInt8 := sigB ++ octs len 8 ++ [45, 0, 45, 0]
def cntL (told rest fault : Int) : List (Int × Nat) := [(cnt0 rest, 4), (cnt1 rest, 4), (cnt2 rest, 8), (cnt3 rest, 8), (cnt4 told rest fault, 8), (cnt5 told rest, 8)]
def accB (len told rest fault : Int) (i : Nat) : List UInt8 := headB len ++ ((cntL told rest fault).take i).flatMap fun p => octs p.1 p.2
def lenB (fault much between : Int) : Int := 44 + between + (if fault = 9 then 1 + much else 0)
def recB (ib : It) (told fault much between : Int) : List UInt8 := accB (lenB fault much between) told ib.rest fault 6
theorem laid16 : True := by
  k_with "exec For Tuple Call cons nil" => (k_here; (rename Fr _ _ _ _ => lF'); (with_unfolding_all refine' For_turns lF' ?_); k_whole)
  k_with "call type:zip" => (k_here; refine hold ?_)
  trivial
set_option maxHeartbeats 4000000 in
theorem iaddB_ctr {prog : Program} {w : World} {news : List (Addr × Obj)} {x y : List UInt8} {tx ty : Tok} (hsz : x.length + y.length ≤ 16777216) :
    Ctr prog w 118 2 [.bytes x.toArray tx, .bytes y.toArray ty] news fun tl v => tl = [] ∧ ∃ t, v = .bytes (x ++ y).toArray t := by
  unfold Ctr
  intro p loose mean mg mb dp un gd cn cs a ccd cl outer A₀ base h₀ L m s Q E B F X N T hk hd hu hret
  have plainOn := PlainOn.mk
  refine wpAny_call ?_
  k_dflt ktr_enter
  k_steps
  exact hret _ [] _ _ (by assumption) (by k_extra "mine drop") (fun _ _ _ h => nomatch h) ⟨rfl, _, rfl⟩
set_option maxHeartbeats 4000000 in
theorem iaddI_ctr {prog : Program} {w : World} {news : List (Addr × Obj)} {x y : Int} {tx ty : Tok} :
    Ctr prog w 118 2 [.int x tx, .int y ty] news fun tl v => tl = [] ∧ ∃ t, v = .int (x + y) t := by
  unfold Ctr
  intro p loose mean mg mb dp un gd cn cs a ccd cl outer A₀ base h₀ L m s Q E B F X N T hk hd hu hret
  have plainOn := PlainOn.mk
  refine wpAny_call ?_
  k_dflt ktr_enter
  k_steps
  exact hret _ [] _ _ (by assumption) (by k_extra "mine drop") (fun _ _ _ h => nomatch h) ⟨rfl, _, rfl⟩
theorem laid17 : True := by
  k_with "call ref" => (k_here; (with_reducible show wpAny _ _ (call (Value.ref 118) [Value.bytes (List.toArray _) _, Value.bytes (List.toArray _) _]) _ _ _); k_dflt (
  refine' ctr_use (iaddB_ctr ?q9ka) ?q9k1 ?q9k2 ?q9k3 ?q9k4 ?q9k5 ?q9kK ?q9kd ?q9ku ?_; (case q9ka => k_extra "mine size"); k_extra "mine ctr";
  intro r9 tl9 h9 tk9 F9 N9 ho9 hp9; obtain ⟨e9, t9, e99⟩ := hp9; subst e9; subst e99; (simp only [List.cons_append, List.nil_append] at N9); clear ho9; (try dsimp only); (try k_sweep); (try k_fold)))
  k_with "call ref" => (k_here; (with_reducible show wpAny _ _ (call (Value.ref 118) [Value.int _ _, Value.int _ _]) _ _ _); k_dflt (
  refine' ctr_use iaddI_ctr ?q9k1 ?q9k2 ?q9k3 ?q9k4 ?q9k5 ?q9kK ?q9kd ?q9ku ?_; k_extra "mine ctr";
  intro r9 tl9 h9 tk9 F9 N9 ho9 hp9; obtain ⟨e9, t9, e99⟩ := hp9; subst e9; subst e99; (simp only [List.cons_append, List.nil_append] at N9); clear ho9; (try dsimp only); (try k_sweep); (try k_fold)))
  trivial
theorem cnt_pair {told rest fault : Int} {t0 t1 t2 t3 t4 t5 u0 u1 u2 u3 u4 u5 : Tok} (ht : 0 ≤ told) (ht2 : told < 2 ^ 60) {i : Nat} {x y : Value}
    (hx : [Value.int (cnt0 rest) t0, .int (cnt1 rest) t1, .int (cnt2 rest) t2, .int (cnt3 rest) t3, .int (cnt4 told rest fault) t4, .int (cnt5 told rest) t5][i]? = some x)
    (hy : [Value.int 4 u0, .int 4 u1, .int 8 u2, .int 8 u3, .int 8 u4, .int 8 u5][i]? = some y) :
    ∃ (c : Int) (n : Nat) (u u' : Tok), x = .int c u ∧ y = .int (n : Int) u' ∧ (cntL told rest fault)[i]? = some (c, n) ∧ 0 ≤ c ∧ c < 2 ^ 64 ∧ (n : Int) ≤ 8 := by
  have h5 := cnt5_bd (rest := rest) ht
  have h4 : 0 ≤ cnt4 told rest fault ∧ cnt4 told rest fault < 2 ^ 64 := by unfold cnt4; split <;> omega
  match i with
  | 0 => exact ⟨_, 4, _, _, (Option.some.inj hx).symm, (Option.some.inj hy).symm, rfl, by unfold cnt0; omega, by unfold cnt0; omega, by decide⟩
  | 1 => exact ⟨_, 4, _, _, (Option.some.inj hx).symm, (Option.some.inj hy).symm, rfl, by unfold cnt1; omega, by unfold cnt1; omega, by decide⟩
  | 2 => exact ⟨_, 8, _, _, (Option.some.inj hx).symm, (Option.some.inj hy).symm, rfl, by unfold cnt2; omega, by unfold cnt2; omega, by decide⟩
  | 3 => exact ⟨_, 8, _, _, (Option.some.inj hx).symm, (Option.some.inj hy).symm, rfl, by unfold cnt3; omega, by unfold cnt3; omega, by decide⟩
  | 4 => exact ⟨_, 8, _, _, (Option.some.inj hx).symm, (Option.some.inj hy).symm, rfl, h4.1, h4.2, by decide⟩
  | 5 => exact ⟨_, 8, _, _, (Option.some.inj hx).symm, (Option.some.inj hy).symm, rfl, h5.1, by omega, by decide⟩
  | k + 6 => simp at hx
theorem accB_zero (len told rest fault : Int) : accB len told rest fault 0 = 80 :: 75 :: 6 :: 6 :: (octs len (Int.toNat 8) ++ [45, 0, 45, 0]) := by
  simp [accB, headB, sigB]
theorem accB_succ {len told rest fault : Int} {i : Nat} {c : Int} {n : Nat} (h : (cntL told rest fault)[i]? = some (c, n)) : accB len told rest fault (i + 1) = accB len told rest fault i ++ octs c n := by
  unfold accB
  rw [List.take_add_one, h]
  simp [List.flatMap_append]
theorem accB_len {len told rest fault : Int} : ∀ i, (accB len told rest fault i).length ≤ 16 + 8 * i
  | 0 => by rw [accB_zero]; simp [octs_length]
  | i + 1 => by
    cases h : (cntL told rest fault)[i]? with
    | none =>
      unfold accB
      rw [List.take_add_one, h]
      have := accB_len (len := len) (told := told) (rest := rest) (fault := fault) i
      unfold accB at this
      simp at this ⊢
      omega
    | some p =>
      obtain ⟨c, n⟩ := p
      rw [accB_succ h, List.length_append, octs_length]
      have := accB_len (len := len) (told := told) (rest := rest) (fault := fault) i
      have hn : n ≤ 8 := by
        have hm := List.mem_of_getElem? h
        unfold cntL at hm
        simp at hm
        omega
      omega
set_option pp.deepTerms false in
set_option pp.deepTerms.threshold 20 in
set_option maxHeartbeats 4000000 in
theorem begin_ctr {prog : Program} {w : World} {news : List (Addr × Obj)} {r : Addr} {rows : List It} {b : Int} {tb : Tok} {ib : It} {told fault much between : Int} (R : RowIn news r rows) (hb : rowAt rows b = some ib) (hg : GroupIs rows ib told fault much between) 
    (ht : 0 ≤ told) (ht2 : told < 2 ^ 60) (hbt : 0 ≤ between) (hbt2 : between < 2 ^ 60) (hm : 0 ≤ much) (hm2 : much < 1000) :
    Ctr prog w 151 10 [.ref r, .int b tb] news fun tl v => tl = [] ∧ ∃ t, v = .bytes (recB ib told fault much between).toArray t := by
  unfold Ctr
  intro p loose mean mg mb dp un gd cn cs a ccd cl outer A₀ base h₀ L m s Q E B F X N T hk hd hu hret
  have plainOn := PlainOn.mk
  refine wpAny_call ?_
  k_dflt ktr_enter
  have e9 : fault = 9 → 44 + between + (1 + much) = lenB fault much between := fun h => by unfold lenB; rw [if_pos h]
  have e9' : fault ≠ 9 → 44 + between + 0 = lenB fault much between := fun h => by unfold lenB; rw [if_neg h]
  k_steps
  all_goals
    refine unhold (turns_zip (by rfl) (by k_asm) (by k_asm) (by k_mem) (by k_mem)
      (fun i m₁ news₁ => (∀ p ∈ news, p ∈ news₁) ∧ ∃ t, m₁ (Str.ofString "octets") = some (.bytes (accB (lenB fault much between) told ib.rest fault i).toArray t)) ⟨by k_extra "mine sub", ?_⟩ ?_ ?_)
    · refine ⟨_, Eq.trans rfl (congrArg (fun l : List UInt8 => some (Value.bytes l.toArray _)) ?_)⟩
      first | (rw [accB_zero, ← e9 (by assumption)]; done) | (rw [accB_zero, ← e9' (by assumption)]; done)
    · intro I i T x y m₁ news₁ h₁ tk₁ own hI hx hy hT hJ hlow hoI F₁ N₁
      obtain ⟨hsub, t, ho⟩ := hJ
      obtain ⟨c, n, u, u', rfl, rfl, hc, hc0, hc1, hn1⟩ := cnt_pair (fault := fault) ht ht2 hx hy
      have hacc := accB_succ (len := lenB fault much between) hc
      have hal := accB_len (len := lenB fault much between) (told := told) (rest := ib.rest) (fault := fault) i
      have hi : i < 6 := by
        rcases Nat.lt_or_ge i 6 with q | q
        · exact q
        · rw [List.getElem?_eq_none (by exact q)] at hc; cases hc
      replace F₁ := fr_name F₁ ho
      clear F N
      k_steps
      refine ⟨_, _, _, _, news₁, rfl, by k_asm, by k_asm, by k_extra "mine sub", by k_extra "mine sub", hlow, hsub, _, Eq.trans rfl (congrArg (fun l : List UInt8 => some (Value.bytes l.toArray _)) ?_)⟩
      rw [hacc, Int.toNat_natCast]
    · intro h' tk m' news' F' N' hJ
      obtain ⟨hsub, t, ho⟩ := hJ
      replace F' := fr_name F' ho
      clear F N
      k_steps
      exact hret _ [] _ _ (by assumption) (cb_drop (by assumption) hsub) (fun _ _ _ h => nomatch h) ⟨rfl, _, rfl⟩
end Mine
namespace Mine
theorem laid18 : True := by
  w_top off
  trivial
def diskE (fault much : Int) : Int := if fault = 6 ∧ much % 2 ≠ 0 then much else 0
def disksE (fault much : Int) : Int := if fault = 6 ∧ much % 2 = 0 then 2 + much else much % 2
def toldE (ik : It) (told fault much : Int) : Int := if fault = 7 then ik.place - 55 + much else told
def endB (ik : It) (told fault much : Int) : List UInt8 := [80, 75, 6, 7] ++ octs (diskE fault much) 4 ++ octs (toldE ik told fault much) 8 ++ octs (disksE fault much) 4
theorem endB_eq {ik : It} {told fault much d t ds : Int} (hd : d = diskE fault much) (ht : t = toldE ik told fault much) (hs : ds = disksE fault much) :
    80 :: 75 :: 6 :: 7 :: (octs d (Int.toNat 4) ++ octs t (Int.toNat 8) ++ octs ds (Int.toNat 4)) = endB ik told fault much := by
  subst hd ht hs
  simp [endB]
set_option pp.deepTerms false in
set_option pp.deepTerms.threshold 20 in
set_option maxHeartbeats 4000000 in
theorem end_ctr {prog : Program} {w : World} {news : List (Addr × Obj)} {r : Addr} {rows : List It} {k : Int} {tk : Tok} {ik ib : It} {told fault much between : Int} (R : RowIn news r rows) (hk1 : rowAt rows k = some ik) (hb : rowAt rows ik.other = some ib) (hg : GroupIs rows ib told fault much between) 
    (ht : 0 ≤ told) (ht2 : told < 2 ^ 60) (hm : 0 ≤ much) (hm2 : much < 1000) (hp : 63 ≤ ik.place) (hp2 : ik.place < 2 ^ 60) :
    Ctr prog w 158 10 [.ref r, .int k tk] news fun tl v => tl = [] ∧ ∃ t, v = .bytes (endB ik told fault much).toArray t := by
  unfold Ctr
  intro p loose mean mg mb dp un gd cn cs a ccd cl outer A₀ base h₀ L m s Q E B F X N T hk hd hu hret
  have plainOn := PlainOn.mk
  refine wpAny_call ?_
  k_dflt ktr_enter
  have hfm : much.fmod 2 = much % 2 := fm _
  k_steps
  all_goals
    refine hret _ [] _ _ (by assumption) (by k_extra "mine drop") (fun _ _ _ h => nomatch h) ⟨rfl, _, congrArg (fun l : List UInt8 => Value.bytes l.toArray _) (endB_eq ?_ ?_ ?_)⟩
    · unfold diskE; split <;> omega
    · unfold toldE; split <;> omega
    · unfold disksE; split <;> omega
end Mine
namespace Mine
theorem laid19 : True := by
  w_top off
  trivial
inductive Fld where
  | int (i : Int)
  | bytes (b : List UInt8)
def FldIs : Value → Fld → Prop
  | .int i _, .int j => i = j
  | .bytes b _, .bytes c => b = c.toArray
  | _, _ => False
def AllFld : List Value → List Fld → Prop
  | [], [] => True
  | v :: vs, f :: fs => FldIs v f ∧ AllFld vs fs
  | _, _ => False
def rec0 : List Fld := [.int 0, .int 1, .int 2, .int 3, .int 4, .int 5, .int 6, .int 7, .int 8, .int 9]
def recF (ib : It) (told fault : Int) : List Fld := [.bytes sigB, .int (cnt0 ib.rest), .int (cnt1 ib.rest), .int (cnt2 ib.rest), .int (cnt3 ib.rest), .int (cnt4 told ib.rest fault), .int (cnt5 told ib.rest), .int 7, .int 8, .int ib.place]
def wDisks : Str := Str.ofString "zipfiles that span multiple disks are not supported"
def wLoc : Str := Str.ofString "Corrupt zip64 end of central directory locator"
def wRec : Str := Str.ofString "Corrupt zip64 end of central directory record"
def wNone : Str := Str.ofString "Zip64 end of central directory record not found"
def dueF (ib : It) (told fault between : Int) : Str × List Fld :=
  if fault = 6 then (wDisks, rec0) else if fault = 7 then (wLoc, rec0) else if 7 < fault then (wRec, rec0) else if fault = 5 ∧ 0 < between then (wNone, rec0) else (Str.ofString "", recF ib told fault)
def ResOut (x : Str × List Fld) (tl : List (Addr × Obj)) (v : Value) : Prop :=
  ∃ d rc t n m vs, v = .ref d ∧ tl = [(d, listOf #[.str x.1 t, .ref rc] n), (rc, listOf (List.toArray vs) m)] ∧ AllFld vs x.2
theorem laid20 : True := by
  k_with "mine fld" => (repeat (first | exact trivial | refine And.intro (by exact rfl) ?_))
  trivial
theorem order2 {news : List (Addr × Obj)} {D D' : Addr} {o o' : Obj} (h : ∀ p ∈ news, p.1 < D) (h' : ∀ p ∈ news, p.1 < D') : ∀ q ∈ news, ∀ p ∈ [(D, o), (D', o')], q.1 < p.1 := fun q hq p hp => by
  rcases List.mem_cons.mp hp with rfl | hp
  · exact h q hq
  · rw [List.mem_singleton.mp hp]; exact h' q hq
set_option pp.deepTerms false in
set_option pp.deepTerms.threshold 20 in
set_option maxHeartbeats 4000000 in
theorem dueO_ctr {prog : Program} {w : World} {news : List (Addr × Obj)} {r : Addr} {rows : List It} {k : Int} {tk : Tok} {ik : It} (R : RowIn news r rows) (hk1 : rowAt rows k = some ik) (hkd : ik.kind ≠ Str.ofString "end") :
    Ctr prog w 165 10 [.ref r, .int k tk] news (ResOut (Str.ofString "", rec0)) := by
  unfold Ctr
  intro p loose mean mg mb dp un gd cn cs a ccd cl outer A₀ base h₀ L m s Q E B F X N T hk hd hu hret
  have plainOn := PlainOn.mk
  refine wpAny_call ?_
  k_dflt ktr_enter
  have hkb : (ik.kind != Str.ofString "end") = true := bne_iff_ne.mpr hkd
  k_steps
  · exact hret _ [_, _] _ _ (by assumption) (by k_extra "mine drop") (order2 (by k_extra "mine below") (by k_extra "mine below")) ⟨_, _, _, _, _, _, rfl, rfl, by k_extra "mine fld"⟩
set_option pp.deepTerms false in
set_option pp.deepTerms.threshold 20 in
set_option maxHeartbeats 4000000 in
theorem dueE_ctr {prog : Program} {w : World} {news : List (Addr × Obj)} {r : Addr} {rows : List It} {k : Int} {tk : Tok} {ik ib : It} {told fault much between : Int} (R : RowIn news r rows) (hk1 : rowAt rows k = some ik) (hkd : ik.kind = Str.ofString "end") (hb : rowAt rows ik.other = some ib) (hg : GroupIs rows ib told fault much between) 
    (ht : 0 ≤ told) (ht2 : told < 2 ^ 60) :
    Ctr prog w 165 10 [.ref r, .int k tk] news (ResOut (dueF ib told fault between)) := by
  unfold Ctr
  intro p loose mean mg mb dp un gd cn cs a ccd cl outer A₀ base h₀ L m s Q E B F X N T hk hd hu hret
  have plainOn := PlainOn.mk
  refine wpAny_call ?_
  k_dflt ktr_enter
  have hkb : (ik.kind != Str.ofString "end") = false := by rw [hkd]; decide
  have d6 : fault = 6 → dueF ib told fault between = (wDisks, rec0) := fun h => by unfold dueF; rw [if_pos h]
  have d7 : fault = 7 → dueF ib told fault between = (wLoc, rec0) := fun h => by unfold dueF; rw [if_neg (by omega), if_pos h]
  have d8 : 7 < fault → dueF ib told fault between = (wRec, rec0) := fun h => by unfold dueF; rw [if_neg (by omega), if_neg (by omega), if_pos h]
  have d5 : fault = 5 → 0 < between → dueF ib told fault between = (wNone, rec0) := fun h h' => by unfold dueF; rw [if_neg (by omega), if_neg (by omega), if_neg (by omega), if_pos ⟨h, h'⟩]
  have d0 : fault ≠ 6 → fault ≠ 7 → ¬ 7 < fault → ¬ (fault = 5 ∧ 0 < between) → dueF ib told fault between = (Str.ofString "", recF ib told fault) := fun a b c d => by unfold dueF; rw [if_neg a, if_neg b, if_neg c, if_neg d]
  k_steps
  · rw [d6 (by assumption)] at hret
    exact hret _ [_, _] _ _ (by assumption) (by k_extra "mine drop") (order2 (by k_extra "mine below") (by k_extra "mine below")) ⟨_, _, _, _, _, _, rfl, rfl, by k_extra "mine fld"⟩
  · rw [d7 (by assumption)] at hret
    exact hret _ [_, _] _ _ (by assumption) (by k_extra "mine drop") (order2 (by k_extra "mine below") (by k_extra "mine below")) ⟨_, _, _, _, _, _, rfl, rfl, by k_extra "mine fld"⟩
  · rw [d8 (by assumption)] at hret
    exact hret _ [_, _] _ _ (by assumption) (by k_extra "mine drop") (order2 (by k_extra "mine below") (by k_extra "mine below")) ⟨_, _, _, _, _, _, rfl, rfl, by k_extra "mine fld"⟩
  · rw [d5 (by assumption) (by assumption)] at hret
    exact hret _ [_, _] _ _ (by assumption) (by k_extra "mine drop") (order2 (by k_extra "mine below") (by k_extra "mine below")) ⟨_, _, _, _, _, _, rfl, rfl, by k_extra "mine fld"⟩
  · rw [d0 (by assumption) (by assumption) (by assumption) (by omega)] at hret
    exact hret _ [_, _] _ _ (by assumption) (by k_extra "mine drop") (order2 (by k_extra "mine below") (by k_extra "mine below")) ⟨_, _, _, _, _, _, rfl, rfl, by k_extra "mine fld"⟩
  · rw [d0 (by assumption) (by assumption) (by assumption) (by omega)] at hret
    exact hret _ [_, _] _ _ (by assumption) (by k_extra "mine drop") (order2 (by k_extra "mine below") (by k_extra "mine below")) ⟨_, _, _, _, _, _, rfl, rfl, by k_extra "mine fld"⟩
end Mine
namespace Mine
theorem laid21 : True := by
  w_top off
  trivial
end Mine
local macro_rules | `(tactic| walk_at "mine enter") => `(tactic| (refine' code_def ?k1 ?k2 ?k3 ?k4 ?k5 ?kA ?kF ?kK ?k6 ?k7 ?k8 ?k9 ?kB ?_ ?c2 ?c3 ?c4 ?c5; (case kA => exact rfl); (case kF => exact rfl); (case kK => first | exact rfl | assumption); (case k1 => k_asm); (case k2 => k_asm); (case k3 => k_asm); (case k4 => k_asm); (case k5 => k_asm); (case k6 => k_is); (case k7 => k_is); (case k8 => ktr_room); (case k9 => exact BindsTo.of_eq rfl); (case c5 => decide); (case kB => exact locs rfl); (case c2 => exact rfl); (case c3 => exact rfl); (case c4 => exact rfl); k_whole; intro g' L' h' FG' F' N' B' X' T'; (try dsimp only); (try k_lift B'); (try k_fold)))
namespace Mine
end Mine
local macro_rules | `(tactic| walk_at "call ref") => `(tactic| (k_here; (with_reducible show wpAny _ _ (call (Value.ref 107) _ _) _ _ _); k_dflt
  (refine' call_cls ?k1 ?k2 ?k3 ?k4 ?k5 ?k6 ?_; (case k1 => k_asm); (case k2 => k_asm); (case k3 => k_asm); (case k4 => k_is); (case k5 => k_is); (case k6 => k_is); k_whole; intro x' d' h' F' N' l1 l2; (try k_lt l1); (try k_lt2 l2); (try k_sweep); walk_at "mine enter")))
namespace Mine
def LowAt (D : Nat) (news : List (Addr × Obj)) : Prop := ∀ p ∈ news, @LT.lt Nat _ p.1 D
theorem LowAt.get {D : Nat} {news : List (Addr × Obj)} (h : LowAt D news) {p : Addr × Obj} (hp : p ∈ news) : @LT.lt Nat _ p.1 D := h p hp
end Mine
local macro_rules | `(tactic| k_all) => `(tactic| (intro p9 hp9; have q9 := LowAt.get (by assumption) hp9; refine neN ?_; (try dsimp only); omega))
namespace Mine
end Mine
local macro_rules | `(tactic| k_all) => `(tactic| with_reducible assumption)
namespace Mine
theorem laid22 : True := by
  k_with "mine enterC0" => (refine' code_defC ?q9k1 ?q9k2 ?q9k3 ?q9k4 ?q9k5 ?q9kA ?q9kF ?q9kK ?q9k6 ?q9k7 ?q9k8 ?q9k9 ?q9kB ?q9kD ?_ ?q9c2 ?q9c3 ?q9c4; (case q9kA => exact rfl); (case q9kF => exact rfl); (case q9kK => first | exact rfl | assumption); (case q9k1 => k_asm); (case q9k2 => k_asm); (case q9k3 => k_asm); (case q9k4 => k_asm); (case q9k5 => k_asm); (case q9k6 => k_is); (case q9k7 => k_is); (case q9k8 => ktr_room); (case q9k9 => exact BindsTo.of_eq rfl); (case q9kB => exact rfl); (case q9kD => decide +kernel); (case q9c2 => exact rfl); (case q9c3 => exact rfl); (case q9c4 => exact rfl); k_whole)
  trivial
def nthBody (k : Nat) : List Stmt := match PySem.Challenge.pw_kl0457_01.main.body[k]? with
  | some (.FunctionDef _ _ b _ _ _ _ _ _ _) => b
  | _ => []
def seekStmt : Stmt := (nthBody 29)[1]?.getD (.Pass ⟨0, 0, 0, 0⟩)
def readStmt : Stmt := (nthBody 29)[2]?.getD (.Pass ⟨0, 0, 0, 0⟩)
def qSeek : Str := Str.ofString "_law_file.<locals>._law_seek"
def qRead : Str := Str.ofString "_law_file.<locals>._law_read"
abbrev fdict (P : Params) (off : Int) (tf : Tok) (fs fr : Addr) (t1 t2 t3 t4 : Tok) : Obj :=
  dictOf [⟨PyData.keyHash P (Str.ofString "fp"), .str (Str.ofString "fp") t1, .none⟩, ⟨PyData.keyHash P (Str.ofString "offset"), .str (Str.ofString "offset") t2, .int off tf⟩,
    ⟨PyData.keyHash P (Str.ofString "seek"), .str (Str.ofString "seek") t3, .ref fs⟩, ⟨PyData.keyHash P (Str.ofString "read"), .str (Str.ofString "read") t4, .ref fr⟩] 4
def CodeIn (led : List (Addr × Obj)) (c : Addr) (q : Str) : Prop := ∃ oc vs t, (c, oc) ∈ led ∧ oc.data = .fields vs ∧ vs[1]? = some (.str q t)
def CellIn (led : List (Addr × Obj)) (c : Addr) (v : Value) : Prop := ∃ o, (c, o) ∈ led ∧ o.data = .cell (some v)
def SeekIn (led : List (Addr × Obj)) (fs x : Addr) : Prop :=
  ∃ n params body scope nm pos doc pm c ct cf, seekStmt = .FunctionDef n params body [] none [] scope none nm pos ∧ (fs, fnMade (Str.ofString "_law_seek") qSeek params body scope [(Str.ofString "file", cf)] doc pm c ct) ∈ led ∧ CodeIn led c qSeek ∧ CellIn led cf (.ref x)
def ReadIn (led : List (Addr × Obj)) (fr x pl : Addr) (z : Int) : Prop :=
  ∃ n params body scope nm pos doc pm c ct cf cz cp tz, readStmt = .FunctionDef n params body [] none [] scope none nm pos ∧ (fr, fnMade (Str.ofString "_law_read") qRead params body scope [(Str.ofString "size", cz), (Str.ofString "pieces", cp), (Str.ofString "file", cf)] doc pm c ct) ∈ led ∧ CodeIn led c qRead ∧
    CellIn led cf (.ref x) ∧ CellIn led cz (.int z tz) ∧ CellIn led cp (.ref pl)
structure FileIn (led : List (Addr × Obj)) (pl : Addr) (z : Int) (x dx fs fr : Addr) : Prop where
  inst : (x, instObj 107 dx) ∈ led
  seek : SeekIn led fs x
  read : ReadIn led fr x pl z
def TabIs (ps : Array Value) (led : List (Addr × Obj)) : Prop :=
  ps = #[] ∨ ∃ c1 c2, ps = #[rawInt 155, rawInt 4, .ref c1, rawInt 159, rawInt 4, .ref c2] ∧ CodeIn led c1 qSeek ∧ CodeIn led c2 qRead
section
variable {led led' : List (Addr × Obj)}
theorem CodeIn.mono {c : Addr} {q : Str} (h : CodeIn led c q) (hs : ∀ p ∈ led, p ∈ led') : CodeIn led' c q := let ⟨oc, vs, t, a, b⟩ := h; ⟨oc, vs, t, hs _ a, b⟩
theorem CellIn.mono {c : Addr} {v : Value} (h : CellIn led c v) (hs : ∀ p ∈ led, p ∈ led') : CellIn led' c v := let ⟨o, a, b⟩ := h; ⟨o, hs _ a, b⟩
theorem SeekIn.mono {fs x : Addr} (h : SeekIn led fs x) (hs : ∀ p ∈ led, p ∈ led') : SeekIn led' fs x :=
  let ⟨n, params, body, scope, nm, pos, doc, pm, c, ct, cf, a, b, d, e⟩ := h; ⟨n, params, body, scope, nm, pos, doc, pm, c, ct, cf, a, hs _ b, d.mono hs, e.mono hs⟩
theorem ReadIn.mono {fr x pl : Addr} {z : Int} (h : ReadIn led fr x pl z) (hs : ∀ p ∈ led, p ∈ led') : ReadIn led' fr x pl z :=
  let ⟨n, params, body, scope, nm, pos, doc, pm, c, ct, cf, cz, cp, tz, a, b, d, e, f, g⟩ := h; ⟨n, params, body, scope, nm, pos, doc, pm, c, ct, cf, cz, cp, tz, a, hs _ b, d.mono hs, e.mono hs, f.mono hs, g.mono hs⟩
theorem FileIn.mono {pl : Addr} {z : Int} {x dx fs fr : Addr} (h : FileIn led pl z x dx fs fr) (hs : ∀ p ∈ led, p ∈ led') : FileIn led' pl z x dx fs fr := ⟨hs _ h.inst, h.seek.mono hs, h.read.mono hs⟩
theorem TabIs.mono {ps : Array Value} (h : TabIs ps led) (hs : ∀ p ∈ led, p ∈ led') : TabIs ps led' := h.imp id fun ⟨c1, c2, a, b, c⟩ => ⟨c1, c2, a, b.mono hs, c.mono hs⟩
end
def FileRet (w : World) (news newsT : List (Addr × Obj)) (pl : Addr) (z : Int) (h₀ : Heap) (L : Addr) (m : Str → Option Value) (s : Shared) (Q : Value → Shared → Prop) : Prop :=
  ∀ x dx fs fr tl ps' tf t1 t2 t3 t4 h' tk', Fr h₀ L h' m → News h₀ L h' ((dx, fdict w.params 0 tf fs fr t1 t2 t3 t4) :: (167, tabObj ps') :: (tl ++ news)) → FileIn (tl ++ news) pl z x dx fs fr → TabIs ps' (tl ++ newsT) →
      (∀ q ∈ news, ∀ p ∈ tl, q.1 < p.1) → (∀ q ∈ news, q.1 < dx) → (∀ p ∈ tl, p.1 ≠ dx) → (∀ p ∈ tl, p.1 ≠ 167) → dx ≠ 167 → Q (.ref x) { s with heap := h', toks := tk' }
theorem low_chain {L' dx x : Nat} (h2 : L' + 1 + 1 + 1 < dx) (h3 : dx < x) : L' < dx ∧ L' < x := ⟨Nat.lt_trans (Nat.lt_succ_of_lt (Nat.lt_succ_of_lt (Nat.lt_succ_self _))) h2, Nat.lt_trans (Nat.lt_trans (Nat.lt_succ_of_lt (Nat.lt_succ_of_lt (Nat.lt_succ_self _))) h2) h3⟩
theorem up1 (n : Nat) : n < n + 1 := Nat.lt_succ_self _
theorem up2 (n : Nat) : n < n + 1 + 1 := Nat.lt_succ_of_lt (up1 n)
theorem up3 (n : Nat) : n < n + 1 + 1 + 1 := Nat.lt_succ_of_lt (up2 n)
theorem addr_lt {a b : Nat} {p : Addr} (h : a < b) (e : p = b) : (a : Addr) < p := e ▸ ltN h
section
variable {w : World} {news newsT : List (Addr × Obj)} {pl : Addr} {z : Int} {h₀ h' : Heap} {L : Addr} {m : Str → Option Value} {s : Shared} {Q : Value → Shared → Prop} {L' x dx fs fr c1 c2 : Nat}
  {nR nS qR qS : Str} {pR pS : Arguments} {bR bS : List Stmt} {sR sS : Scope} {dR dS pmR pmS ctr cts : Value} {oc1 oc2 oF oZ oP : Obj} {vs1 vs2 : Array Value} {ts1 tr tf t1 t2 t3 t4 tz : Tok} {tk' : Nat} {ps' : Array Value} {nm nm' nm2 nm2' : Str} {pos pos2 : Pos}
theorem file_fin (hret : FileRet w news newsT pl z h₀ L m s Q) (kF : Fr h₀ L h' m)
    (kN : News h₀ L h' ((fr, fnMade nR qR pR bR sR [(Str.ofString "size", L' + 1 + 1), (Str.ofString "pieces", L' + 1), (Str.ofString "file", L' + 1 + 1 + 1)] dR pmR c2 ctr) :: (c2, oc2) :: (fs, fnMade nS qS pS bS sS [(Str.ofString "file", L' + 1 + 1 + 1)] dS pmS c1 cts) :: (c1, oc1) :: (x, instObj 107 dx) :: (dx, fdict w.params 0 tf fs fr t1 t2 t3 t4) :: (L' + 1 + 1 + 1, oF) :: (L' + 1 + 1, oZ) :: (L' + 1, oP) :: (167, tabObj ps') :: news))
    (hR : readStmt = .FunctionDef nm pR bR [] none [] sR none nm' pos) (hS : seekStmt = .FunctionDef nm2 pS bS [] none [] sS none nm2' pos2) (eR : qR = qRead) (eS : qS = qSeek) (eR' : nR = Str.ofString "_law_read") (eS' : nS = Str.ofString "_law_seek")
    (d1s : oc1.data = .fields vs1) (d2s : vs1[1]? = some (.str qS ts1)) (d1r : oc2.data = .fields vs2) (d2r : vs2[1]? = some (.str qR tr)) (dF : oF.data = .cell (some (.ref x))) (dZ : oZ.data = .cell (some (.int z tz))) (dP : oP.data = .cell (some (.ref pl)))
    (hps : ps' = #[rawInt 155, rawInt 4, .ref c1, rawInt 159, rawInt 4, .ref c2]) (hlow : LowAt L' news) (h1 : 167 < L') (h2 : L' + 1 + 1 + 1 < dx) (h3 : dx < x) (h4 : x < c1) (h5 : c1 < fs) (h6 : fs < c2) (h7 : c2 < fr) : Q (.ref x) { s with heap := h', toks := tk' } := by
  subst eR eS eR' eS'
  have hmem : ∀ (P : Addr × Obj → Prop), (∀ p ∈ [(fr, fnMade (Str.ofString "_law_read") qRead pR bR sR [(Str.ofString "size", L' + 1 + 1), (Str.ofString "pieces", L' + 1), (Str.ofString "file", L' + 1 + 1 + 1)] dR pmR c2 ctr), (c2, oc2), (fs, fnMade (Str.ofString "_law_seek") qSeek pS bS sS [(Str.ofString "file", L' + 1 + 1 + 1)] dS pmS c1 cts), (c1, oc1), (x, instObj 107 dx), (L' + 1 + 1 + 1, oF), (L' + 1 + 1, oZ), (L' + 1, oP)], P p) ↔
      P (fr, fnMade (Str.ofString "_law_read") qRead pR bR sR [(Str.ofString "size", L' + 1 + 1), (Str.ofString "pieces", L' + 1), (Str.ofString "file", L' + 1 + 1 + 1)] dR pmR c2 ctr) ∧ P (c2, oc2) ∧ P (fs, fnMade (Str.ofString "_law_seek") qSeek pS bS sS [(Str.ofString "file", L' + 1 + 1 + 1)] dS pmS c1 cts) ∧ P (c1, oc1) ∧ P (x, instObj 107 dx) ∧ P (L' + 1 + 1 + 1, oF) ∧ P (L' + 1 + 1, oZ) ∧ P (L' + 1, oP) := by
    intro P
    simp only [List.forall_mem_cons, List.not_mem_nil, false_implies, implies_true, and_true]
  refine hret x dx fs fr [(fr, fnMade (Str.ofString "_law_read") qRead pR bR sR [(Str.ofString "size", L' + 1 + 1), (Str.ofString "pieces", L' + 1), (Str.ofString "file", L' + 1 + 1 + 1)] dR pmR c2 ctr), (c2, oc2), (fs, fnMade (Str.ofString "_law_seek") qSeek pS bS sS [(Str.ofString "file", L' + 1 + 1 + 1)] dS pmS c1 cts), (c1, oc1), (x, instObj 107 dx), (L' + 1 + 1 + 1, oF), (L' + 1 + 1, oZ), (L' + 1, oP)] ps' tf t1 t2 t3 t4 h' tk' kF (cb_drop kN ?_) ⟨?_, ?_, ?_⟩ (.inr ⟨c1, c2, hps, ?_, ?_⟩) ?_ ?_ ?_ ?_ ?_
  · simp only [List.cons_append, List.nil_append]
    k_extra "mine all"
  · simp only [List.cons_append, List.nil_append]
    k_extra "mine in"
  · refine ⟨nm2, pS, bS, sS, nm2', pos2, dS, pmS, c1, cts, L' + 1 + 1 + 1, hS, ?_, ⟨oc1, vs1, ts1, ?_, d1s, d2s⟩, ⟨oF, ?_, dF⟩⟩ <;> (simp only [List.cons_append, List.nil_append]; k_extra "mine in")
  · refine ⟨nm, pR, bR, sR, nm', pos, dR, pmR, c2, ctr, L' + 1 + 1 + 1, L' + 1 + 1, L' + 1, tz, hR, ?_, ⟨oc2, vs2, tr, ?_, d1r, d2r⟩, ⟨oF, ?_, dF⟩, ⟨oZ, ?_, dZ⟩, ⟨oP, ?_, dP⟩⟩ <;> (simp only [List.cons_append, List.nil_append]; k_extra "mine in")
  · exact ⟨oc1, vs1, ts1, by (simp only [List.cons_append, List.nil_append]; k_extra "mine in"), d1s, d2s⟩
  · exact ⟨oc2, vs2, tr, by (simp only [List.cons_append, List.nil_append]; k_extra "mine in"), d1r, d2r⟩
  all_goals
    have l0 := (low_chain h2 h3).1
    have l1 := (low_chain h2 h3).2
    have l2 := Nat.lt_trans l1 h4
    have l3 := Nat.lt_trans l2 h5
    have l4 := Nat.lt_trans l3 h6
    have l5 := Nat.lt_trans l4 h7
  · intro q hq
    have hq' : @LT.lt Nat _ q.1 L' := hlow q hq
    rw [hmem]
    exact ⟨ltN (Nat.lt_trans hq' l5), ltN (Nat.lt_trans hq' l4), ltN (Nat.lt_trans hq' l3), ltN (Nat.lt_trans hq' l2), ltN (Nat.lt_trans hq' l1), ltN (Nat.lt_trans hq' (up3 _)), ltN (Nat.lt_trans hq' (up2 _)), ltN (Nat.lt_trans hq' (up1 _))⟩
  · intro q hq
    exact ltN (Nat.lt_trans (hlow q hq : @LT.lt Nat _ q.1 L') l0)
  · rw [hmem]
    have k2 := Nat.lt_trans h3 h4
    have k3 := Nat.lt_trans k2 h5
    have k4 := Nat.lt_trans k3 h6
    have k5 := Nat.lt_trans k4 h7
    exact ⟨neN (Nat.ne_of_gt k5), neN (Nat.ne_of_gt k4), neN (Nat.ne_of_gt k3), neN (Nat.ne_of_gt k2), neN (Nat.ne_of_gt h3), neN (Nat.ne_of_lt h2), neN (Nat.ne_of_lt (Nat.lt_trans (up1 _) h2)), neN (Nat.ne_of_lt (Nat.lt_trans (up2 _) h2))⟩
  · rw [hmem]
    exact ⟨neN (Nat.ne_of_gt (Nat.lt_trans h1 l5)), neN (Nat.ne_of_gt (Nat.lt_trans h1 l4)), neN (Nat.ne_of_gt (Nat.lt_trans h1 l3)), neN (Nat.ne_of_gt (Nat.lt_trans h1 l2)), neN (Nat.ne_of_gt (Nat.lt_trans h1 l1)), neN (Nat.ne_of_gt (Nat.lt_trans h1 (up3 _))), neN (Nat.ne_of_gt (Nat.lt_trans h1 (up2 _))), neN (Nat.ne_of_gt (Nat.lt_trans h1 (up1 _)))⟩
  · exact neN (Nat.ne_of_gt (Nat.lt_trans h1 l0))
theorem file_fin2 (hret : FileRet w news newsT pl z h₀ L m s Q) (kF : Fr h₀ L h' m)
    (kN : News h₀ L h' ((fr, fnMade nR qR pR bR sR [(Str.ofString "size", L' + 1 + 1), (Str.ofString "pieces", L' + 1), (Str.ofString "file", L' + 1 + 1 + 1)] dR pmR c2 ctr) :: (fs, fnMade nS qS pS bS sS [(Str.ofString "file", L' + 1 + 1 + 1)] dS pmS c1 cts) :: (x, instObj 107 dx) :: (dx, fdict w.params 0 tf fs fr t1 t2 t3 t4) :: (L' + 1 + 1 + 1, oF) :: (L' + 1 + 1, oZ) :: (L' + 1, oP) :: (167, tabObj ps') :: news))
    (hR : readStmt = .FunctionDef nm pR bR [] none [] sR none nm' pos) (hS : seekStmt = .FunctionDef nm2 pS bS [] none [] sS none nm2' pos2) (eR : qR = qRead) (eS : qS = qSeek) (eR' : nR = Str.ofString "_law_read") (eS' : nS = Str.ofString "_law_seek")
    (hc1 : CodeIn newsT c1 qSeek) (hc2 : CodeIn newsT c2 qRead) (hsT : ∀ p ∈ newsT, p ∈ news) (dF : oF.data = .cell (some (.ref x))) (dZ : oZ.data = .cell (some (.int z tz))) (dP : oP.data = .cell (some (.ref pl)))
    (hps : ps' = #[rawInt 155, rawInt 4, .ref c1, rawInt 159, rawInt 4, .ref c2]) (hlow : LowAt L' news) (h1 : 167 < L') (h2 : L' + 1 + 1 + 1 < dx) (h3 : dx < x) (h5 : x < fs) (h7 : fs < fr) : Q (.ref x) { s with heap := h', toks := tk' } := by
  subst eR eS eR' eS'
  have hmem : ∀ (P : Addr × Obj → Prop), (∀ p ∈ [(fr, fnMade (Str.ofString "_law_read") qRead pR bR sR [(Str.ofString "size", L' + 1 + 1), (Str.ofString "pieces", L' + 1), (Str.ofString "file", L' + 1 + 1 + 1)] dR pmR c2 ctr), (fs, fnMade (Str.ofString "_law_seek") qSeek pS bS sS [(Str.ofString "file", L' + 1 + 1 + 1)] dS pmS c1 cts), (x, instObj 107 dx), (L' + 1 + 1 + 1, oF), (L' + 1 + 1, oZ), (L' + 1, oP)], P p) ↔
      P (fr, fnMade (Str.ofString "_law_read") qRead pR bR sR [(Str.ofString "size", L' + 1 + 1), (Str.ofString "pieces", L' + 1), (Str.ofString "file", L' + 1 + 1 + 1)] dR pmR c2 ctr) ∧ P (fs, fnMade (Str.ofString "_law_seek") qSeek pS bS sS [(Str.ofString "file", L' + 1 + 1 + 1)] dS pmS c1 cts) ∧ P (x, instObj 107 dx) ∧ P (L' + 1 + 1 + 1, oF) ∧ P (L' + 1 + 1, oZ) ∧ P (L' + 1, oP) := by
    intro P
    simp only [List.forall_mem_cons, List.not_mem_nil, false_implies, implies_true, and_true]
  refine hret x dx fs fr [(fr, fnMade (Str.ofString "_law_read") qRead pR bR sR [(Str.ofString "size", L' + 1 + 1), (Str.ofString "pieces", L' + 1), (Str.ofString "file", L' + 1 + 1 + 1)] dR pmR c2 ctr), (fs, fnMade (Str.ofString "_law_seek") qSeek pS bS sS [(Str.ofString "file", L' + 1 + 1 + 1)] dS pmS c1 cts), (x, instObj 107 dx), (L' + 1 + 1 + 1, oF), (L' + 1 + 1, oZ), (L' + 1, oP)] ps' tf t1 t2 t3 t4 h' tk' kF (cb_drop kN ?_) ⟨?_, ?_, ?_⟩ (.inr ⟨c1, c2, hps, hc1.mono (fun p hp => List.mem_append_right _ hp), hc2.mono (fun p hp => List.mem_append_right _ hp)⟩) ?_ ?_ ?_ ?_ ?_
  · simp only [List.cons_append, List.nil_append]
    k_extra "mine all"
  · simp only [List.cons_append, List.nil_append]
    k_extra "mine in"
  · refine ⟨nm2, pS, bS, sS, nm2', pos2, dS, pmS, c1, cts, L' + 1 + 1 + 1, hS, ?_, hc1.mono (fun p hp => List.mem_append_right _ (hsT p hp)), ⟨oF, ?_, dF⟩⟩ <;> (simp only [List.cons_append, List.nil_append]; k_extra "mine in")
  · refine ⟨nm, pR, bR, sR, nm', pos, dR, pmR, c2, ctr, L' + 1 + 1 + 1, L' + 1 + 1, L' + 1, tz, hR, ?_, hc2.mono (fun p hp => List.mem_append_right _ (hsT p hp)), ⟨oF, ?_, dF⟩, ⟨oZ, ?_, dZ⟩, ⟨oP, ?_, dP⟩⟩ <;> (simp only [List.cons_append, List.nil_append]; k_extra "mine in")
  all_goals
    have l0 := (low_chain h2 h3).1
    have l1 := (low_chain h2 h3).2
    have l2 := Nat.lt_trans l1 h5
    have l3 := Nat.lt_trans l2 h7
  · intro q hq
    have hq' : @LT.lt Nat _ q.1 L' := hlow q hq
    rw [hmem]
    exact ⟨ltN (Nat.lt_trans hq' l3), ltN (Nat.lt_trans hq' l2), ltN (Nat.lt_trans hq' l1), ltN (Nat.lt_trans hq' (up3 _)), ltN (Nat.lt_trans hq' (up2 _)), ltN (Nat.lt_trans hq' (up1 _))⟩
  · intro q hq
    exact ltN (Nat.lt_trans (hlow q hq : @LT.lt Nat _ q.1 L') l0)
  · rw [hmem]
    have k2 := Nat.lt_trans h3 h5
    have k3 := Nat.lt_trans k2 h7
    exact ⟨neN (Nat.ne_of_gt k3), neN (Nat.ne_of_gt k2), neN (Nat.ne_of_gt h3), neN (Nat.ne_of_lt h2), neN (Nat.ne_of_lt (Nat.lt_trans (up1 _) h2)), neN (Nat.ne_of_lt (Nat.lt_trans (up2 _) h2))⟩
  · rw [hmem]
    exact ⟨neN (Nat.ne_of_gt (Nat.lt_trans h1 l3)), neN (Nat.ne_of_gt (Nat.lt_trans h1 l2)), neN (Nat.ne_of_gt (Nat.lt_trans h1 l1)), neN (Nat.ne_of_gt (Nat.lt_trans h1 (up3 _))), neN (Nat.ne_of_gt (Nat.lt_trans h1 (up2 _))), neN (Nat.ne_of_gt (Nat.lt_trans h1 (up1 _)))⟩
  · exact neN (Nat.ne_of_gt (Nat.lt_trans h1 l0))
end
set_option pp.deepTerms false in
set_option pp.deepTerms.threshold 30 in
set_option maxHeartbeats 4000000 in
theorem file_ctr {prog : Program} {w : World} {news newsT : List (Addr × Obj)} {pl : Addr} {z : Int} {tz : Tok} {ps : Array Value} (p : Program) (loose : List Str) (mean : ExcName → Option Value) (mg mb : Str → Option Value) (dp un : Nat) (gd : Option (List Code)) (cn : Str) (cs : Scope) (a : Addr) (ccd : Value) (cl : List (Str × Addr)) (outer : List Env) (A₀ : Around) (base h₀ : Heap) (L : Addr) (m : Str → Option Value) (s : Shared)
    (Q E : Value → Shared → Prop) (B : Below A₀ base outer h₀) (F : Fr h₀ L s.heap m) (X : (Mine.hd.heap_39 w.params).In h₀) (N : News h₀ L s.heap ((167, tabObj ps) :: news)) (T : Top p loose mean mg mb h₀) (hk : cs.kind = .function) (hd : dp + 10 < recursionLimit) (hu : un + 80 < cLine) (codeHd : CodeHd h₀ 171 167) (h167 : ∀ p ∈ news, p.1 ≠ 167) (hT : TabIs ps newsT) (hsT : ∀ p ∈ newsT, p ∈ news)
    (hret : FileRet w news newsT pl z h₀ L m s Q) :
    wpAny (model prog w) (ktrTop dp un gd cn cs L a ccd cl outer) (call (.ref 172) [.ref pl, .int z tz]) Q E s := by
  rcases hT with rfl | ⟨c1, c2, rfl, ⟨oc1, vs1, tc1, hc1T, hd1, hq1⟩, ⟨oc2, vs2, tc2, hc2T, hd2, hq2⟩⟩
  · refine wpAny_call ?_
    k_dflt (k_extra "mine enterC0")
    intro g' L' h' tk' cells' FG' F' N' Y' B' X' T' l1
    have codeHd' : CodeHd g' 171 167 := codeHd.keeps FG'.keep
    have hlow : LowAt L' news := fun p hp => l1 p (.tail _ hp)
    k_lt l1
    k_cells Y'
    simp only [List.cons_append, List.nil_append] at N'
    try dsimp only
    try k_lift B'
    try k_fold
    k_steps
    rename_i oF0 oZ oP dF0 dZ dP x dx h10 l1x l2x g2 L2 h9 B2 X2 T2 tk1 h8 h7 F1 N1 Tc1 kX1 h6 oF dF fs c1 oc1 vs1 ts1 cts dcs h5 tks d1s d2s l1s l2s h4 fr c2 oc2 vs2 tr ctr dcr h3 tkr d1r d2r l1r l2r h2 h1 hh F N kF kN Tc kX
    exact file_fin hret kF kN rfl rfl (by kernel_rfl) (by kernel_rfl) rfl rfl d1s d2s d1r d2r dF dZ dP rfl hlow (by omega) (by omega) (by omega) (by omega) (by omega) (by omega) (by omega)
  · have hc1 := hsT _ hc1T
    have hc2 := hsT _ hc2T
    refine wpAny_call ?_
    k_dflt (k_extra "mine enterC0")
    intro g' L' h' tk' cells' FG' F' N' Y' B' X' T' l1
    have codeHd' : CodeHd g' 171 167 := codeHd.keeps FG'.keep
    have hlow : LowAt L' news := fun p hp => l1 p (.tail _ hp)
    k_lt l1
    k_cells Y'
    simp only [List.cons_append, List.nil_append] at N'
    try dsimp only
    try k_lift B'
    try k_fold
    k_steps
    rename_i oF0 oZ oP dF0 dZ dP x dx h10 l1x l2x g2 L2 h9 B2 X2 T2 tk1 h8 h7 F1 N1 Tc1 kX1 h6 oF dF fs cts dcs h5 tks l1s h4 fr ctr dcr h3 tkr l1r h2 h1 hh F N kF kN Tc kX
    exact file_fin2 hret kF kN rfl rfl (by kernel_rfl) (by kernel_rfl) rfl rfl ⟨oc1, vs1, tc1, hc1T, hd1, hq1⟩ ⟨oc2, vs2, tc2, hc2T, hd2, hq2⟩ hsT dF dZ dP rfl hlow (by omega) (by omega) (by omega) (by omega) (by omega)
end Mine
namespace Mine
theorem laid23 : True := by
  w_top off
  k_with "mine enterN" => (refine' code_nest ?q9k1 ?q9k2 ?q9k3 ?q9k4 ?q9k5 ?q9kA ?q9kF ?q9kK ?q9k6 ?q9k7 ?q9k8 ?q9k9 ?q9kB ?_ ?q9c2 ?q9c3 ?q9c4 ?q9c5; (case q9kA => exact rfl); (case q9kF => exact rfl); (case q9kK => first | exact rfl | assumption); (case q9k1 => k_asm); (case q9k2 => k_asm); (case q9k3 => k_asm); (case q9k4 => k_asm); (case q9k5 => k_asm); (case q9k6 => k_mem); (case q9k7 => exact codeRec_news (by k_asm) (by k_mem) (by assumption) (by assumption)); (case q9k8 => ktr_room); (case q9k9 => exact BindsTo.of_eq rfl); (case q9c5 => decide); (case q9kB => exact locs rfl); (case q9c2 => exact rfl); (case q9c3 => exact rfl); (case q9c4 => exact rfl); k_whole; intro g' L' h' FG' F' N' B' X' T'; (try dsimp only); (try k_lift B'); (try k_fold))
  k_with "eval Name" => (k_here; k_dflt (refine' nameX_F ?q9N ?q9c ?q9m ?q9d ?_ ?q9a ?q9b; (case q9a => rfl); (case q9b => rfl); (case q9N => k_asm); (case q9c => rfl); (case q9m => k_mem); (case q9d => k_asm); k_whole))
  trivial
set_option pp.deepTerms false in
set_option pp.deepTerms.threshold 30 in
set_option maxHeartbeats 4000000 in
theorem seek_ctr {prog : Program} {w : World} {news : List (Addr × Obj)} {pl : Addr} {z off o : Int} {tf to t1 t2 t3 t4 : Tok} {x dx fs fr : Addr} (p : Program) (loose : List Str) (mean : ExcName → Option Value) (mg mb : Str → Option Value) (dp un : Nat) (gd : Option (List Code)) (cn : Str) (cs : Scope) (a : Addr) (ccd : Value) (cl : List (Str × Addr)) (outer : List Env) (A₀ : Around) (base h₀ : Heap) (L : Addr) (m : Str → Option Value) (s : Shared)
    (Q E : Value → Shared → Prop) (B : Below A₀ base outer h₀) (F : Fr h₀ L s.heap m) (X : (Mine.hd.heap_39 w.params).In h₀) (N : News h₀ L s.heap ((dx, fdict w.params off tf fs fr t1 t2 t3 t4) :: news)) (T : Top p loose mean mg mb h₀) (hk : cs.kind = .function) (hd : dp + 5 < recursionLimit) (hu : un + 40 < cLine)
    (hF : FileIn news pl z x dx fs fr) (hdx : ∀ p ∈ news, p.1 ≠ dx)
    (hret : ∀ t h' tk', Fr h₀ L h' m → News h₀ L h' ((dx, fdict w.params o t fs fr t1 t2 t3 t4) :: news) → Q (.int o t) { s with heap := h', toks := tk' }) :
    wpAny (model prog w) (ktrTop dp un gd cn cs L a ccd cl outer) (call (.ref fs) [.int o to]) Q E s := by
  obtain ⟨hinst, ⟨n, params, body, scope, nm, pos, doc, pm, c, ct, cf, hS, hm, ⟨oc, vs, t, hc, hdc, hq⟩, ⟨oF, hcf, dF⟩⟩, _⟩ := hF
  conv at hS => lhs; whnf
  injection hS with e1 e2 e3 e4 e5 e6 e7 e8 e9 e10
  subst e2 e3 e7
  clear e4 e5 e6 e8
  refine wpAny_call ?_
  k_dflt (refine' code_nest ?k1 ?k2 ?k3 ?k4 ?k5 ?kA ?kF ?kK ?k6 ?k7 ?k8 ?k9 ?kB ?_ ?c2 ?c3 ?c4 ?c5)
  case kA => exact rfl
  case kF => exact rfl
  case kK => first | exact rfl | assumption
  case k1 => k_asm
  case k2 => k_asm
  case k3 => k_asm
  case k4 => k_asm
  case k5 => k_asm
  case k6 => k_mem
  case k7 => exact codeRec_news (by k_asm) (by k_mem) (by assumption) (by assumption)
  case k8 => ktr_room
  case k9 => exact BindsTo.of_eq rfl
  case c5 => decide
  case kB => exact locs rfl
  case c2 => exact rfl
  case c3 => exact rfl
  case c4 => exact rfl
  k_whole
  intro g' L' h' FG' F' N' B' X' T'
  try dsimp only
  try k_lift B'
  try k_fold
  k_steps
  exact hret _ _ _ (by assumption) (by assumption)
end Mine
namespace Mine
theorem laid24 : True := by
  w_top off
  trivial
abbrev tup2 (i : Int) (b : List UInt8) (t u : Tok) : Obj := { cls := .type "tuple", data := .seq #[.int i t, .bytes b.toArray u] }
def PcIn (news : List (Addr × Obj)) (v : Value) (p : Int × List UInt8) : Prop := ∃ a t u, v = .ref a ∧ (a, tup2 p.1 p.2 t u) ∈ news
structure PiecesIn (news : List (Addr × Obj)) (pl : Addr) (pcs : List (Int × List UInt8)) : Prop where
  ok : ∃ (vs : List Value) (n : Nat), (pl, listOf vs.toArray n) ∈ news ∧ vs.length = pcs.length ∧ ∀ (i : Nat) (v : Value), vs[i]? = some v → ∃ p, pcs[i]? = some p ∧ PcIn news v p
theorem PcIn.mono {news news' : List (Addr × Obj)} {v : Value} {p : Int × List UInt8} (h : PcIn news v p) (hs : ∀ p ∈ news, p ∈ news') : PcIn news' v p := let ⟨a, t, u, e, m⟩ := h; ⟨a, t, u, e, hs _ m⟩
theorem PiecesIn.mono {news news' : List (Addr × Obj)} {pl : Addr} {pcs : List (Int × List UInt8)} (h : PiecesIn news pl pcs) (hs : ∀ p ∈ news, p ∈ news') : PiecesIn news' pl pcs :=
  let ⟨vs, n, a, b, c⟩ := h.ok; ⟨⟨vs, n, hs _ a, b, fun i v e => let ⟨p, h1, h2⟩ := c i v e; ⟨p, h1, h2.mono hs⟩⟩⟩
def overF (start stop : Int) (told : List UInt8) (p : Int × List UInt8) : List UInt8 :=
  if p.1 < stop ∧ start < p.1 + p.2.length then
    told.take (max p.1 start - start).toNat ++ (p.2.take (min (p.1 + p.2.length) stop - p.1).toNat).drop (max p.1 start - p.1).toNat ++ told.drop (min (p.1 + p.2.length) stop - start).toNat
  else told
def readF (pcs : List (Int × List UInt8)) (start cnt : Int) : List UInt8 := pcs.foldl (overF start (start + cnt)) (List.replicate cnt.toNat 0)
def cutL (l : List UInt8) (lo hi : Option Int) : List UInt8 := (l.drop (lo.elim 0 (clipAt l.length))).take (hi.elim l.length (clipAt l.length) - lo.elim 0 (clipAt l.length))
theorem cutL_len (l : List UInt8) (lo hi : Option Int) : (cutL l lo hi).length ≤ l.length := by unfold cutL; rw [List.length_take, List.length_drop]; omega
structure Small (k : Nat) (l : List UInt8) : Prop where
  le : l.length ≤ k
theorem Small.cut {k : Nat} {l : List UInt8} {lo hi : Option Int} (h : Small k l) : Small k (cutL l lo hi) := ⟨Nat.le_trans (cutL_len l lo hi) h.le⟩
theorem Small.app {j k : Nat} {l r : List UInt8} (h : Small j l) (h' : Small k r) : Small (j + k) (l ++ r) := ⟨by rw [List.length_append]; exact Nat.add_le_add h.le h'.le⟩
section
variable {prog : Program} {w : World} {A : Around} {E : Value → Shared → Prop} {s : Shared} {value slice : PySem.Expr} {l r : List UInt8} {t tr : Tok} {h₀ : Heap} {L : Addr} {m : PySem.Str → Option Value} {news : List (Addr × Obj)} {lv hv : Value} {lo hi : Option Int} {Q : Value → Shared → Prop} {j k : Nat}
theorem slice_L (hF : Fr h₀ L s.heap m) (hN : News h₀ L s.heap news) (hz : Small k l) (hl : IsPart lv lo) (hu : IsPart hv hi) (hk : k ≤ 16777216)
    (h : ∀ h' t' k, Fr h₀ L h' m → News h₀ L h' news → Q (.bytes (cutL l lo hi).toArray t') { s with heap := h', toks := k })
    (hs : subscripted slice false (.bytes l.toArray t) (.ref s.heap.objs.size) = operate [.ref s.heap.objs.size, .bytes l.toArray t] (getItem (.bytes l.toArray t) (.ref s.heap.objs.size)) := by with_unfolding_all rfl)
    (ht : ∀ r, letTemporaryGo value (.bytes l.toArray t) r = pure () := by intro _; with_unfolding_all rfl) :
    wpAny (model prog w) A (subscriptTail value slice (.bytes l.toArray t) (.ref s.heap.objs.size)) Q E { s with heap := s.heap.push { cls := .type "slice", data := .fields #[lv, hv, .none] } } :=
  KBc.slice_K hF hN rfl hl hu (by rw [KBw.ints_length, List.size_toArray]; exact Nat.le_trans hz.le hk) (fun h' t' k' F N _ => by
    have e : KBy.picked l.toArray lo hi = (cutL l lo hi).toArray := by rw [KBc.picked_eq]; unfold cutL; rw [List.size_toArray]
    rw [e]; exact h h' t' k' F N) hs ht
theorem len_L (hz : Small k l) (hk : k ≤ 16777216) (h : Q (.int l.length (s.toks + 1)) { s with toks := s.toks + 1 + 1 }) : wpAny (model prog w) A (call (.builtin "len") [.bytes l.toArray t]) Q E s :=
  len_bytes (by rw [List.size_toArray]; have := hz.le; omega) (by rw [List.size_toArray]; exact h)
theorem add_L (hl : Small j l) (hr : Small k r) (hk : j + k ≤ 16777216) (h : ∀ t' k', Q (.bytes (l ++ r).toArray t') { s with toks := k' }) : wpAny (model prog w) A (binaryOp .Add (.bytes l.toArray t) (.bytes r.toArray tr)) Q E s :=
  KBy.add_bytes (by rw [List.size_toArray, List.size_toArray]; have := hl.le; have := hr.le; omega) (fun t' k' => by rw [List.append_toArray]; exact h t' k')
end
theorem laid25 : True := by
  k_with "mine small" => (first | assumption | exact Small.cut (by k_extra "mine small") | exact Small.app (by k_extra "mine small") (by k_extra "mine small"))
  k_with "call builtin:len" => (k_here; (with_reducible show wpAny _ _ (call (Value.builtin "len") [Value.bytes (List.toArray _) _]) _ _ _); refine len_L (by k_extra "mine small") (by decide) ?_)
  k_with "binaryOp Add bytes bytes" => (k_here; (with_reducible show wpAny _ _ (binaryOp Operator.Add (Value.bytes (List.toArray _) _) (Value.bytes (List.toArray _) _)) _ _ _); refine add_L (by k_extra "mine small") (by k_extra "mine small") (by decide) ?_; intro t' k')
  k_with "subscriptTail" => (k_here; (with_reducible show wpAny _ _ (subscriptTail _ (Expr.Slice _ _ none _) (Value.bytes (List.toArray _) _) (Value.ref _)) _ _ _); (with_reducible rename Fr _ _ _ _ => F'); (with_reducible rename News _ _ _ _ => N'); (refine slice_L (s := ⟨_, _, _, _, _⟩) F' N' (by k_extra "mine small") (by constructor) (by constructor) (by decide) ?_); intro h' t' k' F' N'; (try k_sweep))
  trivial
theorem clip_nn {n : Nat} {x : Int} (h : 0 ≤ x) : clipAt n x = min x.toNat n := by
  have := clipAt_nat n x.toNat
  rwa [Int.toNat_of_nonneg h] at this
theorem cut_hi (l : List UInt8) {x : Int} (h : 0 ≤ x) : cutL l none (some x) = l.take x.toNat := by
  unfold cutL
  simp only [Option.elim, List.drop_zero, Nat.sub_zero]
  rw [clip_nn h, ← List.take_take, List.take_length]
theorem cut_lo (l : List UInt8) {x : Int} (h : 0 ≤ x) : cutL l (some x) none = l.drop x.toNat := by
  unfold cutL
  simp only [Option.elim]
  rw [clip_nn h]
  rcases Nat.le_total x.toNat l.length with q | q
  · rw [Nat.min_eq_left q, List.take_of_length_le (by rw [List.length_drop]; omega)]
  · rw [Nat.min_eq_right q, Nat.sub_self, List.take_zero, List.drop_eq_nil_of_le q]
theorem cut_mid (l : List UInt8) {x y : Int} (h : 0 ≤ x) (h' : 0 ≤ y) : cutL l (some x) (some y) = (l.take y.toNat).drop x.toNat := by
  unfold cutL
  simp only [Option.elim]
  rw [clip_nn h, clip_nn h', List.drop_take]
  rcases Nat.le_total x.toNat l.length with q | q
  · rw [Nat.min_eq_left q]
    rcases Nat.le_total y.toNat l.length with r | r
    · rw [Nat.min_eq_left r]
    · rw [Nat.min_eq_right r, List.take_of_length_le (by rw [List.length_drop]; omega), List.take_of_length_le (by rw [List.length_drop]; omega)]
  · rw [Nat.min_eq_right q, List.drop_eq_nil_of_le q, List.drop_eq_nil_of_le (Nat.le_refl _), List.take_nil, List.take_nil]
theorem over_eq {told : List UInt8} {q : Int × List UInt8} {off stop lo hi : Int} (hlo : lo = max q.1 off) (hhi : hi = min (q.1 + q.2.length) stop) (h1 : q.1 < stop) (h2 : off < q.1 + q.2.length) (h3 : off ≤ stop) :
    cutL told none (some (lo - off)) ++ cutL q.2 (some (lo - q.1)) (some (hi - q.1)) ++ cutL told (some (hi - off)) none = overF off stop told q := by
  subst hlo hhi
  unfold overF
  rw [if_pos ⟨h1, h2⟩, cut_hi _ (by omega), cut_lo _ (by omega), cut_mid _ (by omega) (by omega)]
theorem over_no {told : List UInt8} {q : Int × List UInt8} {off stop : Int} (h : ¬ (q.1 < stop ∧ off < q.1 + q.2.length)) : told = overF off stop told q := by
  unfold overF; rw [if_neg h]
theorem max_or (a b : Int) : a ≤ max a b ∧ b ≤ max a b ∧ (max a b = a ∨ max a b = b) := by
  rcases Int.le_total a b with h | h
  · rw [Int.max_eq_right h]; exact ⟨h, Int.le_refl _, .inr rfl⟩
  · rw [Int.max_eq_left h]; exact ⟨Int.le_refl _, h, .inl rfl⟩
theorem min_or (a b : Int) : min a b ≤ a ∧ min a b ≤ b ∧ (min a b = a ∨ min a b = b) := by
  rcases Int.le_total a b with h | h
  · rw [Int.min_eq_left h]; exact ⟨Int.le_refl _, h, .inl rfl⟩
  · rw [Int.min_eq_right h]; exact ⟨h, Int.le_refl _, .inr rfl⟩
theorem addsub (a : Int) (n : Nat) : (a + n - a).toNat = n := by omega
/-- the three parts that a piece cuts a reading into, as whole numbers -/
theorem over_num {p off c : Int} {n : Nat} (hc : 0 ≤ c) (h1 : p < off + c) (h2 : off < p + n) : ∃ A H D : Nat, (max p off - off).toNat = A ∧ (min (p + n) (off + c) - off).toNat = H ∧ (max p off - p).toNat = D ∧ (min (p + n) (off + c) - p).toNat = D + (H - A) ∧
    A ≤ H ∧ (H : Int) ≤ c ∧ off + A = p + D ∧ p + D + ((H - A : Nat) : Int) ≤ p + n ∧ ((A : Int) = 0 ∨ off + A = p) ∧ ((H : Int) = c ∨ off + H = p + n) := by
  obtain ⟨a1, a2, a3⟩ := max_or p off
  obtain ⟨b1, b2, b3⟩ := min_or (p + n) (off + c)
  generalize max p off = lo at *
  generalize min (p + n) (off + c) = hi at *
  obtain ⟨A, rfl⟩ : ∃ A : Nat, lo = off + A := ⟨(lo - off).toNat, by clear a3 b3; omega⟩
  have hlh : off + (A : Int) ≤ hi := by rcases a3 with e | e <;> rcases b3 with e' | e' <;> rw [e, e'] <;> omega
  obtain ⟨H, rfl⟩ : ∃ H : Nat, hi = off + H := ⟨(hi - off).toNat, by clear a3 b3; omega⟩
  obtain ⟨D, hD⟩ : ∃ D : Nat, off + (A : Int) = p + D := ⟨(off + A - p).toNat, by clear a3 b3; omega⟩
  have hAH : A ≤ H := by clear a3 b3; omega
  obtain ⟨k, rfl⟩ : ∃ k, H = A + k := ⟨H - A, by clear a3 b3; omega⟩
  have e3 : A + k - A = k := Nat.add_sub_cancel_left A k
  refine ⟨A, A + k, D, ?_, ?_, ?_, ?_, hAH, by clear a3 b3; omega, hD, ?_, ?_, ?_⟩
  · exact addsub _ _
  · exact addsub _ _
  · rw [hD]; exact addsub _ _
  · rw [e3]; clear a3 b3; omega
  · rw [e3]; clear a3 b3; omega
  · clear b3; omega
  · clear a3; omega
theorem over_len {told : List UInt8} {q : Int × List UInt8} {off stop : Int} (h3 : off ≤ stop) (hl : told.length = (stop - off).toNat) : (overF off stop told q).length = (stop - off).toNat := by
  obtain ⟨p, bs⟩ := q
  obtain ⟨c, rfl⟩ : ∃ c : Nat, stop = off + c := ⟨(stop - off).toNat, by omega⟩
  unfold overF
  dsimp only
  rw [addsub] at hl ⊢
  split
  · rename_i h
    obtain ⟨A, H, D, e1, e2, e3, e4, h4, h5, h6, h7, _, _⟩ := over_num (Int.natCast_nonneg c) h.1 h.2
    clear h h3
    rw [e1, e2, e3, e4, List.length_append, List.length_append, List.length_take, List.length_drop, List.length_take, List.length_drop, hl]
    clear e1 e2 e3 e4
    omega
  · exact hl
theorem fold_len {pcs : List (Int × List UInt8)} {off stop : Int} (h3 : off ≤ stop) : ∀ told : List UInt8, told.length = (stop - off).toNat → (pcs.foldl (overF off stop) told).length = (stop - off).toNat := by
  induction pcs with
  | nil => intro told h; exact h
  | cons q r ih => intro told h; exact ih _ (over_len h3 h)
theorem fold_succ {pcs : List (Int × List UInt8)} {off stop : Int} {told : List UInt8} {i : Nat} {q : Int × List UInt8} (h : pcs[i]? = some q) : (pcs.take (i + 1)).foldl (overF off stop) told = overF off stop ((pcs.take i).foldl (overF off stop) told) q := by
  rw [List.take_add_one, h, List.foldl_append]; rfl
theorem laid26 : True := by
  k_with "exec For Tuple Name cons nil" => (k_here; (rename Fr _ _ _ _ => lF'); (with_unfolding_all refine' For_turns lF' ?_); k_whole)
  k_with "pyIter ref" => (k_here; refine hold ?_)
  trivial
set_option pp.deepTerms false in
set_option pp.deepTerms.threshold 30 in
set_option maxHeartbeats 4000000 in
theorem read_ctr {prog : Program} {w : World} {news : List (Addr × Obj)} {pl : Addr} {pcs : List (Int × List UInt8)} {z off c₀ : Int} {tf to t1 t2 t3 t4 : Tok} {x dx fs fr : Addr} (p : Program) (loose : List Str) (mean : ExcName → Option Value) (mg mb : Str → Option Value) (dp un : Nat) (gd : Option (List Code)) (cn : Str) (cs : Scope) (a : Addr) (ccd : Value) (cl : List (Str × Addr)) (outer : List Env) (A₀ : Around) (base h₀ : Heap) (L : Addr) (m : Str → Option Value) (s : Shared)
    (Q E : Value → Shared → Prop) (B : Below A₀ base outer h₀) (F : Fr h₀ L s.heap m) (X : (Mine.hd.heap_39 w.params).In h₀) (N : News h₀ L s.heap ((dx, fdict w.params off tf fs fr t1 t2 t3 t4) :: news)) (T : Top p loose mean mg mb h₀) (hk : cs.kind = .function) (hd : dp + 5 < recursionLimit) (hu : un + 40 < cLine)
    (hF : FileIn news pl z x dx fs fr) (hP : PiecesIn news pl pcs) (hdx : ∀ p ∈ news, p.1 ≠ dx) (h0 : 0 ≤ off) (h1 : off + c₀ ≤ z) (h2 : 0 ≤ c₀) (h3 : c₀ < 1000) (hz : z < 2 ^ 60)
    (hpc : ∀ q ∈ pcs, 0 ≤ q.1 ∧ q.1 < 2 ^ 60 ∧ q.2.length < 1000)
    (hret : ∀ t t' h' tk', Fr h₀ L h' m → News h₀ L h' ((dx, fdict w.params (off + c₀) t' fs fr t1 t2 t3 t4) :: news) → Q (.bytes (readF pcs off c₀).toArray t) { s with heap := h', toks := tk' }) :
    wpAny (model prog w) (ktrTop dp un gd cn cs L a ccd cl outer) (call (.ref fr) [.int c₀ to]) Q E s := by
  obtain ⟨hinst, _, ⟨n, params, body, scope, nm, pos, doc, pm, c, ct, cf, cz, cp, tz, hS, hm, ⟨oc, vs, t, hc, hdc, hq⟩, ⟨oF, hcf, dF⟩, ⟨oZ, hcz, dZ⟩, ⟨oP, hcp, dP⟩⟩⟩ := hF
  obtain ⟨ps, np, hpl, hpsl, hps⟩ := hP.ok
  conv at hS => lhs; whnf
  injection hS with e1 e2 e3 e4 e5 e6 e7 e8 e9 e10
  subst e2 e3 e7
  clear e4 e5 e6 e8
  have plainOn := PlainOn.mk
  refine wpAny_call ?_
  k_dflt (refine' code_nest ?k1 ?k2 ?k3 ?k4 ?k5 ?kA ?kF ?kK ?k6 ?k7 ?k8 ?k9 ?kB ?_ ?c2 ?c3 ?c4 ?c5)
  case kA => exact rfl
  case kF => exact rfl
  case kK => first | exact rfl | assumption
  case k1 => k_asm
  case k2 => k_asm
  case k3 => k_asm
  case k4 => k_asm
  case k5 => k_asm
  case k6 => k_mem
  case k7 => exact codeRec_news (by k_asm) (by k_mem) (by assumption) (by assumption)
  case k8 => ktr_room
  case k9 => exact BindsTo.of_eq rfl
  case c5 => decide
  case kB => exact locs rfl
  case c2 => exact rfl
  case c3 => exact rfl
  case c4 => exact rfl
  k_whole
  intro g' L' h' FG' F' N' B' X' T'
  try dsimp only
  try k_lift B'
  try k_fold
  k_steps
  have hst : (if off + c₀ < z then off + c₀ else z) = off + c₀ := by split <;> omega
  rename Fr _ _ _ _ => lF
  rename News _ _ _ _ => lN
  simp only [hst] at lF
  refine unhold (turns_list (vs := ps) (k := np) (news := (dx, fdict w.params off tf fs fr t1 t2 t3 t4) :: news) (by rfl) lF (by k_asm) (by k_mem)
      (fun i m₁ news₁ => news₁ = (dx, fdict w.params off tf fs fr t1 t2 t3 t4) :: news ∧ (∃ t, m₁ (Str.ofString "told") = some (.bytes ((pcs.take i).foldl (overF off (off + c₀)) (List.replicate c₀.toNat 0)).toArray t)) ∧ (∃ t, m₁ (Str.ofString "stop") = some (.int (off + c₀) t)) ∧ (∃ t, m₁ (Str.ofString "start") = some (.int off t))) ⟨rfl, ⟨_, Eq.trans rfl (congrArg (fun l : List UInt8 => some (Value.bytes l.toArray _)) ?_)⟩, ⟨_, rfl⟩, ⟨_, rfl⟩⟩ ?_ ?_)
  · rw [List.take_zero, List.foldl_nil]
    have e : off + c₀ - off = c₀ := by omega
    rw [e]
    simp
  · intro I i v m₁ news₁ h₁ tk₁ own hI hv hJ hlow hoI F₁ N₁
    obtain ⟨rfl, ⟨tt, ht⟩, ⟨ts, hstop⟩, ⟨tb, hstart⟩⟩ := hJ
    obtain ⟨q, hqp, ta, tA, tU, rfl, hqm⟩ := hps i v hv
    replace F₁ := fr_name F₁ hstart
    replace F₁ := fr_name F₁ ((if_neg (by decide)).trans hstop)
    replace F₁ := fr_name F₁ ((if_neg (by decide)).trans ((if_neg (by decide)).trans ht))
    clear lF lN
    simp only [List.cons_append] at N₁
    have hq := hpc q (List.mem_of_getElem? hqp)
    have sq : Small 1000 q.2 := ⟨by omega⟩
    have st : Small 1000 ((pcs.take i).foldl (overF off (off + c₀)) (List.replicate c₀.toNat 0)) := ⟨by
      rw [fold_len (by omega) _ (by rw [List.length_replicate]; omega)]; omega⟩
    have hsucc := fold_succ (off := off) (stop := off + c₀) (told := List.replicate c₀.toNat 0) hqp
    k_steps
    · refine ⟨_, _, _, _, (dx, fdict w.params off tf fs fr t1 t2 t3 t4) :: news, rfl, by k_asm, by k_asm, by k_extra "mine sub", by k_extra "mine all", hlow, rfl, ⟨_, Eq.trans rfl (congrArg (fun l : List UInt8 => some (Value.bytes l.toArray _)) ?_)⟩, ⟨_, rfl⟩, ⟨_, rfl⟩⟩
      rw [hsucc]
      refine over_eq ?_ ?_ (by assumption) (by assumption) (by omega) <;> (split <;> omega)
    · refine ⟨_, _, _, _, (dx, fdict w.params off tf fs fr t1 t2 t3 t4) :: news, rfl, by k_asm, by k_asm, by k_extra "mine sub", by k_extra "mine all", hlow, rfl, ⟨_, Eq.trans rfl (congrArg (fun l : List UInt8 => some (Value.bytes l.toArray _)) ?_)⟩, ⟨_, rfl⟩, ⟨_, rfl⟩⟩
      rw [hsucc]
      exact over_no (by omega)
    · refine ⟨_, _, _, _, (dx, fdict w.params off tf fs fr t1 t2 t3 t4) :: news, rfl, by k_asm, by k_asm, by k_extra "mine sub", by k_extra "mine all", hlow, rfl, ⟨_, Eq.trans rfl (congrArg (fun l : List UInt8 => some (Value.bytes l.toArray _)) ?_)⟩, ⟨_, rfl⟩, ⟨_, rfl⟩⟩
      rw [hsucc]
      exact over_no (by omega)
  · intro h' tk m' news' F' N' hJ
    obtain ⟨rfl, ⟨tt, ht⟩, ⟨ts, hstop⟩, ⟨tb, hstart⟩⟩ := hJ
    replace F' := fr_name F' hstart
    replace F' := fr_name F' ((if_neg (by decide)).trans hstop)
    replace F' := fr_name F' ((if_neg (by decide)).trans ((if_neg (by decide)).trans ht))
    clear lF lN
    rw [← hpsl.symm, List.take_length] at F'
    k_steps
    exact hret _ _ _ _ (by assumption) (by assumption)
end Mine
namespace Mine
theorem laid27 : True := by
  w_top off
  trivial
open Builtin Builtin.Struct Builtin.Bytes
theorem kind_unpack : builtinKind "_struct.unpack" = none := by decide +kernel
theorem plain_unpack : plainId "_struct.unpack" = true := by decide +kernel
theorem entry_unpack : entryFor table "_struct.unpack" = some Builtin.«_struct.unpack» := entryFor_of_tree (by kernel_rfl)
theorem args_unpack (a b : Value) : argsOk "_struct.unpack" ⟨[a, b], []⟩ := by unfold argsOk; kernel_rfl
def fmtL : Format := { bigEndian := false, native := false, codes := [⟨'s', 4, 0, 1⟩, ⟨'L', 1, 4, 4⟩, ⟨'Q', 1, 8, 8⟩, ⟨'L', 1, 16, 4⟩], size := 20, items := 4 }
def fmtR : Format := { bigEndian := false, native := false, codes := [⟨'s', 4, 0, 1⟩, ⟨'Q', 1, 4, 8⟩, ⟨'H', 2, 12, 2⟩, ⟨'L', 2, 16, 4⟩, ⟨'Q', 4, 24, 8⟩], size := 56, items := 10 }
theorem fmtL_eq (t : Tok) : moduleFormat (.str (Str.ofString "<4sLQL") t) = pure fmtL := by kernel_rfl
theorem fmtR_eq (t : Tok) : moduleFormat (.str (Str.ofString "<4sQ2H2L4Q") t) = pure fmtR := by kernel_rfl
variable {prog : Program} {w : World} {A : Around} {E : Value → Shared → Prop} {s : Shared}
def le (b : Array UInt8) : Int := (natOf false b : Nat)
theorem unpacked_L {b : Array UInt8} (h : (b.extract 0 4).size ≤ sizeLine) : Struct.unpacked "_struct.unpack" fmtL b 0 =
    (fresh >>= fun t0 => fresh >>= fun t1 => fresh >>= fun t2 => fresh >>= fun t3 => newTuple [.bytes (b.extract 0 4) t0, .int (le (b.extract 4 8)) t1, .int (le (b.extract 8 16)) t2, .int (le (b.extract 16 20)) t3]) := by
  have e : mkBytes (b.extract (0 + 0) (0 + 0 + 4)) = (do return .bytes (b.extract 0 4) (← fresh)) := if_neg (Nat.not_lt.mpr h)
  unfold Struct.unpacked fmtL
  dsimp only
  simp only [List.forIn_cons, List.forIn_nil]
  rw [e]
  kernel_rfl
theorem unpacked_R {b : Array UInt8} (h : (b.extract 0 4).size ≤ sizeLine) : Struct.unpacked "_struct.unpack" fmtR b 0 =
    (fresh >>= fun t0 => fresh >>= fun t1 => fresh >>= fun t2 => fresh >>= fun t3 => fresh >>= fun t4 => fresh >>= fun t5 => fresh >>= fun t6 => fresh >>= fun t7 => fresh >>= fun t8 => fresh >>= fun t9 =>
      newTuple [.bytes (b.extract 0 4) t0, .int (le (b.extract 4 12)) t1, .int (le (b.extract 12 14)) t2, .int (le (b.extract 14 16)) t3, .int (le (b.extract 16 20)) t4, .int (le (b.extract 20 24)) t5, .int (le (b.extract 24 32)) t6, .int (le (b.extract 32 40)) t7, .int (le (b.extract 40 48)) t8, .int (le (b.extract 48 56)) t9]) := by
  have e : mkBytes (b.extract (0 + 0) (0 + 0 + 4)) = (do return .bytes (b.extract 0 4) (← fresh)) := if_neg (Nat.not_lt.mpr h)
  unfold Struct.unpacked fmtR
  dsimp only
  simp only [List.forIn_cons, List.forIn_nil]
  rw [e]
  kernel_rfl
def sub (l : List UInt8) (i j : Nat) : List UInt8 := (l.drop i).take (j - i)
def leL (l : List UInt8) : Int := le l.toArray
theorem sub_eq (l : List UInt8) (i j : Nat) : l.toArray.extract i j = (sub l i j).toArray := by
  unfold sub
  rw [List.extract_toArray]
theorem le_eq (l : List UInt8) : le l.toArray = leL l := rfl
section
variable {h₀ : Heap} {L : Addr} {m : PySem.Str → Option Value} {news : List (Addr × Obj)}
theorem unpack_core {b : Array UInt8} {x : PySem.Str} {tx tb : Tok} {f : Format} {Q : Value → Shared → Prop} (hf : moduleFormat (.str x tx) = pure f) (hb : b.size = f.size)
    (h : wpAny (model prog w) A.in1 (Struct.unpacked "_struct.unpack" f b 0) Q (fun _ _ => False) s) : wpAny (model prog w) A (call (.builtin "_struct.unpack") [.str x tx, .bytes b tb]) Q E s := by
  refine Calls.call_function_entry kind_unpack plain_unpack entry_unpack (args_unpack _ _) ?_
  show wpAny _ _ (moduleFormat (.str x tx) >>= fun r => Struct.unpackExact "_struct.unpack" (pure r) (.bytes b tb)) _ _ _
  rw [hf]
  refine wpAny_bind (wpAny_pure ?_)
  unfold Struct.unpackExact Bytes.bytesLike
  rw [KBy.buffer_eq]
  refine wpAny_bind (wpAny_bind (wpAny_pure (wpAny_pure ?_)))
  refine wpAny_bind (wpAny_pure ?_)
  have hne : (b.size != f.size) = false := by rw [hb]; exact bne_self_eq_false _
  rw [hne]
  exact wpAny_bind (wpAny_mono h (fun v s' hq => wpAny_pure ⟨_, rfl, hq⟩) fun _ _ e => e.elim)
theorem call_unpack_L {l : List UInt8} {tx tb : Tok} {Q : Value → Shared → Prop} (F : Fr h₀ L s.heap m) (N : News h₀ L s.heap news) (hb : l.length = 20)
    (h : ∀ T t0 t1 t2 t3 h' tk', Fr h₀ L h' m → News h₀ L h' ((T, { cls := .type "tuple", data := .seq #[.bytes (sub l 0 4).toArray t0, .int (leL (sub l 4 8)) t1, .int (leL (sub l 8 16)) t2, .int (leL (sub l 16 20)) t3] }) :: news) → (∀ p ∈ news, p.1 < T) → Q (.ref T) { s with heap := h', toks := tk' }) :
    wpAny (model prog w) A (call (.builtin "_struct.unpack") [.str (PySem.Str.ofString "<4sLQL") tx, .bytes l.toArray tb]) Q E s := by
  refine unpack_core (fmtL_eq tx) (by rw [List.size_toArray]; exact hb) ?_
  rw [unpacked_L (by rw [Array.size_extract, sizeLine_eq]; omega)]
  refine wpAny_bind (wpAny_fresh (wpAny_bind (wpAny_fresh (wpAny_bind (wpAny_fresh (wpAny_bind (wpAny_fresh ?_)))))))
  simp only [sub_eq, le_eq]
  exact newTuple_N F N (fun h' F' N' => h _ _ _ _ _ h' _ F' N' fun p hp => Heap.lt_size (N p hp).1) (by rw [sizeLine_eq]; exact Nat.le_of_ble_eq_true rfl)
theorem call_unpack_R {l : List UInt8} {tx tb : Tok} {Q : Value → Shared → Prop} (F : Fr h₀ L s.heap m) (N : News h₀ L s.heap news) (hb : l.length = 56)
    (h : ∀ T t0 t1 t2 t3 t4 t5 t6 t7 t8 t9 h' tk', Fr h₀ L h' m → News h₀ L h' ((T, { cls := .type "tuple", data := .seq #[.bytes (sub l 0 4).toArray t0, .int (leL (sub l 4 12)) t1, .int (leL (sub l 12 14)) t2, .int (leL (sub l 14 16)) t3, .int (leL (sub l 16 20)) t4, .int (leL (sub l 20 24)) t5, .int (leL (sub l 24 32)) t6, .int (leL (sub l 32 40)) t7, .int (leL (sub l 40 48)) t8, .int (leL (sub l 48 56)) t9] }) :: news) → (∀ p ∈ news, p.1 < T) → Q (.ref T) { s with heap := h', toks := tk' }) :
    wpAny (model prog w) A (call (.builtin "_struct.unpack") [.str (PySem.Str.ofString "<4sQ2H2L4Q") tx, .bytes l.toArray tb]) Q E s := by
  refine unpack_core (fmtR_eq tx) (by rw [List.size_toArray]; exact hb) ?_
  rw [unpacked_R (by rw [Array.size_extract, sizeLine_eq]; omega)]
  refine wpAny_bind (wpAny_fresh (wpAny_bind (wpAny_fresh (wpAny_bind (wpAny_fresh (wpAny_bind (wpAny_fresh ?_)))))))
  refine wpAny_bind (wpAny_fresh (wpAny_bind (wpAny_fresh (wpAny_bind (wpAny_fresh (wpAny_bind (wpAny_fresh (wpAny_bind (wpAny_fresh (wpAny_bind (wpAny_fresh ?_)))))))))))
  simp only [sub_eq, le_eq]
  exact newTuple_N F N (fun h' F' N' => h _ _ _ _ _ _ _ _ _ _ _ h' _ F' N' fun p hp => Heap.lt_size (N p hp).1) (by rw [sizeLine_eq]; exact Nat.le_of_ble_eq_true rfl)
end
end Mine
namespace Mine
theorem laid28 : True := by
  w_top off
  trivial
open Builtin Builtin.Bytes
theorem startsw_eq {b c : Array UInt8} {t u : Tok} : «bytes.startswith» ⟨[.bytes b t, .bytes c u], []⟩ =
    ret (.bool (if (window b.size none none).2 - (window b.size none none).1 < c.size then false else b.extract (window b.size none none).1.toNat ((window b.size none none).1.toNat + c.size) == c)) := by kernel_rfl
theorem startsw_val {l : List UInt8} (h : l.length = 56) : (if (window l.toArray.size none none).2 - (window l.toArray.size none none).1 < (#[80, 75, 6, 6] : Array UInt8).size then false else l.toArray.extract (window l.toArray.size none none).1.toNat ((window l.toArray.size none none).1.toNat + (#[80, 75, 6, 6] : Array UInt8).size) == #[80, 75, 6, 6]) = decide (sub l 0 4 = sigB) := by
  rw [List.size_toArray, h]
  show (l.toArray.extract 0 4 == #[80, 75, 6, 6]) = _
  rw [sub_eq]
  have e : (#[80, 75, 6, 6] : Array UInt8) = sigB.toArray := rfl
  rw [e]
  by_cases q : sub l 0 4 = sigB
  · rw [q]; decide
  · rw [decide_eq_false q]
    exact beq_eq_false_iff_ne.mpr fun z => q (by simpa using congrArg Array.toList z)
end Mine
namespace Mine
theorem laid29 : True := by
  w_top off
  trivial
section
variable {prog : Program} {w : World} {A : Around} {E : Value → Shared → Prop} {s : Shared}
theorem startsw_call {l : List UInt8} {t u : Tok} {Q : Value → Shared → Prop} (hl : l.length = 56) (h : Q (.bool (decide (sub l 0 4 = sigB))) s) :
    wpAny (model prog w) A (call (.builtin "bytes.startswith") [.bytes l.toArray t, .bytes #[80, 75, 6, 6] u]) Q E s :=
  call_gives FB.slot_bytes_startswith (typeIs_bytes _ _ _) FB.entry_bytes_startswith (FB.args_bytes_startswith_2 _ _) (.of_eq (m := .val (.bool (decide (sub l 0 4 = sigB)))) (by rw [startsw_eq, startsw_val hl]; rfl)) h
theorem startsw_meth {M : Model} {b : Array UInt8} {t : Tok} {pl : Sem Bool} {Q : Value × List Value → Shared → Prop} (h : Q (.builtin "bytes.startswith", [.bytes b t]) s) : wpAny M A (getMethod (.bytes b t) (Str.ofString "startswith") pl) Q E s := by
  with_reducible exact KBd.method_of (.bytes b t) (typeIs_bytes _ _ _) FB.slot_bytes_startswith FB.type_bytes_startswith KBd.noRef h
end
def sigL : List UInt8 := [80, 75, 6, 7]
inductive Out where
  | ret (fs : List Fld)
  | exc (t : Str)
def recG (d : List UInt8) (loc : Int) : List Fld := [.bytes (sub d 0 4), .int (leL (sub d 16 20)), .int (leL (sub d 20 24)), .int (leL (sub d 24 32)), .int (leL (sub d 32 40)), .int (leL (sub d 40 48)), .int (leL (sub d 48 56)), .int 7, .int 8, .int loc]
def tailF (d : List UInt8) (reloff o2 ex : Int) : Out :=
  if sub d 0 4 = sigB then
    if leL (sub d 48 56) + leL (sub d 40 48) = reloff ∧ leL (sub d 4 12) + 12 = 56 + ex then .ret (recG d (o2 - ex)) else .exc wRec
  else .exc wNone
def endRecF (rd : Int → Int → List UInt8) (off : Int) : Out :=
  if sub (rd (off - 20) 20) 0 4 = sigL then
    if leL (sub (rd (off - 20) 20) 4 8) = 0 ∧ leL (sub (rd (off - 20) 20) 16 20) ≤ 1 then
      if off - 20 - 56 < leL (sub (rd (off - 20) 20) 8 16) then .exc wLoc
      else if sub (rd (leL (sub (rd (off - 20) 20) 8 16)) 56) 0 4 = sigB ∨ leL (sub (rd (off - 20) 20) 8 16) = off - 20 - 56 then tailF (rd (leL (sub (rd (off - 20) 20) 8 16)) 56) (leL (sub (rd (off - 20) 20) 8 16)) (off - 20 - 56) (off - 20 - 56 - leL (sub (rd (off - 20) 20) 8 16))
      else tailF (rd (off - 20 - 56) 56) (leL (sub (rd (off - 20) 20) 8 16)) (off - 20 - 56) 0
    else .exc wDisks
  else .ret rec0
theorem readF_len {pcs : List (Int × List UInt8)} {off c : Int} (h : 0 ≤ c) : (readF pcs off c).length = c.toNat := by
  unfold readF
  have := fold_len (pcs := pcs) (off := off) (stop := off + c) (by omega) (List.replicate c.toNat 0) (by rw [List.length_replicate]; omega)
  rw [this]; omega
theorem le_nn (l : List UInt8) : 0 ≤ leL l := Int.natCast_nonneg _
theorem laid30 : True := by
  k_with "getMethod ref" => (k_here; k_dflt (refine' method_usual ?q9k1 ?q9k2 ?q9k3 ?q9k4 ?q9k5 ?q9k6 ?_; (case q9k1 => k_in); (case q9k2 => k_inst); (case q9k3 => k_is); (case q9k4 => k_is); (case q9k5 => k_is); (case q9k6 => exact rfl); k_whole))
  trivial
theorem seek_use {news : List (Addr × Obj)} {pl : Addr} {z off o : Int} {tf to t1 t2 t3 t4 : Tok} {x dx fs fr : Addr} {p : Program} {loose : List Str} {mean : ExcName → Option Value} {mg mb : Str → Option Value} {dp un : Nat} {gd : Option (List Code)} {cn : Str} {cs : Scope} {a : Addr} {ccd : Value} {cl : List (Str × Addr)} {outer : List Env} {A₀ : Around} {base h₀ : Heap} {L : Addr} {m : Str → Option Value} {s : Shared}
    {Q E : Value → Shared → Prop} (B : Below A₀ base outer h₀) (F : Fr h₀ L s.heap m) (X : (Mine.hd.heap_39 w.params).In h₀) (N : News h₀ L s.heap ((dx, fdict w.params off tf fs fr t1 t2 t3 t4) :: news)) (T : Top p loose mean mg mb h₀) (hk : cs.kind = .function) (hd : dp + 5 < recursionLimit) (hu : un + 40 < cLine)
    (hF : FileIn news pl z x dx fs fr) (hdx : ∀ p ∈ news, p.1 ≠ dx)
    (hret : ∀ t h' tk', Fr h₀ L h' m → News h₀ L h' ((dx, fdict w.params o t fs fr t1 t2 t3 t4) :: news) → Q (.int o t) { s with heap := h', toks := tk' }) :
    wpAny (model prog w) (ktrTop dp un gd cn cs L a ccd cl outer) (call (.ref fs) [.int o to]) Q E s := seek_ctr _ _ _ _ _ _ _ _ _ _ _ _ _ _ _ _ _ _ _ _ _ _ B F X N T hk hd hu hF hdx hret
theorem read_use {news : List (Addr × Obj)} {pl : Addr} {pcs : List (Int × List UInt8)} {z off c₀ : Int} {tf to t1 t2 t3 t4 : Tok} {x dx fs fr : Addr} {p : Program} {loose : List Str} {mean : ExcName → Option Value} {mg mb : Str → Option Value} {dp un : Nat} {gd : Option (List Code)} {cn : Str} {cs : Scope} {a : Addr} {ccd : Value} {cl : List (Str × Addr)} {outer : List Env} {A₀ : Around} {base h₀ : Heap} {L : Addr} {m : Str → Option Value} {s : Shared}
    {Q E : Value → Shared → Prop} (B : Below A₀ base outer h₀) (F : Fr h₀ L s.heap m) (X : (Mine.hd.heap_39 w.params).In h₀) (N : News h₀ L s.heap ((dx, fdict w.params off tf fs fr t1 t2 t3 t4) :: news)) (T : Top p loose mean mg mb h₀) (hk : cs.kind = .function) (hd : dp + 5 < recursionLimit) (hu : un + 40 < cLine)
    (hF : FileIn news pl z x dx fs fr) (hP : PiecesIn news pl pcs) (hdx : ∀ p ∈ news, p.1 ≠ dx) (h0 : 0 ≤ off) (h1 : off + c₀ ≤ z) (h2 : 0 ≤ c₀) (h3 : c₀ < 1000) (hz : z < 2 ^ 60)
    (hpc : ∀ q ∈ pcs, 0 ≤ q.1 ∧ q.1 < 2 ^ 60 ∧ q.2.length < 1000)
    (hret : ∀ t t' h' tk', Fr h₀ L h' m → News h₀ L h' ((dx, fdict w.params (off + c₀) t' fs fr t1 t2 t3 t4) :: news) → Q (.bytes (readF pcs off c₀).toArray t) { s with heap := h', toks := tk' }) :
    wpAny (model prog w) (ktrTop dp un gd cn cs L a ccd cl outer) (call (.ref fr) [.int c₀ to]) Q E s := read_ctr _ _ _ _ _ _ _ _ _ _ _ _ _ _ _ _ _ _ _ _ _ _ B F X N T hk hd hu hF hP hdx h0 h1 h2 h3 hz hpc hret
theorem seek_use1 {news : List (Addr × Obj)} {pl : Addr} {z off o : Int} {tf to t1 t2 t3 t4 : Tok} {x dx fs fr T1 : Addr} {o1 : Obj} {p : Program} {loose : List Str} {mean : ExcName → Option Value} {mg mb : Str → Option Value} {dp un : Nat} {gd : Option (List Code)} {cn : Str} {cs : Scope} {a : Addr} {ccd : Value} {cl : List (Str × Addr)} {outer : List Env} {A₀ : Around} {base h₀ : Heap} {L : Addr} {m : Str → Option Value} {s : Shared}
    {Q E : Value → Shared → Prop} (B : Below A₀ base outer h₀) (F : Fr h₀ L s.heap m) (X : (Mine.hd.heap_39 w.params).In h₀) (N : News h₀ L s.heap ((T1, o1) :: (dx, fdict w.params off tf fs fr t1 t2 t3 t4) :: news)) (T : Top p loose mean mg mb h₀) (hk : cs.kind = .function) (hd : dp + 5 < recursionLimit) (hu : un + 40 < cLine)
    (hF : FileIn news pl z x dx fs fr) (hdx : ∀ p ∈ news, p.1 ≠ dx)
    (hret : ∀ t h' tk', Fr h₀ L h' m → News h₀ L h' ((dx, fdict w.params o t fs fr t1 t2 t3 t4) :: news) → Q (.int o t) { s with heap := h', toks := tk' }) :
    wpAny (model prog w) (ktrTop dp un gd cn cs L a ccd cl outer) (call (.ref fs) [.int o to]) Q E s := seek_use B F X (cb_drop N fun _ h => .tail _ h) T hk hd hu hF hdx hret
theorem len_R {pcs : List (Int × List UInt8)} {o c : Int} {t : Tok} {Q : Value → Shared → Prop} (h0 : 0 ≤ c) (h1 : c < 1000) (h : Q (.int c (s.toks + 1)) { s with toks := s.toks + 1 + 1 }) : wpAny (model prog w) A (call (.builtin "len") [.bytes (readF pcs o c).toArray t]) Q E s :=
  len_L (k := 1000) ⟨by rw [readF_len h0]; omega⟩ (by decide) (by rw [readF_len h0, Int.toNat_of_nonneg h0]; exact h)
theorem laid31 : True := by
  k_with "callWith ref" => (k_here; k_dflt (refine' callWith_F ?q9k1 ?_; (case q9k1 => exact FnAt.of (by k_asm) (by k_mem)); k_whole))
  k_with "mine apart" => (first | assumption | (refine List.forall_mem_cons.mpr ⟨?_, ?_⟩ <;> first | assumption | exact Ne.symm (by assumption) | k_extra "mine apart"))
  k_with "call ref" => (k_here; (with_reducible show wpAny _ _ (call (Value.ref _) [Value.int _ _]) _ _ _); k_dflt (first
  | (refine' seek_use ?q9k1 ?q9k2 ?q9k3 ?q9k4 ?q9k5 ?q9kK ?q9kd ?q9ku ?q9kF ?q9kx ?_; (case q9k1 => k_asm); (case q9k2 => k_asm); (case q9k3 => k_asm); (case q9k4 => k_asm); (case q9k5 => k_asm); (case q9kK => first | exact rfl | assumption); (case q9kd => ktr_room); (case q9ku => ktr_units); (case q9kF => exact FileIn.mono (by assumption) (by k_extra "mine sub")); (case q9kx => k_extra "mine apart");
      intro t9 h9 tk9 F9 N9; (try dsimp only); (try k_sweep); (try k_fold))
  | (refine' seek_use1 ?q9k1 ?q9k2 ?q9k3 ?q9k4 ?q9k5 ?q9kK ?q9kd ?q9ku ?q9kF ?q9kx ?_; (case q9k1 => k_asm); (case q9k2 => k_asm); (case q9k3 => k_asm); (case q9k4 => k_asm); (case q9k5 => k_asm); (case q9kK => first | exact rfl | assumption); (case q9kd => ktr_room); (case q9ku => ktr_units); (case q9kF => exact FileIn.mono (by assumption) (by k_extra "mine sub")); (case q9kx => k_extra "mine apart");
      intro t9 h9 tk9 F9 N9; (try dsimp only); (try k_sweep); (try k_fold))
  | (refine' read_use ?q9k1 ?q9k2 ?q9k3 ?q9k4 ?q9k5 ?q9kK ?q9kd ?q9ku ?q9kF ?q9kP ?q9kx ?q9h0 ?q9h1 ?q9h2 ?q9h3 ?q9hz ?q9hpc ?_; (case q9k1 => k_asm); (case q9k2 => k_asm); (case q9k3 => k_asm); (case q9k4 => k_asm); (case q9k5 => k_asm); (case q9kK => first | exact rfl | assumption); (case q9kd => ktr_room); (case q9ku => ktr_units); (case q9kF => exact FileIn.mono (by assumption) (by k_extra "mine sub")); (case q9kP => exact PiecesIn.mono (by assumption) (by k_extra "mine sub")); (case q9kx => k_extra "mine apart"); (case q9h0 => omega); (case q9h1 => omega); (case q9h2 => omega); (case q9h3 => omega); (case q9hz => omega); (case q9hpc => assumption);
      intro t9 t9' h9 tk9 F9 N9; (try dsimp only); (try k_sweep); (try k_fold))))
  k_with "getMethod bytes" => (k_here; (with_reducible refine startsw_meth ?_))
  k_with "call builtin:bytes.startswith" => (k_here; (with_unfolding_all refine startsw_call (by k_extra "mine rlen") ?_))
  k_with "call builtin:len" => (k_here; (with_reducible show wpAny _ _ (call (Value.builtin "len") [Value.bytes (List.toArray _) _]) _ _ _); refine len_R (by decide) (by decide) ?_)
  k_with "mine rlen" => (rw [readF_len (by decide)]; decide)
  k_with "call builtin:_struct.unpack" => (k_here; k_dflt (first
  | (refine call_unpack_L (by k_asm) (by k_asm) (by k_extra "mine rlen") ?_; intro T9 t09 t19 t29 t39 h' tk' F' N' l1; (try k_lt l1); (try k_sweep))
  | (refine call_unpack_R (by k_asm) (by k_asm) (by k_extra "mine rlen") ?_; intro T9 t09 t19 t29 t39 t49 t59 t69 t79 t89 t99 h' tk' F' N' l1; (try k_lt l1); (try k_sweep))))
  trivial
theorem raised_drop {base G : Heap} {l : List Env} {e : Addr} {cls : Value} {t : Addr} {vs : List Value} {led led' : List (Addr × Obj)} {h : Heap} (R : RaisedS base G l e cls t vs led h) (hs : ∀ p ∈ led', p ∈ led) : RaisedS base G l e cls t vs led' h :=
  let ⟨⟨B, a, a2, b, c⟩, d⟩ := R; ⟨⟨B, a, a2, fun q hq => b q (hs q hq), c⟩, d⟩
theorem laid32 : True := by
  k_with "leaving ref" => (k_here; (refine' leave_raiseS ?q9k1 ?q9k0 ?q9k2 ?q9k3 ?_; (case q9k0 => first | assumption | exact Heap.MadeExc.of (by assumption)); (case q9k2 => assumption); (case q9k1 => assumption); (case q9k3 => k_asm); k_whole; intro h' t' S' R' U'; (try dsimp only at S' R' U' ⊢)))
  trivial
theorem sig_eq {l : List UInt8} (h : (l.toArray.toList != (#[80, 75, 6, 7] : Array UInt8).toList) = false) : l = sigL := by
  have := bne_eq_false_iff_eq.mp h
  exact this
theorem sig_ne {l : List UInt8} (h : (l.toArray.toList != (#[80, 75, 6, 7] : Array UInt8).toList) = true) : l ≠ sigL := by
  have := bne_iff_ne.mp h
  exact this
section
variable {rd : Int → Int → List UInt8} {off : Int}
theorem er_none (h : sub (rd (off - 20) 20) 0 4 ≠ sigL) : endRecF rd off = .ret rec0 := by unfold endRecF; rw [if_neg h]
theorem er_disk (h : sub (rd (off - 20) 20) 0 4 = sigL) (h' : ¬ (leL (sub (rd (off - 20) 20) 4 8) = 0 ∧ leL (sub (rd (off - 20) 20) 16 20) ≤ 1)) : endRecF rd off = .exc wDisks := by unfold endRecF; rw [if_pos h, if_neg h']
theorem er_loc (h : sub (rd (off - 20) 20) 0 4 = sigL) (h' : leL (sub (rd (off - 20) 20) 4 8) = 0 ∧ leL (sub (rd (off - 20) 20) 16 20) ≤ 1) (h'' : off - 20 - 56 < leL (sub (rd (off - 20) 20) 8 16)) : endRecF rd off = .exc wLoc := by
  unfold endRecF; rw [if_pos h, if_pos h', if_pos h'']
theorem er_one (h : sub (rd (off - 20) 20) 0 4 = sigL) (h' : leL (sub (rd (off - 20) 20) 4 8) = 0 ∧ leL (sub (rd (off - 20) 20) 16 20) ≤ 1) (h'' : ¬ off - 20 - 56 < leL (sub (rd (off - 20) 20) 8 16))
    (h3 : sub (rd (leL (sub (rd (off - 20) 20) 8 16)) 56) 0 4 = sigB ∨ leL (sub (rd (off - 20) 20) 8 16) = off - 20 - 56) :
    endRecF rd off = tailF (rd (leL (sub (rd (off - 20) 20) 8 16)) 56) (leL (sub (rd (off - 20) 20) 8 16)) (off - 20 - 56) (off - 20 - 56 - leL (sub (rd (off - 20) 20) 8 16)) := by
  unfold endRecF; rw [if_pos h, if_pos h', if_neg h'', if_pos h3]
theorem er_two (h : sub (rd (off - 20) 20) 0 4 = sigL) (h' : leL (sub (rd (off - 20) 20) 4 8) = 0 ∧ leL (sub (rd (off - 20) 20) 16 20) ≤ 1) (h'' : ¬ off - 20 - 56 < leL (sub (rd (off - 20) 20) 8 16))
    (h3 : ¬ (sub (rd (leL (sub (rd (off - 20) 20) 8 16)) 56) 0 4 = sigB ∨ leL (sub (rd (off - 20) 20) 8 16) = off - 20 - 56)) :
    endRecF rd off = tailF (rd (off - 20 - 56) 56) (leL (sub (rd (off - 20) 20) 8 16)) (off - 20 - 56) 0 := by
  unfold endRecF; rw [if_pos h, if_pos h', if_neg h'', if_neg h3]
theorem tl_none {d : List UInt8} {reloff o2 ex : Int} (h : ¬ sub d 0 4 = sigB) : tailF d reloff o2 ex = .exc wNone := by unfold tailF; rw [if_neg h]
theorem tl_rec {d : List UInt8} {reloff o2 ex : Int} (h : sub d 0 4 = sigB) (h' : ¬ (leL (sub d 48 56) + leL (sub d 40 48) = reloff ∧ leL (sub d 4 12) + 12 = 56 + ex)) : tailF d reloff o2 ex = .exc wRec := by unfold tailF; rw [if_pos h, if_neg h']
theorem tl_ret {d : List UInt8} {reloff o2 ex : Int} (h : sub d 0 4 = sigB) (h' : leL (sub d 48 56) + leL (sub d 40 48) = reloff ∧ leL (sub d 4 12) + 12 = 56 + ex) : tailF d reloff o2 ex = .ret (recG d (o2 - ex)) := by unfold tailF; rw [if_pos h, if_pos h']
end
set_option pp.deepTerms false in
set_option pp.deepTerms.threshold 20 in
set_option maxHeartbeats 8000000 in
theorem endrec_ctr {prog : Program} {w : World} {news : List (Addr × Obj)} {pl : Addr} {pcs : List (Int × List UInt8)} {z off of₀ : Int} {tf to t1 t2 t3 t4 a0 a1 a2 a3 a4 a5 a6 a7 a8 a9 : Tok} {mr : Nat} {x dx fs fr rc : Addr} (p : Program) (loose : List Str) (mean : ExcName → Option Value) (mg mb : Str → Option Value) (dp un : Nat) (gd : Option (List Code)) (cn : Str) (cs : Scope) (a : Addr) (ccd : Value) (cl : List (Str × Addr)) (outer : List Env) (A₀ : Around) (base h₀ : Heap) (L : Addr) (m : Str → Option Value) (s : Shared)
    (Q E : Value → Shared → Prop) (B : Below A₀ base outer h₀) (F : Fr h₀ L s.heap m) (X : (Mine.hd.heap_39 w.params).In h₀) (N : News h₀ L s.heap ((dx, fdict w.params of₀ tf fs fr t1 t2 t3 t4) :: (rc, listOf #[.int 0 a0, .int 1 a1, .int 2 a2, .int 3 a3, .int 4 a4, .int 5 a5, .int 6 a6, .int 7 a7, .int 8 a8, .int 9 a9] mr) :: news)) (T : Top p loose mean mg mb h₀) (hk : cs.kind = .function) (hd : dp + 10 < recursionLimit) (hu : un + 80 < cLine)
    (hF : FileIn news pl z x dx fs fr) (hP : PiecesIn news pl pcs) (hdx : ∀ p ∈ news, p.1 ≠ dx) (hrc : ∀ p ∈ news, p.1 ≠ rc) (hdr : dx ≠ rc) (h0 : 20 ≤ off) (h1 : off ≤ z) (hz : z < 2 ^ 60)
    (hpc : ∀ q ∈ pcs, 0 ≤ q.1 ∧ q.1 < 2 ^ 60 ∧ q.2.length < 1000)
    (hret : ∀ fs' vs m' o' t' h' tk', endRecF (readF pcs) off = .ret fs' → AllFld vs fs' → Fr h₀ L h' m → News h₀ L h' ((dx, fdict w.params o' t' fs fr t1 t2 t3 t4) :: (rc, listOf (List.toArray vs) m') :: news) → Q (.ref rc) { s with heap := h', toks := tk' })
    (hexc : ∀ txt e t tx o' t' g' h' tk', endRecF (readF pcs) off = .exc txt → Fr h₀ L g' m → RaisedS base g' (envX cn cs L a ccd cl :: outer) e (.ref 52) t [.str txt tx] ((dx, fdict w.params o' t' fs fr t1 t2 t3 t4) :: (rc, listOf #[.int 0 a0, .int 1 a1, .int 2 a2, .int 3 a3, .int 4 a4, .int 5 a5, .int 6 a6, .int 7 a7, .int 8 a8, .int 9 a9] mr) :: news) h' → g'.UpToSlots h' → E (.ref e) { s with heap := h', toks := tk' }) :
    wpAny (model prog w) (ktrTop dp un gd cn cs L a ccd cl outer) (call (.ref 62) [.ref x, .int off to, .ref rc]) Q E s := by
  have plainOn := PlainOn.mk
  refine wpAny_call ?_
  k_dflt (walk_at "mine enter")
  have hinst := hF.inst
  have hdr' := neN hdr
  have hle := le_nn (sub (readF pcs (off - 20) 20) 8 16)
  obtain ⟨sn, sparams, sbody, sscope, snm, spos, sdoc, spm, sc, sct, scf, sS, sm, _⟩ := hF.seek
  obtain ⟨rn, rparams, rbody, rscope, rnm, rpos, rdoc, rpm, rcd, rct, rcf, rcz, rcp, rtz, rS, rm, _⟩ := hF.read
  k_steps
  · refine hret _ _ _ _ _ _ _ (er_none (sig_ne (by assumption))) ?_ (by assumption) (by k_extra "mine drop")
    k_extra "mine fld"
  · exact hexc wDisks _ _ _ _ _ _ _ _ (er_disk (sig_eq (by assumption)) (by omega)) (by assumption) (raised_drop (by assumption) (by k_extra "mine all")) (by assumption)
  · exact hexc wDisks _ _ _ _ _ _ _ _ (er_disk (sig_eq (by assumption)) (by omega)) (by assumption) (raised_drop (by assumption) (by k_extra "mine all")) (by assumption)
  · exact hexc wLoc _ _ _ _ _ _ _ _ (er_loc (sig_eq (by assumption)) ⟨by assumption, by omega⟩ (by assumption)) (by assumption) (raised_drop (by assumption) (by k_extra "mine all")) (by assumption)
  · exact hexc wRec _ _ _ _ _ _ _ _ ((er_one (sig_eq (by assumption)) ⟨by assumption, by omega⟩ (by assumption) (Or.inl (by assumption))).trans (tl_rec (by assumption) (by omega))) (by assumption) (raised_drop (by assumption) (by k_extra "mine all")) (by assumption)
  · exact hexc wRec _ _ _ _ _ _ _ _ ((er_one (sig_eq (by assumption)) ⟨by assumption, by omega⟩ (by assumption) (Or.inl (by assumption))).trans (tl_rec (by assumption) (by omega))) (by assumption) (raised_drop (by assumption) (by k_extra "mine all")) (by assumption)
  · refine hret _ _ _ _ _ _ _ ((er_one (sig_eq (by assumption)) ⟨by assumption, by omega⟩ (by assumption) (Or.inl (by assumption))).trans (tl_ret (by assumption) ⟨by assumption, by assumption⟩)) ?_ (by assumption) (by k_extra "mine drop")
    k_extra "mine fld"
  · exact hexc wRec _ _ _ _ _ _ _ _ ((er_two (sig_eq (by assumption)) ⟨by assumption, by omega⟩ (by assumption) (not_or.mpr ⟨by assumption, by assumption⟩)).trans (tl_rec (by assumption) (by omega))) (by assumption) (raised_drop (by assumption) (by k_extra "mine all")) (by assumption)
  · exact hexc wRec _ _ _ _ _ _ _ _ ((er_two (sig_eq (by assumption)) ⟨by assumption, by omega⟩ (by assumption) (not_or.mpr ⟨by assumption, by assumption⟩)).trans (tl_rec (by assumption) (by omega))) (by assumption) (raised_drop (by assumption) (by k_extra "mine all")) (by assumption)
  · refine hret _ _ _ _ _ _ _ ((er_two (sig_eq (by assumption)) ⟨by assumption, by omega⟩ (by assumption) (not_or.mpr ⟨by assumption, by assumption⟩)).trans (tl_ret (by assumption) ⟨by assumption, by assumption⟩)) ?_ (by assumption) (by k_extra "mine drop")
    k_extra "mine fld"
  · exact hexc wNone _ _ _ _ _ _ _ _ ((er_two (sig_eq (by assumption)) ⟨by assumption, by omega⟩ (by assumption) (not_or.mpr ⟨by assumption, by assumption⟩)).trans (tl_none (by assumption))) (by assumption) (raised_drop (by assumption) (by k_extra "mine all")) (by assumption)
  · exact hexc wNone _ _ _ _ _ _ _ _ ((er_one (sig_eq (by assumption)) ⟨by assumption, by omega⟩ (by assumption) (Or.inr (by assumption))).trans (tl_none (by assumption))) (by assumption) (raised_drop (by assumption) (by k_extra "mine all")) (by assumption)
end Mine
namespace Mine
theorem laid33 : True := by
  w_top off
  trivial
section
variable {prog : Program} {w : World} {A : Around} {E : Value → Shared → Prop} {s : Shared} {env : Env} {h₀ : Heap} {target : Expr} {body : List Stmt} {Q : Flow → Shared → Prop}
theorem turns_coreO {It I hi : Addr} {fp wr : List Addr} {n : Nat} {P Md : Nat → Value → Heap → Prop} {St : Nat → Heap → Prop} {m₀ : Str → Option Value} {news : List (Addr × Obj)} {hp : Heap} {tk0 : Nat}
    (W : KTurns prog w A target It fp wr n P Md St) (hwr : ∀ b ∈ wr, (I ≤ b ∧ b ≤ hi) ∧ h₀.get? b = none) (hL : env.locals ∉ fp) (hlow : ∀ p ∈ news, p.1 < I) (hst : St 0 hp)
    (F : Fr h₀ env.locals hp m₀) (N : News h₀ env.locals hp news) (hhi : ∀ i h, St i h → ∃ o, h.get? hi = some o) (hhf : hi ∈ fp) (hhn : h₀.get? hi = none)
    (J : Nat → (Str → Option Value) → List (Addr × Obj) → Prop) (h0 : J 0 m₀ news)
    (step : ∀ i v m₁ news₁ h₁ tk₁ own, i < n → P i v h₁ → J i m₁ news₁ → (∀ p ∈ news₁, p.1 < I ∨ hi < p.1) → (∃ o, (hi, o) ∈ own) → (∀ p ∈ own, p.1 ∈ fp) → Fr h₀ env.locals h₁ m₁ → News h₀ env.locals h₁ (news₁ ++ own) →
      wpAny (model prog w) A (assign target env v) (fun _ s₂ => wpAny (model prog w) A (execs body env) (TurnPost h₀ env.locals I hi (J (i + 1)) own { s with heap := h₁, toks := tk₁ } Q) E s₂) E { s with heap := h₁, toks := tk₁ })
    (done : ∀ h' tk m' news', Fr h₀ env.locals h' m' → News h₀ env.locals h' news' → (∀ p ∈ news', p.1 < I ∨ hi < p.1) → J n m' news' → Q .next { s with heap := h', toks := tk }) :
    TurnsAt prog w A h₀ env target body Q E (.ref It) { s with heap := hp, toks := tk0 } := by
  refine ⟨It, fp, wr, n, P, Md, St, m₀, news, fun i m₁ news₁ => (∀ p ∈ news₁, p.1 < I ∨ hi < p.1) ∧ J i m₁ news₁, rfl, W, hL, fun b hb => (hwr b hb).2, fun p hp hb => ?_, hst, F, N, ⟨fun p hp => .inl (hlow p hp), h0⟩, ?_, ?_⟩
  · exact absurd (hlow p hp) (Nat.not_lt.mpr (hwr _ hb).1.1)
  · intro i v m₁ news₁ h₁ tk₁ own hin hP hJ _ hfp _ hall hst₁ F₁ N₁
    obtain ⟨hb, hJ⟩ := hJ
    obtain ⟨o, ho⟩ := hhi _ _ hst₁
    refine wpAny_mono (step i v m₁ news₁ h₁ tk₁ own hin hP hJ hb ⟨o, hall hi hhf hhn o ho⟩ hfp F₁ (fun p hp => N₁ p ((List.mem_append.mp hp).elim (fun h => List.mem_append.mpr (.inr h)) fun h => List.mem_append.mpr (.inl h)))) (fun _ s₂ h₂ => wpAny_mono h₂ (fun f s₃ p => ?_) fun _ _ e => e) fun _ _ e => e
    have fin : TurnEnd h₀ env.locals I hi (J (i + 1)) own { s with heap := h₁, toks := tk₁ } s₃ → LoopStepU h₀ env.locals wr own (fun m₁ news₁ => (∀ p ∈ news₁, p.1 < I ∨ hi < p.1) ∧ J (i + 1) m₁ news₁) { s with heap := h₁, toks := tk₁ } .next s₃ := by
      rintro ⟨h', tk, m', led', news', e, F', N', a, b, c, d⟩
      refine ⟨rfl, h', tk, m', news', e, F', fun p hp => N' p ((List.mem_append.mp hp).elim (a p) (b p)), fun p hp hb => ?_, c, d⟩
      obtain ⟨⟨h1, h2⟩, _⟩ := hwr _ hb
      rcases c p hp with h3 | h3
      · exact absurd h3 (Nat.not_lt.mpr h1)
      · exact absurd h3 (Nat.not_lt.mpr h2)
    cases f with
    | ret v => exact .ret p
    | brk => exact .brk p
    | next => exact .next (fin p)
    | cont => exact .cont (fin p)
  · intro h' tk m' news' F' N' _ hJ
    exact done h' tk m' news' F' N' hJ.1 hJ.2
theorem turns_listO {ax : Addr} {vs : List Value} {k : Nat} {m₀ : Str → Option Value} {news : List (Addr × Obj)}
    (hh : A.handled = none) (F : Fr h₀ env.locals s.heap m₀) (N : News h₀ env.locals s.heap news) (hm : (ax, listOf vs.toArray k) ∈ news)
    (J : Nat → (Str → Option Value) → List (Addr × Obj) → Prop) (h0 : J 0 m₀ news)
    (step : ∀ I i v m₁ news₁ h₁ tk₁ own, (∀ p ∈ news, p.1 < I) → vs[i]? = some v → J i m₁ news₁ → (∀ p ∈ news₁, p.1 < I ∨ I < p.1) → (∃ o, (I, o) ∈ own) → (∀ p ∈ own, p.1 = I ∨ p.1 = ax) → Fr h₀ env.locals h₁ m₁ → News h₀ env.locals h₁ (news₁ ++ own) →
      wpAny (model prog w) A (assign target env v) (fun _ s₂ => wpAny (model prog w) A (execs body env) (TurnPost h₀ env.locals I I (J (i + 1)) own { s with heap := h₁, toks := tk₁ } Q) E s₂) E { s with heap := h₁, toks := tk₁ })
    (done : ∀ h' tk m' news', Fr h₀ env.locals h' m' → News h₀ env.locals h' news' → J vs.length m' news' → Q .next { s with heap := h', toks := tk }) :
    wpAny (model prog w) A (pyIter (.ref ax)) (fun it s₂ => TurnsAt prog w A h₀ env target body Q E it s₂) E s := by
  have hax := N _ hm
  have hl : s.heap.IsList ax vs.toArray := ⟨_, hax.1, rfl, k, rfl⟩
  have hlt : ax < s.heap.objs.size := Heap.lt_size hax.1
  have hne : ax ≠ s.heap.objs.size := Nat.ne_of_lt hlt
  refine wpAny_pyIter_list hl ?_
  have W0 := Walks.list (prog := prog) (w := w) hh s.heap.objs.size ax hne vs.toArray
  rw [List.size_toArray] at W0
  refine turns_coreO (I := s.heap.objs.size) (hi := s.heap.objs.size) (tk0 := s.toks) (n := vs.length) (KTurns.ofWalks W0 fun i v s Q E st q => letGo_listiter st.1 q) ?_ ?_ (fun p hp => Heap.lt_size (N p hp).1) ?_ (F.push _) (fun p hp => ⟨Heap.get?_push_of_some _ (N p hp).1, (N p hp).2⟩) ?_ (by simp) (next_is_new F) J h0 ?_ (fun h' tk m' news' a b _ d => done h' tk m' news' a b d)
  · intro b hb
    rw [List.mem_singleton.mp hb]
    exact ⟨⟨Nat.le_refl _, Nat.le_refl _⟩, next_is_new F⟩
  · intro hI
    rcases List.mem_cons.mp hI with e | hI
    · exact absurd F.ns.lt (e ▸ Nat.lt_irrefl _)
    · exact hax.2.1 (List.mem_singleton.mp hI).symm
  · exact ⟨⟨_, Heap.get?_push_size _ rfl, rfl, rfl⟩, hl.at fun o e => Heap.get?_push_of_some _ e⟩
  · rintro i h ⟨⟨o, ho, _⟩, _⟩
    exact ⟨o, ho⟩
  · intro i v m₁ news₁ h₁ tk₁ own hin hP hJ hb ho hfp F₁ N₁
    exact step s.heap.objs.size i v m₁ news₁ h₁ tk₁ own (fun p hp => Heap.lt_size (N p hp).1) (by have q : vs.toArray[i]? = some v := hP; simpa using q) hJ hb ho (fun p hp => by simpa using hfp p hp) F₁ N₁
theorem turns_rangeO {r : Addr} {a₀ b₀ : Int} {t₀ u₀ v₀ : Tok} {n : Nat} {x : Str} {px : Pos} {m₀ : Str → Option Value} {news : List (Addr × Obj)}
    (hh : A.handled = none) (hr : IsRange s.heap r a₀ b₀ 1 t₀ u₀ v₀) (hsmall : Builtin.Range.small a₀ b₀ 1 = true) (hn : Builtin.Range.rangeSize a₀ b₀ 1 = (n : Int)) (F : Fr h₀ env.locals s.heap m₀) (N : News h₀ env.locals s.heap news)
    (J : Nat → (Str → Option Value) → List (Addr × Obj) → Prop) (h0 : J 0 m₀ news)
    (step : ∀ I i t m₁ news₁ h₁ tk₁ own, (∀ p ∈ news, p.1 < I) → i < n → J i m₁ news₁ → (∀ p ∈ news₁, p.1 < I ∨ I < p.1) → (∃ o, (I, o) ∈ own) → (∀ p ∈ own, p.1 = I) → Fr h₀ env.locals h₁ m₁ → News h₀ env.locals h₁ (news₁ ++ own) →
      wpAny (model prog w) A (assign (.Name x px) env (.int (a₀ + (i : Int)) t)) (fun _ s₂ => wpAny (model prog w) A (execs body env) (TurnPost h₀ env.locals I I (J (i + 1)) own { s with heap := h₁, toks := tk₁ } Q) E s₂) E { s with heap := h₁, toks := tk₁ })
    (done : ∀ h' tk m' news', Fr h₀ env.locals h' m' → News h₀ env.locals h' news' → J n m' news' → Q .next { s with heap := h', toks := tk }) :
    wpAny (model prog w) A (pyIter (.ref r)) (fun it s₂ => TurnsAt prog w A h₀ env (.Name x px) body Q E it s₂) E s := by
  refine wpAny_pyIter_range hr hsmall ?_
  have W : Walks prog w A s.heap.objs.size [s.heap.objs.size] [s.heap.objs.size] n (fun i v => i < n ∧ ∃ t, v = .int (a₀ + i * 1) t)
      (fun i h => IsRangeIter h s.heap.objs.size (a₀ + (i : Nat) * 1) ((n : Int) - (i : Nat)) 1) := (Walks.range hh _ a₀ 1 n).bound
  refine turns_coreO (I := s.heap.objs.size) (hi := s.heap.objs.size) (tk0 := s.toks) (n := n) (KTurns.ofWalks W fun i v s Q E st q => wpAny_pure q) ?_ ?_ (fun p hp => Heap.lt_size (N p hp).1) (by show IsRangeIter _ _ _ _ _; rw [hn]; simpa using Heap.get?_push_size _ rfl) (F.push _) (fun p hp => ⟨Heap.get?_push_of_some _ (N p hp).1, (N p hp).2⟩) ?_ (by simp) (next_is_new F) J h0 ?_ (fun h' tk m' news' a b _ d => done h' tk m' news' a b d)
  · intro b hb
    rw [List.mem_singleton.mp hb]
    exact ⟨⟨Nat.le_refl _, Nat.le_refl _⟩, next_is_new F⟩
  · intro hm
    exact absurd F.ns.lt ((List.mem_singleton.mp hm) ▸ Nat.lt_irrefl _)
  · intro i h hst
    exact ⟨_, hst⟩
  · rintro i v m₁ news₁ h₁ tk₁ own hin ⟨_, t, rfl⟩ hJ hb ho hfp F₁ N₁
    rw [Int.mul_one]
    exact step s.heap.objs.size i t m₁ news₁ h₁ tk₁ own (fun p hp => Heap.lt_size (N p hp).1) hin hJ hb ho (fun p hp => by simpa using hfp p hp) F₁ N₁
end
end Mine
namespace Mine
theorem laid34 : True := by
  w_top off
  trivial
theorem inplace_list {prog : Program} {w : World} {A : Around} {E : Value → Shared → Prop} {s : Shared} {a b : Value} {Q : Value → Shared → Prop} (ha : s.TypeIs a "list") (hb : s.TypeIs b "list")
    (hc : wpAny (model prog w) A (call (.builtin "list.__iadd__") [a, b]) Q E s) : wpAny (model prog w) A (inplaceOp .Add a b) Q E s := by
  unfold inplaceOp
  refine wpAny_holding ?_
  have hfi : fillsInplaceSlot (.type "list") "add" (Operator.Add == .Add) = pure false := by
    unfold fillsInplaceSlot
    show (typeLookup (.type "list") (dunderI "add") >>= fun fi => pure (fi.isSome && !isSeqSlot fi)) = pure false
    rw [PySem.F.slot_list_iadd.lookup]; rfl
  have hsi : seqSlot? (.type "list") (dunderI "add") = pure (some (.builtin "list.__iadd__")) := by
    unfold seqSlot?
    rw [PySem.F.slot_list_iadd.lookup]; rfl
  refine wpAny_bind (wpAny_typeOf ha (wpAny_bind (wpAny_of_eq hfi ?_)))
  show wpAny _ A (if false = true then _ else _) Q E s
  rw [if_neg Bool.false_ne_true]
  refine wpAny_bind (wpAny_binaryOp1_none (nm := "add") ha hb noFill_list_add ?_)
  refine wpAny_bind (wpAny_of_eq hsi ?_)
  exact wpAny_bind (wpAny_rule hc)
theorem iadd_list {prog : Program} {w : World} {A : Around} {E : Value → Shared → Prop} {s : Shared} {h₀ : Heap} {L D b : Addr} {m : Str → Option Value} {news : List (Addr × Obj)} {vs ws : List Value} {n n2 : Nat} {Q : Value → Shared → Prop} (F : Fr h₀ L s.heap m) (N : News h₀ L s.heap ((D, listOf vs.toArray n) :: news)) (hb : (b, listOf ws.toArray n2) ∈ news)
    (c : ∀ p ∈ news, p.1 ≠ D) (hne : ws ≠ []) (hz : vs.length + ws.length ≤ 1000)
    (h : ∀ h', Fr h₀ L h' m → News h₀ L h' ((D, listOf (vs ++ ws).toArray (n + 1)) :: news) → Q (.ref D) { s with heap := h' }) : wpAny (model prog w) A (inplaceOp .Add (.ref D) (.ref b)) Q E s := by
  have z := N _ (.head _)
  have zb := N _ (List.mem_cons_of_mem _ hb)
  refine inplace_list ⟨_, z.1, rfl⟩ ⟨_, zb.1, rfl⟩ ?_
  refine call_meets PySem.F.slot_list_iadd ⟨_, z.1, rfl⟩ PySem.F.entry_list_iadd (PySem.F.args_list_iadd_2 _ _) (PySem.AutoSeq1.list___iadd___list_list_0 D vs.toArray n b ws.toArray n2 ?_ ?_ ?_) ⟨z.1, zb.1, h _ (F.change (Heap.SameBut.update ..) z.2.1 z.2.2) (kl_turn (pre := []) (its' := (vs ++ ws).toArray) (fun x => x ++ ws.toArray) N (fun _ h => nomatch h) c (by simp) ?_)⟩
  · have e : Builtin.List.listTooLong (vs.toArray.size + ws.toArray.size) = false := by
      unfold Builtin.List.listTooLong
      rw [List.size_toArray, List.size_toArray, sizeLine_eq]
      exact decide_eq_false (by omega)
    rw [e]; simp
  · rw [List.size_toArray, sizeLine_eq]; omega
  · rw [List.size_toArray, List.size_toArray, sizeLine_eq]; omega
  · have : 0 < ws.length := List.length_pos_iff.mpr hne
    simp [List.size_toArray, List.length_append]
    exact hne
theorem laid35 : True := by
  k_with "inplaceOp Add ref" => (k_here; (with_reducible show wpAny _ _ (inplaceOp Operator.Add (Value.ref _) (Value.ref _)) _ _ _); k_dflt (refine' iadd_list ?q9k1 ?q9k2 ?q9k3 ?q9k4 ?q9k5 ?q9k6 ?_; (case q9k1 => k_asm); (case q9k2 => assumption); (case q9k3 => assumption); (case q9k4 => assumption); (case q9k5 => exact List.cons_ne_nil _ _); (case q9k6 => (simp only [List.length_cons, List.length_nil]; omega))); kl_rest)
  trivial
set_option pp.deepTerms false in
set_option pp.deepTerms.threshold 20 in
set_option maxHeartbeats 4000000 in
theorem iaddL_ctr {prog : Program} {w : World} {news : List (Addr × Obj)} {D b : Addr} {vs : List Value} {v : Value} {n n2 : Nat} (p : Program) (loose : List Str) (mean : ExcName → Option Value) (mg mb : Str → Option Value) (dp un : Nat) (gd : Option (List Code)) (cn : Str) (cs : Scope) (a : Addr) (ccd : Value) (cl : List (Str × Addr)) (outer : List Env) (A₀ : Around) (base h₀ : Heap) (L : Addr) (m : Str → Option Value) (s : Shared)
    (Q E : Value → Shared → Prop) (B : Below A₀ base outer h₀) (F : Fr h₀ L s.heap m) (X : (Mine.hd.heap_39 w.params).In h₀) (N : News h₀ L s.heap ((D, listOf vs.toArray n) :: news)) (T : Top p loose mean mg mb h₀) (hk : cs.kind = .function) (hd : dp + 5 < recursionLimit) (hu : un + 40 < cLine)
    (hb : (b, listOf [v].toArray n2) ∈ news) (c : ∀ p ∈ news, p.1 ≠ D) (hz : vs.length < 900)
    (hret : ∀ h' tk', Fr h₀ L h' m → News h₀ L h' ((D, listOf (vs ++ [v]).toArray (n + 1)) :: news) → Q (.ref D) { s with heap := h', toks := tk' }) :
    wpAny (model prog w) (ktrTop dp un gd cn cs L a ccd cl outer) (call (.ref 118) [.ref D, .ref b]) Q E s := by
  refine wpAny_call ?_
  k_dflt (walk_at "mine enter")
  k_steps
  exact hret _ _ (by assumption) (by assumption)
theorem iaddL_use {prog : Program} {w : World} {news news' : List (Addr × Obj)} {D b : Addr} {vs : List Value} {v : Value} {n n2 : Nat} {p : Program} {loose : List Str} {mean : ExcName → Option Value} {mg mb : Str → Option Value} {dp un : Nat} {gd : Option (List Code)} {cn : Str} {cs : Scope} {a : Addr} {ccd : Value} {cl : List (Str × Addr)} {outer : List Env} {A₀ : Around} {base h₀ : Heap} {L : Addr} {m : Str → Option Value} {s : Shared}
    {Q E : Value → Shared → Prop} (B : Below A₀ base outer h₀) (F : Fr h₀ L s.heap m) (X : (Mine.hd.heap_39 w.params).In h₀) (N : News h₀ L s.heap news) (T : Top p loose mean mg mb h₀) (U : Upd D (listOf vs.toArray n) (listOf (vs ++ [v]).toArray (n + 1)) news news') (hk : cs.kind = .function) (hd : dp + 5 < recursionLimit) (hu : un + 40 < cLine)
    (hb : (b, listOf [v].toArray n2) ∈ news) (hbD : b ≠ D) (hz : vs.length < 900)
    (hret : ∀ h' tk', Fr h₀ L h' m → News h₀ L h' news' → Q (.ref D) { s with heap := h', toks := tk' }) :
    wpAny (model prog w) (ktrTop dp un gd cn cs L a ccd cl outer) (call (.ref 118) [.ref D, .ref b]) Q E s := by
  obtain ⟨pre, post, rfl, rfl, c1, c2⟩ := U.split
  have hb' : (b, listOf [v].toArray n2) ∈ pre ++ post := by
    rcases List.mem_append.mp hb with h | h
    · exact List.mem_append.mpr (.inl h)
    · rcases List.mem_cons.mp h with h | h
      · injection h with h1 h2
        exact absurd h1 hbD
      · exact List.mem_append.mpr (.inr h)
  refine iaddL_ctr (n := n) (n2 := n2) (v := v) p loose mean mg mb dp un gd cn cs a ccd cl outer A₀ base h₀ L m s Q E B F X (news := pre ++ post) (cb_drop N ?_) T hk hd hu hb' ?_ hz (fun h' tk' F' N' => hret h' tk' F' (cb_drop N' ?_))
  · intro q hq
    rcases List.mem_cons.mp hq with rfl | hq
    · exact List.mem_append.mpr (.inr (.head _))
    · rcases List.mem_append.mp hq with h | h
      · exact List.mem_append.mpr (.inl h)
      · exact List.mem_append.mpr (.inr (.tail _ h))
  · intro q hq
    rcases List.mem_append.mp hq with h | h
    · exact c1 q h
    · exact c2 q h
  · intro q hq
    rcases List.mem_append.mp hq with h | h
    · exact .tail _ (List.mem_append.mpr (.inl h))
    · rcases List.mem_cons.mp h with rfl | h
      · exact .head _
      · exact .tail _ (List.mem_append.mpr (.inr h))
theorem laid36 : True := by
  k_with "call ref" => (k_here; (with_reducible show wpAny _ _ (call (Value.ref 118) [Value.ref _, Value.ref _]) _ _ _); k_dflt (
  refine' iaddL_use ?q9k1 ?q9k2 ?q9k3 ?q9k4 ?q9k5 ?q9kU ?q9kK ?q9kd ?q9ku ?q9kb ?q9kbD ?q9kz ?_; (case q9k1 => k_asm); (case q9k2 => k_asm); (case q9k3 => k_asm); (case q9k4 => k_asm); (case q9k5 => k_asm); (case q9kU => k_upd); (case q9kK => first | exact rfl | assumption); (case q9kd => ktr_room); (case q9ku => ktr_units); (case q9kb => k_mem); (case q9kbD => k_ne); (case q9kz => omega);
  intro h9 tk9 F9 N9; (try dsimp only); (try k_sweep); (try k_fold)))
  trivial
end Mine
namespace Mine
theorem laid37 : True := by
  w_top off
  trivial
structure RS where
  rows : List It
  wait : List Int
  place : Int
def gapSize (rest : Int) : Int := 20 + rest % 1000 + rest / 1000 % 65536 * 4294967296
def setOther (rows : List It) (o : Int) (n : Int) : List It := rows.modify o.toNat fun it => { it with other := n }
def stepR (s : RS) (x : Int) : RS :=
  if x % 5 = 4 then ⟨s.rows ++ [⟨Str.ofString "gap", s.place, s.place + gapSize (x / 5), x / 5, -1⟩], s.wait, s.place + gapSize (x / 5)⟩
  else if 1 < x % 5 ∧ s.wait ≠ [] then ⟨setOther s.rows (s.wait.getLastD 0) s.rows.length ++ [⟨Str.ofString "end", s.place, s.place + 20, x / 5, s.wait.getLastD 0⟩], s.wait.dropLast, s.place + 20⟩
  else ⟨s.rows ++ [⟨Str.ofString "begin", s.place, s.place + 56, x / 5, -1⟩], s.wait ++ [(s.rows.length : Int)], s.place + 56⟩
def rowsOf (xs : List Int) : RS := xs.foldl stepR ⟨[], [], 7⟩
theorem rowsOf_succ {xs : List Int} {i : Nat} {x : Int} (h : xs[i]? = some x) : rowsOf (xs.take (i + 1)) = stepR (rowsOf (xs.take i)) x := by
  unfold rowsOf
  rw [List.take_add_one, h, List.foldl_append]; rfl
theorem stepR_len (s : RS) (x : Int) : (stepR s x).rows.length = s.rows.length + 1 := by
  unfold stepR setOther
  split
  · simp
  · split <;> simp
theorem rowsOf_len {xs : List Int} : ∀ i, i ≤ xs.length → (rowsOf (xs.take i)).rows.length = i
  | 0, _ => rfl
  | i + 1, h => by
    have e : xs[i]? = some xs[i] := List.getElem?_eq_getElem (by omega)
    rw [rowsOf_succ e, stepR_len, rowsOf_len i (by omega)]
def ItObj (o : Obj) (it : It) : Prop := ∃ t0 t1 t2 t3 t4 n, o = listOf #[.str it.kind t0, .int it.place t1, .int it.stop t2, .int it.rest t3, .int it.other t4] n
/-- the items' entries, the row's values, the rows, place by place -/
def ItsRep : List (Addr × Obj) → List Value → List It → Prop
  | [], [], [] => True
  | p :: its, v :: vs, it :: rows => (v = .ref p.1 ∧ ItObj p.2 it) ∧ ItsRep its vs rows
  | _, _, _ => False
theorem ItsRep.len : ∀ {its : List (Addr × Obj)} {vs : List Value} {rows : List It}, ItsRep its vs rows → vs.length = rows.length
  | [], [], [], _ => rfl
  | _ :: its, _ :: vs, _ :: rows, h => by rw [List.length_cons, List.length_cons, ItsRep.len h.2]
theorem ItsRep.snoc {p : Addr × Obj} {it : It} (hp : ItObj p.2 it) : ∀ {its : List (Addr × Obj)} {vs : List Value} {rows : List It}, ItsRep its vs rows → ItsRep (its ++ [p]) (vs ++ [.ref p.1]) (rows ++ [it])
  | [], [], [], _ => ⟨⟨rfl, hp⟩, trivial⟩
  | _ :: its, _ :: vs, _ :: rows, h => ⟨h.1, ItsRep.snoc hp h.2⟩
theorem ItsRep.split : ∀ {its : List (Addr × Obj)} {vs : List Value} {rows : List It} (k : Nat), ItsRep its vs rows → k < rows.length →
    ∃ its1 p its2 vs1 vs2 rows1 it rows2, its = its1 ++ p :: its2 ∧ vs = vs1 ++ .ref p.1 :: vs2 ∧ rows = rows1 ++ it :: rows2 ∧ vs1.length = k ∧ rows1.length = k ∧ ItObj p.2 it ∧
      ∀ o it', ItObj o it' → ItsRep (its1 ++ (p.1, o) :: its2) vs (rows1 ++ it' :: rows2)
  | [], [], [], _, _, hk => absurd hk (Nat.not_lt_zero _)
  | p :: its, v :: vs, it :: rows, 0, h, _ => by
    obtain ⟨⟨rfl, hp⟩, h2⟩ := h
    exact ⟨[], p, its, [], vs, [], it, rows, rfl, rfl, rfl, rfl, rfl, hp, fun o it' ho => ⟨⟨rfl, ho⟩, h2⟩⟩
  | p :: its, v :: vs, it :: rows, k + 1, h, hk => by
    obtain ⟨its1, q, its2, vs1, vs2, rows1, jt, rows2, e1, e2, e3, l1, l2, hq, f⟩ := ItsRep.split k h.2 (by simpa using hk)
    exact ⟨p :: its1, q, its2, v :: vs1, vs2, it :: rows1, jt, rows2, by rw [e1]; rfl, by rw [e2]; rfl, by rw [e3]; rfl, by rw [List.length_cons, l1], by rw [List.length_cons, l2], hq, fun o it' ho => ⟨h.1, f o it' ho⟩⟩
theorem ItsRep.get {led : List (Addr × Obj)} : ∀ {its : List (Addr × Obj)} {vs : List Value} {rows : List It}, ItsRep its vs rows → (∀ p ∈ its, p ∈ led) → ∀ (i : Nat) (it : It), rows[i]? = some it → ∃ v, vs[i]? = some v ∧ ItIn led v it
  | [], [], [], _, _, i, jt, e => nomatch e
  | p :: its, v :: vs, it :: rows, h, hs, 0, jt, e => by
    obtain ⟨⟨rfl, t0, t1, t2, t3, t4, n, ho⟩, h2⟩ := h
    cases e
    refine ⟨_, rfl, _, t0, t1, t2, t3, t4, n, rfl, ?_⟩
    rw [← ho]; exact hs _ (.head _)
  | p :: its, v :: vs, it :: rows, h, hs, i + 1, jt, e => ItsRep.get h.2 (fun q hq => hs q (.tail _ hq)) i jt e
theorem setOther_eq {rows1 rows2 : List It} {it : It} {o n : Int} (h : rows1.length = o.toNat) : setOther (rows1 ++ it :: rows2) o n = rows1 ++ { it with other := n } :: rows2 := by
  unfold setOther
  rw [← h]
  clear h
  induction rows1 with
  | nil => rfl
  | cons a r ih => simpa [List.modify] using ih
structure RowJ (news : List (Addr × Obj)) (r wt : Addr) (st : RS) (m : Str → Option Value) (led : List (Addr × Obj)) : Prop where
  ex : ∃ vs n ws k its tp, led = (r, listOf (List.toArray vs) n) :: (wt, listOf (List.toArray ws) k) :: (its ++ news) ∧ ItsRep its vs st.rows ∧ IntsAre ws st.wait ∧ (its.map (·.1)).Nodup ∧ (∀ p ∈ its, wt < p.1) ∧ m (Str.ofString "place") = some (.int st.place tp) ∧ m (Str.ofString "row") = some (.ref r) ∧ m (Str.ofString "waiting") = some (.ref wt)
  bd : ∀ o ∈ st.wait, 0 ≤ o ∧ o < st.rows.length
  wl : st.wait.length ≤ st.rows.length
theorem ints_snoc : ∀ {vs : List Value} {ns : List Int} {n : Int} {t : Tok}, IntsAre vs ns → IntsAre (vs ++ [.int n t]) (ns ++ [n])
  | _, _, _, _, .nil => .cons _ _ .nil
  | _, _, _, _, .cons _ _ r => .cons _ _ (ints_snoc r)
theorem ints_last : ∀ {vs : List Value} {ns : List Int} {n : Int}, IntsAre vs (ns ++ [n]) → ∃ vs' t, vs = vs' ++ [.int n t] ∧ IntsAre vs' ns
  | _, [], _, h => by
    obtain ⟨t, vs', rfl, h2⟩ := IntsAre.cons_inv h
    rw [IntsAre.nil_inv h2]
    exact ⟨[], t, rfl, .nil⟩
  | _, m :: ns, _, h => by
    obtain ⟨t, vs', rfl, h2⟩ := IntsAre.cons_inv h
    obtain ⟨vs'', t', rfl, h3⟩ := ints_last h2
    exact ⟨.int m t :: vs'', t', rfl, .cons _ _ h3⟩
theorem row_push {h₀ h' : Heap} {L I r wt d : Addr} {o : Obj} {its news own led : List (Addr × Obj)} {vs ws : List Value} {rows : List It} {it : It} {wait : List Int} {place : Int} {n k tk : Nat} {tp : Tok} {m' : Str → Option Value} {s₁ : Shared}
    (F' : Fr h₀ L h' m') (N' : News h₀ L h' led) (hrep : ItsRep its vs rows) (hit : ItObj o it) (hws : IntsAre ws wait) (hnd : (its.map (·.1)).Nodup) (hd : ∀ p ∈ its, p.1 < d) (hw : ∀ p ∈ its, wt < p.1) (hwt : @LT.lt Nat _ wt I) (hr : @LT.lt Nat _ r I) (hd2 : @LT.lt Nat _ I d)
    (hI : ∀ p ∈ its, p.1 < I ∨ I < p.1) (hnews : ∀ p ∈ news, p.1 < I) (mr : (r, listOf (List.toArray (vs ++ [Value.ref d])) n) ∈ led) (mw : (wt, listOf ws.toArray k) ∈ led) (mi : ∀ p ∈ its, p ∈ led) (md : (d, o) ∈ led) (mn : ∀ p ∈ news, p ∈ led) (mo : ∀ p ∈ own, p ∈ led)
    (e1 : m' (Str.ofString "place") = some (.int place tp)) (e2 : m' (Str.ofString "row") = some (.ref r)) (e3 : m' (Str.ofString "waiting") = some (.ref wt)) (bd : ∀ o ∈ wait, 0 ≤ o ∧ o < rows.length + 1) (wl : wait.length ≤ rows.length + 1) :
    TurnEnd h₀ L I I (fun m₁ led => RowJ news r wt ⟨rows ++ [it], wait, place⟩ m₁ led) own s₁ { s₁ with heap := h', toks := tk } := by
  refine ⟨h', tk, m', led, (r, listOf (List.toArray (vs ++ [Value.ref d])) n) :: (wt, listOf ws.toArray k) :: ((its ++ [(d, o)]) ++ news), rfl, F', N', mo, ?_, ?_, ⟨⟨_, _, _, _, its ++ [(d, o)], _, rfl, hrep.snoc hit, hws, ?_, ?_, e1, e2, e3⟩, ?_, by rw [List.length_append, List.length_singleton]; exact wl⟩⟩
  · intro p hp
    rcases List.mem_cons.mp hp with rfl | hp
    · exact mr
    · rcases List.mem_cons.mp hp with rfl | hp
      · exact mw
      · rcases List.mem_append.mp hp with hp | hp
        · rcases List.mem_append.mp hp with hp | hp
          · exact mi p hp
          · rw [List.mem_singleton.mp hp]; exact md
        · exact mn p hp
  · intro p hp
    rcases List.mem_cons.mp hp with rfl | hp
    · exact .inl hr
    · rcases List.mem_cons.mp hp with rfl | hp
      · exact .inl hwt
      · rcases List.mem_append.mp hp with hp | hp
        · rcases List.mem_append.mp hp with hp | hp
          · exact hI p hp
          · rw [List.mem_singleton.mp hp]; exact .inr hd2
        · exact .inl (hnews p hp)
  · rw [List.map_append, List.nodup_append]
    refine ⟨hnd, by simp, ?_⟩
    intro a ha b hb
    obtain ⟨p, hp, rfl⟩ := List.mem_map.mp ha
    obtain ⟨q, hq, rfl⟩ := List.mem_map.mp hb
    rw [List.mem_singleton.mp hq]
    have q := ltN (hd p hp)
    refine neN ?_
    dsimp only
    omega
  · intro p hp
    rcases List.mem_append.mp hp with hp | hp
    · exact hw p hp
    · rw [List.mem_singleton.mp hp]
      refine ltN ?_; dsimp only; omega
  · intro o ho
    have q := bd o ho
    rw [List.length_append, List.length_singleton]
    exact ⟨q.1, by omega⟩
theorem row_push2 {h₀ h' : Heap} {L I r wt d q : Addr} {o qo qo0 : Obj} {its1 its2 news own led : List (Addr × Obj)} {vs ws : List Value} {rows : List It} {it : It} {wait : List Int} {place : Int} {n k tk : Nat} {tp : Tok} {m' : Str → Option Value} {s₁ : Shared}
    (F' : Fr h₀ L h' m') (N' : News h₀ L h' led) (hrep : ItsRep (its1 ++ (q, qo) :: its2) vs rows) (hit : ItObj o it) (hws : IntsAre ws wait) (hnd : ((its1 ++ (q, qo0) :: its2).map (·.1)).Nodup) (hd : ∀ p ∈ its1 ++ its2, p.1 < d) (hdq : q < d) (hw : ∀ p ∈ its1 ++ (q, qo0) :: its2, wt < p.1) (hwt : @LT.lt Nat _ wt I) (hr : @LT.lt Nat _ r I) (hd2 : @LT.lt Nat _ I d)
    (hI : ∀ p ∈ its1 ++ (q, qo0) :: its2, p.1 < I ∨ I < p.1) (hnews : ∀ p ∈ news, p.1 < I) (mr : (r, listOf (List.toArray (vs ++ [Value.ref d])) n) ∈ led) (mw : (wt, listOf ws.toArray k) ∈ led) (mi : ∀ p ∈ its1 ++ its2, p ∈ led) (mq : (q, qo) ∈ led) (md : (d, o) ∈ led) (mn : ∀ p ∈ news, p ∈ led) (mo : ∀ p ∈ own, p ∈ led)
    (e1 : m' (Str.ofString "place") = some (.int place tp)) (e2 : m' (Str.ofString "row") = some (.ref r)) (e3 : m' (Str.ofString "waiting") = some (.ref wt)) (bd : ∀ o ∈ wait, 0 ≤ o ∧ o < rows.length + 1) (wl : wait.length ≤ rows.length + 1) :
    TurnEnd h₀ L I I (fun m₁ led => RowJ news r wt ⟨rows ++ [it], wait, place⟩ m₁ led) own s₁ { s₁ with heap := h', toks := tk } := by
  have key : ∀ (P : Addr → Prop), (∀ p ∈ its1 ++ (q, qo0) :: its2, P p.1) → ∀ p ∈ its1 ++ (q, qo) :: its2, P p.1 := by
    intro P h p hp
    rcases List.mem_append.mp hp with hp | hp
    · exact h p (List.mem_append_left _ hp)
    · rcases List.mem_cons.mp hp with rfl | hp
      · exact h (q, qo0) (List.mem_append_right _ (.head _))
      · exact h p (List.mem_append_right _ (.tail _ hp))
  refine row_push F' N' hrep hit hws ?_ ?_ (key _ hw) hwt hr hd2 (key (fun a => a < I ∨ I < a) hI) hnews mr mw ?_ md mn mo e1 e2 e3 bd wl
  · rw [List.map_append, List.map_cons] at hnd ⊢
    exact hnd
  · intro p hp
    rcases List.mem_append.mp hp with hp | hp
    · exact hd p (List.mem_append_left _ hp)
    · rcases List.mem_cons.mp hp with rfl | hp
      · exact hdq
      · exact hd p (List.mem_append_right _ hp)
  · intro p hp
    rcases List.mem_append.mp hp with hp | hp
    · exact mi p (List.mem_append_left _ hp)
    · rcases List.mem_cons.mp hp with rfl | hp
      · exact mq
      · exact mi p (List.mem_append_right _ hp)
theorem gap_eq (y : Int) : 20 + y.fmod 1000 + (y.fdiv 1000).fmod 65536 * 2 ^ Int.toNat 32 = gapSize y := by
  have e2 : (2 : Int) ^ Int.toNat 32 = 4294967296 := by decide
  rw [e2, fm, fd, fm]; rfl
theorem step_gap {st : RS} {x : Int} (h : x.fmod 5 = 4) : stepR st x = ⟨st.rows ++ [⟨Str.ofString "gap", st.place, st.place + gapSize (x.fdiv 5), x.fdiv 5, -1⟩], st.wait, st.place + gapSize (x.fdiv 5)⟩ := by
  rw [fm] at h
  unfold stepR
  rw [if_pos h, fd]
theorem step_begin {st : RS} {x : Int} (h : x.fmod 5 ≠ 4) (h' : ¬ (1 < x.fmod 5 ∧ st.wait ≠ [])) : stepR st x = ⟨st.rows ++ [⟨Str.ofString "begin", st.place, st.place + 56, x.fdiv 5, -1⟩], st.wait ++ [(st.rows.length : Int)], st.place + 56⟩ := by
  rw [fm] at h h'
  unfold stepR
  rw [if_neg h, if_neg h', fd]
theorem step_end {st : RS} {x : Int} {w' : List Int} {o : Int} (h : x.fmod 5 ≠ 4) (h' : 1 < x.fmod 5) (hw : st.wait = w' ++ [o]) :
    stepR st x = ⟨setOther st.rows o st.rows.length ++ [⟨Str.ofString "end", st.place, st.place + 20, x.fdiv 5, o⟩], w', st.place + 20⟩ := by
  rw [fm] at h h'
  unfold stepR
  rw [if_neg h, if_pos ⟨h', by rw [hw]; simp⟩, fd, hw]
  simp
theorem mod64 (a : Int) : (a.fmod 65536).natAbs < 2 ^ 64 := by rw [fm]; omega
theorem laid38 : True := by
  k_with "binaryOp LShift int int" => (k_here; (with_reducible refine lshift_int_small ?q9kb1 ?q9kb2 ?q9kb3 ?_); (case q9kb1 => decide); (case q9kb2 => decide); (case q9kb3 => exact mod64 _))
  trivial
theorem ne_nil_F {prog : Program} {w : World} {A : Around} {E : Value → Shared → Prop} {s : Shared} {a b : Addr} {xs ys : List Value} {ns : List Int} {Q : Value → Shared → Prop} (ha : s.heap.IsList a xs.toArray) (hb : s.heap.IsList b ys.toArray) (hi : IntsAre xs ns) (hj : IntsAre ys []) (hu : A.units + 64 < cLine) (hn : ns = [] ∨ ns ≠ []) (h : ns = [] → Q (.bool false) s) (h' : ns ≠ [] → Q (.bool true) s) :
    wpAny (model prog w) A (compareOp .NotEq (.ref a) (.ref b)) Q E s := by
  refine ke_ne_ints ha hb hi hj hu ?_
  by_cases e : ns = []
  · have q := h e
    rw [decide_eq_true e]; exact q
  · have q := h' e
    rw [decide_eq_false e]; exact q
theorem len_row {prog : Program} {w : World} {A : Around} {E : Value → Shared → Prop} {s : Shared} {h₀ : Heap} {L r : Addr} {news : List (Addr × Obj)} {vs : List Value} {n c : Nat} {Q : Value → Shared → Prop} (N : News h₀ L s.heap news) (hm : (r, listOf (List.toArray vs) n) ∈ news) (hl : vs.length = c) (hc : c < 1000)
    (h : Q (.int (c : Int) (s.toks + 1)) { s with toks := s.toks + 1 + 1 }) : wpAny (model prog w) A (call (.builtin "len") [.ref r]) Q E s := by
  have hL : s.heap.IsList r vs.toArray := ⟨_, (N _ hm).1, rfl, n, rfl⟩
  refine len_list hL ?_ ?_
  · rw [List.size_toArray, hl]; omega
  · rw [List.size_toArray, hl]; exact h
theorem laid39 : True := by
  k_with "call builtin:len" => (k_here; (with_reducible show wpAny _ _ (call (Value.builtin "len") [Value.ref _]) _ _ _); k_dflt (refine' len_row ?q9N ?q9m ?q9l ?q9c ?_; (case q9N => k_asm); (case q9m => k_mem); (case q9l => with_reducible assumption); (case q9c => omega)))
  trivial
theorem append_row {prog : Program} {w : World} {A : Around} {E : Value → Shared → Prop} {s : Shared} {h₀ : Heap} {L D : Addr} {m : Str → Option Value} {news news' : List (Addr × Obj)} {vs : List Value} {n : Nat} {x : Value} {Q : Value → Shared → Prop} (F : Fr h₀ L s.heap m) (N : News h₀ L s.heap news) (U : Upd D (listOf vs.toArray n) (listOf (List.toArray (vs ++ [x])) (n + 1)) news news') (hz : vs.length < 1000)
    (h : ∀ h', Fr h₀ L h' m → News h₀ L h' news' → Q .none { s with heap := h' }) : wpAny (model prog w) A (call (.builtin "list.append") [.ref D, x]) Q E s := by
  refine append_K (its := vs.toArray) (n := n) F N ?_ h (by rw [List.size_toArray, sizeLine_eq]; omega)
  rw [List.push_toArray]; exact U
theorem laid40 : True := by
  k_with "call builtin:list.append" => (k_here; (with_reducible show wpAny _ _ (call (Value.builtin _) [Value.ref _, _]) _ _ _); k_dflt (refine' append_row ?q9k1 ?q9k2 ?q9k3 ?q9z ?_; (case q9k1 => k_asm); (case q9k2 => k_asm); (case q9k3 => k_upd); (case q9z => omega)); intro h' F' N'; (try k_sweep))
  trivial
theorem kl_last_snoc : ∀ (l : List Value) (y : Value), kl_last (l ++ [y]) = some (l, y)
  | [], _ => rfl
  | x :: r, y => by
    rw [List.cons_append, kl_last, kl_last_snoc r y]
theorem laid41 : True := by
  k_with "call builtin:list.pop" => (k_here; k_dflt ((with_reducible show wpAny _ _ (call (Value.builtin _) [Value.ref _]) _ _ _); refine' kl_pop ?q9F ?q9N ?q9e ?q9U ?q9z ?_; (case q9F => k_asm); (case q9N => k_asm); (case q9U => k_upd); (case q9e => exact kl_last_snoc _ _); (case q9z => (simp only [List.length_append, List.length_singleton, sizeLine_eq]; omega))); kl_rest)
  k_with "subscriptTail" => (k_here; (with_reducible show wpAny _ _ (subscriptTail _ _ (Value.ref _) (Value.int _ _)) _ _ _); first
  | (with_unfolding_all refine' lit_item ?q9k1 ?q9k2 ?q9k3 ?q9k4 ?q9k5 ?_ ?q9k6; (case q9k1 => k_asm); (case q9k2 => (k_extra "mine mem")); (case q9k3 => omega); (case q9k4 => omega); (case q9k5 => assumption); (case q9k6 => with_unfolding_all rfl)))
  k_with "compareOp NotEq ref ref" => (k_here; (with_reducible show wpAny _ _ (compareOp CmpOp.NotEq (Value.ref _) (Value.ref _)) _ _ _); k_dflt (refine' ne_nil_F ?q9a ?q9b ?q9c ?q9d ?q9e (by assumption) ?_ ?_; (case q9a => is_list); (case q9b => is_list); (case q9c => assumption); (case q9d => exact IntsAre.nil); (case q9e => units_room)) <;> intro hn9)
  k_with "exec For Name Name cons nil" => (k_here; (rename Fr _ _ _ _ => lF'); (with_unfolding_all refine' For_turns lF' ?_); k_whole)
  k_with "pyIter ref" => (k_here; refine hold ?_)
  trivial
set_option pp.deepTerms false in
set_option pp.deepTerms.threshold 20 in
set_option maxHeartbeats 8000000 in
theorem row_ctr {prog : Program} {w : World} {news : List (Addr × Obj)} {nl : Addr} {nvs : List Value} {nk : Nat} {xs : List Int} (hnl : (nl, listOf nvs.toArray nk) ∈ news) (hi : IntsAre nvs xs) (hlen : xs.length < 500) :
    Ctr prog w 125 10 [.ref nl] news fun tl v => ∃ r, v = .ref r ∧ RowIn tl r (rowsOf xs).rows := by
  unfold Ctr
  intro p loose mean mg mb dp un gd cn cs a ccd cl outer A₀ base h₀ L m s Q E B F X N T hk hd hu hret
  refine wpAny_call ?_
  k_dflt (walk_at "mine enter")
  rename_i g9 L9 _ _ _ _ _ _ _
  k_steps
  rename Fr _ _ _ _ => lF9
  rename_i r9 _ hr9 _ _ wt9 _ hw9 _ _ lN9
  have plainOn := PlainOn.mk
  refine unhold (turns_listO (vs := nvs) (k := nk) (news := (r9, listOf (List.toArray []) 0) :: (wt9, listOf (List.toArray []) 0) :: ([] ++ news)) (by rfl) lF9 (by k_extra "mine drop") (by k_mem)
    (fun i m₁ led => RowJ news r9 wt9 (rowsOf (xs.take i)) m₁ led) ?_ ?_ ?_)
  · refine ⟨⟨[], 0, [], 0, [], _, rfl, trivial, .nil, List.nodup_nil, (fun _ h => nomatch h), rfl, rfl, rfl⟩, (fun _ h => nomatch h), Nat.le_refl _⟩
  · intro I i v m₁ news₁ h₁ tk₁ own hI hv hJ hlow hoI hfp F₁ N₁
    obtain ⟨⟨vs, n, ws, k, its, tp, rfl, hits, hws, hnd, hits1, hplace, hrow, hwait⟩, hbd, hwl1⟩ := hJ
    obtain ⟨x, tx, rfl, hx⟩ := IntsAre.at hi _ _ hv
    have hil : i < xs.length := by
      rcases Nat.lt_or_ge i xs.length with q | q
      · exact q
      · rw [List.getElem?_eq_none q] at hx; cases hx
    have hrl := rowsOf_len (xs := xs) i (by omega)
    have hvl := hits.len
    have hst := rowsOf_succ hx
    rw [hst]
    generalize rowsOf (xs.take i) = st at *
    have hwl : ws.length = st.wait.length := IntsAre.length hws
    replace F₁ := fr_name F₁ hplace
    replace F₁ := fr_name F₁ ((if_neg (by decide)).trans hwait)
    replace F₁ := fr_name F₁ ((if_neg (by decide)).trans ((if_neg (by decide)).trans hrow))
    have hr1 : ∀ p ∈ news, p.1 < r9 := by assumption
    have hw1 : @LT.lt Nat _ r9 wt9 := hw9.1
    have hax : @LT.lt Nat _ nl r9 := hr9 _ hnl
    have hIr : @LT.lt Nat _ wt9 I := hI (wt9, _) (.tail _ (.head _))
    have hits2 : ∀ p ∈ its, p.1 < I ∨ I < p.1 := fun p hp => hlow p (.tail _ (.tail _ (List.mem_append_left _ hp)))
    clear lF9 lN9 hr9 hw9
    by_cases h4 : x.fmod 5 = 4
    · obtain ⟨led, hled⟩ : ∃ led, led = its ++ news ++ own := ⟨_, rfl⟩
      have m1 : ∀ p ∈ its, p ∈ led := fun p hp => hled ▸ List.mem_append_left _ (List.mem_append_left _ hp)
      have m2 : ∀ p ∈ news, p ∈ led := fun p hp => hled ▸ List.mem_append_left _ (List.mem_append_right _ hp)
      have m3 : ∀ p ∈ own, p ∈ led := fun p hp => hled ▸ List.mem_append_right _ hp
      have nr : ∀ p ∈ led, p.1 ≠ r9 := by
        intro p hp
        rw [hled] at hp
        refine neN ?_
        rcases List.mem_append.mp hp with hp | hp
        · rcases List.mem_append.mp hp with hp | hp
          · have q := ltN (hits1 p hp); omega
          · have q := ltN (hr1 p hp); omega
        · rcases hfp p hp with q | q <;> (have q1 : @Eq Nat p.1 _ := q; omega)
      have nw : ∀ p ∈ led, p.1 ≠ wt9 := by
        intro p hp
        rw [hled] at hp
        refine neN ?_
        rcases List.mem_append.mp hp with hp | hp
        · rcases List.mem_append.mp hp with hp | hp
          · have q := ltN (hits1 p hp); omega
          · have q := ltN (hr1 p hp); omega
        · rcases hfp p hp with q | q <;> (have q1 : @Eq Nat p.1 _ := q; omega)
      have N₂ : News g9 L9 h₁ ((r9, listOf (List.toArray vs) n) :: (wt9, listOf (List.toArray ws) k) :: led) := cb_drop N₁ (fun p hp => by
        rw [hled] at hp
        exact hp)
      clear N₁
      repeat' (first | (with_reducible exact absurd h4 (by assumption)) | (k_unfold; (try dsimp only)) | (k_end; wrow_close) | walk1 | (dsimp only; walk1) | (leave1; walk_say "STEP leave1"; try dsimp only) | fail "no step")
      rw [step_gap h4]
      refine' row_push ?F ?N hits ?it hws hnd ?d hits1 hIr ?r ?d2 hits2 ?nw ?mr ?mw ?mi ?md ?mn ?mo ?e1 ?e2 ?e3 ?bd ?wl
      case F => k_asm
      case N => k_asm
      case mr => k_mem
      case mw => k_mem
      case mi => exact fun p hp => by have q := m1 p hp; k_mem
      case mn => exact fun p hp => by have q := m2 p hp; k_mem
      case mo => exact fun p hp => by have q := m3 p hp; k_mem
      case md => k_mem
      case e2 => rfl
      case e3 => rfl
      case nw => exact fun p hp => hI p (.tail _ (.tail _ hp))
      case r => omega
      case it => rw [← gap_eq]; exact ⟨_, _, _, _, _, _, rfl⟩
      case d => exact fun p hp => (by k_extra "mine below" : ∀ p ∈ led, p.1 < _) p (m1 p hp)
      case d2 => exact hoI.elim fun oI hoI => (by k_extra "mine below" : ∀ p ∈ led, p.1 < _) _ (m3 _ hoI)
      case e1 => rw [← gap_eq]; rfl
      case bd => exact fun o ho => ⟨(hbd o ho).1, by have q := (hbd o ho).2; omega⟩
      case wl => omega
    · have hnil : st.wait = [] ∨ st.wait ≠ [] := Decidable.em _
      by_cases h1 : 1 < x.fmod 5 ∧ st.wait ≠ []
      · obtain ⟨h1a, hne⟩ := h1
        obtain ⟨w', o, hwo⟩ : ∃ w' o, st.wait = w' ++ [o] := ⟨_, _, (List.dropLast_concat_getLast hne).symm⟩
        rw [hwo] at hws
        obtain ⟨ws', to, rfl, hws'⟩ := ints_last hws
        have hob := hbd o (by rw [hwo]; simp)
        obtain ⟨its1, q0, its2, vs1, vs2, rows1, it0, rows2, rfl, hvse, hre, l1, l2, hq0, hset⟩ := hits.split o.toNat (by omega)
        obtain ⟨qa, qo⟩ := q0
        obtain ⟨u0, u1, u2, u3, u4, nq, hq1⟩ := hq0
        dsimp only at hq1
        subst hq1
        have hqw : @LT.lt Nat _ wt9 qa := hits1 _ (List.mem_append_right _ (.head _))
        have hqI : @LT.lt Nat _ qa I ∨ @LT.lt Nat _ I qa := hits2 _ (List.mem_append_right _ (.head _))
        have hgetq : vs[o.toNat]? = some (.ref qa) := by rw [hvse, ← l1]; simp
        have hok : 0 ≤ o ∧ o < 1000 := by omega
        have hol : (ws' ++ [Value.int o to]).length = st.wait.length := hwl
        have hwl3 : ws'.length < 900 := by rw [List.length_append, List.length_singleton] at hol; omega
        have hnd0 := hnd
        have hnil2 : w' ++ [o] = [] ∨ w' ++ [o] ≠ [] := Decidable.em _
        have hne2 : w' ++ [o] ≠ [] := by simp
        rw [List.map_append, List.map_cons, List.nodup_append] at hnd
        obtain ⟨nd1, nd2, nd3⟩ := hnd
        rw [List.nodup_cons] at nd2
        obtain ⟨nd2, nd4⟩ := nd2
        have k1 : ∀ p ∈ its1, p.1 ≠ qa := fun p hp => nd3 _ (List.mem_map_of_mem hp) _ (.head _)
        have k2 : ∀ p ∈ its2, p.1 ≠ qa := fun p hp e => by
          have q := List.mem_map_of_mem (f := (·.1)) hp
          rw [e] at q
          exact nd2 q
        obtain ⟨led, hled⟩ : ∃ led, led = (its1 ++ its2) ++ news ++ own := ⟨_, rfl⟩
        have m1 : ∀ p ∈ its1 ++ its2, p ∈ led := fun p hp => hled ▸ List.mem_append_left _ (List.mem_append_left _ hp)
        have m2 : ∀ p ∈ news, p ∈ led := fun p hp => hled ▸ List.mem_append_left _ (List.mem_append_right _ hp)
        have m3 : ∀ p ∈ own, p ∈ led := fun p hp => hled ▸ List.mem_append_right _ hp
        have s12 : ∀ p ∈ its1 ++ its2, p ∈ its1 ++ (qa, listOf #[.str it0.kind u0, .int it0.place u1, .int it0.stop u2, .int it0.rest u3, .int it0.other u4] nq) :: its2 := fun p hp => (List.mem_append.mp hp).elim (fun h => List.mem_append_left _ h) (fun h => List.mem_append_right _ (.tail _ h))
        have nr : ∀ p ∈ led, p.1 ≠ r9 := by
          intro p hp
          rw [hled] at hp
          refine neN ?_
          rcases List.mem_append.mp hp with hp | hp
          · rcases List.mem_append.mp hp with hp | hp
            · have q := ltN (hits1 p (s12 p hp)); omega
            · have q := ltN (hr1 p hp); omega
          · rcases hfp p hp with q | q <;> (have q1 : @Eq Nat p.1 _ := q; omega)
        have nw : ∀ p ∈ led, p.1 ≠ wt9 := by
          intro p hp
          rw [hled] at hp
          refine neN ?_
          rcases List.mem_append.mp hp with hp | hp
          · rcases List.mem_append.mp hp with hp | hp
            · have q := ltN (hits1 p (s12 p hp)); omega
            · have q := ltN (hr1 p hp); omega
          · rcases hfp p hp with q | q <;> (have q1 : @Eq Nat p.1 _ := q; omega)
        have nqa : ∀ p ∈ led, p.1 ≠ qa := by
          intro p hp
          rw [hled] at hp
          rcases List.mem_append.mp hp with hp | hp
          · rcases List.mem_append.mp hp with hp | hp
            · rcases List.mem_append.mp hp with hp | hp
              · exact k1 p hp
              · exact k2 p hp
            · refine neN ?_
              have q := ltN (hr1 p hp); omega
          · refine neN ?_
            rcases hfp p hp with q | q <;> (have q1 : @Eq Nat p.1 _ := q; omega)
        have N₂ : News g9 L9 h₁ ((r9, listOf (List.toArray vs) n) :: (wt9, listOf (List.toArray (ws' ++ [Value.int o to])) k) :: (qa, listOf #[.str it0.kind u0, .int it0.place u1, .int it0.stop u2, .int it0.rest u3, .int it0.other u4] nq) :: led) := cb_drop N₁ (fun p hp => by
          rcases List.mem_cons.mp hp with rfl | hp
          · exact List.mem_append_left _ (.head _)
          · rcases List.mem_cons.mp hp with rfl | hp
            · exact List.mem_append_left _ (.tail _ (.head _))
            · rcases List.mem_cons.mp hp with rfl | hp
              · exact List.mem_append_left _ (.tail _ (.tail _ (List.mem_append_left _ (by simp))))
              · rw [hled] at hp
                rcases List.mem_append.mp hp with hp | hp
                · rcases List.mem_append.mp hp with hp | hp
                  · exact List.mem_append_left _ (.tail _ (.tail _ (List.mem_append_left _ (s12 p hp))))
                  · exact List.mem_append_left _ (.tail _ (.tail _ (List.mem_append_right _ hp)))
                · exact List.mem_append_right _ hp)
        clear N₁
        repeat' (first | (with_reducible exact absurd (by assumption) h4) | (with_reducible exact absurd h1a (by assumption)) | (with_reducible exact absurd (by assumption) hne2) | (k_unfold; (try dsimp only)) | (k_end; wrow_close) | walk1 | (dsimp only; walk1) | (leave1; walk_say "STEP leave1"; try dsimp only) | fail "no step")
        have hso : setOther st.rows o (st.rows.length : Int) = rows1 ++ { it0 with other := (st.rows.length : Int) } :: rows2 := by
          generalize (st.rows.length : Int) = z
          rw [hre]; exact setOther_eq l2
        have hrl2 : (rows1 ++ { it0 with other := (st.rows.length : Int) } :: rows2).length = st.rows.length := by
          generalize (st.rows.length : Int) = z
          rw [hre]; simp
        rw [step_end h4 h1a hwo, hso]
        refine' row_push2 (its1 := its1) (its2 := its2) (q := qa) ?F ?N ?rep ?it hws' hnd0 ?d ?dq hits1 hIr ?r ?d2 hits2 ?nw ?mr ?mw ?mi ?mq ?md ?mn ?mo ?e1 ?e2 ?e3 ?bd ?wl
        case F => k_asm
        case N => k_asm
        case mr => k_mem
        case mw => k_mem
        case mq => k_mem
        case rep => exact hset _ _ ⟨_, _, _, _, _, _, rfl⟩
        case mi => exact fun p hp => by have q := m1 p hp; k_mem
        case mn => exact fun p hp => by have q := m2 p hp; k_mem
        case mo => exact fun p hp => by have q := m3 p hp; k_mem
        case md => k_mem
        case e2 => rfl
        case e3 => rfl
        case nw => exact fun p hp => hI p (.tail _ (.tail _ hp))
        case r => omega
        case it => exact ⟨_, _, _, _, _, _, rfl⟩
        case d => exact fun p hp => (by k_extra "mine below" : ∀ p ∈ led, p.1 < _) p (m1 p hp)
        case dq => (refine ltN ?_; omega)
        case d2 => exact hoI.elim fun oI hoI => (by k_extra "mine below" : ∀ p ∈ led, p.1 < _) _ (m3 _ hoI)
        case e1 => rfl
        case bd =>
          intro o' ho'
          have q := hbd o' (by rw [hwo]; exact List.mem_append_left _ ho')
          rw [hrl2]
          exact ⟨q.1, by omega⟩
        case wl =>
          rw [hrl2]
          have q : st.wait.length = w'.length + 1 := by rw [hwo]; simp
          omega
      · obtain ⟨led, hled⟩ : ∃ led, led = its ++ news ++ own := ⟨_, rfl⟩
        have m1 : ∀ p ∈ its, p ∈ led := fun p hp => hled ▸ List.mem_append_left _ (List.mem_append_left _ hp)
        have m2 : ∀ p ∈ news, p ∈ led := fun p hp => hled ▸ List.mem_append_left _ (List.mem_append_right _ hp)
        have m3 : ∀ p ∈ own, p ∈ led := fun p hp => hled ▸ List.mem_append_right _ hp
        have nr : ∀ p ∈ led, p.1 ≠ r9 := by
          intro p hp
          rw [hled] at hp
          refine neN ?_
          rcases List.mem_append.mp hp with hp | hp
          · rcases List.mem_append.mp hp with hp | hp
            · have q := ltN (hits1 p hp); omega
            · have q := ltN (hr1 p hp); omega
          · rcases hfp p hp with q | q <;> (have q1 : @Eq Nat p.1 _ := q; omega)
        have nw : ∀ p ∈ led, p.1 ≠ wt9 := by
          intro p hp
          rw [hled] at hp
          refine neN ?_
          rcases List.mem_append.mp hp with hp | hp
          · rcases List.mem_append.mp hp with hp | hp
            · have q := ltN (hits1 p hp); omega
            · have q := ltN (hr1 p hp); omega
          · rcases hfp p hp with q | q <;> (have q1 : @Eq Nat p.1 _ := q; omega)
        have N₂ : News g9 L9 h₁ ((r9, listOf (List.toArray vs) n) :: (wt9, listOf (List.toArray ws) k) :: led) := cb_drop N₁ (fun p hp => by
          rw [hled] at hp
          exact hp)
        clear N₁
        repeat' (first | (with_reducible exact absurd (by assumption) h4) | (exact absurd ⟨by assumption, by assumption⟩ h1) | (k_unfold; (try dsimp only)) | (k_end; wrow_close) | walk1 | (dsimp only; walk1) | (leave1; walk_say "STEP leave1"; try dsimp only) | fail "no step")
        all_goals
          rw [step_begin h4 h1]
          refine' row_push ?F ?N hits ?it (ints_snoc hws) hnd ?d hits1 hIr ?r ?d2 hits2 ?nw ?mr ?mw ?mi ?md ?mn ?mo ?e1 ?e2 ?e3 ?bd ?wl
          case F => k_asm
          case N => k_asm
          case mr => k_mem
          case mw => k_mem
          case mi => exact fun p hp => by have q := m1 p hp; k_mem
          case mn => exact fun p hp => by have q := m2 p hp; k_mem
          case mo => exact fun p hp => by have q := m3 p hp; k_mem
          case md => k_mem
          case e2 => rfl
          case e3 => rfl
          case nw => exact fun p hp => hI p (.tail _ (.tail _ hp))
          case r => omega
          case it => exact ⟨_, _, _, _, _, _, rfl⟩
          case d => exact fun p hp => (by k_extra "mine below" : ∀ p ∈ led, p.1 < _) p (m1 p hp)
          case d2 => exact hoI.elim fun oI hoI => (by k_extra "mine below" : ∀ p ∈ led, p.1 < _) _ (m3 _ hoI)
          case e1 => rfl
          case bd =>
            intro o ho
            rcases List.mem_append.mp ho with ho | ho
            · exact ⟨(hbd o ho).1, by have q := (hbd o ho).2; omega⟩
            · rw [List.mem_singleton.mp ho]; omega
          case wl => rw [List.length_append, List.length_singleton]; omega
  · intro h' tk m' news' F' N' hJ
    obtain ⟨⟨vs, n, ws, k, its, tp, rfl, hits, hws, hnd, hits1, hplace, hrow, hwait⟩, hbd, hwl1⟩ := hJ
    have hr1 : ∀ p ∈ news, p.1 < r9 := by assumption
    have hw1 : @LT.lt Nat _ r9 wt9 := hw9.1
    have hnl2 : nvs.length = xs.length := IntsAre.length hi
    have hrl := rowsOf_len (xs := xs) xs.length (Nat.le_refl _)
    rw [hnl2, List.take_length] at hits
    rw [List.take_length] at hrl
    replace F' := fr_name F' hrow
    clear lF9 lN9
    k_steps
    refine hret _ ((r9, listOf (List.toArray vs) n) :: its) _ _ (by assumption) (cb_drop (by assumption) ?_) ?_ ⟨r9, rfl, ⟨⟨vs.toArray, n, .head _, ?_, ?_⟩, ?_⟩⟩
    · intro p hp
      rcases List.mem_append.mp hp with hp | hp
      · rcases List.mem_cons.mp hp with rfl | hp
        · exact .head _
        · exact .tail _ (.tail _ (List.mem_append_left _ hp))
      · exact .tail _ (.tail _ (List.mem_append_right _ hp))
    · intro q hq p hp
      have hq1 := ltN (hr1 q hq)
      rcases List.mem_cons.mp hp with rfl | hp
      · exact hq1
      · have hp1 := ltN (hits1 p hp)
        refine ltN ?_
        omega
    · rw [List.size_toArray]; exact hits.len
    · intro i it hit
      obtain ⟨v, hv, hin⟩ := hits.get (led := (r9, listOf (List.toArray vs) n) :: its) (fun p hp => .tail _ hp) i it hit
      exact ⟨v, by simpa using hv, hin⟩
    · rw [hrl]; omega
end Mine
namespace Mine
theorem laid42 : True := by
  w_top off
  trivial
def nums (script : List Int) : List Int := List.map (fun k' => k'.fmod (10 ^ Int.toNat 30)) (List.take 6 script) ++ [85, 617283945060, 77, 15024, 52]
theorem nums_len (script : List Int) : (nums script).length ≤ 11 := by
  unfold nums
  rw [List.length_append, List.length_map, List.length_take]
  simp only [List.length_cons, List.length_nil]
  omega
theorem row_short (script : List Int) : (rowsOf (nums script)).rows.length ≤ 11 := by
  have h := rowsOf_len (xs := nums script) _ (Nat.le_refl _)
  rw [List.take_length] at h
  rw [h]; exact nums_len _
/-- what _law_group tells: the place told, the fault, much, between -/
def grpOf (rows : List It) (ib : It) : Int × Int × Int × Int :=
  if ib.other < 0 then (ib.place, 0, 0, 0)
  else match rowAt rows ib.other with
    | some il => (if il.rest.fmod 10 = 5 then ib.place - 1 - ((il.rest.fdiv 10).fmod 1000).fmod 3 else ib.place, il.rest.fmod 10, (il.rest.fdiv 10).fmod 1000, il.place - ib.stop)
    | none => (0, 0, 0, 0)
def pieceAt (rows : List It) (it : It) : Option (Int × List UInt8) :=
  if it.kind = Str.ofString "begin" then some (it.place, recB it (grpOf rows it).1 (grpOf rows it).2.1 (grpOf rows it).2.2.1 (grpOf rows it).2.2.2)
  else if it.kind = Str.ofString "end" then (rowAt rows it.other).map fun ib => (it.place, endB it (grpOf rows ib).1 (grpOf rows ib).2.1 (grpOf rows ib).2.2.1)
  else none
def pcsTo (rows : List It) (i : Nat) : List (Int × List UInt8) := (rows.take i).filterMap (pieceAt rows)
def outOf : Out → Str × List Fld
  | .ret fs => (Str.ofString "", fs)
  | .exc t => (t, rec0)
def lastStop (rows : List It) : Int := (rows.getLast?.map (·.stop)).getD 0
structure GrpOk (rows : List It) (ib : It) : Prop where
  is : GroupIs rows ib (grpOf rows ib).1 (grpOf rows ib).2.1 (grpOf rows ib).2.2.1 (grpOf rows ib).2.2.2
  t0 : 0 ≤ (grpOf rows ib).1
  t1 : (grpOf rows ib).1 < 2 ^ 60
  m0 : 0 ≤ (grpOf rows ib).2.2.1
  m1 : (grpOf rows ib).2.2.1 < 1000
  b0 : 0 ≤ (grpOf rows ib).2.2.2
  b1 : (grpOf rows ib).2.2.2 < 2 ^ 60
/-- all that the walk of law asks of the rows -/
structure Good (rows : List It) : Prop where
  beg : ∀ (i : Nat) (it : It), rows[i]? = some it → it.kind = Str.ofString "begin" → GrpOk rows it
  fin : ∀ (i : Nat) (it : It), rows[i]? = some it → it.kind = Str.ofString "end" → 63 ≤ it.place ∧ it.place < 2 ^ 60 ∧ ∃ ib, rowAt rows it.other = some ib ∧ GrpOk rows ib ∧
    outOf (endRecF (readF (pcsTo rows rows.length)) it.stop) = dueF ib (grpOf rows ib).1 (grpOf rows ib).2.1 (grpOf rows ib).2.2.2
  oth : ∀ (i : Nat) (it : It), rows[i]? = some it → it.kind ≠ Str.ofString "end" → endRecF (readF (pcsTo rows rows.length)) it.stop = .ret rec0
  stop : ∀ (i : Nat) (it : It), rows[i]? = some it → 20 ≤ it.stop ∧ it.stop ≤ lastStop rows
  last : lastStop rows < 2 ^ 60
  pcs : ∀ q ∈ pcsTo rows rows.length, 0 ≤ q.1 ∧ q.1 < 2 ^ 60 ∧ q.2.length < 1000
theorem pcs_succ {rows : List It} {i : Nat} {it : It} (h : rows[i]? = some it) : pcsTo rows (i + 1) = pcsTo rows i ++ (pieceAt rows it).toList := by
  unfold pcsTo
  rw [List.take_add_one, h, List.filterMap_append]
  cases e : pieceAt rows it <;> simp [e]
end Mine
namespace Mine
theorem laid43 : True := by
  w_top off
  trivial
/-! The plain law, no program in sight: octets, reading, the rows' invariant. -/
theorem octs_succ (x : Int) (c : Nat) : octs x (c + 1) = (x % 256).toNat.toUInt8 :: octs (x / 256) c := by
  unfold octs
  rw [List.range_succ_eq_map, List.map_cons, List.map_map]
  congr 1
  · rw [Nat.mul_zero, Int.pow_zero, Int.ediv_one]
  · refine List.map_congr_left fun k _ => ?_
    show (x / 2 ^ (8 * (k + 1)) % 256).toNat.toUInt8 = (x / 256 / 2 ^ (8 * k) % 256).toNat.toUInt8
    rw [Nat.mul_succ, Nat.add_comm, Int.pow_add, Int.ediv_ediv_of_nonneg (by decide)]
    rfl
theorem leL_cons (b : UInt8) (l : List UInt8) : leL (b :: l) = leL l * 256 + (b.toNat : Int) := by
  unfold leL le Builtin.Struct.natOf Builtin.Memoryview.littleEndian
  simp
theorem leL_nil : leL [] = 0 := rfl
theorem u8_val {x : Int} (h : 0 ≤ x) (h' : x < 256) : ((x.toNat.toUInt8).toNat : Int) = x := by
  have : x.toNat.toUInt8.toNat = x.toNat % 256 := by simp [Nat.toUInt8]
  rw [this]; omega
theorem leL_octs : ∀ (c : Nat) (x : Int), 0 ≤ x → x < 256 ^ c → leL (octs x c) = x
  | 0, x, h, h' => by
    rw [Int.pow_zero] at h'
    have : x = 0 := by omega
    subst this; rfl
  | c + 1, x, h, h' => by
    rw [octs_succ, leL_cons, leL_octs c (x / 256) (by omega) (by rw [Int.pow_succ] at h'; omega), u8_val (by omega) (by omega)]
    omega
theorem u8_zero {x : Int} (h : x % 256 = 0) : (x % 256).toNat.toUInt8 = 0 := by rw [h]; rfl
/-! reading: the octet at a place -/
def oct (q : Int × List UInt8) (p : Int) : UInt8 := q.2.getD (p - q.1).toNat 0
abbrev Cov (q : Int × List UInt8) (p : Int) : Prop := q.1 ≤ p ∧ p < q.1 + q.2.length
def stepB (p : Int) (a : UInt8) (q : Int × List UInt8) : UInt8 := if q.1 ≤ p ∧ p < q.1 + q.2.length then oct q p else a
def byteAt (pcs : List (Int × List UInt8)) (p : Int) : UInt8 := pcs.foldl (stepB p) 0
theorem over_get {told : List UInt8} {q : Int × List UInt8} {off c : Int} {j : Nat} {a : UInt8} (hc : 0 ≤ c) (hl : told.length = c.toNat) (hj : j < c.toNat) (ha : told[j]? = some a) : (overF off (off + c) told q)[j]? = some (stepB (off + j) a q) := by
  obtain ⟨p, bs⟩ := q
  unfold overF stepB oct
  dsimp only
  by_cases h : p < off + c ∧ off < p + bs.length
  · rw [if_pos h]
    obtain ⟨A, H, D, e1, e2, e3, e4, h3, h4, h5, h6, h7, h8⟩ := over_num hc h.1 h.2
    clear h
    rw [e1, e2, e3, e4]
    obtain ⟨N, rfl⟩ : ∃ N : Nat, c = N := ⟨c.toNat, (Int.toNat_of_nonneg hc).symm⟩
    obtain ⟨k, rfl⟩ : ∃ k, H = A + k := ⟨H - A, (Nat.add_sub_cancel' h3).symm⟩
    clear hc e1 e2 e3 e4 h3
    rw [Int.toNat_natCast] at hl hj
    rw [Nat.add_sub_cancel_left] at h6 ⊢
    have hk : A + k ≤ N := Int.ofNat_le.mp h4
    have hDk : D + k ≤ bs.length := by clear h7 h8; omega
    have l1 : (told.take A).length = A := by rw [List.length_take, hl]; exact Nat.min_eq_left (Nat.le_trans (Nat.le_add_right _ _) hk)
    have l2 : ((bs.take (D + k)).drop D).length = k := by rw [List.length_drop, List.length_take, Nat.min_eq_left hDk, Nat.add_sub_cancel_left]
    rcases Nat.lt_or_ge j A with q1 | q1
    · rw [List.append_assoc, List.getElem?_append_left (by rw [l1]; exact q1), List.getElem?_take_of_lt q1, ha, if_neg]
      rintro ⟨c1, _⟩
      clear h8
      omega
    · obtain ⟨i, rfl⟩ : ∃ i, j = A + i := ⟨j - A, (Nat.add_sub_cancel' q1).symm⟩
      rw [List.append_assoc, List.getElem?_append_right (by rw [l1]; exact q1), l1, Nat.add_sub_cancel_left]
      rcases Nat.lt_or_ge i k with q2 | q2
      · have e : (off + ((A + i : Nat) : Int) - p).toNat = D + i := by clear h7 h8; omega
        rw [List.getElem?_append_left (by rw [l2]; exact q2), List.getElem?_drop, List.getElem?_take_of_lt (Nat.add_lt_add_left q2 D), if_pos (by clear h7 h8; omega), e, List.getD_eq_getElem?_getD, List.getElem?_eq_getElem (Nat.lt_of_lt_of_le (Nat.add_lt_add_left q2 D) hDk)]
        rfl
      · obtain ⟨m, rfl⟩ : ∃ m, i = k + m := ⟨i - k, (Nat.add_sub_cancel' q2).symm⟩
        rw [List.getElem?_append_right (by rw [l2]; exact q2), l2, Nat.add_sub_cancel_left, List.getElem?_drop, if_neg]
        · rw [Nat.add_assoc, ha]
        · rintro ⟨_, c2⟩
          clear h7
          omega
  · rw [if_neg h, ha, if_neg]
    rintro ⟨c1, c2⟩
    exact h (by clear h; omega)
theorem fold_get {off c : Int} {j : Nat} (hc : 0 ≤ c) (hj : j < c.toNat) : ∀ (pcs : List (Int × List UInt8)) (told : List UInt8) (a : UInt8), told.length = c.toNat → told[j]? = some a → (pcs.foldl (overF off (off + c)) told)[j]? = some (pcs.foldl (stepB (off + j)) a)
  | [], _, _, _, h => h
  | q :: r, told, a, hl, ha => fold_get hc hj r _ _ (by have := over_len (told := told) (q := q) (off := off) (stop := off + c) (by omega) (by omega); omega) (over_get hc hl hj ha)
theorem readF_get {pcs : List (Int × List UInt8)} {off c : Int} {j : Nat} (hc : 0 ≤ c) (hj : j < c.toNat) : (readF pcs off c)[j]? = some (byteAt pcs (off + j)) := by
  unfold readF byteAt
  exact fold_get hc hj pcs _ 0 (by rw [List.length_replicate]) (by rw [List.getElem?_replicate, if_pos hj])
theorem foldB_val {p : Int} {v : UInt8} : ∀ (pcs : List (Int × List UInt8)) (a : UInt8), (∀ q ∈ pcs, Cov q p → oct q p = v) → (a = v ∨ ∃ q ∈ pcs, Cov q p) → pcs.foldl (stepB p) a = v
  | [], a, _, h => h.elim id fun ⟨_, h, _⟩ => nomatch h
  | q :: r, a, h, h' => by
    refine foldB_val r (stepB p a q) (fun x hx => h x (.tail _ hx)) ?_
    unfold stepB
    by_cases c : Cov q p
    · rw [if_pos c]; exact .inl (h q (.head _) c)
    · rw [if_neg c]
      refine h'.imp id fun ⟨x, hx, cx⟩ => ?_
      rcases List.mem_cons.mp hx with rfl | hx
      · exact absurd cx c
      · exact ⟨x, hx, cx⟩
theorem byteAt_val {pcs : List (Int × List UInt8)} {p : Int} {v : UInt8} (h : ∀ q ∈ pcs, Cov q p → oct q p = v) (h' : v = 0 ∨ ∃ q ∈ pcs, Cov q p) : byteAt pcs p = v := foldB_val pcs 0 h (h'.imp Eq.symm id)
theorem byte_zero {pcs : List (Int × List UInt8)} {p : Int} (h : ∀ q ∈ pcs, ¬ Cov q p) : byteAt pcs p = 0 := byteAt_val (fun q hq c => absurd c (h q hq)) (.inl rfl)
end Mine
namespace Mine
theorem laid44 : True := by
  w_top off
  trivial
/-! The rows' invariant. -/
abbrev kB : Str := Str.ofString "begin"
abbrev kE : Str := Str.ofString "end"
abbrev kG : Str := Str.ofString "gap"
theorem kB_ne_kE : kB ≠ kE := by decide
theorem kG_ne_kE : kG ≠ kE := by decide
theorem kG_ne_kB : kG ≠ kB := by decide
theorem kE_ne_kB : kE ≠ kB := by decide
def LowIs (p : Int) (n : Nat) (lo : Int) : Prop := ∃ A B : Int, p = A * 4294967296 + B ∧ 0 ≤ A ∧ A ≤ 65535 * n ∧ lo ≤ B ∧ B ≤ 7 + 1020 * n
theorem LowIs.add {p : Int} {n : Nat} {lo lo' d : Int} (h : LowIs p n lo) (a b : Int) (hd : d = a * 4294967296 + b) (ha : 0 ≤ a) (ha' : a ≤ 65535) (hb' : b ≤ 1020) (hl : lo' ≤ lo + b) : LowIs (p + d) (n + 1) lo' := by
  obtain ⟨A, B, e, h1, h2, h3, h4⟩ := h
  refine ⟨A + a, B + b, by rw [e, hd, Int.add_mul]; omega, by omega, ?_, by omega, ?_⟩
  · omega
  · omega
theorem LowIs.weak {p : Int} {n : Nat} {lo lo' : Int} (h : LowIs p n lo) (hl : lo' ≤ lo) : LowIs p n lo' := by
  obtain ⟨A, B, e, h1, h2, h3, h4⟩ := h
  exact ⟨A, B, e, h1, h2, by omega, h4⟩
structure RInv (s : RS) : Prop where
  low : LowIs s.place s.rows.length 7
  low2 : s.wait ≠ [] → LowIs s.place s.rows.length 63
  rlow : ∀ (i : Nat) (it : It), s.rows[i]? = some it → LowIs it.place i 7
  rlow2 : ∀ (i : Nat) (it : It), s.rows[i]? = some it → it.kind = kE → LowIs it.place i 63
  size : ∀ (i : Nat) (it : It), s.rows[i]? = some it → (it.kind = kB ∧ it.stop = it.place + 56) ∨ (it.kind = kE ∧ it.stop = it.place + 20) ∨ (it.kind = kG ∧ it.place + 20 ≤ it.stop)
  next : ∀ (i : Nat) (it jt : It), s.rows[i]? = some it → s.rows[i+1]? = some jt → jt.place = it.stop
  last : ∀ (i : Nat) (it : It), s.rows[i]? = some it → i + 1 = s.rows.length → it.stop = s.place
  opn : ∀ (i : Nat) (it : It), s.rows[i]? = some it → it.kind = kB → it.other = -1 ∨ ∃ (e : Nat) (il : It), it.other = (e : Int) ∧ s.rows[e]? = some il ∧ il.kind = kE ∧ il.other = (i : Int) ∧ i < e
  cls : ∀ (i : Nat) (it : It), s.rows[i]? = some it → it.kind = kE → ∃ (o : Nat) (ib : It), it.other = (o : Int) ∧ s.rows[o]? = some ib ∧ ib.kind = kB ∧ ib.other = (i : Int) ∧ o < i ∧ (∀ (j : Nat) (jt : It), j + 1 = i → s.rows[j]? = some jt → jt.kind = kB → o = j)
  wt : ∀ o ∈ s.wait, ∃ (k : Nat) (ib : It), o = (k : Int) ∧ s.rows[k]? = some ib ∧ ib.kind = kB ∧ ib.other = -1
  nd : s.wait.Nodup
  top : ∀ (i : Nat) (it : It), s.rows[i]? = some it → i + 1 = s.rows.length → it.kind = kB → ∃ w', s.wait = w' ++ [(i:Int)]
theorem snoc_get {α : Type} {l : List α} {x y : α} {i : Nat} (h : (l ++ [x])[i]? = some y) : (i < l.length ∧ l[i]? = some y) ∨ (i = l.length ∧ y = x) := by
  rcases Nat.lt_or_ge i l.length with q | q
  · rw [List.getElem?_append_left q] at h
    exact .inl ⟨q, h⟩
  · rw [List.getElem?_append_right q] at h
    have e : i - l.length = 0 := by
      rcases Nat.eq_zero_or_pos (i - l.length) with z | z
      · exact z
      · rw [List.getElem?_eq_none (by rw [List.length_singleton]; exact z)] at h; cases h
    rw [e] at h
    cases h
    exact .inr ⟨by omega, rfl⟩
theorem snoc_old {α : Type} {l : List α} {x y : α} {i : Nat} (h : l[i]? = some y) : (l ++ [x])[i]? = some y := by
  have q : i < l.length := by
    rcases Nat.lt_or_ge i l.length with q | q
    · exact q
    · rw [List.getElem?_eq_none q] at h; cases h
  rw [List.getElem?_append_left q]; exact h
theorem get_lt {α : Type} {l : List α} {y : α} {i : Nat} (h : l[i]? = some y) : i < l.length := by
  rcases Nat.lt_or_ge i l.length with q | q
  · exact q
  · rw [List.getElem?_eq_none q] at h; cases h
theorem inv0 : RInv ⟨[], [], 7⟩ where
  low := ⟨0, 7, rfl, by decide, by decide, by decide, by decide⟩
  low2 := fun h => absurd rfl h
  rlow := fun i it h => by simp at h
  rlow2 := fun i it h => by simp at h
  size := fun i it h => by simp at h
  next := fun i it jt h => by simp at h
  last := fun i it h => by simp at h
  opn := fun i it h => by simp at h
  cls := fun i it h => by simp at h
  wt := fun o h => nomatch h
  nd := List.nodup_nil
  top := fun i it h => by simp at h
theorem inv_gap {s : RS} (R : RInv s) (y : Int) : RInv ⟨s.rows ++ [⟨kG, s.place, s.place + gapSize y, y, -1⟩], s.wait, s.place + gapSize y⟩ := by
  have hg : gapSize y = (y / 1000 % 65536) * 4294967296 + (20 + y % 1000) := by unfold gapSize; omega
  have hg20 : 20 ≤ gapSize y := by rw [hg]; omega
  have hlen : (s.rows ++ [(⟨kG, s.place, s.place + gapSize y, y, -1⟩ : It)]).length = s.rows.length + 1 := by rw [List.length_append]; rfl
  constructor
  · dsimp only; rw [hlen]; exact R.low.add _ _ hg (by omega) (by omega) (by omega) (by omega)
  · intro h; dsimp only; rw [hlen]; exact (R.low2 h).add _ _ hg (by omega) (by omega) (by omega) (by omega)
  · intro i it h
    rcases snoc_get h with ⟨_, h⟩ | ⟨rfl, rfl⟩
    · exact R.rlow i it h
    · exact R.low
  · intro i it h hk
    rcases snoc_get h with ⟨_, h⟩ | ⟨rfl, rfl⟩
    · exact R.rlow2 i it h hk
    · exact absurd hk kG_ne_kE
  · intro i it h
    rcases snoc_get h with ⟨_, h⟩ | ⟨rfl, rfl⟩
    · exact R.size i it h
    · exact .inr (.inr ⟨rfl, by dsimp only; omega⟩)
  · intro i it jt h h'
    rcases snoc_get h' with ⟨_, h'⟩ | ⟨e, rfl⟩
    · rcases snoc_get h with ⟨_, h⟩ | ⟨e, rfl⟩
      · exact R.next i it jt h h'
      · omega
    · rcases snoc_get h with ⟨_, h⟩ | ⟨e', rfl⟩
      · exact (R.last i it h e).symm
      · omega
  · intro i it h e
    rw [hlen] at e
    rcases snoc_get h with ⟨_, h⟩ | ⟨e', rfl⟩
    · omega
    · rfl
  · intro i it h hk
    rcases snoc_get h with ⟨_, h⟩ | ⟨rfl, rfl⟩
    · refine (R.opn i it h hk).imp id fun ⟨e, il, a, b, c⟩ => ⟨e, il, a, snoc_old b, c⟩
    · exact absurd hk kG_ne_kB
  · intro i it h hk
    rcases snoc_get h with ⟨hi, h⟩ | ⟨rfl, rfl⟩
    · obtain ⟨o, ib, a, b, c, d, e, f⟩ := R.cls i it h hk
      refine ⟨o, ib, a, snoc_old b, c, d, e, fun j jt hj hjt => ?_⟩
      rcases snoc_get hjt with ⟨_, hjt⟩ | ⟨e', rfl⟩
      · exact f j jt hj hjt
      · omega
    · exact absurd hk kG_ne_kE
  · intro o ho
    obtain ⟨k, ib, a, b, c⟩ := R.wt o ho
    exact ⟨k, ib, a, snoc_old b, c⟩
  · exact R.nd
  · intro i it h e hk
    rw [hlen] at e
    rcases snoc_get h with ⟨_, h⟩ | ⟨e', rfl⟩
    · omega
    · exact absurd hk kG_ne_kB
theorem inv_begin {s : RS} (R : RInv s) (y : Int) : RInv ⟨s.rows ++ [⟨kB, s.place, s.place + 56, y, -1⟩], s.wait ++ [(s.rows.length : Int)], s.place + 56⟩ := by
  have hlen : (s.rows ++ [(⟨kB, s.place, s.place + 56, y, -1⟩ : It)]).length = s.rows.length + 1 := by rw [List.length_append]; rfl
  constructor
  · dsimp only; rw [hlen]; exact R.low.add 0 56 rfl (by omega) (by omega) (by omega) (by omega)
  · intro h; dsimp only; rw [hlen]; exact R.low.add 0 56 rfl (by omega) (by omega) (by omega) (by omega)
  · intro i it h
    rcases snoc_get h with ⟨_, h⟩ | ⟨rfl, rfl⟩
    · exact R.rlow i it h
    · exact R.low
  · intro i it h hk
    rcases snoc_get h with ⟨_, h⟩ | ⟨rfl, rfl⟩
    · exact R.rlow2 i it h hk
    · exact absurd hk kB_ne_kE
  · intro i it h
    rcases snoc_get h with ⟨_, h⟩ | ⟨rfl, rfl⟩
    · exact R.size i it h
    · exact .inl ⟨rfl, rfl⟩
  · intro i it jt h h'
    rcases snoc_get h' with ⟨_, h'⟩ | ⟨e, rfl⟩
    · rcases snoc_get h with ⟨_, h⟩ | ⟨e, rfl⟩
      · exact R.next i it jt h h'
      · omega
    · rcases snoc_get h with ⟨_, h⟩ | ⟨e', rfl⟩
      · exact (R.last i it h e).symm
      · omega
  · intro i it h e
    rw [hlen] at e
    rcases snoc_get h with ⟨_, h⟩ | ⟨e', rfl⟩
    · omega
    · rfl
  · intro i it h hk
    rcases snoc_get h with ⟨_, h⟩ | ⟨rfl, rfl⟩
    · refine (R.opn i it h hk).imp id fun ⟨e, il, a, b, c⟩ => ⟨e, il, a, snoc_old b, c⟩
    · exact .inl rfl
  · intro i it h hk
    rcases snoc_get h with ⟨hi, h⟩ | ⟨rfl, rfl⟩
    · obtain ⟨o, ib, a, b, c, d, e, f⟩ := R.cls i it h hk
      refine ⟨o, ib, a, snoc_old b, c, d, e, fun j jt hj hjt => ?_⟩
      rcases snoc_get hjt with ⟨_, hjt⟩ | ⟨e', rfl⟩
      · exact f j jt hj hjt
      · omega
    · exact absurd hk kB_ne_kE
  · intro o ho
    rcases List.mem_append.mp ho with ho | ho
    · obtain ⟨k, ib, a, b, c⟩ := R.wt o ho
      exact ⟨k, ib, a, snoc_old b, c⟩
    · rw [List.mem_singleton.mp ho]
      exact ⟨_, _, rfl, by rw [List.getElem?_append_right (Nat.le_refl _), Nat.sub_self]; rfl, rfl, rfl⟩
  · refine List.nodup_append.mpr ⟨R.nd, by simp, ?_⟩
    intro a ha b hb e
    rw [List.mem_singleton.mp hb] at e
    obtain ⟨k, ib, h1, h2, _⟩ := R.wt a ha
    have := get_lt h2
    omega
  · intro i it h e hk
    rw [hlen] at e
    have : i = s.rows.length := by omega
    subst this
    exact ⟨_, rfl⟩
theorem set_get {rows : List It} {o : Nat} {n : Int} {i : Nat} {it : It} (h : (setOther rows (o : Int) n)[i]? = some it) : ∃ jt, rows[i]? = some jt ∧ it.kind = jt.kind ∧ it.place = jt.place ∧ it.stop = jt.stop ∧ it.rest = jt.rest ∧ (o = i ∧ it.other = n ∨ o ≠ i ∧ it.other = jt.other) := by
  unfold setOther at h
  rw [Int.toNat_natCast, List.getElem?_modify] at h
  cases hj : rows[i]? with
  | none => rw [hj] at h; simp at h
  | some jt =>
    rw [hj] at h
    replace h := Option.some.inj h
    refine ⟨jt, rfl, ?_⟩
    dsimp only at h
    by_cases e : o = i
    · rw [if_pos e] at h
      subst h
      exact ⟨rfl, rfl, rfl, rfl, .inl ⟨e, rfl⟩⟩
    · rw [if_neg e] at h
      subst h
      exact ⟨rfl, rfl, rfl, rfl, .inr ⟨e, rfl⟩⟩
theorem set_put {rows : List It} {o : Nat} {n : Int} {i : Nat} {jt : It} (h : rows[i]? = some jt) : ∃ it, (setOther rows (o : Int) n)[i]? = some it ∧ it.kind = jt.kind ∧ it.place = jt.place ∧ it.stop = jt.stop ∧ it.rest = jt.rest ∧ (o = i → it.other = n) ∧ (o ≠ i → it.other = jt.other) := by
  unfold setOther
  rw [Int.toNat_natCast, List.getElem?_modify, h]
  refine ⟨_, rfl, ?_⟩
  dsimp only
  by_cases e : o = i
  · rw [if_pos e]; exact ⟨rfl, rfl, rfl, rfl, fun _ => rfl, fun h => absurd e h⟩
  · rw [if_neg e]; exact ⟨rfl, rfl, rfl, rfl, fun h => absurd h e, fun _ => rfl⟩
theorem set_len {rows : List It} {o n : Int} : (setOther rows o n).length = rows.length := by unfold setOther; simp
theorem inv_end {s : RS} (R : RInv s) (y : Int) {w' : List Int} {o : Int} (hw : s.wait = w' ++ [o]) : RInv ⟨setOther s.rows o s.rows.length ++ [⟨kE, s.place, s.place + 20, y, o⟩], w', s.place + 20⟩ := by
  have hom : o ∈ s.wait := by rw [hw]; exact List.mem_append_right _ (.head _)
  have hwne : s.wait ≠ [] := fun q => by rw [q] at hom; cases hom
  obtain ⟨k, ob, rfl, hob, hobk, hobo⟩ := R.wt o hom
  have hk : k < s.rows.length := get_lt hob
  have hnd : ∀ x ∈ w', x ≠ (k : Int) := by
    have q := R.nd
    rw [hw] at q
    exact fun x hx => (List.nodup_append.mp q).2.2 x hx _ (.head _)
  have hlen : (setOther s.rows k s.rows.length ++ [(⟨kE, s.place, s.place + 20, y, k⟩ : It)]).length = s.rows.length + 1 := by rw [List.length_append, set_len]; rfl
  constructor
  · dsimp only; rw [hlen]; exact R.low.add 0 20 rfl (by omega) (by omega) (by omega) (by omega)
  · intro h; dsimp only; rw [hlen]; exact (R.low2 hwne).add 0 20 rfl (by omega) (by omega) (by omega) (by omega)
  · intro i it h
    rcases snoc_get h with ⟨_, h⟩ | ⟨rfl, rfl⟩
    · obtain ⟨jt, hj, e1, e2, _⟩ := set_get h
      rw [e2]; exact R.rlow i jt hj
    · rw [set_len]; exact R.low
  · intro i it h hk
    rcases snoc_get h with ⟨_, h⟩ | ⟨rfl, rfl⟩
    · obtain ⟨jt, hj, e1, e2, _⟩ := set_get h
      rw [e2]; exact R.rlow2 i jt hj (e1 ▸ hk)
    · rw [set_len]; exact R.low2 hwne
  · intro i it h
    rcases snoc_get h with ⟨_, h⟩ | ⟨rfl, rfl⟩
    · obtain ⟨jt, hj, e1, e2, e3, _⟩ := set_get h
      rw [e1, e2, e3]; exact R.size i jt hj
    · exact .inr (.inl ⟨rfl, rfl⟩)
  · intro i it jt h h'
    rcases snoc_get h with ⟨_, h⟩ | ⟨e, rfl⟩
    · obtain ⟨it', hi, a1, a2, a3, _⟩ := set_get h
      rcases snoc_get h' with ⟨_, h'⟩ | ⟨e, rfl⟩
      · obtain ⟨jt', hj, b1, b2, b3, _⟩ := set_get h'
        rw [b2, a3]
        exact R.next i it' jt' hi hj
      · rw [set_len] at e
        rw [a3]
        exact (R.last i it' hi e).symm
    · have := get_lt h'
      rw [hlen] at this
      rw [set_len] at e
      omega
  · intro i it h e
    rw [hlen] at e
    rcases snoc_get h with ⟨hi, h⟩ | ⟨e', rfl⟩
    · rw [set_len] at hi; omega
    · rfl
  · intro i it h hkb
    rcases snoc_get h with ⟨_, h⟩ | ⟨rfl, rfl⟩
    · obtain ⟨it', hi, a1, a2, a3, a4, ha⟩ := set_get h
      rcases ha with ⟨rfl, ha⟩ | ⟨hne, ha⟩
      · refine .inr ⟨s.rows.length, _, ha, by rw [List.getElem?_append_right (by rw [set_len]; exact Nat.le_refl _), set_len, Nat.sub_self]; rfl, rfl, rfl, hk⟩
      · rcases R.opn i it' hi (a1 ▸ hkb) with q | ⟨e, il, b1, b2, b3, b4, b5⟩
        · exact .inl (ha.trans q)
        · obtain ⟨il', c1, c2, c3, c4, c5, c6, c7⟩ := set_put (o := k) (n := s.rows.length) b2
          have hek : k ≠ e := fun q => by
            subst q
            rw [hob] at b2
            cases b2
            rw [hobk] at b3
            exact kB_ne_kE b3
          exact .inr ⟨e, il', ha.trans b1, snoc_old c1, c2.trans b3, (c7 hek).trans b4, b5⟩
    · exact absurd hkb kE_ne_kB
  · intro i it h hke
    rcases snoc_get h with ⟨hi', h⟩ | ⟨rfl, rfl⟩
    · obtain ⟨it', hi, a1, a2, a3, a4, ha⟩ := set_get h
      have hki : k ≠ i := fun q => by
        subst q
        rw [hob] at hi
        cases hi
        rw [a1, hobk] at hke
        exact kB_ne_kE hke
      have ha' : it.other = it'.other := ha.elim (fun q => absurd q.1 hki) (fun q => q.2)
      obtain ⟨o, ib, b1, b2, b3, b4, b5, b6⟩ := R.cls i it' hi (a1 ▸ hke)
      obtain ⟨ib', c1, c2, c3, c4, c5, c6, c7⟩ := set_put (o := k) (n := s.rows.length) b2
      have hko : k ≠ o := fun q => by
        subst q
        rw [hob] at b2
        cases b2
        rw [hobo] at b4
        omega
      refine ⟨o, ib', ha'.trans b1, snoc_old c1, c2.trans b3, (c7 hko).trans b4, b5, fun j jt hj hjt hjk => ?_⟩
      rcases snoc_get hjt with ⟨_, hjt⟩ | ⟨e, rfl⟩
      · obtain ⟨jt', d1, d2, _⟩ := set_get hjt
        exact b6 j jt' hj d1 (d2 ▸ hjk)
      · exact absurd hjk kE_ne_kB
    · obtain ⟨ob', c1, c2, c3, c4, c5, c6, c7⟩ := set_put (o := k) (n := s.rows.length) hob
      refine ⟨k, ob', rfl, snoc_old c1, c2.trans hobk, by rw [set_len]; exact c6 rfl, by rw [set_len]; exact hk, fun j jt hj hjt hjk => ?_⟩
      rw [set_len] at hj
      rcases snoc_get hjt with ⟨_, hjt⟩ | ⟨e, rfl⟩
      · obtain ⟨jt', d1, d2, _⟩ := set_get hjt
        obtain ⟨w2, hw2⟩ := R.top j jt' d1 hj (d2 ▸ hjk)
        rw [hw] at hw2
        have := (List.append_inj' hw2 rfl).2
        simp at this
        omega
      · exact absurd hjk kE_ne_kB
  · intro x hx
    obtain ⟨j, ib, a, b, c, d⟩ := R.wt x (by rw [hw]; exact List.mem_append_left _ hx)
    obtain ⟨ib', c1, c2, c3, c4, c5, c6, c7⟩ := set_put (o := k) (n := s.rows.length) b
    have hkj : k ≠ j := fun q => hnd x hx (by rw [a, q])
    exact ⟨j, ib', a, snoc_old c1, c2.trans c, (c7 hkj).trans d⟩
  · have q := R.nd
    rw [hw] at q
    exact (List.nodup_append.mp q).1
  · intro i it h e hkb
    rw [hlen] at e
    rcases snoc_get h with ⟨hi, h⟩ | ⟨e', rfl⟩
    · rw [set_len] at hi; omega
    · exact absurd hkb kE_ne_kB
theorem inv_step {s : RS} (R : RInv s) (x : Int) : RInv (stepR s x) := by
  unfold stepR
  split
  · exact inv_gap R _
  · split
    · rename_i h
      obtain ⟨h1, h2⟩ := h
      have e : s.wait = s.wait.dropLast ++ [s.wait.getLastD 0] := by
        rw [List.getLastD_eq_getLast?, List.getLast?_eq_some_getLast h2]
        exact (List.dropLast_concat_getLast h2).symm
      exact inv_end R _ e
    · exact inv_begin R _
theorem inv_fold : ∀ (xs : List Int) (s : RS), RInv s → RInv (xs.foldl stepR s)
  | [], _, h => h
  | x :: xs, s, h => inv_fold xs _ (inv_step h x)
theorem inv_rows (xs : List Int) : RInv (rowsOf xs) := inv_fold xs _ inv0
end Mine
namespace Mine
theorem laid45 : True := by
  w_top off
  trivial
theorem size20 {s : RS} (R : RInv s) {i : Nat} {it : It} (h : s.rows[i]? = some it) : it.place + 20 ≤ it.stop := by
  rcases R.size i it h with ⟨_, e⟩ | ⟨_, e⟩ | ⟨_, e⟩ <;> omega
theorem ord0 {s : RS} (R : RInv s) {i : Nat} {it : It} (h : s.rows[i]? = some it) : ∀ (d : Nat) (jt : It), s.rows[i + 1 + d]? = some jt → it.stop ≤ jt.place
  | 0, jt, hj => Int.le_of_eq (R.next i it jt h hj).symm
  | d + 1, jt, hj => by
    have hl := get_lt hj
    have hk : s.rows[i + 1 + d]? = some (s.rows[i + 1 + d]'(by omega)) := List.getElem?_eq_getElem (by omega)
    have a := ord0 R h d _ hk
    have b := size20 R hk
    have c := R.next _ _ jt hk hj
    omega
theorem ord {s : RS} (R : RInv s) {i j : Nat} {it jt : It} (h : s.rows[i]? = some it) (hj : s.rows[j]? = some jt) (hij : i < j) : it.stop ≤ jt.place := by
  have e : j = i + 1 + (j - i - 1) := by omega
  rw [e] at hj
  exact ord0 R h _ jt hj
theorem uniq {s : RS} (R : RInv s) {i j : Nat} {it jt : It} {p : Int} (h : s.rows[i]? = some it) (hj : s.rows[j]? = some jt) (h1 : it.place ≤ p) (h2 : p < it.stop) (h3 : jt.place ≤ p) (h4 : p < jt.stop) : i = j := by
  rcases Nat.lt_trichotomy i j with q | q | q
  · have := ord R h hj q; omega
  · exact q
  · have := ord R hj h q; omega
theorem recB_length {ib : It} {T f m b : Int} : (recB ib T f m b).length = 56 := rfl
theorem endB_length {ik : It} {T f m : Int} : (endB ik T f m).length = 20 := rfl
theorem piece_len {s : RS} (R : RInv s) {i : Nat} {it : It} {q : Int × List UInt8} (h : s.rows[i]? = some it) (hq : pieceAt s.rows it = some q) : q.1 = it.place ∧ it.place + q.2.length = it.stop := by
  unfold pieceAt at hq
  rcases R.size i it h with ⟨k, e⟩ | ⟨k, e⟩ | ⟨k, e⟩
  · rw [if_pos k] at hq
    cases hq
    exact ⟨rfl, by rw [recB_length, e]; rfl⟩
  · rw [if_neg (fun z => kE_ne_kB (k.symm.trans z)), if_pos k] at hq
    cases ho : rowAt s.rows it.other with
    | none => rw [ho] at hq; cases hq
    | some ib =>
      rw [ho] at hq
      cases hq
      exact ⟨rfl, by rw [endB_length, e]; rfl⟩
  · rw [if_neg (fun z => kG_ne_kB (k.symm.trans z)), if_neg (fun z => kG_ne_kE (k.symm.trans z))] at hq
    cases hq
theorem pcs_mem {rows : List It} {q : Int × List UInt8} : q ∈ pcsTo rows rows.length ↔ ∃ (i : Nat) (it : It), rows[i]? = some it ∧ pieceAt rows it = some q := by
  unfold pcsTo
  rw [List.take_length, List.mem_filterMap]
  constructor
  · rintro ⟨it, hm, hp⟩
    obtain ⟨i, hi⟩ := List.getElem?_of_mem hm
    exact ⟨i, it, hi, hp⟩
  · rintro ⟨i, it, hi, hp⟩
    exact ⟨it, List.mem_of_getElem? hi, hp⟩
abbrev pcsOf (s : RS) : List (Int × List UInt8) := pcsTo s.rows s.rows.length
theorem at_piece {s : RS} (R : RInv s) {i : Nat} {it : It} {bs : List UInt8} {p : Int} (h : s.rows[i]? = some it) (hq : pieceAt s.rows it = some (it.place, bs)) (h1 : it.place ≤ p) (h2 : p < it.stop) : byteAt (pcsOf s) p = bs.getD (p - it.place).toNat 0 := by
  have hl := piece_len R h hq
  refine byteAt_val (fun q hm c => ?_) (.inr ⟨_, pcs_mem.mpr ⟨i, it, h, hq⟩, ⟨h1, by dsimp only at hl ⊢; omega⟩⟩)
  obtain ⟨j, jt, hj, hqj⟩ := pcs_mem.mp hm
  have hlj := piece_len R hj hqj
  have e := uniq R h hj h1 h2 (by omega) (by omega)
  subst e
  rw [h] at hj
  cases hj
  rw [hq] at hqj
  cases hqj
  rfl
theorem at_none {s : RS} (R : RInv s) {i : Nat} {it : It} {p : Int} (h : s.rows[i]? = some it) (hq : pieceAt s.rows it = none) (h1 : it.place ≤ p) (h2 : p < it.stop) : byteAt (pcsOf s) p = 0 := by
  refine byte_zero fun q hm c => ?_
  obtain ⟨j, jt, hj, hqj⟩ := pcs_mem.mp hm
  have hlj := piece_len R hj hqj
  have e := uniq R h hj h1 h2 (by omega) (by omega)
  subst e
  rw [h] at hj
  cases hj
  rw [hq] at hqj
  cases hqj
theorem at_ne {s : RS} (R : RInv s) {p : Int} (h : byteAt (pcsOf s) p ≠ 0) : ∃ (j : Nat) (jt : It) (bs : List UInt8), s.rows[j]? = some jt ∧ pieceAt s.rows jt = some (jt.place, bs) ∧ jt.place ≤ p ∧ p < jt.stop := by
  refine Classical.byContradiction fun n => h (byte_zero fun q hm c => n ?_)
  obtain ⟨j, jt, hj, hqj⟩ := pcs_mem.mp hm
  have hlj := piece_len R hj hqj
  obtain ⟨q1, q2⟩ := q
  dsimp only at hlj
  obtain ⟨rfl, h2⟩ := hlj
  exact ⟨j, jt, q2, hj, hqj, c.1, by have := c.2; dsimp only at this; omega⟩
theorem read_piece {s : RS} (R : RInv s) {i : Nat} {it : It} {bs : List UInt8} {n : Int} (h : s.rows[i]? = some it) (hq : pieceAt s.rows it = some (it.place, bs)) (hn : n = bs.length) : readF (pcsOf s) it.place n = bs := by
  have hl := (piece_len R h hq).2
  dsimp only at hl
  refine List.ext_getElem? fun j => ?_
  rcases Nat.lt_or_ge j bs.length with q | q
  · rw [readF_get (by omega) (by omega), at_piece R h hq (by omega) (by omega), List.getElem?_eq_getElem q]
    have e : (it.place + (j : Int) - it.place).toNat = j := by omega
    rw [e, List.getD_eq_getElem?_getD, List.getElem?_eq_getElem q]
    rfl
  · rw [List.getElem?_eq_none q, List.getElem?_eq_none (by rw [readF_len (by omega)]; omega)]
theorem sub4 {l : List UInt8} {a b c d : UInt8} (h : sub l 0 4 = [a, b, c, d]) : ∀ (j : Nat), j < 4 → l[j]? = [a, b, c, d][j]? := by
  intro j hj
  rw [← h]
  unfold sub
  rw [List.drop_zero, List.getElem?_take_of_lt (by omega)]
/-! the numbers' octets -/
def Wd (x : Int) : Prop := ∃ A B : Int, x = A * 4294967296 + B ∧ 0 ≤ A ∧ A < 16777216 ∧ 0 ≤ B ∧ B < 16777216
theorem Wd.b3 {x : Int} (h : Wd x) : x / 2 ^ (8 * 3) % 256 = 0 := by
  obtain ⟨A, B, rfl, h1, h2, h3, h4⟩ := h
  have e : (2 : Int) ^ (8 * 3) = 16777216 := by decide
  rw [e]; omega
theorem Wd.b7 {x : Int} (h : Wd x) : x / 2 ^ (8 * 7) % 256 = 0 := by
  obtain ⟨A, B, rfl, h1, h2, h3, h4⟩ := h
  have e : (2 : Int) ^ (8 * 7) = 72057594037927936 := by decide
  rw [e]; omega
theorem Wd.nn {x : Int} (h : Wd x) : 0 ≤ x := by
  obtain ⟨A, B, rfl, h1, h2, h3, h4⟩ := h
  omega
theorem Wd.lt {x : Int} (h : Wd x) : x < 2 ^ 60 := by
  obtain ⟨A, B, rfl, h1, h2, h3, h4⟩ := h
  omega
theorem Wd.small {x : Int} (h : 0 ≤ x) (h' : x < 16777216) : Wd x := ⟨0, x, by omega, by decide, by decide, h, h'⟩
theorem oct0 {x : Int} {k : Nat} (h : x / 2 ^ (8 * k) % 256 = 0) : (x / 2 ^ (8 * k) % 256).toNat.toUInt8 = 0 := u8_zero h
theorem Wd.leL8 {x : Int} (h : Wd x) : leL (octs x 8) = x := leL_octs 8 x h.nn (Int.lt_trans h.lt (by decide))
theorem leL4 {x : Int} (h : 0 ≤ x) (h' : x < 16777216) : leL (octs x 4) = x := leL_octs 4 x h (Int.lt_trans h' (by decide))
theorem low_wd {p : Int} {i : Nat} {lo d : Int} (h : LowIs p i lo) (hi : i ≤ 11) (h1 : -lo ≤ d) (h2 : d < 16000000) : Wd (p + d) := by
  obtain ⟨A, B, e, h3, h4, h5, h6⟩ := h
  exact ⟨A, B + d, by rw [e]; omega, h3, by omega, by omega, by omega⟩
theorem cnt0_bd (r : Int) : 0 ≤ cnt0 r ∧ cnt0 r < 16777216 := by unfold cnt0; omega
theorem cnt1_bd (r : Int) : 0 ≤ cnt1 r ∧ cnt1 r < 16777216 := by unfold cnt1; omega
theorem cnt3_bd (r : Int) : 0 ≤ cnt3 r ∧ cnt3 r < 16777216 := by unfold cnt3; omega
theorem cnt2_wd (r : Int) : Wd (cnt2 r) := ⟨r / 7 % 16777216, r / 5 % 16777216, by unfold cnt2; omega, by omega, by omega, by omega, by omega⟩
theorem cnt45_wd {T r f : Int} (h : ∃ A B : Int, T = A * 4294967296 + B ∧ 0 ≤ A ∧ A < 16777215 ∧ 0 ≤ B ∧ B < 16777215) : Wd (cnt5 T r) ∧ Wd (cnt4 T r f) := by
  obtain ⟨A, B, rfl, h1, h2, h3, h4⟩ := h
  unfold cnt4 cnt5
  have e1 : (A * 4294967296 + B) / 4294967296 = A := by omega
  have e2 : (A * 4294967296 + B) % 4294967296 = B := by omega
  rw [e1, e2]
  have h8 : 0 ≤ r % 8 ∧ r % 8 ≤ 7 := by omega
  generalize r % 8 = d at h8
  have a1 : 0 ≤ A * d := Int.mul_nonneg h1 h8.1
  have a2 : 0 ≤ B * d := Int.mul_nonneg h3 h8.1
  have a3 : A * d ≤ A * 7 := Int.mul_le_mul_of_nonneg_left h8.2 h1
  have a4 : B * d ≤ B * 7 := Int.mul_le_mul_of_nonneg_left h8.2 h3
  generalize A * d = x at *
  generalize B * d = y at *
  refine ⟨⟨x / 7, y / 7, rfl, by omega, by omega, by omega, by omega⟩, ⟨A - x / 7, B - y / 7 + (if f = 8 then 1 else 0), ?_, by omega, by omega, ?_, ?_⟩⟩
  · split <;> omega
  · split <;> omega
  · split <;> omega
end Mine
namespace Mine
theorem laid46 : True := by
  w_top off
  trivial
theorem rowAt_nat (rows : List It) (k : Nat) : rowAt rows (k : Int) = rows[k]? := by
  unfold rowAt
  rw [if_pos (Int.natCast_nonneg k), Int.toNat_natCast]
theorem fm' (a : Int) {n : Int} (h : 0 ≤ n := by decide) : a.fmod n = a % n := Int.fmod_eq_emod_of_nonneg a h
/-- a closed group, as the rows tell it -/
structure Closed (s : RS) (o i : Nat) (ib it : It) : Prop where
  hb : s.rows[o]? = some ib
  he : s.rows[i]? = some it
  kb : ib.kind = kB
  ke : it.kind = kE
  bo : ib.other = (i : Int)
  eo : it.other = (o : Int)
  lt : o < i
  pre : ∀ (j : Nat) (jt : It), j + 1 = i → s.rows[j]? = some jt → jt.kind = kB → o = j
theorem closed_of_end {s : RS} (R : RInv s) {i : Nat} {it : It} (h : s.rows[i]? = some it) (hk : it.kind = kE) : ∃ (o : Nat) (ib : It), Closed s o i ib it := by
  obtain ⟨o, ib, a, b, c, d, e, f⟩ := R.cls i it h hk
  exact ⟨o, ib, b, h, c, hk, d, a, e, f⟩
theorem closed_of_begin {s : RS} (R : RInv s) {o : Nat} {ib : It} (h : s.rows[o]? = some ib) (hk : ib.kind = kB) : ib.other = -1 ∨ ∃ (i : Nat) (it : It), Closed s o i ib it := by
  refine (R.opn o ib h hk).imp id fun ⟨e, il, a, b, c, d, f⟩ => ?_
  obtain ⟨o', ib', a', b', c', d', e', f'⟩ := R.cls e il b c
  have : o' = o := by omega
  subst this
  exact ⟨e, il, h, b, hk, c, a, a', e', f'⟩
def gF (it : It) : Int := it.rest.fmod 10
def gM (it : It) : Int := (it.rest.fdiv 10).fmod 1000
def gT (ib it : It) : Int := if gF it = 5 then ib.place - 1 - (gM it).fmod 3 else ib.place
def gBt (ib it : It) : Int := it.place - ib.stop
theorem gF_bd (it : It) : 0 ≤ gF it ∧ gF it < 10 := by unfold gF; rw [fm']; omega
theorem gM_bd (it : It) : 0 ≤ gM it ∧ gM it < 1000 := by unfold gM; rw [fm']; omega
section
variable {s : RS} {o i : Nat} {ib it : It}
theorem Closed.grp (C : Closed s o i ib it) : grpOf s.rows ib = (gT ib it, gF it, gM it, gBt ib it) := by
  unfold grpOf
  rw [C.bo, if_neg (by omega), rowAt_nat, C.he]
  rfl
theorem Closed.is (C : Closed s o i ib it) : GroupIs s.rows ib (gT ib it) (gF it) (gM it) (gBt ib it) :=
  .inr ⟨it, by rw [C.bo, rowAt_nat]; exact C.he, by rw [C.bo]; omega, rfl, rfl, rfl, rfl⟩
theorem Closed.bstop (R : RInv s) (C : Closed s o i ib it) : ib.stop = ib.place + 56 := by
  rcases R.size o ib C.hb with ⟨k, e⟩ | ⟨k, e⟩ | ⟨k, e⟩
  · exact e
  · exact absurd (k.symm.trans C.kb) kE_ne_kB
  · exact absurd (k.symm.trans C.kb) kG_ne_kB
theorem Closed.estop (R : RInv s) (C : Closed s o i ib it) : it.stop = it.place + 20 := by
  rcases R.size i it C.he with ⟨k, e⟩ | ⟨k, e⟩ | ⟨k, e⟩
  · exact absurd (k.symm.trans C.ke) kB_ne_kE
  · exact e
  · exact absurd (k.symm.trans C.ke) kG_ne_kE
theorem Closed.bt0 (R : RInv s) (C : Closed s o i ib it) : 0 ≤ gBt ib it := by
  have := ord R C.hb C.he C.lt
  unfold gBt; omega
theorem Closed.wide (R : RInv s) (hn : s.rows.length ≤ 11) (C : Closed s o i ib it) : ∃ A B : Int, gT ib it = A * 4294967296 + B ∧ 0 ≤ A ∧ A < 16777215 ∧ 0 ≤ B ∧ B < 16777215 := by
  obtain ⟨A, B, e, h3, h4, h5, h6⟩ := R.rlow o ib C.hb
  have ho := get_lt C.hb
  unfold gT
  rw [fm']
  split
  · exact ⟨A, B - 1 - gM it % 3, by omega, h3, by omega, by omega, by omega⟩
  · exact ⟨A, B, e, h3, by omega, by omega, by omega⟩
theorem Closed.twd (R : RInv s) (hn : s.rows.length ≤ 11) (C : Closed s o i ib it) : Wd (gT ib it) := by
  obtain ⟨A, B, e, h3, h4, h5, h6⟩ := C.wide R hn
  exact ⟨A, B, e, h3, by omega, by omega, by omega⟩
theorem place_wd (R : RInv s) (hn : s.rows.length ≤ 11) {j : Nat} {jt : It} (h : s.rows[j]? = some jt) : Wd jt.place := by
  have := low_wd (d := 0) (R.rlow j jt h) (by have := get_lt h; omega) (by omega) (by omega)
  rwa [Int.add_zero] at this
theorem Closed.grpOk (R : RInv s) (hn : s.rows.length ≤ 11) (C : Closed s o i ib it) : GrpOk s.rows ib := by
  have hw := C.twd R hn
  have hp := place_wd R hn C.he
  have hb := (place_wd R hn C.hb).nn
  constructor <;> rw [C.grp] <;> dsimp only
  · exact C.is
  · exact hw.nn
  · exact hw.lt
  · exact (gM_bd it).1
  · exact (gM_bd it).2
  · exact C.bt0 R
  · have := C.bstop R
    have := hp.lt
    unfold gBt; omega
theorem Closed.pieceE (C : Closed s o i ib it) : pieceAt s.rows it = some (it.place, endB it (gT ib it) (gF it) (gM it)) := by
  unfold pieceAt
  rw [if_neg (fun z => kE_ne_kB (C.ke.symm.trans z)), if_pos C.ke, C.eo, rowAt_nat, C.hb, Option.map_some, C.grp]
theorem Closed.pieceB (C : Closed s o i ib it) : pieceAt s.rows ib = some (ib.place, recB ib (gT ib it) (gF it) (gM it) (gBt ib it)) := by
  unfold pieceAt
  rw [if_pos C.kb, C.grp]
end
theorem open_grp {rows : List It} {ib : It} (h : ib.other = -1) : grpOf rows ib = (ib.place, 0, 0, 0) := by
  unfold grpOf
  rw [h, if_pos (by decide)]
theorem begin_ok {s : RS} (R : RInv s) (hn : s.rows.length ≤ 11) {o : Nat} {ib : It} (h : s.rows[o]? = some ib) (hk : ib.kind = kB) : GrpOk s.rows ib := by
  rcases closed_of_begin R h hk with e | ⟨i, it, C⟩
  · have hw := place_wd R hn h
    constructor <;> rw [open_grp e] <;> dsimp only
    · exact .inl ⟨by omega, rfl, rfl, rfl, rfl⟩
    · exact hw.nn
    · exact hw.lt
    · decide
    · decide
    · decide
    · decide
  · exact C.grpOk R hn
/-- each begin's record: its octets 23, 27 .. 55 are nought -/
theorem recB_zero {ib : It} {T f m b : Int} (h : ∃ A B : Int, T = A * 4294967296 + B ∧ 0 ≤ A ∧ A < 16777215 ∧ 0 ≤ B ∧ B < 16777215) : ∀ k : Nat, k < 9 → (recB ib T f m b).getD (23 + 4 * k) 0 = 0 := by
  obtain ⟨w5, w4⟩ := cnt45_wd (r := ib.rest) (f := f) h
  have w1 : Wd (cnt1 ib.rest) := .small (cnt1_bd _).1 (cnt1_bd _).2
  have w2 := cnt2_wd ib.rest
  have w3 : Wd (cnt3 ib.rest) := .small (cnt3_bd _).1 (cnt3_bd _).2
  intro k hk
  match k, hk with
  | 0, _ => exact oct0 w1.b3
  | 1, _ => exact oct0 w2.b3
  | 2, _ => exact oct0 w2.b7
  | 3, _ => exact oct0 w3.b3
  | 4, _ => exact oct0 w3.b7
  | 5, _ => exact oct0 w4.b3
  | 6, _ => exact oct0 w4.b7
  | 7, _ => exact oct0 w5.b3
  | 8, _ => exact oct0 w5.b7
theorem endB_zero {it : It} {T f m : Int} (hT : Wd (toldE it T f m)) (hm : 0 ≤ m) (hm2 : m < 1000) : ∀ k : Nat, k < 4 → (endB it T f m).getD (7 + 4 * k) 0 = 0 := by
  have wd : Wd (diskE f m) := by unfold diskE; split; exact .small hm (by omega); exact .small (by omega) (by omega)
  have ws : Wd (disksE f m) := by unfold disksE; split; exact .small (by omega) (by omega); exact .small (by omega) (by omega)
  intro k hk
  match k, hk with
  | 0, _ => exact oct0 wd.b3
  | 1, _ => exact oct0 hT.b3
  | 2, _ => exact oct0 hT.b7
  | 3, _ => exact oct0 ws.b3
theorem win9 {r : Nat} (h : 20 ≤ r) (h' : r < 56) : ∃ k, k < 9 ∧ r ≤ 23 + 4 * k ∧ 23 + 4 * k < r + 4 := ⟨(r - 20) / 4, by omega, by omega, by omega⟩
theorem win4 {r : Nat} (h : 4 ≤ r) (h' : r < 20) : ∃ k, k < 4 ∧ r ≤ 7 + 4 * k ∧ 7 + 4 * k < r + 4 := ⟨(r - 4) / 4, by omega, by omega, by omega⟩
theorem lt56 {k : Nat} (h : k < 9) : 23 + 4 * k < 56 := by omega
theorem lt20 {k : Nat} (h : k < 4) : 7 + 4 * k < 20 := by omega
/-- a window of four that begins at r within, and an octet z of it: what is asked of its place -/
theorem win_in {P q : Int} {r z : Nat} (hr : P - 56 = q + r) (h1 : r ≤ z) (h2 : z < r + 4) : z - r < 4 ∧ q + z = P - 56 + ((z - r : Nat) : Int) := by omega
theorem Closed.told_wd {s : RS} {o i : Nat} {ib it : It} (R : RInv s) (hn : s.rows.length ≤ 11) (C : Closed s o i ib it) : Wd (toldE it (gT ib it) (gF it) (gM it)) := by
  unfold toldE
  split
  · have hm := gM_bd it
    have := low_wd (d := gM it - 55) (R.rlow2 i it C.he C.ke) (by have := get_lt C.he; omega) (by omega) (by omega)
    rwa [show it.place + (gM it - 55) = it.place - 55 + gM it by omega] at this
  · exact C.twd R hn
/-- the begin's record, whatever its group -/
theorem begin_piece {s : RS} (R : RInv s) (hn : s.rows.length ≤ 11) {o : Nat} {ib : It} (h : s.rows[o]? = some ib) (hk : ib.kind = kB) : ∃ T f m b, pieceAt s.rows ib = some (ib.place, recB ib T f m b) ∧ ∃ A B : Int, T = A * 4294967296 + B ∧ 0 ≤ A ∧ A < 16777215 ∧ 0 ≤ B ∧ B < 16777215 := by
  rcases closed_of_begin R h hk with e | ⟨i, it, C⟩
  · refine ⟨_, _, _, _, by unfold pieceAt; rw [if_pos hk], ?_⟩
    rw [open_grp e]
    obtain ⟨A, B, e, h3, h4, h5, h6⟩ := R.rlow o ib h
    have ho := get_lt h
    exact ⟨A, B, e, h3, by omega, by omega, by omega⟩
  · exact ⟨_, _, _, _, C.pieceB, C.wide R hn⟩
/-- where something lies between, no record stands 56 octets ahead of the end -/
theorem no_sig {s : RS} {o i : Nat} {ib it : It} (R : RInv s) (hn : s.rows.length ≤ 11) (C : Closed s o i ib it) (hb : 0 < gBt ib it) : sub (readF (pcsOf s) (it.place - 56) 56) 0 4 ≠ sigB := by
  intro hs
  have g := sub4 hs
  have v : ∀ j : Nat, j < 4 → some (byteAt (pcsOf s) (it.place - 56 + j)) = [80, 75, 6, 6][j]? := fun j hj => by rw [← readF_get (c := 56) (by decide) (by have : (56 : Int).toNat = 56 := rfl; omega)]; exact g j hj
  have v0 : byteAt (pcsOf s) (it.place - 56) = 80 := by have := Option.some.inj (v 0 (by decide)); rwa [show it.place - 56 + ((0 : Nat) : Int) = it.place - 56 by omega] at this
  obtain ⟨j, jt, bs, hj, hp, h1, h2⟩ := at_ne R (p := it.place - 56) (by rw [v0]; decide)
  have hji : j < i := by
    rcases Nat.lt_or_ge j i with q | q
    · exact q
    · rcases Nat.lt_or_eq_of_le q with q | q
      · have := ord R C.he hj q; have := C.estop R; omega
      · subst q
        have e := C.he
        rw [hj] at e
        cases e
        omega
  have at' : ∀ (z : Nat), z < bs.length → byteAt (pcsOf s) (jt.place + z) = bs.getD z 0 := fun z hz => by
    have hl := (piece_len R hj hp).2
    dsimp only at hl
    rw [at_piece R hj hp (by omega) (by omega)]
    congr 1; omega
  have hz : ∀ (z d : Nat), z < bs.length → bs.getD z 0 = 0 → d < 4 → jt.place + z = it.place - 56 + d → False := fun z d hz h0 hd e => by
    have a := at' z hz
    rw [e, h0] at a
    have b := Option.some.inj ((v d hd).trans (List.getElem?_eq_getElem (by simpa using hd)))
    rw [a] at b
    match d, hd with
    | 0, _ => exact absurd b (by show (0 : UInt8) ≠ 80; decide)
    | 1, _ => exact absurd b (by show (0 : UInt8) ≠ 75; decide)
    | 2, _ => exact absurd b (by show (0 : UInt8) ≠ 6; decide)
    | 3, _ => exact absurd b (by show (0 : UInt8) ≠ 6; decide)
  rcases R.size j jt hj with ⟨k, e⟩ | ⟨k, e⟩ | ⟨k, e⟩
  · obtain ⟨T, f, m, b, hp', hw⟩ := begin_piece R hn hj k
    rw [hp] at hp'
    cases hp'
    have hz' := recB_zero (ib := jt) (f := f) (m := m) (b := b) hw
    have hj1 : j + 1 < i := by
      rcases Nat.lt_or_ge (j + 1) i with q | q
      · exact q
      · have q' : j + 1 = i := by omega
        have := C.pre j jt q' hj k
        subst this
        have z := R.next _ _ it hj (q' ▸ C.he)
        have hb' := C.hb
        rw [hj] at hb'
        cases hb'
        unfold gBt at hb
        omega
    have hk : s.rows[j + 1]? = some (s.rows[j + 1]'(by have := get_lt C.he; omega)) := List.getElem?_eq_getElem _
    have a1 := R.next j jt _ hj hk
    have a2 := size20 R hk
    have a3 := ord R hk C.he hj1
    rw [recB_length] at hz
    have hr : ∃ r : Nat, it.place - 56 = jt.place + r ∧ 20 ≤ r ∧ r < 56 := ⟨(it.place - 56 - jt.place).toNat, by omega, by omega, by omega⟩
    obtain ⟨r, hr, r1, r2⟩ := hr
    obtain ⟨k, hk9, z1, z2⟩ := win9 r1 r2
    obtain ⟨i1, i2⟩ := win_in hr z1 z2
    exact hz _ _ (lt56 hk9) (hz' k hk9) i1 i2
  · obtain ⟨o', ib', C'⟩ := closed_of_end R hj k
    have hp' := C'.pieceE
    rw [hp] at hp'
    cases hp'
    have hz' := endB_zero (C'.told_wd R hn) (gM_bd jt).1 (gM_bd jt).2
    have hr : ∃ r : Nat, it.place - 56 = jt.place + r ∧ r < 20 := ⟨(it.place - 56 - jt.place).toNat, by omega, by omega⟩
    obtain ⟨r, hr, r2⟩ := hr
    rcases Nat.lt_or_ge r 4 with q | q
    · have hv := at' r (by rw [endB_length]; omega)
      rw [← hr, v0] at hv
      have hv3 := at' 3 (by rw [endB_length]; omega)
      have b := Option.some.inj ((v 3 (by decide)).trans rfl)
      match r, q with
      | 0, _ =>
        rw [show it.place - 56 + ((3 : Nat) : Int) = jt.place + ((3 : Nat) : Int) by omega, hv3] at b
        exact absurd b (by show (7 : UInt8) ≠ 6; decide)
      | 1, _ => exact absurd hv (by show (80 : UInt8) ≠ 75; decide)
      | 2, _ => exact absurd hv (by show (80 : UInt8) ≠ 6; decide)
      | 3, _ => exact absurd hv (by show (80 : UInt8) ≠ 7; decide)
    · obtain ⟨k, hk4, z1, z2⟩ := win4 q r2
      obtain ⟨i1, i2⟩ := win_in hr z1 z2
      rw [endB_length] at hz
      exact hz _ _ (lt20 hk4) (hz' k hk4) i1 i2
  · have : pieceAt s.rows jt = none := by
      unfold pieceAt
      rw [if_neg (fun z => kG_ne_kB (k.symm.trans z)), if_neg (fun z => kG_ne_kE (k.symm.trans z))]
    rw [hp] at this
    cases this
end Mine
namespace Mine
theorem laid47 : True := by
  w_top off
  trivial
section
variable {ib ik : It} {T f m b : Int}
theorem sE0 : sub (endB ik T f m) 0 4 = sigL := rfl
theorem sE4 : sub (endB ik T f m) 4 8 = octs (diskE f m) 4 := rfl
theorem sE8 : sub (endB ik T f m) 8 16 = octs (toldE ik T f m) 8 := rfl
theorem sE16 : sub (endB ik T f m) 16 20 = octs (disksE f m) 4 := rfl
theorem sB0 : sub (recB ib T f m b) 0 4 = sigB := rfl
theorem sB4 : sub (recB ib T f m b) 4 12 = octs (lenB f m b) 8 := rfl
theorem sB16 : sub (recB ib T f m b) 16 20 = octs (cnt0 ib.rest) 4 := rfl
theorem sB20 : sub (recB ib T f m b) 20 24 = octs (cnt1 ib.rest) 4 := rfl
theorem sB24 : sub (recB ib T f m b) 24 32 = octs (cnt2 ib.rest) 8 := rfl
theorem sB32 : sub (recB ib T f m b) 32 40 = octs (cnt3 ib.rest) 8 := rfl
theorem sB40 : sub (recB ib T f m b) 40 48 = octs (cnt4 T ib.rest f) 8 := rfl
theorem sB48 : sub (recB ib T f m b) 48 56 = octs (cnt5 T ib.rest) 8 := rfl
end
theorem rec_eq {ib : It} {T f m b loc : Int} (h : ∃ A B : Int, T = A * 4294967296 + B ∧ 0 ≤ A ∧ A < 16777215 ∧ 0 ≤ B ∧ B < 16777215) (hl : loc = ib.place) : recG (recB ib T f m b) loc = recF ib T f := by
  obtain ⟨w5, w4⟩ := cnt45_wd (r := ib.rest) (f := f) h
  have c0 := cnt0_bd ib.rest
  have c1 := cnt1_bd ib.rest
  have w3 : Wd (cnt3 ib.rest) := .small (cnt3_bd _).1 (cnt3_bd _).2
  unfold recG recF
  rw [sB0, sB16, sB20, sB24, sB32, sB40, sB48, leL4 c0.1 c0.2, leL4 c1.1 c1.2, (cnt2_wd _).leL8, w3.leL8, w4.leL8, w5.leL8, hl]
theorem leL8 {x : Int} (h : 0 ≤ x) (h' : x < 2 ^ 62) : leL (octs x 8) = x := leL_octs 8 x h (Int.lt_trans h' (by decide))
/-- the tail upon the begin's own record -/
theorem tail_rec {ib : It} {T f m b reloff o2 ex : Int} (h : ∃ A B : Int, T = A * 4294967296 + B ∧ 0 ≤ A ∧ A < 16777215 ∧ 0 ≤ B ∧ B < 16777215) (hb : 0 ≤ b) (hb2 : b < 2 ^ 60) (hm : 0 ≤ m) (hm2 : m < 1000)
    (hr : reloff = T) (hx : ex = if f = 5 then 0 else b) (hbx : f = 5 → b = 0) (hl : o2 - ex = ib.place) : tailF (recB ib T f m b) reloff o2 ex = if f = 8 ∨ f = 9 then .exc wRec else .ret (recF ib T f) := by
  obtain ⟨w5, w4⟩ := cnt45_wd (r := ib.rest) (f := f) h
  have e4 : cnt5 T ib.rest + cnt4 T ib.rest f = T + (if f = 8 then 1 else 0) := by unfold cnt4; omega
  have el : leL (octs (lenB f m b) 8) = lenB f m b := leL8 (by unfold lenB; split <;> omega) (by unfold lenB; split <;> omega)
  by_cases hf : f = 8 ∨ f = 9
  · rw [if_pos hf, tl_rec sB0]
    rw [sB40, sB48, sB4, w4.leL8, w5.leL8, el, e4]
    unfold lenB
    rcases hf with rfl | rfl
    · rw [if_pos rfl]; omega
    · rw [if_pos rfl, if_neg (by decide)]
      rw [if_neg (by decide)] at hx
      omega
  · rw [if_neg hf, tl_ret sB0, rec_eq h hl]
    rw [sB40, sB48, sB4, w4.leL8, w5.leL8, el, e4]
    unfold lenB
    rw [if_neg (fun z => hf (.inl z)), if_neg (fun z => hf (.inr z))]
    split at hx
    · rename_i h5
      have := hbx h5
      omega
    · omega
/-- told too low: what stands there is no record -/
theorem no_low {s : RS} {o i : Nat} {ib it : It} (R : RInv s) (C : Closed s o i ib it) {d : Int} (h1 : 1 ≤ d) (h3 : d ≤ 3) : sub (readF (pcsOf s) (ib.place - d) 56) 0 4 ≠ sigB := by
  intro hs
  have g := sub4 hs
  have hb := C.bstop R
  have v : byteAt (pcsOf s) ib.place = 80 := by
    rw [at_piece R C.hb C.pieceB (Int.le_refl _) (by omega), Int.sub_self]
    rfl
  have w : ∀ j : Nat, j < 4 → (j : Int) = d → some (80 : UInt8) = [80, 75, 6, 6][j]? := fun j hj e => by
    rw [← g j hj, readF_get (by decide) (by have : (56 : Int).toNat = 56 := rfl; omega), show ib.place - d + (j : Int) = ib.place by omega, v]
  rcases (by omega : d = 1 ∨ d = 2 ∨ d = 3) with rfl | rfl | rfl
  · exact absurd (w 1 (by decide) rfl) (by decide)
  · exact absurd (w 2 (by decide) rfl) (by decide)
  · exact absurd (w 3 (by decide) rfl) (by decide)
theorem end_due {s : RS} {o i : Nat} {ib it : It} (R : RInv s) (hn : s.rows.length ≤ 11) (C : Closed s o i ib it) : outOf (endRecF (readF (pcsOf s)) it.stop) = dueF ib (gT ib it) (gF it) (gBt ib it) := by
  have hst := C.estop R
  have hbs := C.bstop R
  have hf := gF_bd it
  have hm := gM_bd it
  have hw := C.wide R hn
  have hbt := C.bt0 R
  have hG := C.grpOk R hn
  have hbt2 : gBt ib it < 2 ^ 60 := by have := hG.b1; rwa [C.grp] at this
  have htw := C.told_wd R hn
  have r20 : readF (pcsOf s) (it.stop - 20) 20 = endB it (gT ib it) (gF it) (gM it) := by
    rw [show it.stop - 20 = it.place by omega]
    exact read_piece R C.he C.pieceE rfl
  have hT : gT ib it = if gF it = 5 then ib.place - 1 - gM it % 3 else ib.place := by unfold gT; rw [fm']
  have hbtd : gBt ib it = it.place - ib.stop := rfl
  have s1 : sub (readF (pcsOf s) (it.stop - 20) 20) 0 4 = sigL := by rw [r20]; exact sE0
  have s4 : leL (sub (readF (pcsOf s) (it.stop - 20) 20) 4 8) = diskE (gF it) (gM it) := by
    rw [r20, sE4, leL4]
    · unfold diskE; split <;> omega
    · unfold diskE; split <;> omega
  have s8 : leL (sub (readF (pcsOf s) (it.stop - 20) 20) 8 16) = toldE it (gT ib it) (gF it) (gM it) := by rw [r20, sE8, htw.leL8]
  have s16 : leL (sub (readF (pcsOf s) (it.stop - 20) 20) 16 20) = disksE (gF it) (gM it) := by
    rw [r20, sE16, leL4]
    · unfold disksE; split <;> omega
    · unfold disksE; split <;> omega
  unfold dueF
  by_cases h6 : gF it = 6
  · rw [if_pos h6, er_disk s1]
    · rfl
    · rw [s4, s16]
      unfold diskE disksE
      split <;> split <;> omega
  rw [if_neg h6]
  have sd : leL (sub (readF (pcsOf s) (it.stop - 20) 20) 4 8) = 0 ∧ leL (sub (readF (pcsOf s) (it.stop - 20) 20) 16 20) ≤ 1 := by
    rw [s4, s16]
    unfold diskE disksE
    rw [if_neg (fun z => h6 z.1), if_neg (fun z => h6 z.1)]
    omega
  by_cases h7 : gF it = 7
  · rw [if_pos h7, er_loc s1 sd]
    · rfl
    · rw [s8]; unfold toldE; rw [if_pos h7]; omega
  rw [if_neg h7]
  have st : leL (sub (readF (pcsOf s) (it.stop - 20) 20) 8 16) = gT ib it := by rw [s8]; unfold toldE; rw [if_neg h7]
  by_cases h5 : gF it = 5
  · have hT5 : gT ib it = ib.place - (1 + gM it % 3) := by rw [hT, if_pos h5]; omega
    have ns : ¬ (sub (readF (pcsOf s) (leL (sub (readF (pcsOf s) (it.stop - 20) 20) 8 16)) 56) 0 4 = sigB ∨ leL (sub (readF (pcsOf s) (it.stop - 20) 20) 8 16) = it.stop - 20 - 56) := by
      rw [st, hT5]
      exact not_or.mpr ⟨no_low R C (by omega) (by omega), by omega⟩
    rw [er_two s1 sd (by rw [st]; omega) ns, st, if_neg (by omega)]
    by_cases hb0 : 0 < gBt ib it
    · rw [if_pos ⟨h5, hb0⟩, tl_none]
      · rfl
      · rw [show it.stop - 20 - 56 = it.place - 56 by omega]
        exact no_sig R hn C hb0
    · have hb0' : gBt ib it = 0 := by omega
      rw [if_neg (fun z => hb0 z.2), show it.stop - 20 - 56 = ib.place by omega, read_piece (n := 56) R C.hb C.pieceB rfl, tail_rec hw hbt hbt2 hm.1 hm.2 rfl (by rw [if_pos h5]) (fun _ => hb0') (by omega), if_neg (by omega)]
      rfl
  · have hT5 : gT ib it = ib.place := by rw [hT, if_neg h5]
    have rr : readF (pcsOf s) (gT ib it) 56 = recB ib (gT ib it) (gF it) (gM it) (gBt ib it) := by
      have := read_piece (n := 56) R C.hb C.pieceB rfl
      rwa [← hT5] at this
    rw [er_one s1 sd (by rw [st]; omega) (.inl (by rw [st, rr]; exact sB0)), st, rr, tail_rec hw hbt hbt2 hm.1 hm.2 rfl (by rw [if_neg h5]; omega) (fun z => absurd z h5) (by omega)]
    by_cases h8 : 7 < gF it
    · rw [if_pos h8, if_pos (by omega)]; rfl
    · rw [if_neg h8, if_neg (by omega), if_neg (fun z => h5 z.1)]; rfl
theorem oth_due {s : RS} {i : Nat} {it : It} (R : RInv s) (hn : s.rows.length ≤ 11) (h : s.rows[i]? = some it) (hk : it.kind ≠ kE) : endRecF (readF (pcsOf s)) it.stop = .ret rec0 := by
  refine er_none fun hs => ?_
  have g := sub4 hs 0 (by decide)
  rw [readF_get (by decide) (by decide), show it.stop - 20 + ((0 : Nat) : Int) = it.stop - 20 by omega] at g
  have h20 := size20 R h
  have v : byteAt (pcsOf s) (it.stop - 20) = 0 := by
    rcases R.size i it h with ⟨k, e⟩ | ⟨k, e⟩ | ⟨k, e⟩
    · obtain ⟨T, f, m, b, hp, hw⟩ := begin_piece R hn h k
      rw [at_piece R h hp (by omega) (by omega), show (it.stop - 20 - it.place).toNat = 36 by omega]
      have c3 := cnt3_bd it.rest
      show (cnt3 it.rest / 2 ^ (8 * 4) % 256).toNat.toUInt8 = 0
      refine oct0 (k := 4) ?_
      have e : (2 : Int) ^ (8 * 4) = 4294967296 := by decide
      rw [e]; omega
    · exact absurd k hk
    · refine at_none R h ?_ (by omega) (by omega)
      unfold pieceAt
      rw [if_neg (fun z => kG_ne_kB (k.symm.trans z)), if_neg (fun z => kG_ne_kE (k.symm.trans z))]
  rw [v] at g
  exact absurd g (by decide)
theorem last_stop {s : RS} (R : RInv s) {i : Nat} {it : It} (h : s.rows[i]? = some it) : lastStop s.rows = s.place := by
  have hl := get_lt h
  unfold lastStop
  rw [List.getLast?_eq_getElem?]
  have e : s.rows[s.rows.length - 1]? = some (s.rows[s.rows.length - 1]'(by omega)) := List.getElem?_eq_getElem _
  rw [e]
  exact R.last _ _ e (by omega)
theorem good_inv {s : RS} (R : RInv s) (hn : s.rows.length ≤ 11) : Good s.rows where
  beg := fun i it h hk => begin_ok R hn h hk
  fin := fun i it h hk => by
    obtain ⟨o, ib, C⟩ := closed_of_end R h hk
    obtain ⟨A, B, e, h3, h4, h5, h6⟩ := R.rlow2 i it h hk
    refine ⟨by omega, (place_wd R hn h).lt, ib, by rw [C.eo, rowAt_nat]; exact C.hb, C.grpOk R hn, ?_⟩
    rw [C.grp]
    exact end_due R hn C
  oth := fun i it h hk => oth_due R hn h hk
  stop := fun i it h => by
    have h20 := size20 R h
    have hp := (place_wd R hn h).nn
    rw [last_stop R h]
    refine ⟨by omega, ?_⟩
    have hl := get_lt h
    have e : s.rows[s.rows.length - 1]? = some (s.rows[s.rows.length - 1]'(by omega)) := List.getElem?_eq_getElem _
    have q := R.last _ _ e (by omega)
    rcases Nat.lt_or_ge i (s.rows.length - 1) with z | z
    · have := ord R h e z
      have := size20 R e
      omega
    · have z' : i = s.rows.length - 1 := by omega
      subst z'
      have e2 := Option.some.inj (h.symm.trans e)
      rw [← e2] at q
      omega
  last := by
    rcases Nat.eq_zero_or_pos s.rows.length with z | z
    · have : s.rows = [] := List.length_eq_zero_iff.mp z
      rw [this]; decide
    · have e : s.rows[0]? = some (s.rows[0]'z) := List.getElem?_eq_getElem _
      rw [last_stop R e]
      obtain ⟨A, B, e, h3, h4, h5, h6⟩ := R.low
      omega
  pcs := fun q hq => by
    obtain ⟨i, it, h, hp⟩ := pcs_mem.mp hq
    obtain ⟨e1, e2⟩ := piece_len R h hp
    have hw := place_wd R hn h
    refine ⟨by rw [e1]; exact hw.nn, by rw [e1]; exact hw.lt, ?_⟩
    rcases R.size i it h with ⟨k, e⟩ | ⟨k, e⟩ | ⟨k, e⟩
    · omega
    · omega
    · unfold pieceAt at hp
      rw [if_neg (fun z => kG_ne_kB (k.symm.trans z)), if_neg (fun z => kG_ne_kE (k.symm.trans z))] at hp
      cases hp
theorem good_rows (script : List Int) : Good (rowsOf (nums script)).rows := good_inv (inv_rows _) (row_short _)
end Mine
namespace Mine
theorem laid48 : True := by
  w_top off
  trivial
section
variable {prog : Program} {w : World} {A : Around} {E : Value → Shared → Prop} {s : Shared} {K : Frag} {e t C : Addr} {oe ot : Obj} {ws : Array Value} {nt : Nat} {x : Str} {u : Tok}
theorem exc_type {M : Model} {h : Heap} (ho : h.get? e = some oe) (hc : oe.cls = .ref C) : Looks M h (typeOf (.ref e)) (.ref C) := hc ▸ (Looks.ld ho).andThen .now
theorem exc_special {M : Model} {name : Str} {id : String} {args : List Value} {Q : Option Value → Shared → Prop} (X : K.In s.heap) (ho : s.heap.get? e = some oe) (hc : oe.cls = .ref C) (hs : findIn K (.ref C) name = some (some (.builtin id)))
    (hb : ∀ self, bindSpecial (.builtin id) self = pure (.builtin id, [self])) (h : wpAny M A (call (.builtin id) (.ref e :: args)) (fun v => Q (some v)) E s) : wpAny M A (callSpecial? (.ref e) name args) Q E s :=
  wpAny_bind (wpAny_bind ((exc_type ho hc).here ((looks_findIn X hs).here (wpAny_holding (wpAny_bind ((Looks.of_pure (hb _)).here (wpAny_bind (wpAny_mono h (fun _ _ z => wpAny_pure z) fun _ _ z => z))))))))
open Builtin Builtin.BaseException Builtin.Exceptions in
theorem exc_args {M : Model} {items : List Value} {Q : Value × List Value → Shared → Prop} (ho : s.heap.get? e = some oe) (hd : oe.data = .fields ws) (h0 : ws[0]? = some (.ref t)) (ht : s.heap.TupAt t items) (hq : Q (.ref t, items) s) :
    wpAny M A (bexcArgs (.ref e)) Q E s := by
  obtain ⟨ot, k, hto, _, htd⟩ := ht
  unfold bexcArgs
  refine wpAny_bind (wpAny_field ho hd h0 (wpAny_bind (wpAny_seqItems hto htd ?_)))
  have : items.toArray.toList = items := by simp
  show wpAny M A (pure (Value.ref t, items.toArray.toList)) Q E s
  rw [this]; exact wpAny_pure hq
open Builtin Builtin.BaseException Builtin.Exceptions in
theorem exc_entry {Q : Fin → Shared → Prop} (ho : s.heap.get? e = some oe) (hd : oe.data = .fields ws) (h0 : ws[0]? = some (.ref t)) (ht : s.heap.TupAt t [.str x u]) (hq : Q (.done (.ret (.str x u))) s) :
    wpAny (model prog w) A (Builtin.«BaseException.__str__» ⟨[.ref e], []⟩) Q E s := by
  unfold Builtin.«BaseException.__str__»
  repeat (first | with_reducible refine exc_args ho hd h0 ht ?_ | wp_step)
  exact hq
theorem exc_call {Q : Value → Shared → Prop} (X : K.In s.heap) (ho : s.heap.get? e = some oe) (hc : oe.cls = .ref C) (hm : mroIn K C (.type "BaseException") = some true) (hd : oe.data = .fields ws) (h0 : ws[0]? = some (.ref t)) (ht : s.heap.TupAt t [.str x u]) (hq : Q (.str x u) s) :
    wpAny (model prog w) A (call (.builtin "BaseException.__str__") [.ref e]) Q E s := by
  refine wpAny_call (codeAny_call_builtin (by decide +kernel) PySem.F.entry_bexc_str (check_slot (i := "BaseException.__str__") (owner := "BaseException") (n := "__str__") (by decide +kernel) (by decide +kernel) ((exc_type ho hc).andThen (looks_mroIn X hm)) (PySem.F.args_bexc_str _) ?_))
  exact exc_entry ho hd h0 ht hq
open Builtin Builtin.Str in
theorem exc_strcall {Q : Value → Shared → Prop} (hu : A.in1.in1.units < cLine) (X : K.In s.heap) (ho : s.heap.get? e = some oe) (hc : oe.cls = .ref C) (hm : mroIn K C (.type "BaseException") = some true) (hs : findIn K (.ref C) "__str__" = some (some (.builtin "BaseException.__str__")))
    (hd : oe.data = .fields ws) (h0 : ws[0]? = some (.ref t)) (ht : s.heap.TupAt t [.str x u]) (hq : Q (.str x u) s) : wpAny (model prog w) A (call (.type "str") [.ref e]) Q E s := by
  refine callType_codes (T := "str") (Bi := Builtin.«object.__init__») (Q₁ := fun r s₁ => ∃ y u, r = .str y u ∧ Q r s₁) PySem.F.called_str (PySem.F.typeCall_str_1 _) PySem.F.entry_object_init ?_ ?_
  · refine codeAny_of_tree ?_
    show wpAny _ A.in1.in1 (do checkBuiltinCall "str.__new__" ⟨[.type "str", .ref e], []⟩; again (.builtin "str.__new__" ⟨[.type "str", .ref e], []⟩)) _ _ s
    refine wpAny_bind (wpAny_of_eq (PySem.F.newCall_str_1 _) (wpAny_pure ⟨plainId_quiet (by decide +kernel) _, codeAny_builtin PySem.F.entry_str_new ?_⟩))
    rw [Around.under_plainId (by decide +kernel) _]
    rw [str_new_tree]
    refine wpAny_bind (wpAny_pure ?_)
    refine wpAny_bind (wpAny_of_eq isSubtype_str_str ?_)
    have key : wpAny (model prog w) A.in1.in1 (PySem.Builtin.Str.strOf (.ref e)) (fun r s₁ => ∃ y u, r = .str y u ∧ Q r s₁) E s := by
      unfold PySem.Builtin.Str.strOf
      rw [show isExactStr (.ref e) = false from rfl]
      refine wpAny_bind (m := cRoomFor _ _) (wpAny_cRoomFor hu ?_)
      refine wpAny_bind (m := callSpecial? (.ref e) (Str.ofString "__str__")) (exc_special X ho hc hs PySem.F.excStr_Exception.str.bind (exc_call X ho hc hm hd h0 ht ?_))
      exact wpAny_pure ⟨_, _, rfl, hq⟩
    exact wpAny_bind (wpAny_mono key (fun r s₁ hr => wpAny_pure hr) fun _ _ y => y)
  · rintro obj s₁ ⟨y, u, rfl, hq⟩
    exact ⟨typeIs_str _ _ _, PySem.F.args_object_init_2 _ _, object_init_meets PySem.F.called_str.init.lookup PySem.F.called_str.made (by decide) prog w A.in1 _ s₁ ⟨typeIs_str _ _ _, rfl, hq⟩⟩
theorem exc_str_got {h₀ : Heap} {L : Addr} {news : List (Addr × Obj)} {Q : Value → Shared → Prop} (N : News h₀ L s.heap news) (G : Got news e t (.ref C) [.str x u]) (hu : A.in1.in1.units < cLine) (X : K.In s.heap) (hm : mroIn K C (.type "BaseException") = some true) (hs : findIn K (.ref C) "__str__" = some (some (.builtin "BaseException.__str__")))
    (hq : Q (.str x u) s) : wpAny (model prog w) A (call (.type "str") [.ref e]) Q E s := by
  obtain ⟨oe, ot, ws, nt, h1, h2, hc, hd, h0, htc, htd⟩ := G
  exact exc_strcall hu X (N.get h1) hc hm hs hd h0 ⟨ot, nt, N.get h2, htc, htd⟩ hq
end
end Mine
namespace Mine
theorem laid49 : True := by
  w_top off
  k_with "call type:str" => (k_here; (with_reducible show wpAny _ _ (call (Value.type "str") [Value.ref _]) _ _ _); k_dflt (refine' exc_str_got ?q9N ?q9G ?q9u ?q9X ?q9m ?q9s ?_; (case q9G => assumption); (case q9N => assumption); (case q9u => ktr_units); (case q9X => k_in); (case q9m => k_is); (case q9s => k_is); k_whole))
  k_with "mine enterS" => (refine' code_defS0 ?q9k1 ?q9k2 ?q9k3 ?q9k4 ?q9k5 ?q9kA ?q9k6 ?q9k7 ?q9k8 ?q9k9 ?q9kB ?_ ?q9cK ?q9c2 ?q9c3 ?q9c4 ?q9c5; (case q9kA => exact rfl); (case q9k2 => k_asm); (case q9k1 => k_asm); (case q9k3 => k_asm); (case q9k4 => k_asm); (case q9k5 => k_asm); (case q9k6 => k_is); (case q9k7 => k_is); (case q9k8 => ktr_room); (case q9k9 => exact BindsTo.of_eq rfl); (case q9kB => exact locs rfl); (case q9cK => assumption); (case q9c2 => exact rfl); (case q9c3 => exact rfl); (case q9c4 => exact rfl); (case q9c5 => decide); k_whole; intro g' L' h' FG' F' N' B' X' T' D'; (try dsimp only); (try k_lift B'); (try k_fold))
  trivial
theorem endrec_use {prog : Program} {w : World} {news : List (Addr × Obj)} {pl : Addr} {pcs : List (Int × List UInt8)} {z off of₀ : Int} {tf to t1 t2 t3 t4 a0 a1 a2 a3 a4 a5 a6 a7 a8 a9 : Tok} {mr : Nat} {x dx fs fr rc : Addr} {p : Program} {loose : List Str} {mean : ExcName → Option Value} {mg mb : Str → Option Value} {dp un : Nat} {gd : Option (List Code)} {cn : Str} {cs : Scope} {a : Addr} {ccd : Value} {cl : List (Str × Addr)} {outer : List Env} {A₀ : Around} {base h₀ : Heap} {L : Addr} {m : Str → Option Value} {s : Shared}
    {Q E : Value → Shared → Prop} (B : Below A₀ base outer h₀) (F : Fr h₀ L s.heap m) (X : (Mine.hd.heap_39 w.params).In h₀) (N : News h₀ L s.heap ((rc, listOf #[.int 0 a0, .int 1 a1, .int 2 a2, .int 3 a3, .int 4 a4, .int 5 a5, .int 6 a6, .int 7 a7, .int 8 a8, .int 9 a9] mr) :: (dx, fdict w.params of₀ tf fs fr t1 t2 t3 t4) :: news)) (T : Top p loose mean mg mb h₀) (hk : cs.kind = .function) (hd : dp + 10 < recursionLimit) (hu : un + 80 < cLine)
    (hF : FileIn news pl z x dx fs fr) (hP : PiecesIn news pl pcs) (hdx : ∀ p ∈ news, p.1 ≠ dx) (hl : dx < rc ∧ AllLt rc news) (h0 : 20 ≤ off) (h1 : off ≤ z) (hz : z < 2 ^ 60)
    (hpc : ∀ q ∈ pcs, 0 ≤ q.1 ∧ q.1 < 2 ^ 60 ∧ q.2.length < 1000)
    (hret : ∀ fs' vs m' h' tk', endRecF (readF pcs) off = .ret fs' → AllFld vs fs' → Fr h₀ L h' m → News h₀ L h' ((rc, listOf (List.toArray vs) m') :: news) → Q (.ref rc) { s with heap := h', toks := tk' })
    (hexc : ∀ txt e t tx g' h' tk', endRecF (readF pcs) off = .exc txt → Fr h₀ L g' m → RaisedS base g' (envX cn cs L a ccd cl :: outer) e (.ref 52) t [.str txt tx] ((rc, listOf (List.toArray [.int 0 a0, .int 1 a1, .int 2 a2, .int 3 a3, .int 4 a4, .int 5 a5, .int 6 a6, .int 7 a7, .int 8 a8, .int 9 a9]) mr) :: news) h' → g'.UpToSlots h' → E (.ref e) { s with heap := h', toks := tk' }) :
    wpAny (model prog w) (ktrTop dp un gd cn cs L a ccd cl outer) (call (.ref 62) [.ref x, .int off to, .ref rc]) Q E s := by
  refine endrec_ctr (of₀ := of₀) (tf := tf) (t1 := t1) (t2 := t2) (t3 := t3) (t4 := t4) p loose mean mg mb dp un gd cn cs a ccd cl outer A₀ base h₀ L m s Q E B F X (cb_drop N ?_) T hk hd hu hF hP hdx (fun p hp => neN (Nat.ne_of_lt (allLt_mem hl.2 p hp))) (neN (Nat.ne_of_lt hl.1)) h0 h1 hz hpc (fun fs' vs m' o' t' h' tk' e1 e2 F' N' => hret fs' vs m' h' tk' e1 e2 F' (cb_drop N' fun _ h => .tail _ h))
    (fun txt e t tx o' t' g' h' tk' e1 F' R U => hexc txt e t tx g' h' tk' e1 F' (raised_drop R fun _ h => .tail _ h) U)
  intro p hp
  rcases List.mem_cons.mp hp with rfl | hp
  · exact .tail _ (.head _)
  · rcases List.mem_cons.mp hp with rfl | hp
    · exact .head _
    · exact .tail _ (.tail _ hp)
theorem laid50 : True := by
  k_with "call ref" => (k_here; (with_reducible show wpAny _ _ (call (Value.ref 62) _ _) _ _ _); k_dflt (
  refine' endrec_use ?q9k1 ?q9k2 ?q9k3 ?q9k4 ?q9k5 ?q9kK ?q9kd ?q9ku ?q9kF ?q9kP ?q9kx ?q9kl ?q9h0 ?q9h1 ?q9hz ?q9hpc ?_ ?_; (case q9k1 => k_asm); (case q9k2 => k_asm); (case q9k3 => k_asm); (case q9k4 => k_asm); (case q9k5 => k_asm); (case q9kK => first | exact rfl | assumption); (case q9kd => ktr_room); (case q9ku => ktr_units); (case q9kF => assumption); (case q9kP => assumption); (case q9kx => assumption); (case q9kl => assumption); (case q9h0 => assumption); (case q9h1 => assumption); (case q9hz => assumption); (case q9hpc => assumption);
  first
  | (intro fs9 vs9 m9 h9 tk9 e9 f9 F9 N9; (try dsimp only); (try k_fold))
  | skip))
  trivial
theorem res_ret {rd : Int → Int → List UInt8} {off : Int} {fs : List Fld} {vs : List Value} {d rc : Addr} {t : Tok} {n k : Nat} (e : endRecF rd off = .ret fs) (f : AllFld vs fs) : ResOut (outOf (endRecF rd off)) [(d, listOf #[.str (Str.ofString "") t, .ref rc] n), (rc, listOf (List.toArray vs) k)] (.ref d) := by
  rw [e]; exact ⟨_, _, _, _, _, _, rfl, rfl, f⟩
theorem res_exc {rd : Int → Int → List UInt8} {off : Int} {txt : Str} {vs : List Value} {d rc : Addr} {t : Tok} {n k : Nat} (e : endRecF rd off = .exc txt) (f : AllFld vs rec0) : ResOut (outOf (endRecF rd off)) [(d, listOf #[.str txt t, .ref rc] n), (rc, listOf (List.toArray vs) k)] (.ref d) := by
  rw [e]; exact ⟨_, _, _, _, _, _, rfl, rfl, f⟩
set_option pp.deepTerms false in
set_option pp.deepTerms.threshold 12 in
set_option maxHeartbeats 8000000 in
theorem asked_ctr {prog : Program} {w : World} {news : List (Addr × Obj)} {pl : Addr} {pcs : List (Int × List UInt8)} {z off of₀ : Int} {tf to t1 t2 t3 t4 : Tok} {x dx fs fr : Addr} (p : Program) (loose : List Str) (mean : ExcName → Option Value) (mg mb : Str → Option Value) (dp un : Nat) (gd : Option (List Code)) (cn : Str) (cs : Scope) (a : Addr) (ccd : Value) (A₀ : Around) (h₀ : Heap) (L : Addr) (m : Str → Option Value) (s : Shared)
    (Q E : Value → Shared → Prop) (B : Below A₀ h₀ [] h₀) (F : Fr h₀ L s.heap m) (X : (Mine.hd.heap_39 w.params).In h₀) (N : News h₀ L s.heap ((dx, fdict w.params of₀ tf fs fr t1 t2 t3 t4) :: news)) (T : Top p loose mean mg mb h₀) (hk : cs.kind = .function) (hd : dp + 20 < recursionLimit) (hu : un + 160 < cLine)
    (hF : FileIn news pl z x dx fs fr) (hP : PiecesIn news pl pcs) (hdx : ∀ p ∈ news, p.1 ≠ dx) (h0 : 20 ≤ off) (h1 : off ≤ z) (hz : z < 2 ^ 60)
    (hpc : ∀ q ∈ pcs, 0 ≤ q.1 ∧ q.1 < 2 ^ 60 ∧ q.2.length < 1000)
    (hret : ∀ tl v h' tk', ResOut (outOf (endRecF (readF pcs) off)) tl v → Fr h₀ L h' m → News h₀ L h' (tl ++ news) → Q v { s with heap := h', toks := tk' }) :
    wpAny (model prog w) (ktrTop dp un gd cn cs L a ccd [] []) (call (.ref 179) [.ref x, .int off to]) Q E s := by
  have plainOn := PlainOn.mk
  refine wpAny_call ?_
  k_dflt (k_extra "mine enterS")
  k_steps
  · exact hret [_, _] _ _ _ (res_ret (by assumption) (by assumption)) (by assumption) (by assumption)
  · refine hret [_, _] _ _ _ (res_exc (by assumption) ?_) (by assumption) (by assumption)
    k_extra "mine fld"
end Mine
namespace Mine
theorem laid51 : True := by
  w_top off
  trivial
section
open PySem.SeqAt
theorem fld_eq {A : Around} {s : Shared} : ∀ {v v' : Value} {f : Fld}, FldIs v f → FldIs v' f → EqAt A s v v' true
  | .int i t, .int i' t', .int j, h, h' => by
    have e : i = j := h
    have e' : i' = j := h'
    have q := EqAt.int_int (A := A) (s := s) j t j t'
    rw [beq_self_eq_true] at q
    rw [e, e']
    exact q
  | .bytes b t, .bytes b' t', .bytes c, h, h' => by
    have e : b = c.toArray := h
    have e' : b' = c.toArray := h'
    subst e e'
    exact fun prog w E Q hq => eqBool_bytes (by rw [decide_eq_true rfl]; exact hq)
theorem flds_len : ∀ {vs : List Value} {fs : List Fld}, AllFld vs fs → vs.length = fs.length
  | [], [], _ => rfl
  | _ :: _, _ :: _, h => congrArg Nat.succ (flds_len h.2)
theorem flds_eq {A : Around} {s : Shared} : ∀ {vs vs' : List Value} {fs : List Fld}, AllFld vs fs → AllFld vs' fs → ∀ (j : Nat) (h1 : j < vs.length) (h2 : j < vs'.length), EqAt A s vs[j] vs'[j] true
  | [], _, _, _, _, _, h1, _ => absurd h1 (Nat.not_lt_zero _)
  | _ :: _, [], _, _, _, _, _, h2 => absurd h2 (Nat.not_lt_zero _)
  | _ :: _, _ :: _, _ :: _, h, h', 0, _, _ => fld_eq h.1 h'.1
  | _ :: _, _ :: _, _ :: _, h, h', j + 1, h1, h2 => flds_eq h.2 h'.2 j (Nat.lt_of_succ_lt_succ h1) (Nat.lt_of_succ_lt_succ h2)
theorem res_ne {prog : Program} {w : World} {A : Around} {E : Value → Shared → Prop} {s : Shared} {h₀ : Heap} {L d rc d' rc' : Addr} {news : List (Addr × Obj)} {x : Str × List Fld} {t t' : Tok} {n n' k k' : Nat} {vs vs' : List Value} {Q : Value → Shared → Prop}
    (N : News h₀ L s.heap news) (m1 : (d, listOf #[.str x.1 t, .ref rc] n) ∈ news) (m2 : (rc, listOf (List.toArray vs) k) ∈ news) (m3 : (d', listOf #[.str x.1 t', .ref rc'] n') ∈ news) (m4 : (rc', listOf (List.toArray vs') k') ∈ news)
    (f : AllFld vs x.2) (f' : AllFld vs' x.2) (hu : A.in1.units < cLine) (hu0 : A.units < cLine) (hq : Q (.bool false) s) : wpAny (model prog w) A (compareOp .NotEq (.ref d) (.ref d')) Q E s := by
  have l1 : s.heap.IsList d #[.str x.1 t, .ref rc] := ⟨_, (N _ m1).1, rfl, n, rfl⟩
  have l2 : s.heap.IsList rc vs.toArray := ⟨_, (N _ m2).1, rfl, k, rfl⟩
  have l3 : s.heap.IsList d' #[.str x.1 t', .ref rc'] := ⟨_, (N _ m3).1, rfl, n', rfl⟩
  have l4 : s.heap.IsList rc' vs'.toArray := ⟨_, (N _ m4).1, rfl, k', rfl⟩
  have hl := (flds_len f).trans (flds_len f').symm
  have hin : EqAt A.in1 s (.ref rc) (.ref rc') true := by
    by_cases e : rc = rc'
    · subst e; exact EqAt.same _
    · have q := RcAt.lists (e := fun _ => true) l2 l4 (by simpa using hl) hu (fun j h1 h2 => by
        have := flds_eq (A := A.in1.in1) (s := s) f f' j (by simpa using h1) (by simpa using h2)
        simpa using this)
      have e2 : (List.range vs.toArray.size).all (fun _ => true) = true := by simp
      rw [e2] at q
      exact EqAt.of_refs e q
  have hstr : EqAt A.in1 s (.str x.1 t) (.str x.1 t') true := by
    have := EqAt.str_str (A := A.in1) (s := s) x.1 t x.1 t'
    rwa [beq_self_eq_true] at this
  have key := RcNeAt.lists (e := fun _ => true) l1 l3 rfl hu0 (fun j h1 h2 => by
    match j, h1, h2 with
    | 0, _, _ => exact hstr
    | 1, _, _ => exact hin)
  exact key prog w E Q hq
end
theorem row_last {prog : Program} {w : World} {A : Around} {E : Value → Shared → Prop} {s : Shared} {h₀ : Heap} {L r : Addr} {news news' : List (Addr × Obj)} {value slice : Expr} {rows : List It} {u : Tok} {it : It} {Q : Value → Shared → Prop} (N : News h₀ L s.heap news') (R : RowIn news r rows) (hs : ∀ p ∈ news, p ∈ news') (hk : rows.getLast? = some it)
    (h : ∀ a t0 t1 t2 t3 t4 n, (a, listOf #[.str it.kind t0, .int it.place t1, .int it.stop t2, .int it.rest t3, .int it.other t4] n) ∈ news → Q (.ref a) s)
    (hsub : subscripted slice false (.ref r) (.int (-1) u) = operate [.ref r, .int (-1) u] (getItem (.ref r) (.int (-1) u)) := by with_unfolding_all rfl) :
    wpAny (model prog w) A (subscriptTail value slice (.ref r) (.int (-1) u)) Q E s := by
  obtain ⟨⟨vs, n, hm, hsz, hi⟩, h2⟩ := R
  have hl : s.heap.IsList r vs := ⟨_, (N _ (hs _ hm)).1, rfl, n, rfl⟩
  rw [List.getLast?_eq_getElem?] at hk
  have hpos : 0 < rows.length := by have := get_lt hk; omega
  obtain ⟨v, hv, a, t0, t1, t2, t3, t4, n', rfl, hm'⟩ := hi _ _ hk
  exact tail_any hl.typeIs slot_list_getitem.lookup (wpAny_getItem_list_neg hl (by decide) (by omega) (by decide) (by rw [show ((-1 : Int) + (vs.size : Int)).toNat = rows.length - 1 by omega]; exact hv) (h _ _ _ _ _ _ _ hm')) hsub
theorem file_use {prog : Program} {w : World} {led newsT : List (Addr × Obj)} {pl : Addr} {op : Obj} {z : Int} {tz : Tok} {ps : Array Value} {p : Program} {loose : List Str} {mean : ExcName → Option Value} {mg mb : Str → Option Value} {dp un : Nat} {gd : Option (List Code)} {cn : Str} {cs : Scope} {a : Addr} {ccd : Value} {cl : List (Str × Addr)} {outer : List Env} {A₀ : Around} {base h₀ : Heap} {L : Addr} {m : Str → Option Value} {s : Shared}
    {Q E : Value → Shared → Prop} (B : Below A₀ base outer h₀) (F : Fr h₀ L s.heap m) (X : (Mine.hd.heap_39 w.params).In h₀) (N : News h₀ L s.heap ((pl, op) :: (167, tabObj ps) :: led)) (T : Top p loose mean mg mb h₀) (hk : cs.kind = .function) (hd : dp + 10 < recursionLimit) (hu : un + 80 < cLine) (codeHd : CodeHd h₀ 171 167) (h167 : ∀ p ∈ led, p.1 ≠ 167) (hpl : @LT.lt Nat _ 167 pl)
    (hT : TabIs ps newsT) (hsT : ∀ p ∈ newsT, p ∈ led)
    (hret : ∀ x dx fs fr tl ps' tf t1 t2 t3 t4 h' tk', Fr h₀ L h' m → News h₀ L h' ((dx, fdict w.params 0 tf fs fr t1 t2 t3 t4) :: (167, tabObj ps') :: (tl ++ (pl, op) :: led)) → FileIn ((167, tabObj ps') :: (tl ++ (pl, op) :: led)) pl z x dx fs fr → TabIs ps' (tl ++ newsT) →
      (∀ q ∈ led, ∀ p ∈ tl, q.1 < p.1) → (∀ p ∈ tl, p.1 ≠ 167) → (∀ p ∈ (167, tabObj ps') :: (tl ++ (pl, op) :: led), p.1 ≠ dx) → Q (.ref x) { s with heap := h', toks := tk' }) :
    wpAny (model prog w) (ktrTop dp un gd cn cs L a ccd cl outer) (call (.ref 172) [.ref pl, .int z tz]) Q E s := by
  refine file_ctr (news := (pl, op) :: led) (newsT := newsT) p loose mean mg mb dp un gd cn cs a ccd cl outer A₀ base h₀ L m s Q E B F X (cb_drop N ?_) T hk hd hu codeHd ?_ hT (fun p hp => .tail _ (hsT p hp)) ?_
  · intro p hp
    rcases List.mem_cons.mp hp with rfl | hp
    · exact .tail _ (.head _)
    · rcases List.mem_cons.mp hp with rfl | hp
      · exact .head _
      · exact .tail _ (.tail _ hp)
  · intro p hp
    rcases List.mem_cons.mp hp with rfl | hp
    · exact neN (Nat.ne_of_gt hpl)
    · exact h167 p hp
  · intro x dx fs fr tl ps' tf t1 t2 t3 t4 h' tk' F' N' hF hT' o1 o2 o3 o4 o5
    refine hret x dx fs fr tl ps' tf t1 t2 t3 t4 h' tk' F' N' (hF.mono fun p hp => .tail _ hp) hT' (fun q hq => o1 q (.tail _ hq)) o4 ?_
    intro p hp
    rcases List.mem_cons.mp hp with rfl | hp
    · exact Ne.symm o5
    · rcases List.mem_append.mp hp with hp | hp
      · exact o3 p hp
      · exact neN (Nat.ne_of_lt (ltN (o2 p hp)))
theorem asked_use {prog : Program} {w : World} {news : List (Addr × Obj)} {pl : Addr} {pcs : List (Int × List UInt8)} {z off of₀ : Int} {tf to t1 t2 t3 t4 : Tok} {x dx fs fr : Addr} {res : Str × List Fld} {p : Program} {loose : List Str} {mean : ExcName → Option Value} {mg mb : Str → Option Value} {dp un : Nat} {gd : Option (List Code)} {cn : Str} {cs : Scope} {a : Addr} {ccd : Value} {A₀ : Around} {h₀ : Heap} {L : Addr} {m : Str → Option Value} {s : Shared}
    {Q E : Value → Shared → Prop} (B : Below A₀ h₀ [] h₀) (F : Fr h₀ L s.heap m) (X : (Mine.hd.heap_39 w.params).In h₀) (N : News h₀ L s.heap ((dx, fdict w.params of₀ tf fs fr t1 t2 t3 t4) :: news)) (T : Top p loose mean mg mb h₀) (hk : cs.kind = .function) (hd : dp + 20 < recursionLimit) (hu : un + 160 < cLine)
    (hF : FileIn news pl z x dx fs fr) (hP : PiecesIn news pl pcs) (hdx : ∀ p ∈ news, p.1 ≠ dx) (h0 : 20 ≤ off) (h1 : off ≤ z) (hz : z < 2 ^ 60)
    (hpc : ∀ q ∈ pcs, 0 ≤ q.1 ∧ q.1 < 2 ^ 60 ∧ q.2.length < 1000) (hres : outOf (endRecF (readF pcs) off) = res)
    (hret : ∀ d rc t n k vs h' tk', AllFld vs res.2 → Fr h₀ L h' m → News h₀ L h' ((d, listOf #[.str res.1 t, .ref rc] n) :: (rc, listOf (List.toArray vs) k) :: news) → Q (.ref d) { s with heap := h', toks := tk' }) :
    wpAny (model prog w) (ktrTop dp un gd cn cs L a ccd [] []) (call (.ref 179) [.ref x, .int off to]) Q E s := by
  subst hres
  refine asked_ctr (of₀ := of₀) (tf := tf) (t1 := t1) (t2 := t2) (t3 := t3) (t4 := t4) p loose mean mg mb dp un gd cn cs a ccd A₀ h₀ L m s Q E B F X N T hk hd hu hF hP hdx h0 h1 hz hpc ?_
  intro tl v h' tk' hr F' N'
  obtain ⟨d, rc, t, n, k, vs, rfl, rfl, f⟩ := hr
  exact hret d rc t n k vs h' tk' f F' N'
theorem above_of {tl led own : List (Addr × Obj)} {I : Addr} (h : ∃ o, (I, o) ∈ own) (m : ∀ p ∈ own, p ∈ led) (o : ∀ q ∈ led, ∀ p ∈ tl, q.1 < p.1) : ∀ p ∈ tl, I < p.1 := fun p hp => let ⟨_, hi⟩ := h; o _ (m _ hi) p hp
/-- what is due and what the record's reader answers are one, at each row -/
theorem due_any {prog : Program} {w : World} {rows : List It} {r : Addr} {i : Nat} {k : Int} {it : It} (G : Good rows) (hit : rows[i]? = some it) (hk : rowAt rows k = some it) :
    ∃ X : Str × List Fld, outOf (endRecF (readF (pcsTo rows rows.length)) it.stop) = X ∧ ∀ (news : List (Addr × Obj)) (tk : Tok), RowIn news r rows → Ctr prog w 165 10 [.ref r, .int k tk] news (ResOut X) := by
  by_cases he : it.kind = Str.ofString "end"
  · obtain ⟨hp63, hp60, ib, hib, ⟨gis, gt0, gt1, gm0, gm1, gb0, gb1⟩, hdue⟩ := G.fin i it hit he
    exact ⟨_, hdue, fun news tk R => dueE_ctr R hk he hib gis gt0 gt1⟩
  · have hoth := G.oth i it hit he
    refine ⟨(Str.ofString "", rec0), by rw [hoth]; rfl, fun news tk R => dueO_ctr R hk he⟩
theorem due_use {prog : Program} {w : World} {news : List (Addr × Obj)} {rows : List It} {r : Addr} {k : Int} {tk : Tok} {X : Str × List Fld} (C : ∀ (news : List (Addr × Obj)) (tk : Tok), RowIn news r rows → Ctr prog w 165 10 [.ref r, .int k tk] news (ResOut X)) (R : RowIn news r rows) : Ctr prog w 165 10 [.ref r, .int k tk] news (ResOut X) := C _ _ R
/-- the second loop's word: the table of the two closures' codes turns once, what was made stays -/
structure AskJ (led₀ : List (Addr × Obj)) (pl rr : Addr) (op : Obj) (m : Str → Option Value) (led : List (Addr × Obj)) : Prop where
  ex : ∃ ps' ext, led = (pl, op) :: (167, tabObj ps') :: (ext ++ led₀) ∧ TabIs ps' (ext ++ led₀) ∧ (∀ p ∈ ext, p.1 ≠ 167) ∧ m (Str.ofString "pieces") = some (.ref pl) ∧ m (Str.ofString "row") = some (.ref rr)
theorem ask_turn {h₀ h' : Heap} {L I pl rr : Addr} {tl ext led₀ own led : List (Addr × Obj)} {op : Obj} {ps' : Array Value} {tk : Nat} {m' : Str → Option Value} {s₁ : Shared}
    (F' : Fr h₀ L h' m') (N' : News h₀ L h' led) (hT : TabIs ps' (tl ++ (ext ++ led₀))) (o1 : ∀ p ∈ tl, p.1 ≠ 167) (o2 : ∀ p ∈ ext, p.1 ≠ 167) (hI : @LT.lt Nat _ pl I) (h167 : @LT.lt Nat _ 167 pl) (hI2 : ∀ p ∈ ext ++ led₀, p.1 < I ∨ I < p.1) (hI3 : ∀ p ∈ tl, I < p.1)
    (m0 : (pl, op) ∈ led) (m1 : (167, tabObj ps') ∈ led) (m2 : ∀ p ∈ tl, p ∈ led) (m3 : ∀ p ∈ ext ++ led₀, p ∈ led) (m4 : ∀ p ∈ own, p ∈ led) (e1 : m' (Str.ofString "pieces") = some (.ref pl)) (e2 : m' (Str.ofString "row") = some (.ref rr)) :
    TurnEnd h₀ L I I (fun m₁ led => AskJ led₀ pl rr op m₁ led) own s₁ { s₁ with heap := h', toks := tk } := by
  refine ⟨h', tk, m', led, (pl, op) :: (167, tabObj ps') :: ((tl ++ ext) ++ led₀), rfl, F', N', m4, ?_, ?_, ⟨⟨ps', tl ++ ext, rfl, by rw [List.append_assoc]; exact hT, ?_, e1, e2⟩⟩⟩
  · intro p hp
    rcases List.mem_cons.mp hp with rfl | hp
    · exact m0
    · rcases List.mem_cons.mp hp with rfl | hp
      · exact m1
      · rw [List.append_assoc] at hp
        exact (List.mem_append.mp hp).elim (m2 p) (m3 p)
  · intro p hp
    rcases List.mem_cons.mp hp with rfl | hp
    · exact .inl hI
    · rcases List.mem_cons.mp hp with rfl | hp
      · refine .inl (ltN ?_); dsimp only; omega
      · rw [List.append_assoc] at hp
        exact (List.mem_append.mp hp).elim (fun h => .inr (hI3 p h)) (hI2 p)
  · intro p hp
    exact (List.mem_append.mp hp).elim (o1 p) (o2 p)
end Mine
namespace Mine
theorem laid52 : True := by
  w_top off
  trivial
theorem row_facts {tl : List (Addr × Obj)} {r : Addr} {rows : List It} (R : RowIn tl r rows) : ∃ (vs : List Value) (n : Nat), (r, listOf (List.toArray vs) n) ∈ tl ∧ vs.length = rows.length := by
  obtain ⟨⟨vs, n, hm, hs, _⟩, _⟩ := R
  exact ⟨vs.toList, n, by simpa using hm, by simpa using hs⟩
theorem law_row {tl : List (Addr × Obj)} {r : Addr} {script : List Int} (R : RowIn tl r (rowsOf (nums script)).rows) : ∃ rows, RowIn tl r rows ∧ Good rows ∧ rows.length ≤ 11 ∧ ∃ (vs : List Value) (n : Nat), (r, listOf (List.toArray vs) n) ∈ tl ∧ vs.length = rows.length :=
  ⟨_, R, good_rows _, row_short _, row_facts R⟩
theorem laid53 : True := by
  k_with "call ref" => (k_here; (with_reducible show wpAny _ _ (call (Value.ref 125) _) _ _ _); k_dflt (
  refine' ctr_use (row_ctr (xs := nums _) ?q9hn ?q9hi ?q9hl) ?q9k1 ?q9k2 ?q9k3 ?q9k4 ?q9k5 ?q9kK ?q9kd ?q9ku ?_; k_extra "mine ctr"; (case q9hn => k_mem); (case q9hi => assumption); (case q9hl => exact Nat.lt_of_le_of_lt (nums_len _) (by decide));
  intro r9 tl9 h9 tk9 F9 N9 ho9 hp9; obtain ⟨rr9, e9, hR9⟩ := hp9; subst e9; (have h167 := ho9 (167, tabObj #[]) (by k_mem)); (replace N9 := cb_drop (news := (167, tabObj #[]) :: tl9) N9 (fun p hp => (List.mem_cons.mp hp).elim (fun e => e ▸ List.mem_append_right _ (by k_mem)) (fun h => List.mem_append_left _ h))); clear ho9;
  (replace hR9 := law_row hR9); (obtain ⟨rows, hR9, hG9, hnl9, vs9, n9, hm9, hs9⟩ := hR9); (try dsimp only); (try k_fold)))
  k_with "call ref" => (k_here; (with_reducible show wpAny _ _ (call (Value.ref 151) _ _) _ _ _); k_dflt (
  refine' ctr_use (begin_ctr ?q9kR ?q9kb ?q9kg ?q9a ?q9b ?q9c ?q9d ?q9e ?q9f) ?q9k1 ?q9k2 ?q9k3 ?q9k4 ?q9k5 ?q9kK ?q9kd ?q9ku ?_; (case q9kb => assumption); (case q9kg => assumption); k_extra "mine ctr"; (case q9kR => exact RowIn.mono (by assumption) (by k_extra "mine sub")); (case q9a => assumption); (case q9b => assumption); (case q9c => assumption); (case q9d => assumption); (case q9e => assumption); (case q9f => assumption);
  intro r9 tl9 h9 tk9 F9 N9 ho9 hp9; obtain ⟨e9, t9, e99⟩ := hp9; subst e9; subst e99; (simp only [List.cons_append, List.nil_append] at N9); clear ho9; (try dsimp only); (try k_sweep); (try k_fold)))
  k_with "call ref" => (k_here; (with_reducible show wpAny _ _ (call (Value.ref 158) _ _) _ _ _); k_dflt (
  refine' ctr_use (end_ctr ?q9kR ?q9kb ?q9kb2 ?q9kg ?q9a ?q9b ?q9e ?q9f ?q9p ?q9q) ?q9k1 ?q9k2 ?q9k3 ?q9k4 ?q9k5 ?q9kK ?q9kd ?q9ku ?_; (case q9kb => assumption); (case q9kb2 => assumption); (case q9kg => assumption); k_extra "mine ctr"; (case q9kR => exact RowIn.mono (by assumption) (by k_extra "mine sub")); (case q9a => assumption); (case q9b => assumption); (case q9e => assumption); (case q9f => assumption); (case q9p => assumption); (case q9q => assumption);
  intro r9 tl9 h9 tk9 F9 N9 ho9 hp9; obtain ⟨e9, t9, e99⟩ := hp9; subst e9; subst e99; (simp only [List.cons_append, List.nil_append] at N9); clear ho9; (try dsimp only); (try k_sweep); (try k_fold)))
  k_with "exec For Name Call cons nil" => (k_here; (rename Fr _ _ _ _ => lF'); (with_unfolding_all refine' For_turns lF' ?_); k_whole)
  k_with "pyIter ref" => (k_here; refine hold ?_)
  k_with "call ref" => (k_here; (with_reducible show wpAny _ _ (call (Value.ref 172) _ _) _ _ _); k_dflt (
  refine' file_use ?q9k1 ?q9k2 ?q9k3 ?q9k4 ?q9k5 ?q9kK ?q9kd ?q9ku ?q9kc ?q9k6 ?q9k7 ?q9k8 ?q9k9 ?_; k_extra "mine ctr"; (case q9kc => with_reducible assumption); (case q9k6 => with_reducible assumption); (case q9k7 => with_reducible assumption); (case q9k8 => with_reducible assumption); (case q9k9 => with_reducible assumption);
  intro x9 dx9 fs9 fr9 tl9 ps9 tf9 t19 t29 t39 t49 h9 tk9 F9 N9 hF9 hT9 o19 o29 o39; (try dsimp only); (try k_sweep); (try k_fold)))
  k_with "call ref" => (k_here; (with_reducible show wpAny _ _ (call (Value.ref 179) _ _) _ _ _); k_dflt (
  refine' asked_use ?q9k1 ?q9k2 ?q9k3 ?q9k4 ?q9k5 ?q9kK ?q9kd ?q9ku ?q9kF ?q9kP ?q9kx ?q9h0 ?q9h1 ?q9hz ?q9hpc ?q9hres ?_; k_extra "mine ctr"; (case q9kF => with_reducible assumption); (case q9kP => exact PiecesIn.mono (by with_reducible assumption) (by k_extra "mine sub")); (case q9kx => with_reducible assumption); (case q9h0 => with_reducible assumption); (case q9h1 => with_reducible assumption); (case q9hz => with_reducible assumption); (case q9hpc => with_reducible assumption); (case q9hres => with_reducible assumption);
  intro d9 rc9 t9 n9 m9 vs9 h9 tk9 f9 F9 N9; (try dsimp only); (try k_sweep); (try k_fold)))
  k_with "call ref" => (k_here; (with_reducible show wpAny _ _ (call (Value.ref 165) _ _) _ _ _); k_dflt (
  refine' ctr_use (due_use ?q9C ?q9R) ?q9k1 ?q9k2 ?q9k3 ?q9k4 ?q9k5 ?q9kK ?q9kd ?q9ku ?_; (case q9C => with_reducible assumption); k_extra "mine ctr"; (case q9R => exact RowIn.mono (by with_reducible assumption) (by k_extra "mine sub"));
  intro r9 tl9 h9 tk9 F9 N9 ho9 hp9; obtain ⟨d9, rc9, t9, n9, m9, vs9, e9, e99, f9⟩ := hp9; subst e9; subst e99; (simp only [List.cons_append, List.nil_append] at N9); clear ho9; (try dsimp only); (try k_sweep); (try k_fold)))
  k_with "compareOp NotEq ref ref" => (k_here; (with_reducible show wpAny _ _ (compareOp CmpOp.NotEq (Value.ref _) (Value.ref _)) _ _ _); refine hold ?_)
  trivial
theorem pcs_len (rows : List It) (i : Nat) : (pcsTo rows i).length ≤ i := by
  unfold pcsTo
  exact Nat.le_trans (List.length_filterMap_le _ _) (by rw [List.length_take]; omega)
theorem small_ok : ∀ {n : Nat}, n ≤ 11 → Builtin.Range.small 0 (n : Int) 1 = true := by
  intro n h
  have : ∀ k : Fin 12, Builtin.Range.small 0 ((k : Nat) : Int) 1 = true := by decide
  exact this ⟨n, by omega⟩
theorem laid54 : True := by
  k_with "subscriptTail" => (k_here; (with_reducible show wpAny _ _ (subscriptTail _ _ (Value.ref _) (Value.int _ _)) _ _ _); first
  | ((with_unfolding_all refine' row_item ?q9k1 ?q9k2 ?q9k3 ?q9k4 ?_ ?q9k6); (case q9k2 => with_reducible assumption); (case q9k1 => with_reducible assumption); (case q9k3 => k_extra "mine sub"); (case q9k4 => with_reducible assumption); (case q9k6 => with_unfolding_all rfl); intro a' t0' t1' t2' t3' t4' n' hm')
  | ((with_unfolding_all refine' lit_item ?q9k1 ?q9k2 ?q9k3 ?q9k4 ?q9k5 ?_ ?q9k6); (case q9k1 => with_reducible assumption); (case q9k2 => (k_extra "mine mem")); (case q9k3 => decide); (case q9k4 => decide); (case q9k5 => rfl); (case q9k6 => with_unfolding_all rfl)))
  k_with "subscriptTail" => (k_here; (with_reducible show wpAny _ _ (subscriptTail _ _ (Value.ref _) (Value.int (-1) _)) _ _ _); ((with_unfolding_all refine' row_last ?q9k1 ?q9k2 ?q9k3 ?q9k4 ?_ ?q9k6); (case q9k2 => with_reducible assumption); (case q9k1 => with_reducible assumption); (case q9k3 => k_extra "mine sub"); (case q9k4 => with_reducible assumption); (case q9k6 => with_unfolding_all rfl); intro a' t0' t1' t2' t3' t4' n' hm'))
  trivial
structure PcsJ (tl9 : List (Addr × Obj)) (pl rr : Addr) (pcs : List (Int × List UInt8)) (m : Str → Option Value) (led : List (Addr × Obj)) : Prop where
  ex : ∃ ps n tl2, led = (pl, listOf (List.toArray ps) n) :: (167, tabObj #[]) :: (tl2 ++ tl9) ∧ ps.length = pcs.length ∧ (∀ (i : Nat) (v : Value), ps[i]? = some v → ∃ p, pcs[i]? = some p ∧ PcIn tl2 v p) ∧ (∀ p ∈ tl2, pl < p.1) ∧ m (Str.ofString "pieces") = some (.ref pl) ∧ m (Str.ofString "row") = some (.ref rr)
theorem pcs_push {h₀ h' : Heap} {L I pl rr ta : Addr} {tl2 tl9 own led : List (Addr × Obj)} {ps : List Value} {pcs : List (Int × List UInt8)} {q : Int × List UInt8} {t u : Tok} {n tk : Nat} {ob : Obj} {m' : Str → Option Value} {s₁ : Shared}
    (F' : Fr h₀ L h' m') (N' : News h₀ L h' led) (hl : ps.length = pcs.length) (hps : ∀ (i : Nat) (v : Value), ps[i]? = some v → ∃ p, pcs[i]? = some p ∧ PcIn tl2 v p) (hp3 : ∀ p ∈ tl2, pl < p.1) (hI : @LT.lt Nat _ pl I) (h167 : @LT.lt Nat _ 167 pl) (hI2 : ∀ p ∈ tl2, p.1 < I ∨ I < p.1) (h9 : ∀ p ∈ tl9, p.1 < pl) (hta : @LT.lt Nat _ I ta)
    (mpl : (pl, listOf (List.toArray (ps ++ [Value.ref ta])) n) ∈ led) (m167 : (167, tabObj #[]) ∈ led) (mt : (ta, ob) ∈ led) (ho : ob = tup2 q.1 q.2 t u) (m1 : ∀ p ∈ tl2, p ∈ led) (m2 : ∀ p ∈ tl9, p ∈ led) (m3 : ∀ p ∈ own, p ∈ led)
    (e1 : m' (Str.ofString "pieces") = some (.ref pl)) (e2 : m' (Str.ofString "row") = some (.ref rr)) :
    TurnEnd h₀ L I I (fun m₁ led => PcsJ tl9 pl rr (pcs ++ [q]) m₁ led) own s₁ { s₁ with heap := h', toks := tk } := by
  subst ho
  refine ⟨h', tk, m', led, (pl, listOf (List.toArray (ps ++ [Value.ref ta])) n) :: (167, tabObj #[]) :: ((tl2 ++ [(ta, tup2 q.1 q.2 t u)]) ++ tl9), rfl, F', N', m3, ?_, ?_, ⟨⟨ps ++ [Value.ref ta], n, tl2 ++ [(ta, tup2 q.1 q.2 t u)], rfl, ?_, ?_, ?_, e1, e2⟩⟩⟩
  · intro p hp
    rcases List.mem_cons.mp hp with rfl | hp
    · exact mpl
    · rcases List.mem_cons.mp hp with rfl | hp
      · exact m167
      · rcases List.mem_append.mp hp with hp | hp
        · rcases List.mem_append.mp hp with hp | hp
          · exact m1 p hp
          · rw [List.mem_singleton.mp hp]; exact mt
        · exact m2 p hp
  · intro p hp
    rcases List.mem_cons.mp hp with rfl | hp
    · exact .inl hI
    · rcases List.mem_cons.mp hp with rfl | hp
      · refine .inl (ltN ?_); dsimp only; omega
      · rcases List.mem_append.mp hp with hp | hp
        · rcases List.mem_append.mp hp with hp | hp
          · exact hI2 p hp
          · rw [List.mem_singleton.mp hp]; exact .inr hta
        · have q9 := ltN (h9 p hp)
          refine .inl (ltN ?_); omega
  · rw [List.length_append, List.length_append, hl]; rfl
  · intro i v hv
    rcases Nat.lt_or_ge i ps.length with hi | hi
    · rw [List.getElem?_append_left hi] at hv
      obtain ⟨p, hp, hin⟩ := hps i v hv
      exact ⟨p, by rw [List.getElem?_append_left (by omega)]; exact hp, hin.mono fun x hx => List.mem_append_left _ hx⟩
    · rw [List.getElem?_append_right hi] at hv
      have hi2 : i - ps.length = 0 := by
        rcases Nat.eq_zero_or_pos (i - ps.length) with z | z
        · exact z
        · rw [List.getElem?_eq_none (by rw [List.length_singleton]; exact z)] at hv; cases hv
      rw [hi2] at hv
      cases hv
      exact ⟨q, by rw [List.getElem?_append_right (by omega), ← hl, hi2]; rfl, ta, t, u, rfl, List.mem_append_right _ (.head _)⟩
  · intro p hp
    rcases List.mem_append.mp hp with hp | hp
    · exact hp3 p hp
    · rw [List.mem_singleton.mp hp]
      refine ltN ?_; dsimp only; omega
set_option pp.deepTerms false in
set_option pp.deepTerms.threshold 20 in
set_option maxHeartbeats 8000000 in
theorem fin_ : PySem.Challenge.rw_kl0457_01.Holds := by
  refine Mine.hd ?_
  k_go0
  try k_fold
  k_steps
  rename_i _ pl9 _ hpl9 _ F8 N8 _ _ _ _ _ hrg9 F9 N9 K9
  have hpl1 : @LT.lt Nat _ 167 pl9 := hpl9.1
  have hpl2 : ∀ p ∈ tl9, p.1 < pl9 := allLt_mem hpl9.2
  have hrr1 : @LT.lt Nat _ rr9 pl9 := hpl2 _ hm9
  refine unhold (turns_rangeO (n := rows.length) (news := (pl9, listOf (List.toArray []) 0) :: (167, tabObj #[]) :: ([] ++ tl9)) (by rfl) hrg9 ?_ ?_ F9 (by k_extra "mine drop")
    (fun i m₁ led => PcsJ tl9 pl9 rr9 (pcsTo rows i) m₁ led) ?_ ?_ ?_)
  · exact small_ok hnl9
  · rw [rangeSize_nat]; omega
  · exact ⟨⟨[], 0, [], rfl, rfl, (fun _ _ h => nomatch h), (fun _ h => nomatch h), rfl, rfl⟩⟩
  · intro I i t m₁ news₁ h₁ tk₁ own hI hin hJ hlow hoI hfp F₁ N₁
    obtain ⟨⟨ps, n, tl2, rfl, hpsl, hps, hpl3, hpieces, hrow⟩⟩ := hJ
    obtain ⟨it, hit⟩ : ∃ it, rows[i]? = some it := ⟨_, List.getElem?_eq_getElem hin⟩
    have hk : rowAt rows (0 + (i : Int)) = some it := by
      unfold rowAt
      rw [if_pos (by omega), show (0 + (i : Int)).toNat = i by omega, hit]
    have hpc := pcs_succ hit
    have hps2 : ps.length < 900 := by
      have q := pcs_len rows i
      omega
    replace F₁ := fr_name F₁ hpieces
    replace F₁ := fr_name F₁ ((if_neg (by decide)).trans hrow)
    clear F8 F9 N8 N9 K9 hrg9
    obtain ⟨led, hled⟩ : ∃ led, led = tl2 ++ tl9 ++ own := ⟨_, rfl⟩
    have m1 : ∀ p ∈ tl2, p ∈ led := fun p hp => hled ▸ List.mem_append_left _ (List.mem_append_left _ hp)
    have m2 : ∀ p ∈ tl9, p ∈ led := fun p hp => hled ▸ List.mem_append_left _ (List.mem_append_right _ hp)
    have m3 : ∀ p ∈ own, p ∈ led := fun p hp => hled ▸ List.mem_append_right _ hp
    have hIp : @LT.lt Nat _ pl9 I := hI (pl9, _) (.head _)
    have np : ∀ p ∈ led, p.1 ≠ pl9 := by
      intro p hp
      rw [hled] at hp
      refine neN ?_
      rcases List.mem_append.mp hp with hp | hp
      · rcases List.mem_append.mp hp with hp | hp
        · have q := ltN (hpl3 p hp); omega
        · have q := ltN (hpl2 p hp); omega
      · have q1 : @Eq Nat p.1 _ := hfp p hp; omega
    have N₂ := cb_drop (news := (pl9, listOf (List.toArray ps) n) :: (167, tabObj #[]) :: led) N₁ (fun p hp => by
      rw [hled] at hp
      exact hp)
    clear N₁
    have hRR := hR9.mono m2
    clear hR9 hm9
    by_cases hb : it.kind = Str.ofString "begin"
    · have hbb : (it.kind == Str.ofString "begin") = true := beq_iff_eq.mpr hb
      obtain ⟨gis, gt0, gt1, gm0, gm1, gb0, gb1⟩ := hG9.beg i it hit hb
      have hpa : pieceAt rows it = some (it.place, recB it (grpOf rows it).1 (grpOf rows it).2.1 (grpOf rows it).2.2.1 (grpOf rows it).2.2.2) := by unfold pieceAt; rw [if_pos hb]
      repeat' (first | (with_reducible exact absurd hb (by assumption)) | (k_unfold; (try dsimp only)) | (k_end; wrow_close) | walk1 | (dsimp only; walk1) | (leave1; walk_say "STEP leave1"; try dsimp only) | fail "no step")
      rw [hpc, hpa]
      refine' pcs_push ?F ?N hpsl hps hpl3 hIp hpl1 (fun p hp => hlow p (.tail _ (.tail _ (List.mem_append_left _ hp)))) hpl2 ?d2 ?mpl ?m167 ?mt ?ho ?mi ?mn ?mo ?e1 ?e2
      case F => (rename Fr _ _ _ _ => lF7; exact lF7)
      case N => (rename News _ _ _ _ => lN7; exact lN7)
      case mpl => k_mem
      case m167 => k_mem
      case mt => k_mem
      case ho => exact rfl
      case mi => exact fun p hp => by have q := m1 p hp; k_mem
      case mn => exact fun p hp => by have q := m2 p hp; k_mem
      case mo => exact fun p hp => by have q := m3 p hp; k_mem
      case e1 => rfl
      case e2 => rfl
      case d2 => exact hoI.elim fun oI hoI => (by k_extra "mine below" : ∀ p ∈ led, p.1 < _) _ (m3 _ hoI)
    · have hbf : (it.kind == Str.ofString "begin") = false := beq_eq_false_iff_ne.mpr hb
      by_cases he : it.kind = Str.ofString "end"
      · obtain ⟨hp63, hp60, ib, hib, ⟨gis, gt0, gt1, gm0, gm1, gb0, gb1⟩, hdue⟩ := hG9.fin i it hit he
        clear hdue
        have het : (it.kind == Str.ofString "end") = true := beq_iff_eq.mpr he
        have hpa : pieceAt rows it = some (it.place, endB it (grpOf rows ib).1 (grpOf rows ib).2.1 (grpOf rows ib).2.2.1) := by unfold pieceAt; rw [if_neg hb, if_pos he, hib]; rfl
        repeat' (first | (with_reducible exact absurd (by assumption) hb) | (with_reducible exact absurd he (by assumption)) | (k_unfold; (try dsimp only)) | (k_end; wrow_close) | walk1 | (dsimp only; walk1) | (leave1; walk_say "STEP leave1"; try dsimp only) | fail "no step")
        rw [hpc, hpa]
        refine' pcs_push ?F ?N hpsl hps hpl3 hIp hpl1 (fun p hp => hlow p (.tail _ (.tail _ (List.mem_append_left _ hp)))) hpl2 ?d2 ?mpl ?m167 ?mt ?ho ?mi ?mn ?mo ?e1 ?e2
        case F => (rename Fr _ _ _ _ => lF7; exact lF7)
        case N => (rename News _ _ _ _ => lN7; exact lN7)
        case mpl => k_mem
        case m167 => k_mem
        case mt => k_mem
        case ho => exact rfl
        case mi => exact fun p hp => by have q := m1 p hp; k_mem
        case mn => exact fun p hp => by have q := m2 p hp; k_mem
        case mo => exact fun p hp => by have q := m3 p hp; k_mem
        case e1 => rfl
        case e2 => rfl
        case d2 => exact hoI.elim fun oI hoI => (by k_extra "mine below" : ∀ p ∈ led, p.1 < _) _ (m3 _ hoI)
      · have hpa : pieceAt rows it = none := by unfold pieceAt; rw [if_neg hb, if_neg he]
        have hef : (it.kind == Str.ofString "end") = false := beq_eq_false_iff_ne.mpr he
        repeat' (first | (with_reducible exact absurd (by assumption) hb) | (with_reducible exact absurd (by assumption) he) | (k_unfold; (try dsimp only)) | (k_end; wrow_close) | walk1 | (dsimp only; walk1) | (leave1; walk_say "STEP leave1"; try dsimp only) | fail "no step")
        rw [hpc, hpa]
        refine ⟨_, _, _, _, (pl9, listOf (List.toArray ps) n) :: (167, tabObj #[]) :: (tl2 ++ tl9), rfl, (by rename Fr _ _ _ _ => lF7; exact lF7), (by rename News _ _ _ _ => lN7; exact lN7), (fun p hp => by have q := m3 p hp; k_mem), ?_, hlow, ⟨⟨ps, n, tl2, rfl, by simpa using hpsl, by simpa using hps, hpl3, rfl, rfl⟩⟩⟩
        intro p hp
        rcases List.mem_cons.mp hp with rfl | hp
        · k_mem
        · rcases List.mem_cons.mp hp with rfl | hp
          · k_mem
          · rcases List.mem_append.mp hp with hp | hp
            · have q := m1 p hp; k_mem
            · have q := m2 p hp; k_mem
  · intro h' tk m' news' F' N' hJ
    obtain ⟨⟨ps, n, tl2, rfl, hpsl, hps, hpl3, hpieces, hrow⟩⟩ := hJ
    replace F' := fr_name F' hpieces
    replace F' := fr_name F' ((if_neg (by decide)).trans hrow)
    clear F8 F9 N8 N9 K9 hrg9
    have hRR := hR9.mono (fun p hp => List.mem_append_right tl2 hp)
    have hPP : PiecesIn ((pl9, listOf (List.toArray ps) n) :: (tl2 ++ tl9)) pl9 (pcsTo rows rows.length) := ⟨ps, n, .head _, hpsl, fun i v hv => let ⟨p, a, b⟩ := hps i v hv; ⟨p, a, b.mono fun x hx => .tail _ (List.mem_append_left _ hx)⟩⟩
    obtain ⟨led, hled⟩ : ∃ led, led = tl2 ++ tl9 := ⟨_, rfl⟩
    rw [← hled] at N' hRR hPP
    have hm8 : (rr9, listOf (List.toArray vs9) n9) ∈ led := hled ▸ List.mem_append_right _ hm9
    have np : ∀ p ∈ led, p.1 ≠ pl9 := by
      intro p hp
      rw [hled] at hp
      refine neN ?_
      rcases List.mem_append.mp hp with hp | hp
      · have q := ltN (hpl3 p hp); omega
      · have q := ltN (hpl2 p hp); omega
    have n167 : ∀ p ∈ led, p.1 ≠ 167 := by
      intro p hp
      rw [hled] at hp
      refine neN ?_
      rcases List.mem_append.mp hp with hp | hp
      · have q := ltN (hpl3 p hp); omega
      · have q := ltN (h167 p hp); dsimp only at q; omega
    clear hled hR9 hm9
    k_steps
    rename_i h7 tk7 t7 u7 v7 hrg7 F7 N7 K7
    refine unhold (turns_rangeO (n := rows.length) (news := (pl9, listOf (List.toArray ps) n) :: (167, tabObj #[]) :: ([] ++ led)) (by rfl) hrg7 ?_ ?_ F7 N7
      (fun i m₁ led1 => AskJ led pl9 rr9 (listOf (List.toArray ps) n) m₁ led1) ?_ ?_ ?_)
    · exact small_ok hnl9
    · rw [rangeSize_nat]; omega
    · exact ⟨⟨#[], [], rfl, .inl rfl, (fun _ h => nomatch h), rfl, rfl⟩⟩
    · intro I i t m₁ news₁ h₁ tk₁ own hI hin hJ hlow hoI hfp F₁ N₁
      obtain ⟨⟨ps2, ext, rfl, hTab, hx167, hpieces2, hrow2⟩⟩ := hJ
      obtain ⟨it, hit⟩ : ∃ it, rows[i]? = some it := ⟨_, List.getElem?_eq_getElem hin⟩
      have hk : rowAt rows (0 + (i : Int)) = some it := by
        unfold rowAt
        rw [if_pos (by omega), show (0 + (i : Int)).toNat = i by omega, hit]
      obtain ⟨il, hil⟩ : ∃ il, rows.getLast? = some il := by
        rw [List.getLast?_eq_getElem?]
        exact ⟨_, List.getElem?_eq_getElem (by omega)⟩
      have hls : lastStop rows = il.stop := by unfold lastStop; rw [hil]; rfl
      have hst := hG9.stop i it hit
      have hz := hG9.last
      rw [hls] at hst hz
      obtain ⟨hst0, hst1⟩ := hst
      have hpcs := hG9.pcs
      replace F₁ := fr_name F₁ hpieces2
      replace F₁ := fr_name F₁ ((if_neg (by decide)).trans hrow2)
      clear F7 N7 K7 hrg7
      have hIp : @LT.lt Nat _ pl9 I := hI (pl9, _) (.head _)
      obtain ⟨led2, hled2⟩ : ∃ led2, led2 = (ext ++ led) ++ own := ⟨_, rfl⟩
      have m1 : ∀ p ∈ ext ++ led, p ∈ led2 := fun p hp => hled2 ▸ List.mem_append_left _ hp
      have m3 : ∀ p ∈ own, p ∈ led2 := fun p hp => hled2 ▸ List.mem_append_right _ hp
      have q167 : ∀ p ∈ led2, p.1 ≠ 167 := by
        intro p hp
        rw [hled2] at hp
        rcases List.mem_append.mp hp with hp | hp
        · rcases List.mem_append.mp hp with hp | hp
          · exact hx167 p hp
          · exact n167 p hp
        · refine neN ?_
          have q1 : @Eq Nat p.1 _ := hfp p hp
          omega
      have N₂ := cb_drop (news := (pl9, listOf (List.toArray ps) n) :: (167, tabObj ps2) :: led2) N₁ (fun p hp => by
        rw [hled2] at hp
        exact hp)
      clear N₁
      have hRR2 := hRR.mono (fun p hp => m1 p (List.mem_append_right _ hp))
      have hPP2 := hPP.mono (news' := (pl9, listOf (List.toArray ps) n) :: led2) (fun p hp => (List.mem_cons.mp hp).elim (fun e => e ▸ .head _) (fun h => .tail _ (m1 p (List.mem_append_right _ h))))
      obtain ⟨X, hres, hdue⟩ := due_any (prog := PySem.Challenge.rw_kl0457_01.row.prog) (w := ‹World›) (r := rr9) hG9 hit hk
      repeat' (first | (k_unfold; (try dsimp only)) | (k_end; wrow_close) | walk1 | (dsimp only; walk1) | (leave1; walk_say "STEP leave1"; try dsimp only) | fail "no step")
      rename News _ _ _ _ => lN7
      refine' unhold (res_ne lN7 ?m1 ?m2 ?m3 ?m4 ?f ?f' ?u ?u0 ?_)
      case m1 => k_mem
      case m3 => k_mem
      case m2 => k_mem
      case m4 => k_mem
      case f => with_reducible assumption
      case f' => with_reducible assumption
      case u => k_units
      case u0 => k_units
      repeat' (first | (k_unfold; (try dsimp only)) | (k_end; wrow_close) | walk1 | (dsimp only; walk1) | (leave1; walk_say "STEP leave1"; try dsimp only) | fail "no step")
      refine' ask_turn ?F ?N ?hT ?o1 hx167 hIp hpl1 (fun p hp => hlow p (.tail _ (.tail _ hp))) ?hI3 ?m0 ?m1 ?m2 ?m3 ?m4 ?e1 ?e2
      case F => (rename Fr _ _ _ _ => lF7; exact lF7)
      case N => (rename News _ _ _ _ => lN7; exact lN7)
      case hT => with_reducible assumption
      case m0 => k_mem
      case m1 => k_mem
      case o1 => with_reducible assumption
      case hI3 => exact above_of hoI m3 (by with_reducible assumption)
      case m2 => exact fun p hp => by k_mem
      case m3 => exact fun p hp => by have q := m1 p hp; k_mem
      case m4 => exact fun p hp => by have q := m3 p hp; k_mem
      case e1 => rfl
      case e2 => rfl
    · intro h' tk m' news' F' N' hJ
      obtain ⟨⟨ps2, ext, rfl, hTab, hx167, hpieces2, hrow2⟩⟩ := hJ
      k_steps
end Mine
theorem PySem.Challenge.cw_kl0457_01_holds : PySem.Challenge.rw_kl0457_01.Holds :=
  Mine.fin_
