import PyProof.Rows.All
import Wide.All
import OpenK.AllK
import Wide.FinOn
import Lean
import PySem.Challenge.RW_ie0001_01
open PySem PySem.W PyProof.Rows PySem.Calls
set_option Elab.async false
set_option maxRecDepth 100000

namespace Mine
set_option maxRecDepth 100000 in
set_option maxHeartbeats 8000000 in
open_top hd for PySem.Challenge.rw_ie0001_01
end Mine

namespace Mine

section
variable {prog : Program} {w : World} {A : Around} {E : Value → Shared → Prop} {s : Shared} {h₀ : Heap} {L l : Addr} {news : List (Addr × Obj)}
theorem my_len {us : List Value} {n : Nat} {Q : Value → Shared → Prop} (N : News h₀ L s.heap news) (hm : (l, listOf us.toArray n) ∈ news) (hfit : us.length < 2^60)
  (h : Q (.int (us.length : Int) (s.toks+1)) { s with toks := s.toks + 1 + 1 }) : wpAny (model prog w) A (call (.builtin "len") [.ref l]) Q E s := by
  have hl : s.heap.IsList l us.toArray := ⟨_, (N _ hm).1, rfl, n, rfl⟩
  exact len_list hl (by rw [List.size_toArray]; omega) (by rw [List.size_toArray]; exact h)

theorem my_item {value slice : PySem.Expr} {us : List Value} {n : Nat} {k : Int} {u : Tok} {Q : Value → Shared → Prop} (N : News h₀ L s.heap news) (hm : (l, listOf us.toArray n) ∈ news) (hlen : us.length < 2^60)
    (h0 : 0 ≤ k) (h1 : k < us.length) (h : ∀ hk : k.toNat < us.length, Q (us[k.toNat]'hk) s)
    (hs : subscripted slice false (.ref l) (.int k u) = operate [.ref l, .int k u] (getItem (.ref l) (.int k u)) := by with_unfolding_all rfl) :
    wpAny (model prog w) A (subscriptTail value slice (.ref l) (.int k u)) Q E s := by
  have hl : s.heap.IsList l us.toArray := ⟨_, (N _ hm).1, rfl, n, rfl⟩
  have hk : k.toNat < us.length := by omega
  exact tail_any hl.typeIs slot_list_getitem.lookup (wpAny_getItem_list hl h0 (by omega) (by simp [hk]) (h hk)) hs
end

theorem fr_set {h₀ h : Heap} {L : Addr} {m : Str → Option Value} (ps : List (Str × Value)) (F : Fr h₀ L h m) (hp : ∀ p ∈ ps, m p.1 = some p.2) : Fr h₀ L h (kstB m ps) := by
  have em : kstB m ps = m := by funext y; exact kstB_eq hp fun _ => rfl
  rw [em]; exact F

def BisOk (b : Nat → Bool) (n : Nat) (r : Nat) : Prop := r ≤ n ∧ (r = 0 ∨ b (r-1) = true) ∧ (r = n ∨ b r = false)

def BisJ (b : Nat → Bool) (l : Addr) (us : List Value) (x : Value) (news : List (Addr × Obj)) (k : Nat) (m : Str → Option Value) (nx : List (Addr × Obj)) : Prop :=
  nx = news ∧ ∃ (lo hi : Nat) (t u : Tok), k = hi - lo ∧ lo ≤ hi ∧ hi ≤ us.length ∧ (lo = 0 ∨ b (lo-1) = true) ∧ (hi = us.length ∨ b hi = false) ∧
    m "lo" = some (.int lo t) ∧ m "hi" = some (.int hi u) ∧ m "a" = some (.ref l) ∧ m "x" = some x ∧ m "key" = some .none

local macro_rules | `(tactic| walk_at "call builtin:len") => `(tactic| (k_here; (with_reducible show wpAny _ _ (call (Value.builtin "len") [Value.ref _]) _ _ _); k_dflt (refine' my_len ?k1 ?k2 ?k3 ?_; (case k1 => k_asm); (case k2 => assumption); (case k3 => assumption); k_whole)))

local macro_rules | `(tactic| k_steps) => `(tactic| repeat' (first | (k_unfold; (try dsimp only)) | ((fail_if_success (with_reducible show wpAny _ _ (exec (Stmt.While _ _ _ _) _) _ _ _)); walk1) | ((fail_if_success (with_reducible show wpAny _ _ (exec (Stmt.While _ _ _ _) _) _ _ _)); dsimp only; walk1) | (leave1; walk_say "STEP leave1"; try dsimp only) | fail "no step"))

set_option maxHeartbeats 4000000 in
theorem bisect_ct (w : World) {p : Program} {loose : List Str} {mean : ExcName → Option Value} {mg mb : Str → Option Value}
  (dp un : Nat) (gd : Option (List Code)) (cn : Str) (cs : Scope) (a : Addr) (ccd : Value) (cl : List (Str × Addr)) (outer : List Env) (A₀ : Around) (base h₀ : Heap) (L : Addr) (m : Str → Option Value) (s : Shared) (Q E : Value → Shared → Prop)
  (news : List (Addr × Obj)) (l : Addr) (us : List Value) (nn : Nat) (x : Value) (b : Nat → Bool) (vs : List Value)
  (B : Below A₀ base outer h₀) (F : Fr h₀ L s.heap m) (N : News h₀ L s.heap news) (T : Top p loose mean mg mb h₀) (hk : cs.kind = .function)
  (hvs : vs = [.ref l, x] ∨ ∃ t0, vs = [.ref l, x, .int 0 t0, .none])
  (hm : (l, listOf us.toArray nn) ∈ news) (hlen : us.length < 2^60)
  (hlt : ∀ i (hi : i < us.length) A E' h1 L1 (s1 : Shared) Q', A.units < un + 20 → News h1 L1 s1.heap news → Q' (.bool (b i)) s1 → wpAny (model PySem.Challenge.rw_ie0001_01.row.prog w) A (compareOp .Lt (us[i]'hi) x) Q' E' s1)
  (hd : dp + 1 < recursionLimit) (hu : un + 8 < cLine)
  (hret : ∀ r t h' tk', BisOk b us.length r → Fr h₀ L h' m → News h₀ L h' news → Q (.int r t) {s with heap := h', toks := tk'}) :
  (Mine.hd.heap_39 w.params).In h₀ →
  wpAny (model PySem.Challenge.rw_ie0001_01.row.prog w) (ktrTop dp un gd cn cs L a ccd cl outer) (call (.ref 32) vs) Q E s := by
  k_fill
  intro X
  rcases hvs with rfl | ⟨t0, rfl⟩
  all_goals refine wpAny_call ?_
  all_goals w_strict (k_dflt (refine' code_def ?k1 ?k2 ?k3 ?k4 ?k5 ?kA ?kF ?kK ?k6 ?k7 ?k8 ?k9 ?kB ?_ ?c2 ?c3 ?c4 ?c5; (case kA => exact rfl); (case kF => exact rfl); (case kK => assumption); (case k1 => k_asm); (case k2 => k_asm); (case k3 => k_asm); (case k4 => k_asm); (case k5 => k_asm); (case k6 => k_is); (case k7 => k_is); (case k8 => ktr_room); (case k9 => (refine' kp_binds ?kx ?ke; (case kx => k_in); (case ke => exact fun _ => rfl))); (case c5 => decide); (case kB => exact locs rfl); (case c2 => exact rfl); (case c3 => exact rfl); (case c4 => exact rfl); k_whole; intro g' L' h' FG' F' N' B' X' T'; (try dsimp only); (try k_fold)))
  · replace F' := fr_set [("lo", .int 0 202), ("hi", .none), ("a", .ref l), ("x", x), ("key", .none)] F' (by simp only [List.forall_mem_cons]; exact ⟨rfl, rfl, rfl, rfl, rfl, fun _ h => nomatch h⟩)
    dsimp only [kstB] at F'
    k_steps
    rename Fr g' L' _ _ => F2
    rename News g' L' _ _ => N2
    refine While_inv2 (BisJ b l us x news) (n₀ := us.length) F2 N2 ⟨rfl, 0, us.length, _, _, rfl, Nat.zero_le _, Nat.le_refl _, .inl rfl, .inl rfl, rfl, rfl, rfl, rfl, rfl⟩ ?_ (by first | passes_own | with_unfolding_all passes_own)
    clear F2 N2
    rintro n m₁ news₁ h₁ tk₁ F₁ N₁ ⟨rfl, lo, hi, t, u, rfl, hlh, hhl, hlo, hhi, e1, e2, e3, e4, e5⟩
    replace F₁ := fr_set [("lo", .int lo t), ("hi", .int hi u), ("a", .ref l), ("x", x), ("key", .none)] F₁ (by simp only [List.forall_mem_cons]; exact ⟨e1, e2, e3, e4, e5, fun _ h => nomatch h⟩)
    dsimp only [kstB] at F₁
    clear e1 e2 e3 e4 e5
    (try k_fold)
    k_steps
    · rename (_ : Int) < _ => hlt'
      rename News g' L' _ _ => N3
      have hmid : ((lo : Int) + hi).fdiv 2 = ((lo + hi) / 2 : Nat) := by
        rw [Int.fdiv_eq_ediv_of_nonneg _ (by omega)]; omega
      rw [hmid]
      refine my_item N3 hm hlen (by omega) (by omega) (fun hk => ?_)
      k_steps
      refine hlt _ hk _ _ _ _ _ _ (by show un + 3 < _; omega) N3 ?_
      have hmm : ((((lo + hi) / 2 : Nat) : Int)).toNat = (lo + hi) / 2 := by omega
      rw [hmm]
      k_steps
      · rename b _ = true => hb
        rename Fr g' L' _ _ => F4
        rename News g' L' _ _ => N4
        exact ⟨_, _, _, _, _, rfl, F4, N4, (by omega : hi - ((lo + hi) / 2 + 1) < hi - lo), rfl, (lo + hi) / 2 + 1, hi, _, _, rfl, by omega, hhl, .inr hb, hhi, read_int_eq rfl (by rw [hmid]; omega), rfl, rfl, rfl, rfl⟩
      · rename b _ = false => hb
        rename Fr g' L' _ _ => F4
        rename News g' L' _ _ => N4
        exact ⟨_, _, _, _, _, rfl, F4, N4, (by omega : (lo + hi) / 2 - lo < hi - lo), rfl, lo, (lo + hi) / 2, _, _, rfl, by omega, by omega, hlo, .inr hb, rfl, read_int_eq rfl (by rw [hmid]), rfl, rfl, rfl⟩
    · rename Fr h₀ L _ _ => kF
      rename News h₀ L _ _ => kN
      exact hret lo t _ _ ⟨by omega, hlo, by have : lo = hi := by omega
                                             subst this; exact hhi⟩ kF kN
  · replace F' := fr_set [("lo", .int 0 t0), ("hi", .none), ("a", .ref l), ("x", x), ("key", .none)] F' (by simp only [List.forall_mem_cons]; exact ⟨rfl, rfl, rfl, rfl, rfl, fun _ h => nomatch h⟩)
    dsimp only [kstB] at F'
    k_steps
    rename Fr g' L' _ _ => F2
    rename News g' L' _ _ => N2
    refine While_inv2 (BisJ b l us x news) (n₀ := us.length) F2 N2 ⟨rfl, 0, us.length, _, _, rfl, Nat.zero_le _, Nat.le_refl _, .inl rfl, .inl rfl, rfl, rfl, rfl, rfl, rfl⟩ ?_ (by first | passes_own | with_unfolding_all passes_own)
    clear F2 N2
    rintro n m₁ news₁ h₁ tk₁ F₁ N₁ ⟨rfl, lo, hi, t, u, rfl, hlh, hhl, hlo, hhi, e1, e2, e3, e4, e5⟩
    replace F₁ := fr_set [("lo", .int lo t), ("hi", .int hi u), ("a", .ref l), ("x", x), ("key", .none)] F₁ (by simp only [List.forall_mem_cons]; exact ⟨e1, e2, e3, e4, e5, fun _ h => nomatch h⟩)
    dsimp only [kstB] at F₁
    clear e1 e2 e3 e4 e5
    (try k_fold)
    k_steps
    · rename (_ : Int) < _ => hlt'
      rename News g' L' _ _ => N3
      have hmid : ((lo : Int) + hi).fdiv 2 = ((lo + hi) / 2 : Nat) := by
        rw [Int.fdiv_eq_ediv_of_nonneg _ (by omega)]; omega
      rw [hmid]
      refine my_item N3 hm hlen (by omega) (by omega) (fun hk => ?_)
      k_steps
      refine hlt _ hk _ _ _ _ _ _ (by show un + 3 < _; omega) N3 ?_
      have hmm : ((((lo + hi) / 2 : Nat) : Int)).toNat = (lo + hi) / 2 := by omega
      rw [hmm]
      k_steps
      · rename b _ = true => hb
        rename Fr g' L' _ _ => F4
        rename News g' L' _ _ => N4
        exact ⟨_, _, _, _, _, rfl, F4, N4, (by omega : hi - ((lo + hi) / 2 + 1) < hi - lo), rfl, (lo + hi) / 2 + 1, hi, _, _, rfl, by omega, hhl, .inr hb, hhi, read_int_eq rfl (by rw [hmid]; omega), rfl, rfl, rfl, rfl⟩
      · rename b _ = false => hb
        rename Fr g' L' _ _ => F4
        rename News g' L' _ _ => N4
        exact ⟨_, _, _, _, _, rfl, F4, N4, (by omega : (lo + hi) / 2 - lo < hi - lo), rfl, lo, (lo + hi) / 2, _, _, rfl, by omega, by omega, hlo, .inr hb, rfl, read_int_eq rfl (by rw [hmid]), rfl, rfl, rfl⟩
    · rename Fr h₀ L _ _ => kF
      rename News h₀ L _ _ => kN
      exact hret lo t _ _ ⟨by omega, hlo, by have : lo = hi := by omega
                                             subst this; exact hhi⟩ kF kN
end Mine

namespace Mine

local macro_rules | `(tactic| k_steps) => `(tactic| repeat' (first | (k_unfold; (try dsimp only)) | ((fail_if_success (with_reducible show wpAny _ _ (call (Value.ref _) _) _ _ _)); (fail_if_success (with_reducible show wpAny _ _ (call (Value.builtin "list.insert") _) _ _ _)); walk1) | ((fail_if_success (with_reducible show wpAny _ _ (call (Value.ref _) _) _ _ _)); (fail_if_success (with_reducible show wpAny _ _ (call (Value.builtin "list.insert") _) _ _ _)); dsimp only; walk1) | (leave1; walk_say "STEP leave1"; try dsimp only) | fail "no step"))

set_option maxHeartbeats 4000000 in
theorem insort_ct (w : World) {p : Program} {loose : List Str} {mean : ExcName → Option Value} {mg mb : Str → Option Value}
  (dp un : Nat) (gd : Option (List Code)) (cn : Str) (cs : Scope) (a : Addr) (ccd : Value) (cl : List (Str × Addr)) (outer : List Env) (A₀ : Around) (base h₀ : Heap) (L : Addr) (m : Str → Option Value) (s : Shared) (Q E : Value → Shared → Prop)
  (rest : List (Addr × Obj)) (l : Addr) (us : List Value) (nn : Nat) (x : Value) (b : Nat → Bool)
  (B : Below A₀ base outer h₀) (F : Fr h₀ L s.heap m) (N : News h₀ L s.heap ((l, listOf us.toArray nn) :: rest)) (T : Top p loose mean mg mb h₀) (hk : cs.kind = .function)
  (hr : ∀ p ∈ rest, p.1 ≠ l) (hlen : us.length ≤ 100000)
  (hlt : ∀ i (hi : i < us.length) A E' h1 L1 (s1 : Shared) Q', A.units < un + 40 → News h1 L1 s1.heap ((l, listOf us.toArray nn) :: rest) → Q' (.bool (b i)) s1 → wpAny (model PySem.Challenge.rw_ie0001_01.row.prog w) A (compareOp .Lt (us[i]'hi) x) Q' E' s1)
  (hd : dp + 4 < recursionLimit) (hu : un + 40 < cLine)
  (hret : ∀ r h' tk', BisOk b us.length r → Fr h₀ L h' m → News h₀ L h' ((l, listOf (us.take r ++ x :: us.drop r).toArray (nn + 1)) :: rest) → Q .none {s with heap := h', toks := tk'}) :
  (Mine.hd.heap_39 w.params).In h₀ →
  wpAny (model PySem.Challenge.rw_ie0001_01.row.prog w) (ktrTop dp un gd cn cs L a ccd cl outer) (call (.ref 23) [.ref l, x]) Q E s := by
  k_fill
  intro X
  refine wpAny_call ?_
  w_strict (k_dflt (refine' code_def ?k1 ?k2 ?k3 ?k4 ?k5 ?kA ?kF ?kK ?k6 ?k7 ?k8 ?k9 ?kB ?_ ?c2 ?c3 ?c4 ?c5; (case kA => exact rfl); (case kF => exact rfl); (case kK => assumption); (case k1 => k_asm); (case k2 => k_asm); (case k3 => k_asm); (case k4 => k_asm); (case k5 => k_asm); (case k6 => k_is); (case k7 => k_is); (case k8 => ktr_room); (case k9 => (refine' kp_binds ?kx ?ke; (case kx => k_in); (case ke => exact fun _ => rfl))); (case c5 => decide); (case kB => exact locs rfl); (case c2 => exact rfl); (case c3 => exact rfl); (case c4 => exact rfl); k_whole; intro g' L' h' FG' F' N' B' X' T'; (try dsimp only); (try k_fold)))
  replace F' := fr_set [("lo", .int 0 189), ("hi", .none), ("a", .ref l), ("x", x), ("key", .none)] F' (by simp only [List.forall_mem_cons]; exact ⟨rfl, rfl, rfl, rfl, rfl, fun _ h => nomatch h⟩)
  dsimp only [kstB] at F'
  k_steps
  refine bisect_ct w (p := p) (loose := loose) (mean := mean) (mg := mg) (mb := mb) _ _ _ _ _ _ _ _ _ _ _ _ _ _ _ _ _ ((l, listOf us.toArray nn) :: rest) l us nn x b _ (by k_asm) (by k_asm) (by k_asm) (by k_asm) (by rfl) (.inr ⟨_, rfl⟩) (.head _) (by omega) ?_ ?_ ?_ ?_ (by assumption)
  · intro i hi A E' h1 L1 s1 Q' hA
    refine hlt i hi A E' h1 L1 s1 Q' ?_
    have : (ktrTop dp un gd cn cs L a ccd cl outer).units = un := rfl
    omega
  · show dp + 1 + 1 < _; omega
  · show un + 3 + 8 < _; omega
  · intro r t h'' tk' hb F3 N3
    (try k_fold)
    k_steps
    rename Fr g' L' _ _ => F5
    rename News g' L' _ _ => N5
    have hins : kl_ins us.toArray.toList (r : Int) x = us.take r ++ x :: us.drop r := by
      unfold kl_ins
      have h1 := hb.1
      have h2 : ¬ ((r : Int) < 0) := by omega
      simp only [if_neg h2, Int.toNat_natCast]
      rw [Nat.min_eq_left h1]
    refine kl_insert F5 N5 ?_ hins (Upd.head hr) (by rw [PySem.sizeLine_eq]; show us.length ≤ _; omega) ?_
    · have h1 := hb.1
      simp only [Builtin.List.listFitsIndex]
      simp
      omega
    · intro h6 F6 N6
      k_steps
      rename Fr h₀ L _ _ => kF
      rename News h₀ L _ _ => kN
      exact hret r _ _ hb kF kN
end Mine

namespace Mine
open PySem.SeqAt PySem.MeetsSeq

def LtAt (A : Around) (s : Shared) (y x : Value) (b : Bool) : Prop :=
  ∀ (prog : Program) (w : World) (E : Value → Shared → Prop) (Q : Value → Shared → Prop), Q (.bool b) s → wpAny (model prog w) A (richCompare .Lt y x) Q E s

def lexB (e lt : Nat → Bool) (fin : Bool) : List Nat → Bool
  | [] => fin
  | j :: r => if e j then lexB e lt fin r else lt j

open AutoSeq1 (wpAny_loadPart') in
theorem tuple_ltAt (l b : Addr) (items items2 : Array Value) (n n2 : Nat) (dd dd2 : Option Addr) (sl sl2 : Array (Option Value)) (e lt : Nat → Bool) :
    Meets (Builtin.«tuple.__lt__» ⟨[.ref l, .ref b], []⟩)
      (fun A R s => s.heap.get? l = some { cls := .type "tuple", dict := dd, data := .seq items n, slots := sl } ∧ s.heap.get? b = some { cls := .type "tuple", dict := dd2, data := .seq items2 n2, slots := sl2 } ∧
        (∀ j (h1 : j < items.size) (h2 : j < items2.size), EqAt A.in1 s items[j] items2[j] (e j)) ∧
        (∀ j (h1 : j < items.size) (h2 : j < items2.size), e j = false → LtAt A.in1 s items[j] items2[j] (lt j)) ∧
        R (.ok (.ret (.bool (lexB e lt (decide (items.size < items2.size)) (List.range (min items.size items2.size)))))) s) :=
  .of_wp fun prog w A R s h => by
    obtain ⟨hp, g, d, tk, os⟩ := s; obtain ⟨hl, hb, he, hlt', h⟩ := h
    have f2 := AutoSeq1.sub_tuple_tuple
    have hZ : (items.toList.zip items2.toList).length = min items.size items2.size := by simp
    wp_walk using wpAny_loadPart' hl, wpAny_loadPart' hb, wpAny_forIn_list _ (fun rest b s' => b.1 = none ∧ s' = ⟨hp, g, d, tk, os⟩ ∧ ∃ i, rest = (items.toList.zip items2.toList).drop i ∧
      R (.ok (.ret (.bool (lexB e lt (decide (items.size < items2.size)) ((List.range (min items.size items2.size)).drop i))))) ⟨hp, g, d, tk, os⟩) _
    case turn =>
      rintro ⟨y, x⟩ rest b s' ⟨hb', rfl, i, hz, hR⟩
      have hlt : i < (items.toList.zip items2.toList).length := by
        rcases Nat.lt_or_ge i (items.toList.zip items2.toList).length with h' | h'
        · exact h'
        · rw [List.drop_of_length_le h'] at hz; cases hz
      have hm : i < min items.size items2.size := hZ ▸ hlt
      have h1 : i < items.size := Nat.lt_of_lt_of_le hm (Nat.min_le_left _ _)
      have h2 : i < items2.size := Nat.lt_of_lt_of_le hm (Nat.min_le_right _ _)
      rw [List.drop_eq_getElem_cons hlt] at hz
      injection hz with hyx hrest
      have hy : y = items[i] := by have := congrArg Prod.fst hyx; simpa using this
      have hx : x = items2[i] := by have := congrArg Prod.snd hyx; simpa using this
      subst hy hx
      have hd : (List.range (min items.size items2.size)).drop i = i :: (List.range (min items.size items2.size)).drop (i + 1) := by simp [List.drop_eq_getElem_cons, hm]
      rw [hd, lexB] at hR
      refine wpAny_bind (he i h1 h2 prog w _ _ ?_)
      cases hy : e i with
      | true =>
        rw [hy] at hR
        wp_walk
        exact ⟨rfl, rfl, i + 1, hrest, by simpa using hR⟩
      | false =>
        rw [hy] at hR
        simp only [Bool.false_eq_true, if_false] at hR
        have H := hlt' i h1 h2 hy prog w
        dsimp only
        generalize richCompare CmpOp.Lt items[i] items2[i] = rc at H ⊢
        wp_walk
        refine H _ _ ?_
        wp_walk
        exact ⟨_, rfl, by simpa using hR⟩
    case fin =>
      rintro ⟨b1, b2⟩ s' ⟨hb', rfl, i, hz, hR⟩
      simp only at hb'
      subst hb'
      have hge : min items.size items2.size ≤ i := by
        rcases Nat.lt_or_ge i (items.toList.zip items2.toList).length with h' | h'
        · rw [List.drop_eq_getElem_cons h'] at hz; cases hz
        · exact hZ ▸ h'
      rw [List.drop_of_length_le (by simpa using hge)] at hR
      wp_walk
      exact ⟨_, rfl, by simpa [Builtin.Tuple.tupleCompareSizes, lexB] using hR⟩
    case h =>
      exact ⟨rfl, rfl, 0, rfl, by simpa using h⟩

theorem ltAt_tuple {A : Around} {s : Shared} {l b : Addr} {items items2 : Array Value} {e lt : Nat → Bool} (hl : s.heap.IsTuple l items) (hb : s.heap.IsTuple b items2) (hu : A.units < cLine)
    (he : ∀ j (h1 : j < items.size) (h2 : j < items2.size), EqAt A.in1 s items[j] items2[j] (e j))
    (hlt : ∀ j (h1 : j < items.size) (h2 : j < items2.size), e j = false → LtAt A.in1 s items[j] items2[j] (lt j)) :
    LtAt A s (.ref l) (.ref b) (lexB e lt (decide (items.size < items2.size)) (List.range (min items.size items2.size))) := fun prog w E Q h => by
  obtain ⟨⟨cls, dd, data, sl⟩, ho, hc, n, hd⟩ := id hl
  obtain ⟨⟨cls2, dd2, data2, sl2⟩, ho2, hc2, n2, hd2⟩ := id hb
  simp only at hc hd hc2 hd2
  subst hc hd hc2 hd2
  exact richCompare_meets_room (op := .Lt) ⟨_, ho, rfl⟩ ⟨_, ho2, rfl⟩ F.slot_tuple_lt F.entry_tuple_lt (F.args_tuple_lt_2 _ _) (tuple_ltAt l b items items2 n n2 dd dd2 sl sl2 e lt)
    ⟨ho, ho2, he, hlt, show Value.bool _ ≠ Value.notImplemented ∧ Q (.bool _) s from ⟨(fun x => nomatch x), h⟩⟩ hu

theorem ltAt_int {A : Around} {s : Shared} {a b : Int} {t u : Tok} : LtAt A s (.int a t) (.int b u) (decide (a < b)) := fun prog w E Q h => by
  have := lt_int (prog := prog) (w := w) (A := A) (E := E) (a := a) (b := b) (t := t) (u := u) h
  exact this

theorem ints_get {vs : List Value} {ns : List Int} (h : IntsAre vs ns) (j : Nat) (hj : j < vs.toArray.size) : ∃ t, vs.toArray[j] = .int (ns.getD j 0) t := by
  have hl := h.length
  have hj' : j < ns.length := by rw [← hl]; simpa using hj
  obtain ⟨t, ht⟩ := h.get j (ns[j]'hj') (List.getElem?_eq_getElem hj')
  refine ⟨t, ?_⟩
  have h2 : j < vs.length := by simpa using hj
  have e1 : vs[j]? = some (vs[j]'h2) := List.getElem?_eq_getElem h2
  rw [e1] at ht
  have e2 := Option.some.inj ht
  have e3 : ns.getD j 0 = ns[j]'hj' := by simp [hj']
  rw [e3, ← e2]; simp

def ltI (ns ms : List Int) : Bool := lexB (fun j => ns.getD j 0 == ms.getD j 0) (fun j => decide (ns.getD j 0 < ms.getD j 0)) (decide (ns.length < ms.length)) (List.range (min ns.length ms.length))

theorem ltAt_ints {A : Around} {s : Shared} {l b : Addr} {vs ws : List Value} {ns ms : List Int} (hl : s.heap.IsTuple l vs.toArray) (hb : s.heap.IsTuple b ws.toArray) (hi : IntsAre vs ns) (hj : IntsAre ws ms) (hu : A.units < cLine) :
    LtAt A s (.ref l) (.ref b) (ltI ns ms) := by
  have q := ltAt_tuple (e := fun j => ns.getD j 0 == ms.getD j 0) (lt := fun j => decide (ns.getD j 0 < ms.getD j 0)) hl hb hu
    (fun j h1 h2 => by obtain ⟨t, e1⟩ := ints_get hi j h1; obtain ⟨u, e2⟩ := ints_get hj j h2; rw [e1, e2]; exact EqAt.int_int _ _ _ _)
    (fun j h1 h2 _ => by obtain ⟨t, e1⟩ := ints_get hi j h1; obtain ⟨u, e2⟩ := ints_get hj j h2; rw [e1, e2]; exact ltAt_int)
  unfold ltI
  have a1 : vs.toArray.size = ns.length := by rw [List.size_toArray]; exact hi.length
  have a2 : ws.toArray.size = ms.length := by rw [List.size_toArray]; exact hj.length
  rw [a1, a2] at q
  exact q

abbrev Ent := Int × List Int × Int
def encH (h : List Int) : Dat := .tuple (h.map .int)
def encE (e : Ent) : Dat := .tuple [.int e.1, encH e.2.1, .int e.2.2]
def encS (s : List Int × Int) : Dat := .tuple [encH s.1, .int s.2]

theorem ints_of_dat {news : List (Addr × Obj)} : ∀ {vs : List Value} {ns : List Int}, DatAll news vs (ns.map .int) → IntsAre vs ns
  | _, [], h => by cases h; exact .nil
  | _, n :: r, h => by
    cases h with
    | cons h1 h2 => cases h1 with | int _ t => exact .cons n t (ints_of_dat h2)
theorem dat_of_ints {news : List (Addr × Obj)} : ∀ {vs : List Value} {ns : List Int}, IntsAre vs ns → DatAll news vs (ns.map .int)
  | _, _, .nil => .nil
  | _, _, .cons n t r => .cons (.int n t) (dat_of_ints r)

theorem datH_inv {news : List (Addr × Obj)} {v : Value} {h : List Int} (hd : DatIn news v (encH h)) :
    ∃ a vs n, v = .ref a ∧ (a, ({ cls := .type "tuple", data := .seq vs.toArray n } : Obj)) ∈ news ∧ IntsAre vs h := by
  unfold encH at hd
  cases hd with
  | tuple hm ha => exact ⟨_, _, _, rfl, hm, ints_of_dat ha⟩
theorem datE_inv {news : List (Addr × Obj)} {v : Value} {e : Ent} (hd : DatIn news v (encE e)) :
    ∃ a n t u hv, v = .ref a ∧ (a, ({ cls := .type "tuple", data := .seq [.int e.1 t, hv, .int e.2.2 u].toArray n } : Obj)) ∈ news ∧ DatIn news hv (encH e.2.1) := by
  unfold encE at hd
  cases hd with
  | tuple hm ha =>
    cases ha with
    | cons h1 h2 =>
      cases h1 with
      | int _ t =>
        cases h2 with
        | cons h3 h4 =>
          cases h4 with
          | cons h5 h6 =>
            cases h5 with
            | int _ u => cases h6; exact ⟨_, _, _, _, _, rfl, hm, h3⟩

theorem isTuple_of {h₀ h : Heap} {L : Addr} {news : List (Addr × Obj)} (N : News h₀ L h news) {a : Addr} {xs : Array Value} {n : Nat} (hm : (a, ({ cls := .type "tuple", data := .seq xs n } : Obj)) ∈ news) : h.IsTuple a xs :=
  ⟨_, (N _ hm).1, rfl, n, rfl⟩

def ltE (a b : Ent) : Bool := if a.1 == b.1 then (if a.2.1 == b.2.1 then decide (a.2.2 < b.2.2) else ltI a.2.1 b.2.1) else decide (a.1 < b.1)

theorem ltE_true {a b : Ent} (h : ltE a b = true) : a.1 ≤ b.1 := by
  unfold ltE at h
  split at h
  · rename_i e; have := beq_iff_eq.mp e; omega
  · have := of_decide_eq_true h; omega
theorem ltE_false {a b : Ent} (h : ltE a b = false) : b.1 ≤ a.1 := by
  unfold ltE at h
  split at h
  · rename_i e; have := beq_iff_eq.mp e; omega
  · have := of_decide_eq_false h; omega

theorem kqdH (n : Nat) (h : List Int) : kqdOk (n+1) (encH h) = true := by
  unfold encH; simp only [kqdOk, List.all_map, List.all_eq_true]; intro x _; cases n <;> rfl
theorem kqdE (n : Nat) (e : Ent) : kqdOk (n+2) (encE e) = true := by
  have := kqdH n e.2.1
  simp only [encE, kqdOk, List.all_cons, List.all_nil, this, Bool.and_self]
theorem kqdS (n : Nat) (e : List Int × Int) : kqdOk (n+2) (encS e) = true := by
  have := kqdH n e.1
  simp only [encS, kqdOk, List.all_cons, List.all_nil, this, Bool.and_self]
theorem map_int_inj {a b : List Int} (h : a.map Dat.int = b.map Dat.int) : a = b := by
  induction a generalizing b with
  | nil => cases b with | nil => rfl | cons x y => cases h
  | cons n r ih =>
    cases b with
    | nil => cases h
    | cons x y => injection h with h1 h2; injection h1 with h1; rw [h1, ih h2]
theorem encH_inj {a b : List Int} (h : encH a = encH b) : a = b := by
  unfold encH at h; injection h with h; exact map_int_inj h
theorem encE_inj {a b : Ent} (h : encE a = encE b) : a = b := by
  unfold encE at h
  obtain ⟨f, hh, l⟩ := a; obtain ⟨f', hh', l'⟩ := b
  simp only [Dat.tuple.injEq, List.cons.injEq, Dat.int.injEq, and_true] at h
  obtain ⟨h1, h2, h3⟩ := h
  rw [h1, encH_inj h2, h3]
theorem encS_inj {a b : List Int × Int} (h : encS a = encS b) : a = b := by
  unfold encS at h
  obtain ⟨hh, l⟩ := a; obtain ⟨hh', l'⟩ := b
  simp only [Dat.tuple.injEq, List.cons.injEq, Dat.int.injEq, and_true] at h
  obtain ⟨h2, h3⟩ := h
  rw [encH_inj h2, h3]
theorem mem_encS {a : List Int × Int} {l : List (List Int × Int)} : encS a ∈ l.map encS ↔ a ∈ l := by
  rw [List.mem_map]
  constructor
  · rintro ⟨x, hx, e⟩; rw [← encS_inj e]; exact hx
  · intro h; exact ⟨a, h, rfl⟩

theorem eqAt_dat {A : Around} {s : Shared} {h₀ : Heap} {L : Addr} {news : List (Addr × Obj)} (N : News h₀ L s.heap news) {v v' : Value} {d e : Dat} (hv : DatIn news v d) (hw : DatIn news v' e)
    (h1 : kqdOk 8 d = true) (h2 : kqdOk 8 e = true) (hu : A.units + 8 < cLine) : EqAt A s v v' (PyData.eqv (kqdP d) (kqdP e)) := by
  obtain ⟨as, ra⟩ := kqd_in N 8 hv h1
  obtain ⟨bs, rb⟩ := kqd_in N 8 hw h2
  have l1 := kqd_lay 8 d h1
  have l2 := kqd_lay 8 e h2
  exact eqAt_reads _ _ A s _ _ _ _ ra rb l1.1 l2.1 (by omega)

theorem ltAt_ent {A : Around} {s : Shared} {h₀ : Heap} {L : Addr} {news : List (Addr × Obj)} (N : News h₀ L s.heap news) {v v' : Value} {a b : Ent} (hv : DatIn news v (encE a)) (hw : DatIn news v' (encE b)) (hu : A.units + 20 < cLine) :
    LtAt A s v v' (ltE a b) := by
  obtain ⟨x, n, t, u, hv1, rfl, hm, hh⟩ := datE_inv hv
  obtain ⟨y, n', t', u', hv2, rfl, hm', hh'⟩ := datE_inv hw
  have heq : PyData.eqv (kqdP (encH a.2.1)) (kqdP (encH b.2.1)) = (a.2.1 == b.2.1) := by
    have q := kqd_eqv 8 (encH a.2.1) (encH b.2.1) 8 (kqdH 7 _) (kqdH 7 _)
    rw [Bool.eq_iff_iff, q, beq_iff_eq]
    exact ⟨encH_inj, fun e => by rw [e]⟩
  have hE := eqAt_dat (A := A.in1) (s := s) N hh hh' (kqdH 7 _) (kqdH 7 _) (by simp only [Around.in1_units]; omega)
  rw [heq] at hE
  obtain ⟨p, vs, k, rfl, hp, hi⟩ := datH_inv hh
  obtain ⟨q, ws, k', rfl, hq, hj⟩ := datH_inv hh'
  have hL : LtAt A.in1 s (.ref p) (.ref q) (ltI a.2.1 b.2.1) := ltAt_ints (isTuple_of N hp) (isTuple_of N hq) hi hj (by simp only [Around.in1_units]; omega)
  have main := ltAt_tuple (A := A) (s := s) (e := fun j => if j = 0 then a.1 == b.1 else if j = 1 then a.2.1 == b.2.1 else a.2.2 == b.2.2) (lt := fun j => if j = 0 then decide (a.1 < b.1) else if j = 1 then ltI a.2.1 b.2.1 else decide (a.2.2 < b.2.2))
    (isTuple_of N hm) (isTuple_of N hm') (by omega) ?_ ?_
  · have e : lexB (fun j => if j = 0 then a.1 == b.1 else if j = 1 then a.2.1 == b.2.1 else a.2.2 == b.2.2) (fun j => if j = 0 then decide (a.1 < b.1) else if j = 1 then ltI a.2.1 b.2.1 else decide (a.2.2 < b.2.2)) (decide ([Value.int a.1 t, Value.ref p, Value.int a.2.2 u].toArray.size < [Value.int b.1 t', Value.ref q, Value.int b.2.2 u'].toArray.size)) (List.range (min [Value.int a.1 t, Value.ref p, Value.int a.2.2 u].toArray.size [Value.int b.1 t', Value.ref q, Value.int b.2.2 u'].toArray.size)) = ltE a b := by
      show lexB _ _ (decide (3 < 3)) [0, 1, 2] = _
      simp only [lexB, ltE]
      by_cases h1 : a.1 = b.1
      · by_cases h2 : a.2.1 = b.2.1
        · by_cases h3 : a.2.2 = b.2.2
          · simp [h1, h2, h3]
          · simp [h1, h2, h3]
        · simp [h1, h2]
      · simp [h1]
    rw [e] at main
    exact main
  · intro j h1 h2
    have hj : j < 3 := h1
    match j, hj with
    | 0, _ => exact EqAt.int_int _ _ _ _
    | 1, _ => exact hE
    | 2, _ => exact EqAt.int_int _ _ _ _
  · intro j h1 h2 _
    have hj : j < 3 := h1
    match j, hj with
    | 0, _ => exact ltAt_int
    | 1, _ => exact hL
    | 2, _ => exact ltAt_int
end Mine

namespace Mine

def ForEnd (h₀ : Heap) (L : Addr) (I : Addr) (oI : Obj) (J : (Str → Option Value) → List (Addr × Obj) → Prop) (s : Shared) (Q : Flow → Shared → Prop) (f : Flow) (s₂ : Shared) : Prop :=
  match f with
  | .ret v => Q (.ret v) s₂
  | .brk => Q .next s₂
  | _ => ∃ h' tk m' nx', s₂ = { s with heap := h', toks := tk } ∧ Fr h₀ L h' m' ∧ News h₀ L h' ((I, oI) :: nx') ∧ (∀ p ∈ nx', p.1 ≠ I) ∧ J m' nx'

theorem ForEnd.mk {h₀ : Heap} {L : Addr} {I : Addr} {oI : Obj} {J : (Str → Option Value) → List (Addr × Obj) → Prop} {s : Shared} {Q : Flow → Shared → Prop} {h' : Heap} {tk : Nat} {m' : Str → Option Value} {nx' : List (Addr × Obj)}
    (F : Fr h₀ L h' m') (N : News h₀ L h' ((I, oI) :: nx')) (hI : ∀ p ∈ nx', p.1 ≠ I) (hj : J m' nx') : ForEnd h₀ L I oI J s Q .next { s with heap := h', toks := tk } := ⟨h', tk, m', nx', rfl, F, N, hI, hj⟩

section
variable {prog : Program} {w : World} {A : Around} {E : Value → Shared → Prop} {s : Shared} {env : Env} {h₀ : Heap} {Q : Flow → Shared → Prop}

theorem for_list {target : PySem.Expr} {body : List Stmt} {l : Addr} {us : List Value} {nn : Nat} {m₀ : Str → Option Value} {news : List (Addr × Obj)} (J : Nat → (Str → Option Value) → List (Addr × Obj) → Prop)
    (hh : A.handled = none) (F : Fr h₀ env.locals s.heap m₀) (N : News h₀ env.locals s.heap news) (hj : J 0 m₀ news)
    (hJl : ∀ i m nx, J i m nx → (l, listOf us.toArray nn) ∈ nx)
    (turn : ∀ i v m₁ nx I oI h tk, us[i]? = some v → J i m₁ nx → (∀ p ∈ nx, p.1 ≠ I) → oI.cls = .type "list_iterator" → Fr h₀ env.locals h m₁ → News h₀ env.locals h ((I, oI) :: nx) →
      wpAny (model prog w) A (assign target env v) (fun _ s₂ => wpAny (model prog w) A (execs body env) (ForEnd h₀ env.locals I oI (J (i + 1)) s Q) E s₂) E { s with heap := h, toks := tk })
    (done : ∀ m₁ nx h tk, J us.length m₁ nx → Fr h₀ env.locals h m₁ → News h₀ env.locals h nx → Q .next { s with heap := h, toks := tk })
    (ht : ∀ it v, letOwnedTupleGo target it v = pure () := by intro _ _; rfl)
    (hE : PassesOwn (model prog w) A env E := by passes_own) :
    wpAny (model prog w) A (pyIter (.ref l)) (fun it s₂ =>
      codeAny (model prog w) A (.forLoop target it body [] env) (fun r s' => match r with | .ok f => Q f s' | .error e => cameBackBy (model prog w) A env E e s') s₂) E s := by
  have hl := hJl _ _ _ hj
  have hol : s.heap.get? l = some (listOf us.toArray nn) := (N _ hl).1
  have hls : s.heap.IsList l us.toArray := ⟨_, hol, rfl, nn, rfl⟩
  have hne : l ≠ s.heap.objs.size := Nat.ne_of_lt (Heap.lt_size hol)
  refine wpAny_pyIter_list hls ?_
  have W := Walks.list (prog := prog) (w := w) hh s.heap.objs.size l hne us.toArray
  have hlen : us.toArray.size = us.length := by simp
  rw [hlen] at W
  generalize hI : s.heap.objs.size = I at W hne
  have hLI : env.locals ≠ I := by rw [← hI]; exact Nat.ne_of_lt F.ns.lt
  have hI0 : h₀.get? I = none := by rw [← hI]; exact next_is_new F
  refine codeAny_forLoop
    (fun k s' => ∃ h' tk m' nx' i, s' = { s with heap := h', toks := tk } ∧ (h'.IsListIter I l i ∧ h'.IsList l us.toArray) ∧ Fr h₀ env.locals h' m' ∧ News h₀ env.locals h' nx' ∧ (∀ p ∈ nx', p.1 ≠ I) ∧ J i m' nx' ∧ i ≤ us.length ∧ k = us.length + 1 - i) ?_ (us.length + 1)
    ⟨s.heap.push { cls := .type "list_iterator", data := .fields #[.ref l, .int 0 0] }, s.toks, m₀, news, 0, rfl, ⟨⟨_, by rw [← hI]; exact Heap.get?_push_size _ rfl, rfl, rfl⟩, hls.at fun o e => Heap.get?_push_of_some _ e⟩, F.push _, fun p hp => ⟨Heap.get?_push_of_some _ (N p hp).1, (N p hp).2⟩, fun p hp e => absurd (Heap.lt_size (N p hp).1) (by rw [e, ← hI]; exact Nat.lt_irrefl _), hj, Nat.zero_le _, rfl⟩ (ht _)
  rintro k s' ⟨h', tk, m', nx', i, rfl, hst', F', N', hnw', hJ, hi, rfl⟩
  have next : ∀ h₁ : Heap, (∀ b o, b ∉ [I] → h'.get? b = some o → h₁.get? b = some o) → Fr h₀ env.locals h₁ m' ∧ News h₀ env.locals h₁ nx' := fun h₁ hk₁ =>
    ⟨⟨F'.ns.at' fun o e => hk₁ _ o (by simpa using hLI) e, fun b o e => hk₁ b o (by simp only [List.mem_singleton]; intro q; rw [q, hI0] at e; cases e) (F'.keep b o e), F'.above⟩, fun p hp => ⟨hk₁ _ _ (by simpa using hnw' p hp) (N' p hp).1, (N' p hp).2⟩⟩
  by_cases hlt : i < us.length
  · refine W.item i _ _ _ hlt hst' fun v h₁ tk₁ hP hst₁ hk₁ => ?_
    obtain ⟨F₁, N₁⟩ := next h₁ hk₁
    obtain ⟨⟨oI, hoI, hcI, hdI⟩, _⟩ := id hst₁
    have N₂ : News h₀ env.locals h₁ ((I, oI) :: nx') := fun p hp => by
      rcases List.mem_cons.mp hp with rfl | hp
      · exact ⟨hoI, hLI.symm, hI0⟩
      · exact N₁ p hp
    have hP' : us[i]? = some v := by simpa using hP
    refine wpAny_passesOwn hE (wpAny_mono (turn i v m' nx' I oI h₁ tk₁ hP' hJ hnw' hcI F₁ N₂) (fun _ s₂ h₂ => wpAny_passesOwn hE (wpAny_mono h₂ (fun f s₃ h₃ => ?_) fun _ _ x => x)) fun _ _ x => x)
    cases f with
    | ret v => exact h₃
    | brk => exact h₃
    | cont =>
      obtain ⟨h₃', tk₃, m₂, nx₂, rfl, F₃, N₃, ha₃, hJ₃⟩ := h₃
      exact ⟨us.length + 1 - (i + 1), by omega, h₃', tk₃, m₂, nx₂, i + 1, rfl, ⟨⟨oI, (N₃ _ (.head _)).1, hcI, hdI⟩, ⟨_, (N₃ _ (.tail _ (hJl _ _ _ hJ₃))).1, rfl, nn, rfl⟩⟩, F₃, fun p hp => N₃ p (.tail _ hp), ha₃, hJ₃, hlt, rfl⟩
    | next =>
      obtain ⟨h₃', tk₃, m₂, nx₂, rfl, F₃, N₃, ha₃, hJ₃⟩ := h₃
      exact ⟨us.length + 1 - (i + 1), by omega, h₃', tk₃, m₂, nx₂, i + 1, rfl, ⟨⟨oI, (N₃ _ (.head _)).1, hcI, hdI⟩, ⟨_, (N₃ _ (.tail _ (hJl _ _ _ hJ₃))).1, rfl, nn, rfl⟩⟩, F₃, fun p hp => N₃ p (.tail _ hp), ha₃, hJ₃, hlt, rfl⟩
  · have hin : i = us.length := by omega
    subst hin
    refine W.done _ _ _ hst' fun h₁ tk₁ hk₁ => wpAny_execs_nil ?_
    obtain ⟨F₁, N₁⟩ := next h₁ hk₁
    exact done m' nx' h₁ tk₁ hJ F₁ N₁
end
end Mine

namespace Mine

section
variable {prog : Program} {w : World} {A : Around} {E : Value → Shared → Prop} {s : Shared} {env : Env} {h₀ : Heap} {Q : Flow → Shared → Prop}

theorem for_tup {elts : List PySem.Expr} {x1} {pos : Pos} {body : List Stmt} {l : Addr} {us : List Value} {nn : Nat} {m₀ : Str → Option Value} {news : List (Addr × Obj)} (J : Nat → (Str → Option Value) → List (Addr × Obj) → Prop)
    (hh : A.handled = none) (F : Fr h₀ env.locals s.heap m₀) (N : News h₀ env.locals s.heap news) (hj : J 0 m₀ news)
    (hJl : ∀ i m nx, J i m nx → (l, listOf us.toArray nn) ∈ nx)
    (turn : ∀ i v m₁ nx I oI h tk, us[i]? = some v → J i m₁ nx → (∀ p ∈ nx, p.1 ≠ I) → oI.cls = .type "list_iterator" → Fr h₀ env.locals h m₁ → News h₀ env.locals h ((I, oI) :: nx) →
      wpAny (model prog w) A (assign (.Tuple elts x1 pos) env v) (fun _ s₂ => wpAny (model prog w) A (execs body env) (ForEnd h₀ env.locals I oI (J (i + 1)) s Q) E s₂) E { s with heap := h, toks := tk })
    (done : ∀ m₁ nx h tk, J us.length m₁ nx → Fr h₀ env.locals h m₁ → News h₀ env.locals h nx → Q .next { s with heap := h, toks := tk })
    (hus : ∀ v ∈ us, ∃ T, v = .ref T)
    (hE : PassesOwn (model prog w) A env E := by passes_own) :
    wpAny (model prog w) A (pyIter (.ref l)) (fun it s₂ =>
      codeAny (model prog w) A (.forLoop (.Tuple elts x1 pos) it body [] env) (fun r s' => match r with | .ok f => Q f s' | .error e => cameBackBy (model prog w) A env E e s') s₂) E s := by
  have hl := hJl _ _ _ hj
  have hol : s.heap.get? l = some (listOf us.toArray nn) := (N _ hl).1
  have hls : s.heap.IsList l us.toArray := ⟨_, hol, rfl, nn, rfl⟩
  have hne : l ≠ s.heap.objs.size := Nat.ne_of_lt (Heap.lt_size hol)
  refine wpAny_pyIter_list hls ?_
  have W := Walks.list (prog := prog) (w := w) hh s.heap.objs.size l hne us.toArray
  have hlen : us.toArray.size = us.length := by simp
  rw [hlen] at W
  generalize hI : s.heap.objs.size = I at W hne
  have hLI : env.locals ≠ I := by rw [← hI]; exact Nat.ne_of_lt F.ns.lt
  have hI0 : h₀.get? I = none := by rw [← hI]; exact next_is_new F
  refine codeAny_forLoop_any
    (fun k s' => ∃ h' tk m' nx' i, s' = { s with heap := h', toks := tk } ∧ (h'.IsListIter I l i ∧ h'.IsList l us.toArray) ∧ Fr h₀ env.locals h' m' ∧ News h₀ env.locals h' nx' ∧ (∀ p ∈ nx', p.1 ≠ I) ∧ J i m' nx' ∧ i ≤ us.length ∧ k = us.length + 1 - i) ?_ (us.length + 1)
    ⟨s.heap.push { cls := .type "list_iterator", data := .fields #[.ref l, .int 0 0] }, s.toks, m₀, news, 0, rfl, ⟨⟨_, by rw [← hI]; exact Heap.get?_push_size _ rfl, rfl, rfl⟩, hls.at fun o e => Heap.get?_push_of_some _ e⟩, F.push _, fun p hp => ⟨Heap.get?_push_of_some _ (N p hp).1, (N p hp).2⟩, fun p hp e => absurd (Heap.lt_size (N p hp).1) (by rw [e, ← hI]; exact Nat.lt_irrefl _), hj, Nat.zero_le _, rfl⟩
  rintro k s' ⟨h', tk, m', nx', i, rfl, hst', F', N', hnw', hJ, hi, rfl⟩
  have next : ∀ h₁ : Heap, (∀ b o, b ∉ [I] → h'.get? b = some o → h₁.get? b = some o) → Fr h₀ env.locals h₁ m' ∧ News h₀ env.locals h₁ nx' := fun h₁ hk₁ =>
    ⟨⟨F'.ns.at' fun o e => hk₁ _ o (by simpa using hLI) e, fun b o e => hk₁ b o (by simp only [List.mem_singleton]; intro q; rw [q, hI0] at e; cases e) (F'.keep b o e), F'.above⟩, fun p hp => ⟨hk₁ _ _ (by simpa using hnw' p hp) (N' p hp).1, (N' p hp).2⟩⟩
  by_cases hlt : i < us.length
  · refine W.item i _ _ _ hlt hst' fun v h₁ tk₁ hP hst₁ hk₁ => ?_
    obtain ⟨F₁, N₁⟩ := next h₁ hk₁
    obtain ⟨⟨oI, hoI, hcI, hdI⟩, _⟩ := id hst₁
    have N₂ : News h₀ env.locals h₁ ((I, oI) :: nx') := fun p hp => by
      rcases List.mem_cons.mp hp with rfl | hp
      · exact ⟨hoI, hLI.symm, hI0⟩
      · exact N₁ p hp
    have hP' : us[i]? = some v := by simpa using hP
    obtain ⟨T, rfl⟩ := hus v (List.mem_of_getElem? hP')
    refine wpAny_letOwnedTupleGo_listiter hst₁.1 ?_
    refine wpAny_passesOwn hE (wpAny_mono (turn i _ m' nx' I oI h₁ tk₁ hP' hJ hnw' hcI F₁ N₂) (fun _ s₂ h₂ => wpAny_passesOwn hE (wpAny_mono h₂ (fun f s₃ h₃ => ?_) fun _ _ x => x)) fun _ _ x => x)
    cases f with
    | ret v => exact h₃
    | brk => exact h₃
    | cont =>
      obtain ⟨h₃', tk₃, m₂, nx₂, rfl, F₃, N₃, ha₃, hJ₃⟩ := h₃
      exact ⟨us.length + 1 - (i + 1), by omega, h₃', tk₃, m₂, nx₂, i + 1, rfl, ⟨⟨oI, (N₃ _ (.head _)).1, hcI, hdI⟩, ⟨_, (N₃ _ (.tail _ (hJl _ _ _ hJ₃))).1, rfl, nn, rfl⟩⟩, F₃, fun p hp => N₃ p (.tail _ hp), ha₃, hJ₃, hlt, rfl⟩
    | next =>
      obtain ⟨h₃', tk₃, m₂, nx₂, rfl, F₃, N₃, ha₃, hJ₃⟩ := h₃
      exact ⟨us.length + 1 - (i + 1), by omega, h₃', tk₃, m₂, nx₂, i + 1, rfl, ⟨⟨oI, (N₃ _ (.head _)).1, hcI, hdI⟩, ⟨_, (N₃ _ (.tail _ (hJl _ _ _ hJ₃))).1, rfl, nn, rfl⟩⟩, F₃, fun p hp => N₃ p (.tail _ hp), ha₃, hJ₃, hlt, rfl⟩
  · have hin : i = us.length := by omega
    subst hin
    refine W.done _ _ _ hst' fun h₁ tk₁ hk₁ => wpAny_execs_nil ?_
    obtain ⟨F₁, N₁⟩ := next h₁ hk₁
    exact done m' nx' h₁ tk₁ hJ F₁ N₁
end
end Mine

namespace Mine

abbrev Stt := List Int × Int
def FarSorted (o : List Ent) : Prop := o.Pairwise (fun a b => a.1 ≤ b.1)
def ltAtIdx (o : List Ent) (x : Ent) (i : Nat) : Bool := match o[i]? with | some e => ltE e x | none => false

theorem far_get {o : List Ent} (h : FarSorted o) {i j : Nat} (hj : j < o.length) (hij : i ≤ j) : (o[i]'(by omega)).1 ≤ (o[j]'hj).1 := by
  rcases Nat.lt_or_ge i j with q | q
  · exact List.pairwise_iff_getElem.mp h i j (by omega) hj q
  · have : i = j := by omega
    subst this; exact Int.le_refl _

theorem far_insert {o : List Ent} {x : Ent} {r : Nat} (h : FarSorted o) (hb : BisOk (ltAtIdx o x) o.length r) : FarSorted (o.take r ++ x :: o.drop r) := by
  obtain ⟨h1, h2, h3⟩ := hb
  unfold FarSorted
  refine List.pairwise_append.mpr ⟨List.Pairwise.sublist (List.take_sublist _ _) h, List.pairwise_cons.mpr ⟨?_, List.Pairwise.sublist (List.drop_sublist _ _) h⟩, ?_⟩
  · intro e he
    rcases h3 with h3 | h3
    · rw [h3, List.drop_length] at he; cases he
    · rcases Nat.lt_or_ge r o.length with q | q
      · have e1 : o[r]? = some (o[r]'q) := List.getElem?_eq_getElem q
        unfold ltAtIdx at h3
        rw [e1] at h3
        have h4 := ltE_false h3
        obtain ⟨j, hj, e2⟩ := List.getElem_of_mem he
        rw [List.getElem_drop] at e2
        rw [List.length_drop] at hj
        rw [← e2]
        exact Int.le_trans h4 (far_get h (by omega) (by omega))
      · rw [List.drop_of_length_le q] at he; cases he
  · intro a ha b hbm
    have hax : a.1 ≤ x.1 := by
      obtain ⟨i, hi, e2⟩ := List.getElem_of_mem ha
      rw [List.length_take] at hi
      rw [List.getElem_take] at e2
      rcases h2 with h2 | h2
      · omega
      · have q : r - 1 < o.length := by omega
        have e1 : o[r-1]? = some (o[r-1]'q) := List.getElem?_eq_getElem q
        unfold ltAtIdx at h2
        rw [e1] at h2
        have h4 := ltE_true h2
        rw [← e2]
        exact Int.le_trans (far_get h q (by omega)) h4
    rcases List.mem_cons.mp hbm with rfl | hbm
    · exact hax
    · obtain ⟨i, hi, e2⟩ := List.getElem_of_mem ha
      obtain ⟨j, hj, e3⟩ := List.getElem_of_mem hbm
      rw [List.length_take] at hi
      rw [List.getElem_take] at e2
      rw [List.length_drop] at hj
      rw [List.getElem_drop] at e3
      rw [← e2, ← e3]
      exact far_get h (by omega) (by omega)

theorem mem_insert {o : List Ent} {x e : Ent} {r : Nat} : e ∈ o.take r ++ x :: o.drop r ↔ e = x ∨ e ∈ o := by
  rw [List.mem_append, List.mem_cons]
  have : e ∈ o ↔ e ∈ o.take r ∨ e ∈ o.drop r := by
    rw [← List.mem_append, List.take_append_drop]
  rw [this]
  constructor
  · rintro (h | h | h)
    · exact .inr (.inl h)
    · exact .inl h
    · exact .inr (.inr h)
  · rintro (h | h | h)
    · exact .inr (.inl h)
    · exact .inl h
    · exact .inr (.inr h)

theorem len_insert {o : List Ent} {x : Ent} {r : Nat} : (o.take r ++ x :: o.drop r).length = o.length + 1 := by
  simp only [List.length_append, List.length_cons, List.length_take, List.length_drop]; omega

/-- ints from 0 below n -/
def upto (n : Nat) : List Int := (List.range n).map (fun (k : Nat) => (k : Int))
def sideOf (here : List Int) (lamp : Int) (n : Nat) : List Int := (upto n).filter (fun k => here.getD k.toNat 0 == lamp)
def othersOf (side : List Int) (one : Int) : List Int := side.filter (fun two => decide (two ≤ one))
def afterOf (here : List Int) (lamp one other : Int) (n : Nat) : List Int := (upto n).map (fun k => if k = one ∨ k = other then 1 - lamp else here.getD k.toNat 0)
def stepOf (ns : List Int) (far : Int) (here : List Int) (lamp : Int) (p : Int × Int) : Ent :=
  (far + max (ns.getD p.1.toNat 0) (ns.getD p.2.toNat 0), afterOf here lamp p.1 p.2 ns.length, 1 - lamp)

structure InnerI (st : Int × Int → Ent) (rest : List Ent) (seen : List Stt) (done : List (Int × Int)) (o : List Ent) : Prop where
  sorted : FarSorted o
  old : ∀ e ∈ rest, e ∈ o
  new : ∀ e ∈ o, e ∈ rest ∨ ∃ p ∈ done, e = st p
  all : ∀ p ∈ done, (st p).2 ∈ seen ∨ st p ∈ o
  len : o.length ≤ rest.length + done.length

theorem InnerI.start {st : Int × Int → Ent} {rest : List Ent} {seen : List Stt} (h : FarSorted rest) : InnerI st rest seen [] rest :=
  ⟨h, fun _ h => h, fun _ h => .inl h, fun _ h => (nomatch h), Nat.le_refl _⟩
theorem InnerI.skip {st : Int × Int → Ent} {rest : List Ent} {seen : List Stt} {done : List (Int × Int)} {o : List Ent} {p : Int × Int} (I : InnerI st rest seen done o) (h : (st p).2 ∈ seen ∨ st p ∈ o) : InnerI st rest seen (done ++ [p]) o where
  sorted := I.sorted
  old := I.old
  new := fun e he => (I.new e he).imp id fun ⟨q, hq, e⟩ => ⟨q, List.mem_append.mpr (.inl hq), e⟩
  all := fun q hq => by
    rcases List.mem_append.mp hq with hq | hq
    · exact I.all q hq
    · rw [List.mem_singleton.mp hq]; exact h
  len := by have := I.len; simp only [List.length_append, List.length_cons, List.length_nil]; omega
theorem InnerI.put {st : Int × Int → Ent} {rest : List Ent} {seen : List Stt} {done : List (Int × Int)} {o : List Ent} {p : Int × Int} {r : Nat} (I : InnerI st rest seen done o) (hb : BisOk (ltAtIdx o (st p)) o.length r) : InnerI st rest seen (done ++ [p]) (o.take r ++ st p :: o.drop r) where
  sorted := far_insert I.sorted hb
  old := fun e he => mem_insert.mpr (.inr (I.old e he))
  new := fun e he => by
    rcases mem_insert.mp he with rfl | he
    · exact .inr ⟨p, List.mem_append.mpr (.inr (.head _)), rfl⟩
    · exact (I.new e he).imp id fun ⟨q, hq, e⟩ => ⟨q, List.mem_append.mpr (.inl hq), e⟩
  all := fun q hq => by
    rcases List.mem_append.mp hq with hq | hq
    · exact (I.all q hq).imp id fun h => mem_insert.mpr (.inr h)
    · rw [List.mem_singleton.mp hq]; exact .inr (mem_insert.mpr (.inl rfl))
  len := by have := I.len; rw [len_insert]; simp only [List.length_append, List.length_cons, List.length_nil]; omega

def pairsOf (side : List Int) : List Int → List (Int × Int)
  | [] => []
  | one :: r => (othersOf side one).map (fun other => (one, other)) ++ pairsOf side r
theorem pairsOf_append (side a b : List Int) : pairsOf side (a ++ b) = pairsOf side a ++ pairsOf side b := by
  induction a with
  | nil => rfl
  | cons x r ih => rw [List.cons_append, pairsOf, pairsOf, ih, List.append_assoc]
theorem mem_pairsOf {side : List Int} {p : Int × Int} : ∀ {l : List Int}, p ∈ pairsOf side l ↔ p.1 ∈ l ∧ p.2 ∈ side ∧ p.2 ≤ p.1
  | [] => by simp [pairsOf]
  | one :: r => by
    rw [pairsOf, List.mem_append, mem_pairsOf (l := r), List.mem_map, List.mem_cons]
    unfold othersOf
    constructor
    · rintro (⟨o, ho, rfl⟩ | ⟨h1, h2⟩)
      · have := List.mem_filter.mp ho
        exact ⟨.inl rfl, this.1, of_decide_eq_true this.2⟩
      · exact ⟨.inr h1, h2⟩
    · rintro ⟨h1 | h1, h2, h3⟩
      · exact .inl ⟨p.2, List.mem_filter.mpr ⟨h2, decide_eq_true (by rw [← h1]; exact h3)⟩, by rw [← h1]⟩
      · exact .inr ⟨h1, h2, h3⟩
theorem len_pairsOf (side : List Int) : ∀ l : List Int, (pairsOf side l).length ≤ l.length * side.length
  | [] => by simp [pairsOf]
  | one :: r => by
    rw [pairsOf, List.length_append, List.length_map, List.length_cons, Nat.succ_mul]
    have h1 := len_pairsOf side r
    have h2 : (othersOf side one).length ≤ side.length := List.length_filter_le _ _
    omega
theorem len_upto (n : Nat) : (upto n).length = n := by simp [upto]
theorem mem_upto {n : Nat} {k : Int} : k ∈ upto n ↔ 0 ≤ k ∧ k < n := by
  unfold upto
  rw [List.mem_map]
  constructor
  · rintro ⟨j, hj, rfl⟩; have := List.mem_range.mp hj; omega
  · rintro ⟨h1, h2⟩; exact ⟨k.toNat, List.mem_range.mpr (by omega), by omega⟩
theorem len_side (here : List Int) (lamp : Int) (n : Nat) : (sideOf here lamp n).length ≤ n := by
  have := List.length_filter_le (fun k : Int => here.getD k.toNat 0 == lamp) (upto n)
  rw [len_upto] at this; exact this
theorem mem_side {here : List Int} {lamp k : Int} {n : Nat} (h : k ∈ sideOf here lamp n) : 0 ≤ k ∧ k < n := mem_upto.mp (List.mem_filter.mp h).1
theorem len_after (here : List Int) (lamp one other : Int) (n : Nat) : (afterOf here lamp one other n).length = n := by
  unfold afterOf; rw [List.length_map, len_upto]

structure ThrOk (ns : List Int) (I : List Ent → List Stt → Prop) (out : Int) : Prop where
  start : I [(0, List.replicate ns.length 1, 1)] []
  bound : ∀ o seen, I o seen → o.length ≤ 1 + 16 * seen.length ∧ seen.length ≤ 32
  wf : ∀ o seen, I o seen → ∀ e ∈ o, e.2.1.length = ns.length
  sorted : ∀ o seen, I o seen → FarSorted o
  ne : ∀ seen, ¬ I [] seen
  goal : ∀ e rest seen, I (e :: rest) seen → e.2.1.sum = 0 → e.1 = out
  skip : ∀ e rest seen, I (e :: rest) seen → e.2.1.sum ≠ 0 → e.2 ∈ seen → I rest seen
  step : ∀ e rest seen o', I (e :: rest) seen → e.2.1.sum ≠ 0 → e.2 ∉ seen →
    InnerI (stepOf ns e.1 e.2.1 e.2.2) rest (seen ++ [e.2]) (pairsOf (sideOf e.2.1 e.2.2 ns.length) (sideOf e.2.1 e.2.2 ns.length)) o' → I o' (seen ++ [e.2])

end Mine

namespace Mine

def ThrJ (ns : List Int) (I : List Ent → List Stt → Prop) (L l : Nat) (news : List (Addr × Obj)) (k : Nat) (m : Str → Option Value) (nx : List (Addr × Obj)) : Prop :=
  ∃ (O S : Nat) (ov sv : List Value) (kO kS : Nat) (order : List Ent) (seen : List Stt) (o1 o2 o3 o4 : Obj) (x1 x2 x3 x4 : Option Value) (tl : List (Addr × Obj)) (tn : Tok),
  nx = (S, listOf sv.toArray kS) :: (O, listOf ov.toArray kO) :: (L+1+1+1+1, o1) :: (L+1+1+1, o2) :: (L+1+1, o3) :: (L+1, o4) :: (tl ++ news) ∧
  o1.data = .cell x1 ∧ o2.data = .cell x2 ∧ o3.data = .cell x3 ∧ o4.data = .cell x4 ∧
  OwnOff (tl ++ news) [S, O, L+1+1+1+1, L+1+1+1, L+1+1, L+1] ∧ O ≠ S ∧ L+1+1+1+1 < S ∧ L+1+1+1+1 < O ∧
  DatAll tl ov (order.map encE) ∧ DatAll tl sv (seen.map encS) ∧ I order seen ∧ k = (40 - seen.length) * 1000 + order.length ∧
  m "order" = some (.ref O) ∧ m "seen" = some (.ref S) ∧ m "many" = some (.int ns.length tn) ∧ m "times" = some (.ref l)

theorem allLt_mem {d : Nat} {l : List (Addr × Obj)} (h : AllLt d l) : ∀ p ∈ l, @LT.lt Nat _ p.1 d := fun p hp => kst_ltOf h p hp

theorem thr_start {ns : List Int} {I : List Ent → List Stt → Prop} {out : Int} (K : ThrOk ns I out) {g h : Heap} {L l : Nat} {news : List (Addr × Obj)} {m : Str → Option Value}
    {P S O D1 D D2 l2 : Nat} {oP oD2 ol2 o1 o2 o3 o4 : Obj} {x1 x2 x3 x4 : Option Value} {t u tn : Tok} {ones : List Value} {n1 n2 : Nat}
    (_F : Fr g L h m) (N : News g L h ((P, oP) :: (S, listOf #[] 0) :: (O, listOf #[.ref D1] 0) :: (D1, { cls := .type "tuple", data := .seq #[.int 0 t, .ref D, .int 1 u] n1 }) :: (D, { cls := .type "tuple", data := .seq ones.toArray n2 }) :: (D2, oD2) :: (l2, ol2) :: (L+1+1+1+1, o1) :: (L+1+1+1, o2) :: (L+1+1, o3) :: (L+1, o4) :: news))
    (d1 : o1.data = .cell x1) (d2 : o2.data = .cell x2) (d3 : o3.data = .cell x3) (d4 : o4.data = .cell x4)
    (hi : IntsAre ones (List.replicate ns.length 1))
    (hS : O < S ∧ D1 < S ∧ D < S ∧ D2 < S ∧ l2 < S ∧ L+1+1+1+1 < S ∧ L+1+1+1 < S ∧ L+1+1 < S ∧ L+1 < S ∧ AllLt S news)
    (hO : D1 < O ∧ D < O ∧ D2 < O ∧ l2 < O ∧ L+1+1+1+1 < O ∧ L+1+1+1 < O ∧ L+1+1 < O ∧ L+1 < O ∧ AllLt O news)
    (hD1 : L+1+1+1+1 < D1) (hl : ∀ p ∈ news, @LT.lt Nat _ p.1 L)
    (e1 : m "order" = some (.ref O)) (e2 : m "seen" = some (.ref S)) (e3 : m "many" = some (.int ns.length tn)) (e4 : m "times" = some (.ref l)) :
    ∃ nx, News g L h nx ∧ ThrJ ns I L l news (40 * 1000 + 1) m nx := by
  have hDne : ∀ c o x, (c, o) ∈ ((L+1+1+1+1, o1) :: (L+1+1+1, o2) :: (L+1+1, o3) :: (L+1, o4) :: news) → o.data = .cell x → D ≠ c := by
    intro c o x hm hd e
    have h1 := (N (D, { cls := .type "tuple", data := .seq ones.toArray n2 }) (by simp)).1
    have h2 := (N (c, o) (.tail _ (.tail _ (.tail _ (.tail _ (.tail _ (.tail _ (.tail _ hm)))))))).1
    simp only at h1 h2
    rw [e] at h1
    rw [h1] at h2
    cases h2
    cases hd
  have q1 := hDne _ o1 _ (.head _) d1
  have q2 := hDne _ o2 _ (.tail _ (.head _)) d2
  have q3 := hDne _ o3 _ (.tail _ (.tail _ (.head _))) d3
  have q4 := hDne _ o4 _ (.tail _ (.tail _ (.tail _ (.head _)))) d4
  obtain ⟨s1, s2, s3, s4, s5, s6, s7, s8, s9, s10⟩ := hS
  obtain ⟨r2, r3, r4, r5, r6, r7, r8, r9, r10⟩ := hO
  refine ⟨(S, listOf ([] : List Value).toArray 0) :: (O, listOf [Value.ref D1].toArray 0) :: (L+1+1+1+1, o1) :: (L+1+1+1, o2) :: (L+1+1, o3) :: (L+1, o4) :: ([(D1, { cls := .type "tuple", data := .seq [Value.int 0 t, .ref D, .int 1 u].toArray n1 }), (D, { cls := .type "tuple", data := .seq ones.toArray n2 })] ++ news), ?_, ?_⟩
  · intro p hp
    refine N p ?_
    simp only [List.mem_cons, List.mem_append, List.not_mem_nil, or_false] at hp ⊢
    rcases hp with h | h | h | h | h | h | (h | h) | h
    all_goals simp [h]
  · refine ⟨O, S, [.ref D1], [], 0, 0, [(0, List.replicate ns.length 1, 1)], [], o1, o2, o3, o4, x1, x2, x3, x4, _, tn, rfl, d1, d2, d3, d4, ?_, ?_, s6, r6, ?_, DatAll.nil, K.start, rfl, e1, e2, e3, e4⟩
    · intro p hp b hb
      simp only [List.mem_cons, List.mem_append, List.not_mem_nil, or_false] at hp hb
      rcases hp with (rfl | rfl) | hp
      · rcases hb with rfl | rfl | rfl | rfl | rfl | rfl <;> (simp only; refine neN ?_; omega)
      · rcases hb with rfl | rfl | rfl | rfl | rfl | rfl <;> first | assumption | (simp only; refine neN ?_; omega)
      · have a1 := allLt_mem s10 p hp
        have a2 := allLt_mem r10 p hp
        have a3 := hl p hp
        rcases hb with rfl | rfl | rfl | rfl | rfl | rfl <;> (refine neN ?_; omega)
    · refine neN ?_; omega
    · refine .cons (.tuple (.head _) (.cons (.int _ _) (.cons (.tuple (.tail _ (.head _)) ?_) (.cons (.int _ _) .nil)))) .nil
      exact dat_of_ints hi

theorem thr_mk {ns : List Int} {I : List Ent → List Stt → Prop} {g h : Heap} {L l : Nat} {news big : List (Addr × Obj)} {m : Str → Option Value} {k : Nat} (_F : Fr g L h m) (N : News g L h big)
    {O S : Nat} {ov sv : List Value} {kO kS : Nat} {order : List Ent} {seen : List Stt} {o1 o2 o3 o4 : Obj} {x1 x2 x3 x4 : Option Value} {tl : List (Addr × Obj)} {tn : Tok}
    (hS : (S, listOf sv.toArray kS) ∈ big) (hO : (O, listOf ov.toArray kO) ∈ big) (h4 : (L+1+1+1+1, o1) ∈ big) (h3 : (L+1+1+1, o2) ∈ big) (h2 : (L+1+1, o3) ∈ big) (h1 : (L+1, o4) ∈ big) (ht : ∀ p ∈ tl ++ news, p ∈ big)
    (d1 : o1.data = .cell x1) (d2 : o2.data = .cell x2) (d3 : o3.data = .cell x3) (d4 : o4.data = .cell x4)
    (hoff : OwnOff (tl ++ news) [S, O, L+1+1+1+1, L+1+1+1, L+1+1, L+1]) (hOS : O ≠ S) (hS4 : L+1+1+1+1 < S) (hO4 : L+1+1+1+1 < O)
    (DO : DatAll tl ov (order.map encE)) (DS : DatAll tl sv (seen.map encS)) (hI : I order seen) (hk : k = (40 - seen.length) * 1000 + order.length)
    (e1 : m "order" = some (.ref O)) (e2 : m "seen" = some (.ref S)) (e3 : m "many" = some (.int ns.length tn)) (e4 : m "times" = some (.ref l)) :
    ∃ nx, News g L h nx ∧ ThrJ ns I L l news k m nx := by
  refine ⟨(S, listOf sv.toArray kS) :: (O, listOf ov.toArray kO) :: (L+1+1+1+1, o1) :: (L+1+1+1, o2) :: (L+1+1, o3) :: (L+1, o4) :: (tl ++ news), ?_, ?_⟩
  · intro p hp
    refine N p ?_
    rcases List.mem_cons.mp hp with rfl | hp
    · exact hS
    rcases List.mem_cons.mp hp with rfl | hp
    · exact hO
    rcases List.mem_cons.mp hp with rfl | hp
    · exact h4
    rcases List.mem_cons.mp hp with rfl | hp
    · exact h3
    rcases List.mem_cons.mp hp with rfl | hp
    · exact h2
    rcases List.mem_cons.mp hp with rfl | hp
    · exact h1
    · exact ht p hp
  · exact ⟨O, S, ov, sv, kO, kS, order, seen, o1, o2, o3, o4, x1, x2, x3, x4, tl, tn, rfl, d1, d2, d3, d4, hoff, hOS, hS4, hO4, DO, DS, hI, hk, e1, e2, e3, e4⟩

theorem off_swap {tl : List (Addr × Obj)} {S O D c4 c3 c2 c1 : Nat} (h : OwnOff tl [S, O, c4, c3, c2, c1]) (hD : AllLt D tl) : OwnOff tl [S, D, c4, c3, c2, c1] := by
  intro p hp b hb
  have h1 := h p hp
  have h2 := allLt_mem hD p hp
  simp only [List.mem_cons, List.not_mem_nil, or_false] at hb
  rcases hb with rfl | rfl | rfl | rfl | rfl | rfl
  · exact h1 _ (by simp)
  · refine neN ?_; omega
  · exact h1 _ (by simp)
  · exact h1 _ (by simp)
  · exact h1 _ (by simp)
  · exact h1 _ (by simp)

theorem my_titem {prog : Program} {w : World} {A : Around} {E : Value → Shared → Prop} {s : Shared} {h₀ : Heap} {L t : Addr} {news : List (Addr × Obj)} {value slice : PySem.Expr} {vs : List Value} {ns : List Int} {n : Nat} {k : Int} {u : Tok} {Q : Value → Shared → Prop} (N : News h₀ L s.heap news) (hm : (t, ({ cls := .type "tuple", data := .seq vs.toArray n } : Obj)) ∈ news) (hi : IntsAre vs ns)
    (h0 : 0 ≤ k) (h1 : k < ns.length) (hl : ns.length < 2^60) (h : ∀ t', Q (.int (ns.getD k.toNat 0) t') s)
    (hs : subscripted slice false (.ref t) (.int k u) = operate [.ref t, .int k u] (getItem (.ref t) (.int k u)) := by with_unfolding_all rfl) :
    wpAny (model prog w) A (subscriptTail value slice (.ref t) (.int k u)) Q E s := by
  have hT : IsTup s.heap t vs.toArray := ⟨_, (N _ hm).1, rfl, n, rfl⟩
  have hlen := hi.length
  have hk : k.toNat < vs.toArray.size := by rw [List.size_toArray]; omega
  obtain ⟨t', ht'⟩ := ints_get hi k.toNat hk
  refine item_tupleT hT (by omega) (by omega) (j := k.toNat) ?_ (x := .int (ns.getD k.toNat 0) t') ?_ (h t') hs
  · unfold seqIndex?
    simp only [show ¬ k < 0 by omega, if_false]
    rw [if_pos (by simp only [Bool.and_eq_true, decide_eq_true_eq]; omega)]
  · rw [← ht']; simp [hk]
theorem foldl_filter (p : Int → Bool) : ∀ (ks acc : List Int), ks.foldl (fun l k => if p k then l ++ [k] else l) acc = acc ++ ks.filter p
  | [], acc => by simp
  | k :: r, acc => by
    rw [List.foldl_cons, foldl_filter p r, List.filter_cons]
    cases p k <;> simp
theorem rangeKs_upto (n : Nat) : rangeKs 0 n = upto n := by
  unfold rangeKs upto
  apply List.map_congr_left
  intro k _; omega

open PySem.Spec PyProof.V in
theorem my_sum {prog : Program} {w : World} {A : Around} {E : Value → Shared → Prop} {s : Shared} {h₀ : Heap} {L t : Addr} {m : Str → Option Value} {news : List (Addr × Obj)} {vs : List Value} {ns : List Int} {n : Nat} {Q : Value → Shared → Prop} (hh : A.handled = none) (F : Fr h₀ L s.heap m) (N : News h₀ L s.heap news) (hm : (t, ({ cls := .type "tuple", data := .seq vs.toArray n } : Obj)) ∈ news) (hi : IntsAre vs ns)
    (h : ∀ h' tk t', Fr h₀ L h' m → News h₀ L h' news → Q (.int ns.sum t') { s with heap := h', toks := tk }) :
    wpAny (model prog w) A (call (.builtin "sum") [.ref t]) Q E s := by
  have hl : s.heap.IsTuple t vs.toArray := ⟨_, (N _ hm).1, rfl, n, rfl⟩
  obtain ⟨xs, hx⟩ := hi.allInts.items
  have hn : numsOf vs.toArray.toList = ns := by rw [show vs.toArray.toList = vs from rfl, hi.numsOf]
  rw [hx] at hl hn
  rw [nums_intItems] at hn
  refine ktm_sumG hh hl fun h' tk t' hk => ?_
  have := h h' tk t' (F.keeps hk) (N.grown hk)
  rw [preSum_eq, List.take_of_length_le (by simp), hn]
  exact this

theorem datAll_cons {news : List (Addr × Obj)} {vs : List Value} {d : Dat} {ds : List Dat} (h : DatAll news vs (d :: ds)) : ∃ v vs', vs = v :: vs' ∧ DatIn news v d ∧ DatAll news vs' ds := by
  cases h with
  | cons h1 h2 => exact ⟨_, _, rfl, h1, h2⟩
theorem off6 {tl : List (Addr × Obj)} {a S O c4 c3 c2 c1 : Nat} {o : Obj} (h : OwnOff tl [S, O, c4, c3, c2, c1]) (hm : (a, o) ∈ tl) : @Ne Nat a S ∧ @Ne Nat a O ∧ @Ne Nat a c4 ∧ @Ne Nat a c3 ∧ @Ne Nat a c2 ∧ @Ne Nat a c1 :=
  ⟨h _ hm S (by simp), h _ hm O (by simp), h _ hm c4 (by simp), h _ hm c3 (by simp), h _ hm c2 (by simp), h _ hm c1 (by simp)⟩


theorem my_litem {prog : Program} {w : World} {A : Around} {E : Value → Shared → Prop} {s : Shared} {h₀ : Heap} {L t : Addr} {news : List (Addr × Obj)} {value slice : PySem.Expr} {vs : List Value} {ns : List Int} {n : Nat} {k : Int} {u : Tok} {Q : Value → Shared → Prop} (N : News h₀ L s.heap news) (hm : (t, listOf vs.toArray n) ∈ news) (hi : IntsAre vs ns)
    (h0 : 0 ≤ k) (h1 : k < ns.length) (hl : ns.length < 2^60) (h : ∀ t', Q (.int (ns.getD k.toNat 0) t') s)
    (hs : subscripted slice false (.ref t) (.int k u) = operate [.ref t, .int k u] (getItem (.ref t) (.int k u)) := by with_unfolding_all rfl) :
    wpAny (model prog w) A (subscriptTail value slice (.ref t) (.int k u)) Q E s := by
  have hlen := hi.length
  have hk : k.toNat < vs.toArray.size := by rw [List.size_toArray]; omega
  obtain ⟨t', ht'⟩ := ints_get hi k.toNat hk
  refine my_item N hm (by omega) h0 (by omega) (fun hk2 => ?_) hs
  have e : vs[k.toNat]'hk2 = .int (ns.getD k.toNat 0) t' := by rw [← ht']; simp
  rw [e]; exact h t'

theorem in_pair {prog : Program} {w : World} {A : Around} {E : Value → Shared → Prop} {s : Shared} {h₀ : Heap} {L T : Addr} {news : List (Addr × Obj)} {a b k : Int} {ta tb tk : Tok} {n : Nat} {Q : Value → Shared → Prop} (N : News h₀ L s.heap news)
    (hm : (T, ({ cls := .type "tuple", data := .seq #[.int a ta, .int b tb] n } : Obj)) ∈ news) (hu : A.units + 64 < cLine) (h : Q (.bool (decide (k = a ∨ k = b))) s) :
    wpAny (model prog w) A (compareOp .In (.int k tk) (.ref T)) Q E s := by
  refine SeqAt.in_tuple_reads (xs := [.int a, .int b]) (d := .int k) (reads_tuple_at (N.get hm) rfl rfl (ReadsAll.cons (Reads.int a ta) (ReadsAll.cons (Reads.int b tb) ReadsAll.nil))) (Reads.int k tk) (by simp [PyData.canLayAll0, PyData.canLay0]) rfl (by simp only [PyData.depth, PyData.depthAll]; omega) ?_
  have e : ([PyData.int a, PyData.int b].any fun y => PyData.eqv y (PyData.int k)) = decide (k = a ∨ k = b) := by
    rw [Bool.eq_iff_iff]
    simp only [List.any_cons, List.any_nil, Bool.or_false, Bool.or_eq_true, PyData.eqv, beq_iff_eq, decide_eq_true_eq]
    constructor
    · rintro (h | h)
      · exact .inl h.symm
      · exact .inr h.symm
    · rintro (h | h)
      · exact .inl h.symm
      · exact .inr h.symm
  rw [e]; exact h

theorem news_ne {g h : Heap} {L : Addr} {news : List (Addr × Obj)} (N : News g L h news) {a b : Addr} {o o' : Obj} (h1 : (a, o) ∈ news) (h2 : (b, o') ∈ news) (ho : o ≠ o') : @Ne Nat a b := by
  intro e
  have q1 := (N _ h1).1
  have q2 := (N _ h2).1
  simp only at q1 q2
  rw [e, q2] at q1
  exact ho (Option.some.inj q1).symm

def AllNeN (d : Nat) : List (Addr × Obj) → Prop
  | [] => True
  | p :: r => @Ne Nat p.1 d ∧ AllNeN d r
theorem allNeN_of {d : Addr} : ∀ {l : List (Addr × Obj)}, (∀ p ∈ l, p.1 ≠ d) → AllNeN d l
  | [], _ => trivial
  | p :: _, h => ⟨h p (.head _), allNeN_of fun q hq => h q (.tail _ hq)⟩
theorem allNeN_mem {d : Nat} : ∀ {l : List (Addr × Obj)}, AllNeN d l → ∀ p ∈ l, p.1 ≠ d
  | [], _ => fun _ hp => (nomatch hp)
  | q :: r, h => fun p hp => by
    rcases List.mem_cons.mp hp with rfl | hp
    · exact h.1
    · exact allNeN_mem h.2 p hp

def InJ (ns : List Int) (st : Int × Int → Ent) (rest : List Ent) (seen : List Stt) (L l S O G : Nat) (svs : List Value) (kS : Nat) (oLamp oHere : Obj) (far : Int) (ta : Tok) (tl1 news pre : List (Addr × Obj)) (offs : List Addr) (R3 : Option Value → Prop) (done : List (Int × Int)) (m : Str → Option Value) (nx : List (Addr × Obj)) : Prop :=
  ∃ (ov : List Value) (kO : Nat) (order : List Ent) (p3 p4 : Obj) (y3 y4 : Option Value) (tl2 : List (Addr × Obj)) (tn : Tok),
  nx = pre ++ ((S, listOf svs.toArray kS) :: (O, listOf ov.toArray kO) :: (L+1+1+1+1, p4) :: (L+1+1+1, p3) :: (L+1+1, oLamp) :: (L+1, oHere) :: (tl2 ++ news)) ∧
  p4.data = .cell y4 ∧ p3.data = .cell y3 ∧ R3 y3 ∧
  OwnOff (tl2 ++ news) offs ∧ DatAll tl2 ov (order.map encE) ∧ (∀ p ∈ tl1, p ∈ tl2) ∧ InnerI st rest seen done order ∧
  m "order" = some (.ref O) ∧ m "seen" = some (.ref S) ∧ m "many" = some (.int ns.length tn) ∧ m "times" = some (.ref l) ∧ m "far" = some (.int far ta) ∧ m "side" = some (.ref G)

end Mine

namespace Mine

open Classical in
theorem ne_dat {prog : Program} {w : World} {A : Around} {E : Value → Shared → Prop} {s : Shared} {h₀ : Heap} {L : Addr} {news : List (Addr × Obj)} (N : News h₀ L s.heap news) {v v' : Value} {d e : Dat} {Q : Value → Shared → Prop} (hv : DatIn news v d) (hw : DatIn news v' e)
    (h1 : kqdOk 8 d = true) (h2 : kqdOk 8 e = true) (hu : A.units + 64 < cLine) (h : Q (.bool (!decide (d = e))) s) : wpAny (model prog w) A (compareOp .NotEq v v') Q E s := by
  obtain ⟨as, ra⟩ := kqd_in N 8 hv h1
  obtain ⟨bs, rb⟩ := kqd_in N 8 hw h2
  have la := kqd_lay 8 d h1
  have lb := kqd_lay 8 e h2
  have q := kqd_eqv 8 d e 8 h1 h2
  have e1 : PyData.eqv (kqdP d) (kqdP e) = decide (d = e) := by
    by_cases hq : d = e
    · rw [decide_eq_true hq]; exact q.mpr hq
    · rw [decide_eq_false hq]; exact Bool.eq_false_iff.mpr fun x => hq (q.mp x)
  refine ne_dataH ra rb ?_ ?_ hu (by rw [e1]; exact h)
  · unfold SeqAt.shaped; rw [la.1, Bool.true_and]; exact decide_eq_true (Nat.le_trans la.2 (by decide))
  · unfold SeqAt.shaped; rw [lb.1, Bool.true_and]; exact decide_eq_true (Nat.le_trans lb.2 (by decide))

theorem datAll_at {news : List (Addr × Obj)} : ∀ {vs : List Value} {es : List Ent}, DatAll news vs (es.map encE) → ∀ i (hi : i < vs.length), ∃ e, es[i]? = some e ∧ DatIn news (vs[i]'hi) (encE e)
  | _, [], h, i, hi => by cases h; exact absurd hi (Nat.not_lt_zero _)
  | _, e :: es, h, i, hi => by
    rw [List.map_cons] at h
    obtain ⟨v, vs', rfl, h1, h2⟩ := datAll_cons h
    cases i with
    | zero => exact ⟨e, rfl, h1⟩
    | succ j =>
      obtain ⟨e', q1, q2⟩ := datAll_at h2 j (by simpa using hi)
      exact ⟨e', q1, q2⟩

theorem datAll_ins {news : List (Addr × Obj)} {v : Value} {x : Ent} (hv : DatIn news v (encE x)) : ∀ {vs : List Value} {es : List Ent}, DatAll news vs (es.map encE) → ∀ r : Nat, DatAll news (vs.take r ++ v :: vs.drop r) ((es.take r ++ x :: es.drop r).map encE)
  | _, [], h, r => by
    cases h
    simp only [List.take_nil, List.drop_nil, List.nil_append, List.map_cons, List.map_nil]
    exact .cons hv .nil
  | _, e :: es, h, r => by
    rw [List.map_cons] at h
    obtain ⟨v', vs', rfl, h1, h2⟩ := datAll_cons h
    cases r with
    | zero =>
      simp only [List.take_zero, List.drop_zero, List.nil_append, List.map_cons]
      exact .cons hv (.cons h1 h2)
    | succ j =>
      simp only [List.take_succ_cons, List.drop_succ_cons, List.cons_append, List.map_cons]
      exact .cons h1 (datAll_ins hv h2 j)

theorem lt_order {prog : Program} {w : World} {A : Around} {E : Value → Shared → Prop} {s : Shared} {h₀ : Heap} {L : Addr} {big tlX : List (Addr × Obj)} (N : News h₀ L s.heap big) {ov : List Value} {order : List Ent} {v : Value} {x : Ent} {Q : Value → Shared → Prop}
    (DO : DatAll tlX ov (order.map encE)) (hsub : ∀ p ∈ tlX, p ∈ big) (hx : DatIn big v (encE x)) (i : Nat) (hi : i < ov.length) (hu : A.units + 20 < cLine) (hQ : Q (.bool (ltAtIdx order x i)) s) :
    wpAny (model prog w) A (compareOp .Lt (ov[i]'hi) v) Q E s := by
  obtain ⟨e, q1, q2⟩ := datAll_at (DO.mono hsub) i hi
  unfold ltAtIdx at hQ
  rw [q1] at hQ
  exact ltAt_ent N q2 hx hu _ _ _ _ hQ

theorem in_end {ns : List Int} {st : Int × Int → Ent} {rest : List Ent} {seen : List Stt} {L l S D G : Nat} {svs : List Value} {kS : Nat} {oLamp oHere : Obj} {far : Int} {ta : Tok} {tl1 news pre : List (Addr × Obj)} {R3 : Option Value → Prop} {done : List (Int × Int)}
    {g h : Heap} {m : Str → Option Value} {IH IO : Nat} {oIH oIO : Obj} {s : Shared} {Q : Flow → Shared → Prop} {tk : Nat} {T W : Nat} {xT xW : Array Value} {kT kW : Nat} {ov : List Value} {kO : Nat} {order : List Ent} {p3 p4 : Obj} {y1 y2 y3 y4 : Option Value} {tl3 big : List (Addr × Obj)} {tn : Tok}
    (F : Fr g L h m) (N : News g L h big) (hcH : oIH.cls = .type "list_iterator") (hcO : oIO.cls = .type "list_iterator")
    (b0 : (IH, oIH) ∈ big) (bO : (IO, oIO) ∈ big) (bP : ∀ p ∈ pre, p ∈ big) (bS : (S, listOf svs.toArray kS) ∈ big) (bD : (D, listOf ov.toArray kO) ∈ big) (b4 : (L+1+1+1+1, p4) ∈ big) (b3 : (L+1+1+1, p3) ∈ big) (b2 : (L+1+1, oLamp) ∈ big) (b1 : (L+1, oHere) ∈ big) (bt : ∀ p ∈ tl3 ++ news, p ∈ big)
    (bT : (T, ({ cls := .type "tuple", data := .seq xT kT } : Obj)) ∈ big) (bW : (W, ({ cls := .type "tuple", data := .seq xW kW } : Obj)) ∈ big)
    (d4 : p4.data = .cell y4) (d3 : p3.data = .cell y3) (d2 : oLamp.data = .cell y2) (d1 : oHere.data = .cell y1)
    (hP : ∀ p ∈ pre, p.1 ≠ IH) (hA : ∀ b ∈ ([S, D, L+1+1+1+1, L+1+1+1, L+1+1, L+1] : List Addr), b ≠ IH) (hT : ∀ p ∈ tl3 ++ news, p.1 ≠ IH)
    (r3 : R3 y3) (hoff : OwnOff (tl3 ++ news) [S, D, L+1+1+1+1, L+1+1+1, L+1+1, L+1, IO])
    (DO : DatAll ((T, ({ cls := .type "tuple", data := .seq xT kT } : Obj)) :: (W, ({ cls := .type "tuple", data := .seq xW kW } : Obj)) :: tl3) ov (order.map encE)) (hsub : ∀ p ∈ tl1, p ∈ tl3) (hin : InnerI st rest seen done order)
    (e1 : m "order" = some (.ref D)) (e2 : m "seen" = some (.ref S)) (e3 : m "many" = some (.int ns.length tn)) (e4 : m "times" = some (.ref l)) (e5 : m "far" = some (.int far ta)) (e6 : m "side" = some (.ref G)) :
    ForEnd g L IH oIH (InJ ns st rest seen L l S D G svs kS oLamp oHere far ta tl1 news pre [S, D, L+1+1+1+1, L+1+1+1, L+1+1, L+1, IO] R3 done) s Q .next { s with heap := h, toks := tk } := by
  have qS : ∀ (x : Array Value) (k : Nat), ({ cls := .type "tuple", data := .seq x k } : Obj) ≠ listOf svs.toArray kS := fun x k e => by
    have := congrArg Obj.cls e
    exact absurd (show Value.type "tuple" = Value.type "list" from this) (by decide)
  have qD : ∀ (x : Array Value) (k : Nat), ({ cls := .type "tuple", data := .seq x k } : Obj) ≠ listOf ov.toArray kO := fun x k e => by
    have := congrArg Obj.cls e
    exact absurd (show Value.type "tuple" = Value.type "list" from this) (by decide)
  have qc : ∀ (x : Array Value) (k : Nat) (o : Obj) (y : Option Value), o.data = .cell y → ({ cls := .type "tuple", data := .seq x k } : Obj) ≠ o := fun x k o y hd e => by
    rw [← e] at hd; cases hd
  have qi : ∀ (x : Array Value) (k : Nat) (o : Obj), o.cls = .type "list_iterator" → ({ cls := .type "tuple", data := .seq x k } : Obj) ≠ o := fun x k o hd e => by
    rw [← e] at hd; exact absurd (show Value.type "tuple" = Value.type "list_iterator" from hd) (by decide)
  have base : ∀ (X : Nat) (x : Array Value) (k : Nat), (X, ({ cls := .type "tuple", data := .seq x k } : Obj)) ∈ big → (∀ b ∈ ([S, D, L+1+1+1+1, L+1+1+1, L+1+1, L+1, IO] : List Addr), X ≠ b) ∧ X ≠ IH := by
    intro X x k hX
    refine ⟨?_, news_ne N hX b0 (qi _ _ _ hcH)⟩
    intro b hb
    simp only [List.mem_cons, List.not_mem_nil, or_false] at hb
    rcases hb with rfl | rfl | rfl | rfl | rfl | rfl | rfl
    · exact news_ne N hX bS (qS _ _)
    · exact news_ne N hX bD (qD _ _)
    · exact news_ne N hX b4 (qc _ _ _ _ d4)
    · exact news_ne N hX b3 (qc _ _ _ _ d3)
    · exact news_ne N hX b2 (qc _ _ _ _ d2)
    · exact news_ne N hX b1 (qc _ _ _ _ d1)
    · exact news_ne N hX bO (qi _ _ _ hcO)
  have hbT := base _ _ _ bT
  have hbW := base _ _ _ bW
  refine ForEnd.mk (nx' := pre ++ ((S, listOf svs.toArray kS) :: (D, listOf ov.toArray kO) :: (L+1+1+1+1, p4) :: (L+1+1+1, p3) :: (L+1+1, oLamp) :: (L+1, oHere) :: (((T, ({ cls := .type "tuple", data := .seq xT kT } : Obj)) :: (W, ({ cls := .type "tuple", data := .seq xW kW } : Obj)) :: tl3) ++ news))) F ?_ ?_
    ⟨ov, kO, order, p3, p4, y3, y4, _, tn, rfl, d4, d3, r3, ?_, DO, fun p hp => .tail _ (.tail _ (hsub p hp)), hin, e1, e2, e3, e4, e5, e6⟩
  · intro p hp
    refine N p ?_
    rcases List.mem_cons.mp hp with rfl | hp
    · exact b0
    rcases List.mem_append.mp hp with hp | hp
    · exact bP p hp
    simp only [List.cons_append] at hp
    rcases List.mem_cons.mp hp with rfl | hp
    · exact bS
    rcases List.mem_cons.mp hp with rfl | hp
    · exact bD
    rcases List.mem_cons.mp hp with rfl | hp
    · exact b4
    rcases List.mem_cons.mp hp with rfl | hp
    · exact b3
    rcases List.mem_cons.mp hp with rfl | hp
    · exact b2
    rcases List.mem_cons.mp hp with rfl | hp
    · exact b1
    rcases List.mem_cons.mp hp with rfl | hp
    · exact bT
    rcases List.mem_cons.mp hp with rfl | hp
    · exact bW
    exact bt p hp
  · intro p hp
    rcases List.mem_append.mp hp with hp | hp
    · exact hP p hp
    simp only [List.cons_append] at hp
    rcases List.mem_cons.mp hp with rfl | hp
    · exact hA _ (by simp)
    rcases List.mem_cons.mp hp with rfl | hp
    · exact hA _ (by simp)
    rcases List.mem_cons.mp hp with rfl | hp
    · exact hA _ (by simp)
    rcases List.mem_cons.mp hp with rfl | hp
    · exact hA _ (by simp)
    rcases List.mem_cons.mp hp with rfl | hp
    · exact hA _ (by simp)
    rcases List.mem_cons.mp hp with rfl | hp
    · exact hA _ (by simp)
    rcases List.mem_cons.mp hp with rfl | hp
    · exact hbT.2
    rcases List.mem_cons.mp hp with rfl | hp
    · exact hbW.2
    exact hT p hp
  · intro p hp b hb
    simp only [List.cons_append] at hp
    rcases List.mem_cons.mp hp with rfl | hp
    · exact hbT.1 b hb
    rcases List.mem_cons.mp hp with rfl | hp
    · exact hbW.1 b hb
    exact hoff p hp b hb
theorem datInt {news : List (Addr × Obj)} {n m : Int} {t : Tok} (h : n = m) : DatIn news (.int n t) (.int m) := by rw [h]; exact .int _ _

open Classical in
theorem notIn_ent {prog : Program} {w : World} {A : Around} {E : Value → Shared → Prop} {s : Shared} {h₀ : Heap} {L S : Addr} {big t1 : List (Addr × Obj)} (N : News h₀ L s.heap big) {svs : List Value} {kS : Nat} {sn : List Stt} {x : Stt} {v : Value} {Q : Value → Shared → Prop}
    (ma : (S, listOf svs.toArray kS) ∈ big) (DS : DatAll t1 svs (sn.map encS)) (hsub : ∀ p ∈ t1, p ∈ big) (hx : DatIn big v (encS x)) (hu : A.units + 64 < cLine) (h1 : x ∈ sn → Q (.bool false) s) (h2 : x ∉ sn → Q (.bool true) s) :
    wpAny (model prog w) A (compareOp .NotIn v (.ref S)) Q E s := by
  refine kqd_notIn (ds := sn.map encS) (d := encS x) (n₁ := t1) (n₂ := big) N ma rfl rfl DS hsub hx (fun _ h => h) (by intro d hd; obtain ⟨e, _, rfl⟩ := List.mem_map.mp hd; exact kqdS 6 e) (kqdS 6 _) hu ?_
  by_cases hc : x ∈ sn
  · have := h1 hc
    simpa [mem_encS, hc] using this
  · have := h2 hc
    simpa [mem_encS, hc] using this

theorem ne_ent {prog : Program} {w : World} {A : Around} {E : Value → Shared → Prop} {s : Shared} {h₀ : Heap} {L : Addr} {big tlX : List (Addr × Obj)} (N : News h₀ L s.heap big) {ov : List Value} {order : List Ent} {v : Value} {x : Ent} {Q : Value → Shared → Prop}
    (DO : DatAll tlX ov (order.map encE)) (hsub : ∀ p ∈ tlX, p ∈ big) (hx : DatIn big v (encE x)) (i : Nat) (hi : i < ov.length) (hu : A.units + 64 < cLine) (h1 : x ∈ order → Q (.bool false) s) (h2 : Q (.bool true) s) :
    wpAny (model prog w) A (compareOp .NotEq (ov[i]'hi) v) Q E s := by
  obtain ⟨e, q1, q2⟩ := datAll_at (DO.mono hsub) i hi
  refine ne_dat N q2 hx (kqdE 6 _) (kqdE 6 _) hu ?_
  by_cases hc : encE e = encE x
  · have hm : x ∈ order := by
      have : e = x := encE_inj hc
      rw [← this]; exact List.mem_of_getElem? q1
    have := h1 hm
    simpa [hc] using this
  · simpa [hc] using h2

theorem mem_ins {big : List (Addr × Obj)} {D : Nat} {o' : Obj} {p : Addr × Obj} (hp : p ∈ big) (hne : @Ne Nat p.1 D) : p ∈ (D, o') :: big.filter (fun q => decide (@Ne Nat q.1 D)) :=
  .tail _ (List.mem_filter.mpr ⟨hp, decide_eq_true hne⟩)

theorem len_done {ns : List Int} {here : List Int} {lamp one : Int} (i j : Nat) (hn : ns.length ≤ 4) :
    (pairsOf (sideOf here lamp ns.length) ((sideOf here lamp ns.length).take i) ++ ((othersOf (sideOf here lamp ns.length) one).take j).map (fun other => (one, other))).length ≤ 20 := by
  have h1 := len_side here lamp ns.length
  have h2 : (othersOf (sideOf here lamp ns.length) one).length ≤ (sideOf here lamp ns.length).length := List.length_filter_le _ _
  have h3 := len_pairsOf (sideOf here lamp ns.length) ((sideOf here lamp ns.length).take i)
  have h4 : ((sideOf here lamp ns.length).take i).length ≤ 4 := by rw [List.length_take]; omega
  have h5 := Nat.mul_le_mul h4 (Nat.le_trans h1 hn)
  rw [List.length_append, List.length_map, List.length_take]
  omega
theorem len700 {st : Int × Int → Ent} {rest : List Ent} {seen : List Stt} {done : List (Int × Int)} {o : List Ent} {ov : List Value} {tl : List (Addr × Obj)} {b : Prop} (h : InnerI st rest seen done o) (hr : rest.length ≤ 600 ∧ b) (hd : done.length ≤ 20) (hl : DatAll tl ov (o.map encE)) : ov.length ≤ 700 := by
  have h1 := h.len
  have h2 := hl.length
  rw [List.length_map] at h2
  have := hr.1
  omega

theorem dat_step {g h : Heap} {L : Addr} {big : List (Addr × Obj)} (_N : News g L h big) {T W : Nat} {k1 k2 : Nat} {ns : List Int} {far x : Int} {here : List Int} {lamp one other : Int} {as : List Value} {t u : Tok}
    (hT : (T, ({ cls := .type "tuple", data := .seq #[.int x t, .ref W, .int (1 - lamp) u] k1 } : Obj)) ∈ big) (hW : (W, ({ cls := .type "tuple", data := .seq as.toArray k2 } : Obj)) ∈ big)
    (ha : IntsAre as (afterOf here lamp one other ns.length)) (hx : x = far + max (ns.getD one.toNat 0) (ns.getD other.toNat 0)) : DatIn big (.ref T) (encE (stepOf ns far here lamp (one, other))) := by
  refine .tuple (vs := [.int x t, .ref W, .int (1 - lamp) u]) (n := k1) hT (.cons (datInt hx) (.cons (.tuple hW (dat_of_ints ha)) (.cons (.int _ _) .nil)))

theorem dat_pair {g h : Heap} {L : Addr} {big : List (Addr × Obj)} (_N : News g L h big) {T W : Nat} {k1 k2 : Nat} {ns : List Int} {far : Int} {here : List Int} {lamp one other : Int} {as : List Value} {u : Tok}
    (hT : (T, ({ cls := .type "tuple", data := .seq #[.ref W, .int (1 - lamp) u] k1 } : Obj)) ∈ big) (hW : (W, ({ cls := .type "tuple", data := .seq as.toArray k2 } : Obj)) ∈ big)
    (ha : IntsAre as (afterOf here lamp one other ns.length)) : DatIn big (.ref T) (encS (stepOf ns far here lamp (one, other)).2) := by
  refine .tuple (vs := [.ref W, .int (1 - lamp) u]) (n := k1) hT (.cons (.tuple hW (dat_of_ints ha)) (.cons (.int _ _) .nil))
theorem news_split {g h : Heap} {L D : Nat} {big : List (Addr × Obj)} {o : Obj} (N : News g L h big) (hD : (D, o) ∈ big) : News g L h ((D, o) :: big.filter (fun q => decide (@Ne Nat q.1 D))) := by
  intro p hp
  rcases List.mem_cons.mp hp with rfl | hp
  · exact N _ hD
  · exact N p (List.mem_filter.mp hp).1
theorem news_split_mem {g h : Heap} {L D : Nat} {big : List (Addr × Obj)} {o : Obj} (N : News g L h big) (hD : (D, o) ∈ big) : ∀ p ∈ big, p ∈ (D, o) :: big.filter (fun q => decide (@Ne Nat q.1 D)) := by
  intro p hp
  by_cases e : @Eq Nat p.1 D
  · have q1 := (N _ hp).1
    have q2 := (N _ hD).1
    simp only at q2
    rw [e, q2] at q1
    have : p = (D, o) := by
      obtain ⟨a, b⟩ := p
      simp only at e q1
      rw [e, Option.some.inj q1]
    rw [this]; exact .head _
  · exact mem_ins hp e
theorem filter_ne {D : Nat} {big : List (Addr × Obj)} : ∀ p ∈ big.filter (fun q => decide (@Ne Nat q.1 D)), p.1 ≠ D := fun _ hp => of_decide_eq_true (List.mem_filter.mp hp).2
theorem tup_ne_list {x y : Array Value} {k n : Nat} : ({ cls := .type "tuple", data := .seq x k } : Obj) ≠ listOf y n := fun e => by
  have := congrArg Obj.cls e
  exact absurd (show Value.type "tuple" = Value.type "list" from this) (by decide)

theorem in_skip {ns : List Int} {here : List Int} {lamp one other x : Int} {t u : Tok} {as : List Value} {rest : List Ent} {seen : List Stt} {L l S D G H IH IO T W : Nat} {svs : List Value} {kS : Nat} {oLamp oHere oH oG oIH oIO : Obj} {far : Int} {ta : Tok} {tl1 news : List (Addr × Obj)} {R3 : Option Value → Prop} {done done0 : List (Int × Int)}
    {g h : Heap} {m : Str → Option Value} {s : Shared} {Q : Flow → Shared → Prop} {tk : Nat} {kT kW : Nat} {ov : List Value} {kO : Nat} {order : List Ent} {p3 p4 : Obj} {y1 y2 y3 y4 : Option Value} {tl3 : List (Addr × Obj)} {tn : Tok} {a0 a3 : Addr × Obj}
    (F : Fr g L h m) (N : News g L h (a0 :: (T, ({ cls := .type "tuple", data := .seq #[.int x t, .ref W, .int (1 - lamp) u] kT } : Obj)) :: (W, ({ cls := .type "tuple", data := .seq as.toArray kW } : Obj)) :: a3 :: (IH, oIH) :: (H, oH) :: (IO, oIO) :: (G, oG) :: (S, listOf svs.toArray kS) :: (D, listOf ov.toArray kO) :: (L+1+1+1+1, p4) :: (L+1+1+1, p3) :: (L+1+1, oLamp) :: (L+1, oHere) :: (tl3 ++ news))) (hcH : oIH.cls = .type "list_iterator") (hcO : oIO.cls = .type "list_iterator") (d4 : p4.data = .cell y4) (d3 : p3.data = .cell y3) (d2 : oLamp.data = .cell y2) (d1 : oHere.data = .cell y1)
    (hP : ∀ p ∈ [(H, oH), (IO, oIO), (G, oG)], p.1 ≠ IH) (hA : ∀ b ∈ ([S, D, L+1+1+1+1, L+1+1+1, L+1+1, L+1] : List Addr), b ≠ IH) (hT : ∀ p ∈ tl3 ++ news, p.1 ≠ IH)
    (r3 : R3 y3) (hoff : OwnOff (tl3 ++ news) [S, D, L+1+1+1+1, L+1+1+1, L+1+1, L+1, IO])
    (DO : DatAll tl3 ov (order.map encE)) (hsub : ∀ p ∈ tl1, p ∈ tl3) (hin : InnerI (stepOf ns far here lamp) rest seen done0 order)
    (hdone : done = done0 ++ [(one, other)])
    (e1 : m "order" = some (.ref D)) (e2 : m "seen" = some (.ref S)) (e3 : m "many" = some (.int ns.length tn)) (e4 : m "times" = some (.ref l)) (e5 : m "far" = some (.int far ta)) (e6 : m "side" = some (.ref G))
    (hs : (stepOf ns far here lamp (one, other)).2 ∈ seen ∨ stepOf ns far here lamp (one, other) ∈ order) :
    ForEnd g L IH oIH (InJ ns (stepOf ns far here lamp) rest seen L l S D G svs kS oLamp oHere far ta tl1 news [(H, oH), (IO, oIO), (G, oG)] [S, D, L+1+1+1+1, L+1+1+1, L+1+1, L+1, IO] R3 done) s Q .next { s with heap := h, toks := tk } := by
  generalize hbig : a0 :: (T, ({ cls := .type "tuple", data := .seq #[.int x t, .ref W, .int (1 - lamp) u] kT } : Obj)) :: (W, ({ cls := .type "tuple", data := .seq as.toArray kW } : Obj)) :: a3 :: (IH, oIH) :: (H, oH) :: (IO, oIO) :: (G, oG) :: (S, listOf svs.toArray kS) :: (D, listOf ov.toArray kO) :: (L+1+1+1+1, p4) :: (L+1+1+1, p3) :: (L+1+1, oLamp) :: (L+1, oHere) :: (tl3 ++ news) = big at N
  have mem : ∀ p, p ∈ a0 :: (T, ({ cls := .type "tuple", data := .seq #[.int x t, .ref W, .int (1 - lamp) u] kT } : Obj)) :: (W, ({ cls := .type "tuple", data := .seq as.toArray kW } : Obj)) :: a3 :: (IH, oIH) :: (H, oH) :: (IO, oIO) :: (G, oG) :: (S, listOf svs.toArray kS) :: (D, listOf ov.toArray kO) :: (L+1+1+1+1, p4) :: (L+1+1+1, p3) :: (L+1+1, oLamp) :: (L+1, oHere) :: (tl3 ++ news) → p ∈ big := fun p hp => hbig ▸ hp
  have bP : ∀ p ∈ [(H, oH), (IO, oIO), (G, oG)], p ∈ big := by
    intro p hp
    simp only [List.mem_cons, List.not_mem_nil, or_false] at hp
    rcases hp with rfl | rfl | rfl
    · exact mem _ (by simp)
    · exact mem _ (by simp)
    · exact mem _ (by simp)
  refine in_end (tl3 := tl3) (kO := kO) (order := order) F N hcH hcO (mem _ (by simp)) (mem _ (by simp)) bP (mem _ (by simp)) (mem _ (by simp)) (mem _ (by simp)) (mem _ (by simp)) (mem _ (by simp)) (mem _ (by simp)) (fun p hp => mem _ (by rcases List.mem_append.mp hp with h | h <;> simp [h])) (mem _ (.tail _ (.head _))) (mem _ (.tail _ (.tail _ (.head _)))) d4 d3 d2 d1 hP hA hT r3 hoff (DO.mono fun p hp => .tail _ (.tail _ hp)) hsub ?_ e1 e2 e3 e4 e5 e6
  rw [hdone]
  exact hin.skip hs

theorem in_put {ns : List Int} {here : List Int} {lamp one other x : Int} {t u : Tok} {as : List Value} {rest : List Ent} {seen : List Stt} {L l S D G H IH IO T W : Nat} {svs : List Value} {kS : Nat} {oLamp oHere oH oG oIH oIO : Obj} {far : Int} {ta : Tok} {tl1 news : List (Addr × Obj)} {R3 : Option Value → Prop} {done done0 : List (Int × Int)}
    {g h : Heap} {m : Str → Option Value} {s : Shared} {Q : Flow → Shared → Prop} {tk : Nat} {kT kW : Nat} {ov : List Value} {kO : Nat} {order : List Ent} {p3 p4 : Obj} {y1 y2 y3 y4 : Option Value} {tl3 : List (Addr × Obj)} {tn : Tok} {a0 a3 : Addr × Obj} {r : Nat} {h0 : Heap} {kO' : Nat}
    (N0 : News g L h0 (a0 :: (T, ({ cls := .type "tuple", data := .seq #[.int x t, .ref W, .int (1 - lamp) u] kT } : Obj)) :: (W, ({ cls := .type "tuple", data := .seq as.toArray kW } : Obj)) :: a3 :: (IH, oIH) :: (H, oH) :: (IO, oIO) :: (G, oG) :: (S, listOf svs.toArray kS) :: (D, listOf ov.toArray kO) :: (L+1+1+1+1, p4) :: (L+1+1+1, p3) :: (L+1+1, oLamp) :: (L+1, oHere) :: (tl3 ++ news)))
    (F : Fr g L h m) (N : News g L h ((D, listOf (ov.take r ++ .ref T :: ov.drop r).toArray kO') :: (a0 :: (T, ({ cls := .type "tuple", data := .seq #[.int x t, .ref W, .int (1 - lamp) u] kT } : Obj)) :: (W, ({ cls := .type "tuple", data := .seq as.toArray kW } : Obj)) :: a3 :: (IH, oIH) :: (H, oH) :: (IO, oIO) :: (G, oG) :: (S, listOf svs.toArray kS) :: (D, listOf ov.toArray kO) :: (L+1+1+1+1, p4) :: (L+1+1+1, p3) :: (L+1+1, oLamp) :: (L+1, oHere) :: (tl3 ++ news)).filter (fun q => decide (@Ne Nat q.1 D)))) (hcH : oIH.cls = .type "list_iterator") (hcO : oIO.cls = .type "list_iterator") (d4 : p4.data = .cell y4) (d3 : p3.data = .cell y3) (d2 : oLamp.data = .cell y2) (d1 : oHere.data = .cell y1)
    (hP : ∀ p ∈ [(H, oH), (IO, oIO), (G, oG)], p.1 ≠ IH) (hA : ∀ b ∈ ([S, D, L+1+1+1+1, L+1+1+1, L+1+1, L+1] : List Addr), b ≠ IH) (hT : ∀ p ∈ tl3 ++ news, p.1 ≠ IH)
    (r3 : R3 y3) (hoff : OwnOff (tl3 ++ news) [S, D, L+1+1+1+1, L+1+1+1, L+1+1, L+1, IO])
    (DO : DatAll tl3 ov (order.map encE)) (hsub : ∀ p ∈ tl1, p ∈ tl3) (hin : InnerI (stepOf ns far here lamp) rest seen done0 order)
    (hdone : done = done0 ++ [(one, other)])
    (e1 : m "order" = some (.ref D)) (e2 : m "seen" = some (.ref S)) (e3 : m "many" = some (.int ns.length tn)) (e4 : m "times" = some (.ref l)) (e5 : m "far" = some (.int far ta)) (e6 : m "side" = some (.ref G))
    (hD : ∀ b ∈ ([H, IO, G, S, L+1+1+1+1, L+1+1+1, L+1+1, L+1, IH] : List Addr), @Ne Nat b D)
    (hb : BisOk (ltAtIdx order (stepOf ns far here lamp (one, other))) ov.length r) (ha : IntsAre as (afterOf here lamp one other ns.length)) (hx : x = far + max (ns.getD one.toNat 0) (ns.getD other.toNat 0)) :
    ForEnd g L IH oIH (InJ ns (stepOf ns far here lamp) rest seen L l S D G svs kS oLamp oHere far ta tl1 news [(H, oH), (IO, oIO), (G, oG)] [S, D, L+1+1+1+1, L+1+1+1, L+1+1, L+1, IO] R3 done) s Q .next { s with heap := h, toks := tk } := by
  have hl := DO.length
  rw [List.length_map] at hl
  rw [hl] at hb
  have hst : DatIn ((T, ({ cls := .type "tuple", data := .seq #[.int x t, .ref W, .int (1 - lamp) u] kT } : Obj)) :: (W, ({ cls := .type "tuple", data := .seq as.toArray kW } : Obj)) :: tl3) (.ref T) (encE (stepOf ns far here lamp (one, other))) :=
    .tuple (vs := [.int x t, .ref W, .int (1 - lamp) u]) (n := kT) (.head _) (.cons (datInt hx) (.cons (.tuple (.tail _ (.head _)) (dat_of_ints ha)) (.cons (.int _ _) .nil)))
  generalize hbig : a0 :: (T, ({ cls := .type "tuple", data := .seq #[.int x t, .ref W, .int (1 - lamp) u] kT } : Obj)) :: (W, ({ cls := .type "tuple", data := .seq as.toArray kW } : Obj)) :: a3 :: (IH, oIH) :: (H, oH) :: (IO, oIO) :: (G, oG) :: (S, listOf svs.toArray kS) :: (D, listOf ov.toArray kO) :: (L+1+1+1+1, p4) :: (L+1+1+1, p3) :: (L+1+1, oLamp) :: (L+1, oHere) :: (tl3 ++ news) = big at N N0
  have mem : ∀ p, p ∈ a0 :: (T, ({ cls := .type "tuple", data := .seq #[.int x t, .ref W, .int (1 - lamp) u] kT } : Obj)) :: (W, ({ cls := .type "tuple", data := .seq as.toArray kW } : Obj)) :: a3 :: (IH, oIH) :: (H, oH) :: (IO, oIO) :: (G, oG) :: (S, listOf svs.toArray kS) :: (D, listOf ov.toArray kO) :: (L+1+1+1+1, p4) :: (L+1+1+1, p3) :: (L+1+1, oLamp) :: (L+1, oHere) :: (tl3 ++ news) → p ∈ big := fun p hp => hbig ▸ hp
  have bD : (D, listOf ov.toArray kO) ∈ big := mem _ (by simp)
  have bT : (T, ({ cls := .type "tuple", data := .seq #[.int x t, .ref W, .int (1 - lamp) u] kT } : Obj)) ∈ big := mem _ (.tail _ (.head _))
  have bW : (W, ({ cls := .type "tuple", data := .seq as.toArray kW } : Obj)) ∈ big := mem _ (.tail _ (.tail _ (.head _)))
  have go : ∀ p, p ∈ a0 :: (T, ({ cls := .type "tuple", data := .seq #[.int x t, .ref W, .int (1 - lamp) u] kT } : Obj)) :: (W, ({ cls := .type "tuple", data := .seq as.toArray kW } : Obj)) :: a3 :: (IH, oIH) :: (H, oH) :: (IO, oIO) :: (G, oG) :: (S, listOf svs.toArray kS) :: (D, listOf ov.toArray kO) :: (L+1+1+1+1, p4) :: (L+1+1+1, p3) :: (L+1+1, oLamp) :: (L+1, oHere) :: (tl3 ++ news) → @Ne Nat p.1 D → p ∈ (D, listOf (ov.take r ++ .ref T :: ov.drop r).toArray kO') :: big.filter (fun q => decide (@Ne Nat q.1 D)) := fun p hp hne => mem_ins (mem p hp) hne
  refine in_end (tl3 := tl3) (order := order.take r ++ stepOf ns far here lamp (one, other) :: order.drop r) F N hcH hcO (go _ (by simp) (hD _ (by simp))) (go _ (by simp) (hD _ (by simp))) ?_ (go _ (by simp) (hD _ (by simp))) (.head _) (go _ (by simp) (hD _ (by simp))) (go _ (by simp) (hD _ (by simp))) (go _ (by simp) (hD _ (by simp))) (go _ (by simp) (hD _ (by simp))) (fun p hp => go _ (by rcases List.mem_append.mp hp with h | h <;> simp [h]) (hoff p hp _ (by simp))) (mem_ins bT (news_ne N0 bT bD tup_ne_list)) (mem_ins bW (news_ne N0 bW bD tup_ne_list)) d4 d3 d2 d1 hP hA hT r3 hoff (datAll_ins hst (DO.mono fun p hp => .tail _ (.tail _ hp)) r) hsub ?_ e1 e2 e3 e4 e5 e6
  · intro p hp
    simp only [List.mem_cons, List.not_mem_nil, or_false] at hp
    rcases hp with rfl | rfl | rfl
    · exact go _ (by simp) (hD _ (by simp))
    · exact go _ (by simp) (hD _ (by simp))
    · exact go _ (by simp) (hD _ (by simp))
  · rw [hdone]
    exact hin.put hb
end Mine

namespace Mine

local macro_rules | `(tactic| walk_at "call builtin:len") => `(tactic| (k_here; (with_reducible show wpAny _ _ (call (Value.builtin "len") [Value.ref _]) _ _ _); k_dflt (refine' my_len ?k1 ?k2 ?k3 ?_; (case k1 => k_asm); (case k2 => kcf_m); (case k3 => first | assumption | omega); k_whole)))

local macro_rules | `(tactic| kp_kind "stop") => `(tactic| first
  | (with_reducible show wpAny _ _ (call (Value.ref _) _) _ _ _)
  | (with_reducible show wpAny _ _ (exec (Stmt.While _ _ _ _) _) _ _ _)
  | (with_reducible show wpAny _ _ (exec (Stmt.For _ _ _ _ _) _) _ _ _)
  | (with_reducible show wpAny _ _ (compareOp CmpOp.NotEq (Value.ref _) (Value.ref _)) _ _ _)
  | (with_reducible show wpAny _ _ (compareOp CmpOp.NotIn _ (Value.ref _)) _ _ _)
  | (with_reducible show wpAny _ _ (compareOp CmpOp.In _ (Value.ref _)) _ _ _)
  | (with_reducible show wpAny _ _ (subscriptTail _ _ (Value.ref _) _) _ _ _)
  | (with_reducible show wpAny _ _ (exec (Stmt.Assign [_] (Expr.ListComp _ _ _ _) _) _) _ _ _)
  | (with_reducible show wpAny _ _ (eval (Expr.ListComp _ _ _ _) _) _ _ _)
  | (with_reducible show wpAny _ _ (pyIter (Value.ref _)) _ _ _)
  | (with_reducible show LCg.FinA _ _ _ _ _ _ _ _)
  | (with_reducible show LCg.FinE _ _ _ _ _ _ _)
  | (with_reducible show LCt.CompSrcT _ _ _ _ _ _ _ _ _ _ _ _ _ _ _)
  | (with_reducible show LCg.CompSrc _ _ _ _ _ _ _ _ _ _ _ _ _ _))

local macro_rules | `(tactic| k_steps) => `(tactic| repeat' (first | (k_unfold; (try dsimp only)) | ((fail_if_success kp_kind "stop"); walk1) | ((fail_if_success kp_kind "stop"); dsimp only; walk1) | (leave1; walk_say "STEP leave1"; try dsimp only) | fail "no step"))

set_option maxHeartbeats 4000000 in
theorem through_ct (w : World) {p : Program} {loose : List Str} {mean : ExcName → Option Value} {mg mb : Str → Option Value}
  (dp un : Nat) (gd : Option (List Code)) (cn : Str) (cs : Scope) (a : Addr) (ccd : Value) (cl : List (Str × Addr)) (outer : List Env) (A₀ : Around) (base h₀ : Heap) (L : Addr) (m : Str → Option Value) (s : Shared) (Q E : Value → Shared → Prop)
  (news : List (Addr × Obj)) (l : Addr) (us : List Value) (ns : List Int) (nn : Nat) (I : List Ent → List Stt → Prop) (out : Int) (K : ThrOk ns I out)
  (B : Below A₀ base outer h₀) (F : Fr h₀ L s.heap m) (N : News h₀ L s.heap news) (T : Top p loose mean mg mb h₀) (hk : cs.kind = .function)
  (hm : (l, listOf us.toArray nn) ∈ news) (hi : IntsAre us ns) (hlen : us.length ≤ 4)
  (hd : dp + 8 < recursionLimit) (hu : un + 100 < cLine)
  (hret : ∀ t h' tk', Fr h₀ L h' m → News h₀ L h' news → Q (.int out t) {s with heap := h', toks := tk'}) :
  (Mine.hd.heap_39 w.params).In h₀ →
  wpAny (model PySem.Challenge.rw_ie0001_01.row.prog w) (ktrTop dp un gd cn cs L a ccd cl outer) (call (.ref 72) [.ref l]) Q E s := by
  k_fill
  intro X
  refine wpAny_call ?_
  w_strict (k_dflt (refine' code_defC ?k1 ?k2 ?k3 ?k4 ?k5 ?kA ?kF ?kK ?k6 ?k7 ?k8 ?k9 ?kB ?kD ?_ ?c2 ?c3 ?c4; (case kA => exact rfl); (case kF => exact rfl); (case kK => assumption); (case k1 => k_asm); (case k2 => k_asm); (case k3 => k_asm); (case k4 => k_asm); (case k5 => k_asm); (case k6 => k_is); (case k7 => k_is); (case k8 => ktr_room); (case k9 => (refine' kp_binds ?kx ?ke; (case kx => k_in); (case ke => exact fun _ => rfl))); (case kB => exact rfl); (case kD => decide +kernel); (case c2 => exact rfl); (case c3 => exact rfl); (case c4 => exact rfl); k_whole; intro g' L' h' tk' cells' FG' F' N' Y' B' X' T' l1; k_cells Y'; (try simp only [List.cons_append, List.nil_append] at N'); (try dsimp only); (try k_fold)))
  rename_i oa ob oc od da db dc dd
  obtain ⟨xa, ea⟩ : ∃ x, oa.data = .cell x := ⟨_, da⟩
  clear da
  obtain ⟨xb, eb⟩ : ∃ x, ob.data = .cell x := ⟨_, db⟩
  clear db
  obtain ⟨xc, ec⟩ : ∃ x, oc.data = .cell x := ⟨_, dc⟩
  clear dc
  obtain ⟨xd, ed⟩ : ∃ x, od.data = .cell x := ⟨_, dd⟩
  clear dd
  replace F' := fr_set [("times", .ref l)] F' (by simp only [List.forall_mem_cons]; exact ⟨rfl, fun _ h => nomatch h⟩)
  dsimp only [kstB] at F'
  k_steps
  rename Fr g' L' _ _ => F2
  rename News g' L' _ _ => N2
  have hones : (List.replicate ((us.length : Int)).toNat [(1 : Int)]).flatten = List.replicate ns.length 1 := by
    rw [Int.toNat_natCast, hi.length, List.flatten_replicate_singleton]
  have hd1 : dp + 1 + 1 < recursionLimit := by omega
  have hd4 : dp + 1 + 4 < recursionLimit := by omega
  have hu8 : un + 3 + 8 < cLine := by omega
  have hu40 : un + 3 + 40 < cLine := by omega
  have hu64 : un + 3 + 64 < cLine := by omega
  have huA : ∀ v : Nat, v < un + 3 + 40 → v + 20 < cLine := fun v hv => by omega
  have huB : ∀ v : Nat, v < un + 3 + 20 → v + 20 < cLine := fun v hv => by omega
  have hln : (us.length : Int) = (ns.length : Int) := by rw [hi.length]
  have hn4 : ns.length ≤ 4 := by rw [← hi.length]; exact hlen
  have hsm : Unit → Builtin.Range.small 0 (ns.length : Int) 1 = true := fun _ => small_one (by omega) (by omega) (by omega) (by omega)
  have hszl : Unit → ns.length ≤ sizeLine := fun _ => by rw [PySem.sizeLine_eq]; omega
  obtain ⟨nx, N3, J3⟩ := thr_start (l := l) K F2 N2 (by assumption) (by assumption) (by assumption) (by assumption) (by rw [← hones]; assumption) (by assumption) (by assumption) (by omega) l1 (by rfl) (by rfl) (by rw [← hln]; rfl) (by rfl)
  clear N2
  refine While_inv2 (ThrJ ns I L' l news) (n₀ := 40 * 1000 + 1) F2 N3 J3 ?_ (by first | passes_own | with_unfolding_all passes_own)
  clear N3 J3 F2
  repeat (rename ((_ : Nat) < _ ∧ _) => hz; clear hz)
  (rename IntsAre (List.flatten _) _ => hz; clear hz)
  rintro k m₁ nx h₁ tk₁ F₁ N₁ ⟨O, S, ov, sv, kO, kS, order, seen, o1, o2, o3, o4, x1, x2, x3, x4, tl, tn, rfl, d1, d2, d3, d4, hoff, hOS, hS4, hO4, DO, DS, hI, rfl, e1, e2, e3, e4⟩
  replace F₁ := fr_set [("order", .ref O), ("seen", .ref S), ("many", .int ns.length tn), ("times", .ref l)] F₁ (by simp only [List.forall_mem_cons]; exact ⟨e1, e2, e3, e4, fun _ h => nomatch h⟩)
  dsimp only [kstB] at F₁
  clear e1 e2 e3 e4
  have mk1 := kstMark
  (try k_fold)
  k_steps
  rename Fr g' L' _ _ => F3
  rename News g' L' _ _ => N3
  refine kqd_ne (ds := order.map encE) (es := []) (n₁ := tl) (n₂ := []) N3 (by kcf_m) rfl rfl DO (fun p hp => by kcf_m) (.head _) rfl (ys := []) rfl .nil (fun p hp => nomatch hp) (by intro d hd; obtain ⟨e, _, rfl⟩ := List.mem_map.mp hd; exact kqdE 6 e) (by intro d hd; cases hd) (by show un + 3 + 64 < _; omega) ?_
  k_steps
  · rename decide _ = true => hz
    have h0 : order = [] := by simpa using hz
    subst h0
    exact absurd hI (K.ne _)
  rename decide _ = false => hz
  obtain ⟨⟨far, here, lamp⟩, rest, rfl⟩ : ∃ e rest, order = e :: rest := by
    cases order with
    | nil => simp at hz
    | cons e r => exact ⟨e, r, rfl⟩
  clear hz
  rw [List.map_cons] at DO
  obtain ⟨v, ov', rfl, De, DO'⟩ := datAll_cons DO
  obtain ⟨a1, na, ta, ua, hv, rfl, hma, hdh⟩ := datE_inv De
  obtain ⟨b1, hs, nb, rfl, hmb, hih⟩ := datH_inv hdh
  have hbd := K.bound _ _ hI
  have hwf := K.wf _ _ hI _ (.head _)
  have hlo := DO'.length
  simp only [List.length_cons, List.length_map] at hbd hwf hlo
  have hre : rest.length ≤ 600 ∧ seen.length ≤ 32 := by omega
  have hA := off6 hoff (List.mem_append.mpr (.inl hma))
  have hB := off6 hoff (List.mem_append.mpr (.inl hmb))
  have N4 : News g' L' _ _ := fun (p : Addr × Obj) (hp : p ∈ (a1, ({ cls := .type "tuple", data := .seq [.int far ta, .ref b1, .int lamp ua].toArray na } : Obj)) :: (b1, ({ cls := .type "tuple", data := .seq hs.toArray nb } : Obj)) :: (S, listOf sv.toArray kS) :: (O, listOf (Value.ref a1 :: ov').toArray kO) :: (L'+1+1+1+1, o1) :: (L'+1+1+1, o2) :: (L'+1+1, o3) :: (L'+1, o4) :: (tl ++ news)) => N3 p (by
    simp only [List.mem_cons] at hp
    rcases hp with rfl | rfl | hp
    · kcf_m
    · kcf_m
    · simp only [List.mem_cons]; exact .inr hp)
  clear N3
  refine my_item N4 (by kcf_m) (by simp only [List.length_cons]; omega) (by decide) (by simp only [List.length_cons]; omega) (fun hk => ?_)
  simp only [Int.toNat_zero, List.getElem_cons_zero]
  k_steps
  rename_i oHere dHere hq oLamp F5 N5 dLamp
  have hsl : (slicePick (Value.ref a1 :: ov').toArray (some 1) none none).toList = ov' := by
    have e : sliceBounds (some 1) none none (Value.ref a1 :: ov').toArray.size = (((1 : Nat) : Int), ((ov'.length + 1 : Nat) : Int), 1) := by
      simp only [sliceBounds, Option.getD_none, show (1 : Int) > 0 by decide, if_true, if_neg (show ¬ ((1 : Int) < 0) by omega), List.size_toArray, List.length_cons]
      congr 1
      omega
    rw [kmk_pick_nat _ e]
    simp
  refine kmk_slice_lit F5 N5 ⟨_, (N5 (O, listOf (Value.ref a1 :: ov').toArray kO) (by kcf_m)).1, rfl, _, rfl⟩ (.int 1 _) .none hsl (fun D h7 F7 N7 l7 => ?_) (by with_unfolding_all rfl) (by kmk_pure) (by rw [PySem.sizeLine_eq]; simp only [List.size_toArray, List.length_cons]; omega)
  k_lt l7
  clear F5 N5
  dsimp only at hih hma hmb
  k_steps
  rename Fr g' L' _ _ => F8
  rename News g' L' _ _ => N8
  refine my_sum (by rfl) F8 N8 (by kcf_m) hih (fun h9 tk9 t9 F9 N9 => ?_)
  clear F8 N8
  k_steps
  · rename here.sum = 0 => hsum
    dsimp only [WhileStep2]
    k_steps
    rename Fr h₀ L _ _ => kF
    rename News h₀ L _ _ => kN
    have hfar := K.goal _ _ _ hI hsum
    simp only at hfar
    subst hfar
    exact hret ta _ _ kF (fun p hp => kN p (by kcf_m))
  rename here.sum ≠ 0 => hsum
  rename Fr g' L' _ _ => F10
  rename News g' L' _ _ => N10
  refine kqd_notIn (ds := seen.map encS) (d := encS (here, lamp)) (n₁ := tl) (n₂ := (_ :: _ :: _ :: _ :: [])) N10 (by kcf_m) rfl rfl DS (fun p hp => by kcf_m) (.tuple (.head _) (.cons (.tuple (.tail _ (.tail _ (.tail _ (.head _)))) (dat_of_ints hih)) (.cons (.int _ _) .nil))) (fun p hp => List.mem_append_left (bs := _ :: _ :: _ :: _ :: _ :: _ :: (tl ++ news)) (as := _ :: _ :: _ :: _ :: []) hp) (by intro d hd; obtain ⟨e, _, rfl⟩ := List.mem_map.mp hd; exact kqdS 6 e) (kqdS 6 _) (by show un + 3 + 64 < _; omega) ?_
  k_steps
  · rename decide _ = true => hz
    have hin : (here, lamp) ∈ seen := mem_encS.mp (by simpa using hz)
    have hI' := K.skip _ _ _ hI hsum hin
    obtain ⟨nx, Nn, Jn⟩ := thr_mk (l := l) (news := news) F10 N10 (by kcf_m) (by kcf_m) (by kcf_m) (by kcf_m) (by kcf_m) (by kcf_m) (fun p hp => by kcf_m) (by assumption) (by assumption) (by assumption) (by assumption) (off_swap hoff l7.2.2.2.2.2.2.2.2) (by refine neN ?_; omega) hS4 (by omega) DO' DS hI' rfl (by rfl) (by rfl) (by rfl) (by rfl)
    exact ⟨_, _, _, nx, _, rfl, F10, Nn, (by simp only [List.length_cons]; omega), Jn⟩
  rename decide _ = false => hz
  have hin : (here, lamp) ∉ seen := fun hc => by
    have h0 := mem_encS.mpr hc
    simp only [decide_eq_false_iff_not] at hz
    exact hz h0
  clear hz
  have hls := DS.length
  rw [List.length_map] at hls
  rename_i D1 h10 F11 N11 l11
  k_dflt (refine' append_K ?k1 ?k2 ?k3 ?_ ?z; (case k1 => k_asm); (case k2 => k_asm); (case k3 => k_upd); (case z => (rw [PySem.sizeLine_eq, List.size_toArray]; omega)))
  intro h12 F12 N12
  rw [List.push_toArray] at N12
  k_steps
  k_dflt (refine LCt.Assign_ListComp_T (F₀ := by k_asm) (by rfl) (by with_unfolding_all rfl) (by with_unfolding_all rfl) (by decide) (by rfl) (by decide) (by rfl) (by rfl) (by rfl) ?_)
  k_steps
  refine LCt.CompSrcT.range (by rfl) (by k_asm) (by k_asm) (by assumption) (hsm ()) (by exact rangeSize_nat _ _) (hszl ()) ?_
  intro g13
  refine kci_range (fun l k => if here.getD k.toNat 0 == lamp then l ++ [k] else l) (fun k' t' I' oI' C' oC' D' m' ys' l' h' tk' E' hlo' hhi' hI' hC' hx' F' N' off' ne' _ => ?_) ?_ ?_
  · k_steps
    rename News g' L' _ _ => N14
    refine my_titem N14 (by kcf_m) hih hlo' (by omega) (by omega) (fun t15 => ?_)
    k_steps
    · exact ⟨_, _, _, rfl, F', N14, off', trivial, rfl, k', _, rfl, if_pos (by simp only [beq_iff_eq]; assumption)⟩
    · exact ⟨_, _, _, rfl, F', N14, off', trivial, rfl, if_neg (by simp only [beq_iff_eq]; assumption)⟩
  · unfold KPfDone
    intro ys hys hyl
    have hys2 : IntsAre ys (sideOf here lamp ns.length) := by
      have e : ((ns.length : Int) - 0).toNat = ns.length := by omega
      (try rw [e] at hys)
      rw [foldl_filter (fun k => here.getD k.toNat 0 == lamp), rangeKs_upto] at hys
      exact hys
    clear hys
    k_steps
    intro G h15 tk15 F15 N15 off15
    k_steps
    have hside : (sideOf here lamp ns.length).length ≤ 4 := by have := len_side here lamp ns.length; omega
    have hlys := hys2.length
    simp only [LCg.Off1] at off15
    have hsrt : FarSorted rest := (List.pairwise_cons.mp (K.sorted _ _ hI)).2
    have DS' : DatAll ((D1, ({ cls := .type "tuple", data := .seq [.ref b1, .int lamp ua].toArray } : Obj)) :: tl) (sv ++ [.ref D1]) ((seen ++ [(here, lamp)]).map encS) := by
      rw [List.map_append]
      refine DatAll.append (DS.mono fun p hp => .tail _ hp) (.cons (.tuple (.head _) (.cons (.tuple (.tail _ hmb) (dat_of_ints hih)) (.cons (.int _ _) .nil))) .nil)
    have hsvl : (sv ++ [Value.ref D1]).length = seen.length + 1 := by simp [hls]
    generalize hsvs : sv ++ [Value.ref D1] = svs at N15 DS' hsvl
    obtain ⟨t1, ht1⟩ : ∃ t1, t1 = (D1, ({ cls := .type "tuple", data := .seq [.ref b1, .int lamp ua].toArray } : Obj)) :: tl := ⟨_, rfl⟩
    rw [← ht1] at DS'
    have ht1' : ∀ p ∈ t1, p = (D1, ({ cls := .type "tuple", data := .seq [.ref b1, .int lamp ua].toArray } : Obj)) ∨ p ∈ tl := by rw [ht1]; exact fun p hp => List.mem_cons.mp hp
    have htl : ∀ p ∈ tl, p ∈ t1 := by rw [ht1]; exact fun p hp => .tail _ hp
    refine wpAny_For ?_
    k_steps
    refine for_list (l := G) (us := ys) (nn := ys.length) (news := (G, LCg.lst ys) :: (S, listOf svs.toArray (kS + 1)) :: (D, listOf ov'.toArray 0) :: (L'+1+1+1+1, o1) :: (L'+1+1+1, o2) :: (L'+1+1, oLamp) :: (L'+1, oHere) :: (t1 ++ news))
      (fun i => InJ ns (stepOf ns far here lamp) rest (seen ++ [(here, lamp)]) L' l S D G svs (kS + 1) oLamp oHere far ta t1 news [(G, LCg.lst ys)] [S, D, L'+1+1+1+1, L'+1+1+1, L'+1+1, L'+1] (fun _ => True) (pairsOf (sideOf here lamp ns.length) ((sideOf here lamp ns.length).take i)))
      (by rfl) F15 (fun p hp => N15 p (by
        simp only [List.mem_cons, List.mem_append] at hp ⊢
        rcases hp with h | h | h | h | h | h | h | h | h
        iterate 7 simp [h]
        · rcases ht1' p h with h | h <;> simp [h]
        · simp [h]))
      ⟨ov', 0, rest, o2, o1, _, _, t1, tn, rfl, d1, d2, trivial, ?hoff, DO'.mono htl, fun p hp => hp, InnerI.start hsrt, rfl, rfl, rfl, rfl, rfl, rfl⟩ ?hJl ?turn ?done
    case hoff =>
      intro p hp b hb
      rcases List.mem_append.mp hp with hp | hp
      · rcases ht1' p hp with rfl | hp
        · simp only [List.mem_cons, List.not_mem_nil, or_false] at hb
          rcases hb with rfl | rfl | rfl | rfl | rfl | rfl <;> (refine neN ?_; simp only; omega)
        · exact off_swap hoff l7.2.2.2.2.2.2.2.2 p (List.mem_append.mpr (.inl hp)) b hb
      · exact off_swap hoff l7.2.2.2.2.2.2.2.2 p (List.mem_append.mpr (.inr hp)) b hb
    case hJl =>
      rintro i m nx ⟨ov2, kO2, order2, p3, p4, y3, y4, tl2, tn2, rfl, _⟩
      exact .head _
    case done =>
      rintro m₂ nx h16 tk16 ⟨ov2, kO2, order2, p3, p4, y3, y4, tl2, tn2, rfl, q4, q3, _, hoff2, DO2, hsub2, hin2, f1, f2, f3, f4, f5, f6⟩ F16 N16
      replace F16 : Fr g' L' _ _ := F16
      replace N16 : News g' L' _ _ := N16
      rw [hlys, List.take_length] at hin2
      have hI2 := K.step _ _ _ _ hI hsum hin hin2
      have hb2 := K.bound _ _ hI2
      simp only [List.length_append, List.length_cons, List.length_nil] at hb2
      dsimp only
      k_steps
      obtain ⟨nx, Nn, Jn⟩ := thr_mk (l := l) (news := news) (tl := tl2) F16 N16 (S := S) (O := D) (by kcf_m) (by kcf_m) (by kcf_m) (by kcf_m) (by kcf_m) (by kcf_m) (fun p hp => by kcf_m) q4 q3 dLamp dHere hoff2 (by refine neN ?_; omega) hS4 (by omega) DO2 (DS'.mono hsub2) hI2 rfl f1 f2 f3 f4
      exact ⟨_, _, _, nx, _, rfl, F16, Nn, (by simp only [List.length_cons, List.length_append, List.length_nil]; omega), Jn⟩
    case turn =>
      rintro i v m₂ nx IO oIO h16 tk16 hv ⟨ov2, kO2, order2, p3, p4, y3, y4, tl2, tn2, rfl, q4, q3, _, hoff2, DO2, hsub2, hin2, f1, f2, f3, f4, f5, f6⟩ hIO hcO F16 N16
      replace F16 : Fr g' L' _ _ := F16
      replace N16 : News g' L' _ _ := N16
      obtain ⟨one, t16, rfl, hone⟩ := IntsAre.at hys2 i v hv
      have hone1 := mem_side (List.mem_of_getElem? hone)
      replace hIO := allNeN_of hIO
      simp only [List.cons_append, List.nil_append, AllNeN] at hIO
      simp only [List.cons_append, List.nil_append] at N16
      replace F16 := fr_set [("order", .ref D), ("seen", .ref S), ("many", .int ns.length tn2), ("times", .ref l), ("far", .int far ta), ("side", .ref G)] F16 (by simp only [List.forall_mem_cons]; exact ⟨f1, f2, f3, f4, f5, f6, fun _ h => nomatch h⟩)
      dsimp only [kstB] at F16
      clear f1 f2 f3 f4 f5 f6
      (try k_fold)
      k_steps
      rename_i oOne F17 N17 dOne
      refine wpAny_For ?_
      k_dflt (refine LCt.ListComp_T (F₀ := by k_asm) (by with_unfolding_all rfl) (by decide) (by rfl) (by decide) (by rfl) ?_)
      k_steps
      refine LCt.CompSrcT.ledger (by rfl) F17 N17 (.tail _ (.head _)) (by rw [PySem.sizeLine_eq, List.size_toArray]; omega) ?_
      intro g18
      refine kci_list (fun l k => if decide (k ≤ one) then l ++ [k] else l) hys2 (fun k' t' I' oI' C' oC' D' m' ys' l' h' tk' E' hk' hI' hC' hx' F' N' off' ne' _ => ?_) ?_ ?_
      · k_steps
        · exact ⟨_, _, _, rfl, F', N', off', .inr ⟨_, .tail _ (.head _), rfl, _, rfl⟩, rfl, k', _, rfl, if_pos (by simp only [decide_eq_true_eq]; assumption)⟩
        · exact ⟨_, _, _, rfl, F', N', off', .inr ⟨_, .tail _ (.head _), rfl, _, rfl⟩, rfl, if_neg (by simp only [decide_eq_true_eq]; assumption)⟩
      · unfold KPfDone
        intro zs hzs hzl
        have hzs2 : IntsAre zs (othersOf (sideOf here lamp ns.length) one) := by
          rw [foldl_filter (fun k => decide (k ≤ one))] at hzs
          exact hzs
        clear hzs
        intro H h19 tk19 F19 N19 off19
        k_steps
        have hlzs := hzs2.length
        have hlen2 : (othersOf (sideOf here lamp ns.length) one).length ≤ (sideOf here lamp ns.length).length := List.length_filter_le _ _
        simp only [LCg.Off1] at off19
        refine for_list (l := H) (us := zs) (nn := zs.length) (news := (H, LCg.lst zs) :: (IO, oIO) :: (G, LCg.lst ys) :: (S, listOf svs.toArray (kS + 1)) :: (D, listOf ov2.toArray kO2) :: (L'+1+1+1+1, p4) :: (L'+1+1+1, oOne) :: (L'+1+1, oLamp) :: (L'+1, oHere) :: (tl2 ++ news))
          (fun j => InJ ns (stepOf ns far here lamp) rest (seen ++ [(here, lamp)]) L' l S D G svs (kS + 1) oLamp oHere far ta t1 news [(H, LCg.lst zs), (IO, oIO), (G, LCg.lst ys)] [S, D, L'+1+1+1+1, L'+1+1+1, L'+1+1, L'+1, IO] (fun y => ∃ t, y = some (.int one t)) (pairsOf (sideOf here lamp ns.length) ((sideOf here lamp ns.length).take i) ++ ((othersOf (sideOf here lamp ns.length) one).take j).map (fun other => (one, other))))
          (by rfl) F19 N19
          ⟨ov2, kO2, order2, oOne, p4, _, _, tl2, tn2, rfl, q4, dOne, ⟨_, rfl⟩, ?hoff, DO2, hsub2, ?hin, rfl, rfl, rfl, rfl, rfl, rfl⟩ ?hJl ?turn ?done
        case hoff =>
          intro p hp b hb
          simp only [List.mem_cons, List.not_mem_nil, or_false] at hb
          rcases hb with rfl | rfl | rfl | rfl | rfl | rfl | rfl
          iterate 6 exact hoff2 p hp _ (by simp)
          exact allNeN_mem hIO.2.2.2.2.2.2.2 p hp
        case hin =>
          rw [List.take_zero, List.map_nil, List.append_nil]
          exact hin2
        case hJl =>
          rintro j m nx ⟨ov2, kO2, order2, p3, p4, y3, y4, tl2, tn2, rfl, _⟩
          exact .head _
        case done =>
          rintro m₃ nx h20 tk20 ⟨ov3, kO3, order3, p5, p6, y5, y6, tl3, tn3, rfl, q6, q5, _, hoff3, DO3, hsub3, hin3, f1, f2, f3, f4, f5, f6⟩ F20 N20
          replace F20 : Fr g' L' _ _ := F20
          replace N20 : News g' L' _ _ := N20
          rw [hlzs, List.take_length] at hin3
          simp only [List.cons_append, List.nil_append] at N20
          dsimp only
          k_steps
          refine ForEnd.mk (nx' := [(G, LCg.lst ys)] ++ ((S, listOf svs.toArray (kS + 1)) :: (D, listOf ov3.toArray kO3) :: (L'+1+1+1+1, p6) :: (L'+1+1+1, p5) :: (L'+1+1, oLamp) :: (L'+1, oHere) :: (tl3 ++ news))) F20 (fun p hp => N20 p (.tail _ hp)) ?_ ⟨ov3, kO3, order3, p5, p6, _, _, tl3, tn3, rfl, q6, q5, trivial, ?_, DO3, hsub3, ?_, f1, f2, f3, f4, f5, f6⟩
          · intro p hp
            simp only [List.cons_append, List.nil_append, List.mem_cons] at hp
            rcases hp with rfl | rfl | rfl | rfl | rfl | rfl | rfl | hp
            · exact hIO.1
            · exact hIO.2.1
            · exact hIO.2.2.1
            · exact hIO.2.2.2.1
            · exact hIO.2.2.2.2.1
            · exact hIO.2.2.2.2.2.1
            · exact hIO.2.2.2.2.2.2.1
            · exact hoff3 p hp _ (by simp)
          · intro p hp b hb
            exact hoff3 p hp b (by simp only [List.mem_cons, List.not_mem_nil, or_false] at hb ⊢; rcases hb with h | h | h | h | h | h <;> simp [h])
          · rw [List.take_add_one, hone, pairsOf_append]
            simpa [pairsOf] using hin3
        case turn =>
          rintro j v m₃ nx IH oIH h20 tk20 hv2 ⟨ov3, kO3, order3, p5, p6, y5, y6, tl3, tn3, rfl, q6, q5, ⟨t5, rfl⟩, hoff3, DO3, hsub3, hin3, f1, f2, f3, f4, f5, f6⟩ hIH hcH F20 N20
          replace F20 : Fr g' L' _ _ := F20
          replace N20 : News g' L' _ _ := N20
          obtain ⟨other, t20, rfl, hoth⟩ := IntsAre.at hzs2 j v hv2
          have hom := List.mem_filter.mp (List.mem_of_getElem? hoth)
          have hoth1 := mem_side hom.1
          have hole : other ≤ one := of_decide_eq_true hom.2
          replace hIH := allNeN_of hIH
          simp only [List.cons_append, List.nil_append, AllNeN] at hIH
          simp only [List.cons_append, List.nil_append] at N20
          replace F20 := fr_set [("order", .ref D), ("seen", .ref S), ("many", .int ns.length tn3), ("times", .ref l), ("far", .int far ta), ("side", .ref G)] F20 (by simp only [List.forall_mem_cons]; exact ⟨f1, f2, f3, f4, f5, f6, fun _ h => nomatch h⟩)
          dsimp only [kstB] at F20
          clear f1 f2 f3 f4 f5 f6
          (try k_fold)
          k_steps
          rename_i oOther F21 N21 dOther
          have hDne : ∀ b ∈ ([H, IO, G, S, L'+1+1+1+1, L'+1+1+1, L'+1+1, L'+1, IH] : List Addr), @Ne Nat b D := by
            intro b hb
            simp only [List.mem_cons, List.not_mem_nil, or_false] at hb
            rcases hb with rfl | rfl | rfl | rfl | rfl | rfl | rfl | rfl | rfl
            · exact fun e => off19.2.2.2.1 e.symm
            · exact fun e => hIO.2.2.1 e.symm
            · exact fun e => off15.2.2.1 e.symm
            · exact Nat.ne_of_lt l7.2.2.1
            · exact Nat.ne_of_lt l7.2.2.2.2.1
            · exact Nat.ne_of_lt l7.2.2.2.2.2.1
            · exact Nat.ne_of_lt l7.2.2.2.2.2.2.1
            · exact Nat.ne_of_lt l7.2.2.2.2.2.2.2.1
            · exact fun e => hIH.2.2.2.2.1 e.symm
          have hPI : ∀ p ∈ [(H, LCg.lst zs), (IO, oIO), (G, LCg.lst ys)], p.1 ≠ IH := by
            intro p hp
            simp only [List.mem_cons, List.not_mem_nil, or_false] at hp
            rcases hp with rfl | rfl | rfl
            · exact hIH.1
            · exact hIH.2.1
            · exact hIH.2.2.1
          have hAI : ∀ b ∈ ([S, D, L'+1+1+1+1, L'+1+1+1, L'+1+1, L'+1] : List Addr), b ≠ IH := by
            intro b hb
            simp only [List.mem_cons, List.not_mem_nil, or_false] at hb
            rcases hb with rfl | rfl | rfl | rfl | rfl | rfl
            · exact hIH.2.2.2.1
            · exact hIH.2.2.2.2.1
            · exact hIH.2.2.2.2.2.1
            · exact hIH.2.2.2.2.2.2.1
            · exact hIH.2.2.2.2.2.2.2.1
            · exact hIH.2.2.2.2.2.2.2.2.1
          have hTI : ∀ p ∈ tl3 ++ news, p.1 ≠ IH := allNeN_mem hIH.2.2.2.2.2.2.2.2.2
          have hTD : ∀ p ∈ tl3 ++ news, @Ne Nat p.1 D := fun p hp => hoff3 p hp D (by simp)
          clear hA hB l7 l11 off15 off19 hIO hoff hoff2 hbd hIH
          repeat (rename ((_ : Nat) < _ ∧ _) => hz; clear hz)
          (try clear F16); (try clear N16); (try clear F17); (try clear N17); (try clear F19); (try clear N19); (try clear F20); (try clear N20)
          k_dflt (refine LCg.ListComp_U F21 (by with_unfolding_all rfl) (by decide) (by rfl) (by decide) (by rfl) ?_)
          k_steps
          rename_i r22 t22 h22 hr22 F22 N22 _
          refine LCg.CompSrc.range (by rfl) F22 N22 (by assumption) (hsm ()) (by exact rangeSize_nat _ _) (hszl ()) ?_
          (try clear F21); (try clear N21)
          intro g22
          have hmb3 := hsub3 _ (htl _ hmb)
          refine kcf_range (fun k => if k = one ∨ k = other then 1 - lamp else here.getD k.toNat 0) (fun k' t' I' oI' C' oC' D' m' ys' h' tk' E' hlo' hhi' hC' hx' F' N' off' ne' _ => ?_) ?_
          · k_steps
            rename News g' L' _ _ => N23
            rename Fr g' L' _ _ => F23
            refine in_pair N23 (.head _) (by show un + 3 + 64 < _; omega) ?_
            k_steps
            rename ¬ (_ ∨ _) => hz
            refine my_titem N23 (by kcf_m) hih hlo' (by omega) (by omega) (fun t24 => ?_)
            exact ⟨_, _, _, rfl, F23, fun p hp => N23 p (.tail _ hp), off', trivial, rfl, _, by rw [if_neg hz]⟩
          · unfold KPfDone
            intro as has
            rw [rangeKs_upto] at has
            have has2 : IntsAre as (afterOf here lamp one other ns.length) := has
            clear has
            have hla := has2.length
            rw [len_after] at hla
            k_steps
            intro W h24 tk24 F24 N24 off24
            clear off24
            k_steps
            rename News g' L' _ _ => N25
            refine my_litem N25 (by kcf_m) hi (by omega) (by omega) (by omega) (fun t26 => ?_)
            k_steps
            refine my_litem N25 (by kcf_m) hi (by omega) (by omega) (by omega) (fun t27 => ?_)
            k_steps
            rename Fr g' L' _ _ => F29
            rename News g' L' _ _ => N29
            repeat (rename ((_ : Nat) < _ ∧ _) => hz; clear hz)
            have hol := len700 hin3 hre (len_done i j hn4) DO3
            have hst := dat_step (ns := ns) (far := far) N29 (.head _) (.tail _ (.head _)) has2 (by split <;> omega)
            refine bisect_ct w (p := p) (loose := loose) (mean := mean) (mg := mg) (mb := mb) _ _ _ _ _ _ _ _ _ _ _ _ _ _ _ _ _ _ D ov3 kO3 _ (ltAtIdx order3 (stepOf ns far here lamp (one, other))) _ (by k_asm) F29 N29 (by k_asm) (by rfl) (.inl rfl) (by kcf_m) (Nat.lt_of_le_of_lt hol (by decide)) ?_ ?_ ?_ ?_ (by assumption)
            · intro i hi A E' h1 L1 s1 Q' hA N1 hQ
              exact lt_order N1 DO3 (fun p hp => by kcf_m) hst i hi (huB _ hA) hQ
            · exact hd1
            · exact hu8
            · intro r t30 h30 tk30 hb F30 N30
              (try k_fold)
              k_steps
              rename Fr g' L' _ _ => F31
              rename News g' L' _ _ => N31
              repeat (rename ((_ : Nat) < _ ∧ _) => hz; clear hz)
              have hsp := dat_pair (ns := ns) (far := far) (here := here) (one := one) (other := other) N31 (.head _) (.tail _ (.tail _ (.head _))) has2
              have hdone : pairsOf (sideOf here lamp ns.length) ((sideOf here lamp ns.length).take i) ++ ((othersOf (sideOf here lamp ns.length) one).take (j+1)).map (fun other => (one, other)) = (pairsOf (sideOf here lamp ns.length) ((sideOf here lamp ns.length).take i) ++ ((othersOf (sideOf here lamp ns.length) one).take j).map (fun other => (one, other))) ++ [(one, other)] := by
                rw [List.take_add_one, hoth]; simp
              refine notIn_ent N31 (by kcf_m) DS' (fun p hp => by have := hsub3 p hp; kcf_m) hsp hu64 (fun hc => ?_) (fun hc => ?_)
              · k_steps
                exact in_skip F31 N31 hcH hcO dOther q5 dLamp dHere hPI hAI hTI ⟨_, rfl⟩ hoff3 DO3 hsub3 hin3 hdone (by rfl) (by rfl) (by rfl) (by rfl) (by rfl) (by rfl) (.inl hc)
              · k_steps
                · refine insort_ct w (p := p) (loose := loose) (mean := mean) (mg := mg) (mb := mb) _ _ _ _ _ _ _ _ _ _ _ _ _ _ _ _ _ _ D ov3 kO3 _ (ltAtIdx order3 (stepOf ns far here lamp (one, other))) (by k_asm) F31 (news_split N31 (by kcf_m)) (by k_asm) (by rfl) filter_ne (Nat.le_trans hol (by decide)) ?_ hd4 hu40 ?_ (by assumption)
                  · intro i hi A E' h1 L1 s1 Q' hA N1 hQ
                    exact lt_order N1 DO3 (fun p hp => news_split_mem N31 (by kcf_m) p (by kcf_m)) ((hst.mono fun p hp => .tail _ hp).mono (news_split_mem N31 (by kcf_m))) i hi (huA _ hA) hQ
                  · intro r2 h33 tk33 hb2 F33 N33
                    (try k_fold)
                    k_steps
                    rename Fr g' L' _ _ => F34
                    rename News g' L' _ _ => N34
                    exact in_put N31 F34 N34 hcH hcO dOther q5 dLamp dHere hPI hAI hTI ⟨_, rfl⟩ hoff3 DO3 hsub3 hin3 hdone (by rfl) (by rfl) (by rfl) (by rfl) (by rfl) (by rfl) hDne hb2 has2 (by split <;> omega)
                · rename ¬ ((r : Int) = _) => hz
                  refine my_item N31 (by kcf_m) (Nat.lt_of_le_of_lt hol (by decide)) (Int.natCast_nonneg r) (Int.ofNat_lt.mpr (Nat.lt_of_le_of_ne hb.1 (fun e => hz (by rw [e])))) (fun hk => ?_)
                  k_steps
                  refine ne_ent N31 DO3 (fun p hp => by kcf_m) (hst.mono fun p hp => .tail _ hp) _ hk hu64 (fun hc => ?_) ?_
                  · k_steps
                    exact in_skip F31 N31 hcH hcO dOther q5 dLamp dHere hPI hAI hTI ⟨_, rfl⟩ hoff3 DO3 hsub3 hin3 hdone (by rfl) (by rfl) (by rfl) (by rfl) (by rfl) (by rfl) (.inr hc)
                  · k_steps
                    refine insort_ct w (p := p) (loose := loose) (mean := mean) (mg := mg) (mb := mb) _ _ _ _ _ _ _ _ _ _ _ _ _ _ _ _ _ _ D ov3 kO3 _ (ltAtIdx order3 (stepOf ns far here lamp (one, other))) (by k_asm) F31 (news_split N31 (by kcf_m)) (by k_asm) (by rfl) filter_ne (Nat.le_trans hol (by decide)) ?_ hd4 hu40 ?_ (by assumption)
                    · intro i hi A E' h1 L1 s1 Q' hA N1 hQ
                      exact lt_order N1 DO3 (fun p hp => news_split_mem N31 (by kcf_m) p (by kcf_m)) ((hst.mono fun p hp => .tail _ hp).mono (news_split_mem N31 (by kcf_m))) i hi (huA _ hA) hQ
                    · intro r2 h33 tk33 hb2 F33 N33
                      (try k_fold)
                      k_steps
                      rename Fr g' L' _ _ => F34
                      rename News g' L' _ _ => N34
                      exact in_put N31 F34 N34 hcH hcO dOther q5 dLamp dHere hPI hAI hTI ⟨_, rfl⟩ hoff3 DO3 hsub3 hin3 hdone (by rfl) (by rfl) (by rfl) (by rfl) (by rfl) (by rfl) hDne hb2 has2 (by split <;> omega)
      · intro l k
        dsimp only
        split
        · simp
        · omega
  · intro l k
    dsimp only
    split
    · simp
    · omega
end Mine

namespace Mine

def toldS : List Int → Int
  | [] => 0
  | [a] => max 0 a
  | [_, b] => max 0 b
  | [a, b, c] => a + b + c
  | [a, b, c, d] => min (a + 2 * b + d) (2 * a + c + d) + max 0 b
  | [a, b, c, d, e] => min (a + 2 * b + e) (2 * a + d + e) + (a + b + c)
  | _ => 0

theorem ints_cons {us : List Value} {n : Int} {ns : List Int} (h : IntsAre us (n :: ns)) : ∃ t us', us = .int n t :: us' ∧ IntsAre us' ns := by
  cases h; exact ⟨_, _, rfl, by assumption⟩
theorem ints_nil {us : List Value} (h : IntsAre us []) : us = [] := by
  cases h; rfl

def TldJ (out : Int) (l : Nat) (news : List (Addr × Obj)) (k : Nat) (m : Str → Option Value) (nx : List (Addr × Obj)) : Prop :=
  ∃ (D : Nat) (vs : List Value) (c : Nat) (zs : List Int) (wv : Int) (t : Tok),
  nx = (D, listOf vs.toArray c) :: news ∧ IntsAre vs zs ∧ zs.Pairwise (· ≤ ·) ∧ zs.length ≤ 5 ∧ k = zs.length ∧ wv + toldS zs = out ∧ m "whole" = some (.int wv t) ∧ m "left" = some (.ref D)

local macro_rules | `(tactic| kp_kind "stop") => `(tactic| first
  | (with_reducible show wpAny _ _ (call (Value.ref _) _) _ _ _)
  | (with_reducible show wpAny _ _ (exec (Stmt.While _ _ _ _) _) _ _ _))

local macro_rules | `(tactic| k_steps) => `(tactic| repeat' (first | (k_unfold; (try dsimp only)) | ((fail_if_success kp_kind "stop"); walk1) | ((fail_if_success kp_kind "stop"); dsimp only; walk1) | (leave1; walk_say "STEP leave1"; try dsimp only) | fail "no step"))

set_option maxHeartbeats 4000000 in
theorem told_ct (w : World) {p : Program} {loose : List Str} {mean : ExcName → Option Value} {mg mb : Str → Option Value}
  (dp un : Nat) (gd : Option (List Code)) (cn : Str) (cs : Scope) (a : Addr) (ccd : Value) (cl : List (Str × Addr)) (outer : List Env) (A₀ : Around) (base h₀ : Heap) (L : Addr) (m : Str → Option Value) (s : Shared) (Q E : Value → Shared → Prop)
  (news : List (Addr × Obj)) (l : Addr) (us : List Value) (ns : List Int) (nn : Nat)
  (B : Below A₀ base outer h₀) (F : Fr h₀ L s.heap m) (N : News h₀ L s.heap news) (T : Top p loose mean mg mb h₀) (hk : cs.kind = .function)
  (hm : (l, listOf us.toArray nn) ∈ news) (hi : IntsAre us ns) (hlen : ns.length ≤ 5)
  (hd : dp + 8 < recursionLimit) (hu : un + 100 < cLine)
  (hret : ∀ t h' tk' ns', ns'.Perm ns → ns'.Pairwise (· ≤ ·) → Fr h₀ L h' m → News h₀ L h' news → Q (.int (toldS ns') t) {s with heap := h', toks := tk'}) :
  (Mine.hd.heap_39 w.params).In h₀ →
  wpAny (model PySem.Challenge.rw_ie0001_01.row.prog w) (ktrTop dp un gd cn cs L a ccd cl outer) (call (.ref 67) [.ref l]) Q E s := by
  k_fill
  intro X
  refine wpAny_call ?_
  w_strict (k_dflt (refine' code_def ?k1 ?k2 ?k3 ?k4 ?k5 ?kA ?kF ?kK ?k6 ?k7 ?k8 ?k9 ?kB ?_ ?c2 ?c3 ?c4 ?c5; (case kA => exact rfl); (case kF => exact rfl); (case kK => assumption); (case k1 => k_asm); (case k2 => k_asm); (case k3 => k_asm); (case k4 => k_asm); (case k5 => k_asm); (case k6 => k_is); (case k7 => k_is); (case k8 => ktr_room); (case k9 => (refine' kp_binds ?kx ?ke; (case kx => k_in); (case ke => exact fun _ => rfl))); (case c5 => decide); (case kB => exact locs rfl); (case c2 => exact rfl); (case c3 => exact rfl); (case c4 => exact rfl); k_whole; intro g' L' h' FG' F' N' B' X' T'; (try dsimp only); (try k_fold)))
  replace F' := fr_set [("times", .ref l)] F' (by simp only [List.forall_mem_cons]; exact ⟨rfl, fun _ h => nomatch h⟩)
  dsimp only [kstB] at F'
  k_steps
  refine kso_sorted F' N' ⟨_, (N' _ hm).1, rfl, nn, rfl⟩ hi (by omega) (fun D vs' ns' c h2 F2 N2 l2 i2 e2 p2 o2 b2 => ?_)
  clear b2
  k_steps
  rename Fr g' L' _ _ => F3
  rename News g' L' _ _ => N3
  have N4 : News g' L' _ ((D, listOf vs'.toArray c) :: news) := fun p hp => N3 p (.tail _ hp)
  refine While_inv2 (TldJ (toldS ns') l news) (n₀ := ns'.length) F3 N4 ⟨D, vs', c, ns', 0, _, rfl, i2, o2, by omega, rfl, by omega, by rfl, by rfl⟩ ?_ (by first | passes_own | with_unfolding_all passes_own)
  clear N3 N4 F3 i2
  rintro k m₁ nx h₁ tk₁ F₁ N₁ ⟨D2, vs, c2, zs, wv, tw, rfl, i3, o3, hl3, rfl, hout, e1, e2⟩
  replace F₁ := fr_set [("whole", .int wv tw), ("left", .ref D2)] F₁ (by simp only [List.forall_mem_cons]; exact ⟨e1, e2, fun _ h => nomatch h⟩)
  dsimp only [kstB] at F₁
  clear e1 e2
  (try k_fold)
  k_steps
  · rename (3 : Int) < _ => h3
    rename IntsAre _ (List.take _ _) => hI'
    rename Fr g' L' _ _ => F5
    rename News g' L' _ _ => N5
    have N6 : News g' L' _ (_ :: news) := fun p hp => N5 p (by
      rcases List.mem_cons.mp hp with h | h
      · rw [h]; exact .head _
      · exact .tail _ (.tail _ h))
    have hlt : (List.take (zs.length - 2) zs).length < zs.length := by rw [List.length_take]; omega
    refine ⟨_, _, _, _, _, rfl, F5, N6, hlt, ⟨_, _, _, List.take (zs.length - 2) zs, _, _, rfl, hI', o3.sublist (List.take_sublist _ _), by omega, rfl, ?_, rfl, rfl⟩⟩
    rw [← hout]
    rcases zs with _ | ⟨n1, _ | ⟨n2, _ | ⟨n3, _ | ⟨n4, _ | ⟨n5, _ | ⟨n6, nr⟩⟩⟩⟩⟩⟩
    · simp at h3
    · simp at h3
    · simp at h3
    · simp at h3
    · simp [toldS]; split <;> omega
    · simp [toldS]; split <;> omega
    · simp only [List.length_cons] at hl3; omega
  · rename (zs.length : Int) = 3 => h3
    rename Fr h₀ L _ _ => kF
    rename News h₀ L _ _ => kN
    have e : wv + zs.sum = toldS ns' := by
      rw [← hout]
      rcases zs with _ | ⟨n1, _ | ⟨n2, _ | ⟨n3, _ | ⟨n4, nr⟩⟩⟩⟩
      · simp at h3
      · simp at h3
      · simp at h3
      · simp [toldS]; omega
      · simp only [List.length_cons] at h3; omega
    rw [e]
    exact hret _ _ _ ns' p2 o2 kF (fun p hp => kN p (.tail _ hp))
  · rename ¬ ((3 : Int) < _) => h3
    rename (zs.length : Int) ≠ 3 => h4
    rename Fr h₀ L _ _ => kF
    rename News h₀ L _ _ => kN
    rename ∀ a, a ∈ [0] ++ zs → a ≤ _ => hb
    rename _ ∈ [0] ++ zs => ha
    have e : ∀ M, M ∈ [0] ++ zs → (∀ a, a ∈ [0] ++ zs → a ≤ M) → wv + M = toldS ns' := by
      intro M ha hb
      rw [← hout]
      rcases zs with _ | ⟨n1, _ | ⟨n2, _ | ⟨n3, nr⟩⟩⟩
      · simp [toldS] at *; omega
      · simp [toldS] at *; omega
      · simp [toldS] at *; omega
      · simp only [List.length_cons] at h3 h4; omega
    rw [e _ ha hb]
    exact hret _ _ _ ns' p2 o2 kF (fun p hp => kN p (.tail _ (.tail _ (.tail _ hp))))
end Mine

namespace Mine

theorem ints_ins {v : Int} {t : Tok} : ∀ {us : List Value} {ns : List Int}, IntsAre us ns → ∀ r : Nat, IntsAre (us.take r ++ .int v t :: us.drop r) (ns.take r ++ v :: ns.drop r)
  | _, [], h, r => by
    rw [ints_nil h]
    simp only [List.take_nil, List.drop_nil, List.nil_append]
    exact .cons _ _ .nil
  | _, n :: ns, h, r => by
    obtain ⟨t', us', rfl, h2⟩ := ints_cons h
    cases r with
    | zero =>
      simp only [List.take_zero, List.drop_zero, List.nil_append]
      exact .cons _ _ (.cons _ _ h2)
    | succ j =>
      simp only [List.take_succ_cons, List.drop_succ_cons, List.cons_append]
      exact .cons _ _ (ints_ins h2 j)

theorem srt_get {o : List Int} (h : o.Pairwise (· ≤ ·)) {i j : Nat} (hj : j < o.length) (hij : i ≤ j) : (o[i]'(by omega)) ≤ (o[j]'hj) := by
  rcases Nat.lt_or_ge i j with q | q
  · exact List.pairwise_iff_getElem.mp h i j (by omega) hj q
  · have : i = j := by omega
    subst this; exact Int.le_refl _

theorem srt_ins {o : List Int} {v : Int} {r : Nat} (h : o.Pairwise (· ≤ ·)) (hb : BisOk (fun i => decide (o.getD i 0 < v)) o.length r) : (o.take r ++ v :: o.drop r).Pairwise (· ≤ ·) := by
  obtain ⟨h1, h2, h3⟩ := hb
  refine List.pairwise_append.mpr ⟨List.Pairwise.sublist (List.take_sublist _ _) h, List.pairwise_cons.mpr ⟨?_, List.Pairwise.sublist (List.drop_sublist _ _) h⟩, ?_⟩
  · intro e he
    rcases h3 with h3 | h3
    · rw [h3, List.drop_length] at he; cases he
    · rcases Nat.lt_or_ge r o.length with q | q
      · have h4 := of_decide_eq_false h3
        rw [show o.getD r 0 = o[r] from by simp [q]] at h4
        obtain ⟨j, hj, e2⟩ := List.getElem_of_mem he
        rw [List.getElem_drop] at e2
        rw [List.length_drop] at hj
        rw [← e2]
        exact Int.le_trans (Int.not_lt.mp h4) (srt_get h (by omega) (by omega))
      · rw [List.drop_of_length_le q] at he; cases he
  · intro a ha b hbm
    have hax : a ≤ v := by
      obtain ⟨i, hi, e2⟩ := List.getElem_of_mem ha
      rw [List.length_take] at hi
      rw [List.getElem_take] at e2
      rcases h2 with h2 | h2
      · omega
      · have q : r - 1 < o.length := by omega
        have h4 := of_decide_eq_true h2
        rw [show o.getD (r-1) 0 = o[r-1] from by simp [q]] at h4
        rw [← e2]
        exact Int.le_trans (srt_get h q (by omega)) (Int.le_of_lt h4)
    rcases List.mem_cons.mp hbm with rfl | hbm
    · exact hax
    · obtain ⟨i, hi, e2⟩ := List.getElem_of_mem ha
      obtain ⟨j, hj, e3⟩ := List.getElem_of_mem hbm
      rw [List.length_take] at hi
      rw [List.getElem_take] at e2
      rw [List.length_drop] at hj
      rw [List.getElem_drop] at e3
      rw [← e2, ← e3]
      exact srt_get h (by omega) (by omega)

theorem rng_ins {P : Int → Prop} {o : List Int} {v : Int} {r : Nat} (h : ∀ n ∈ o, P n) (hv : P v) : ∀ n ∈ o.take r ++ v :: o.drop r, P n := by
  intro n hn
  rcases List.mem_append.mp hn with hn | hn
  · exact h n (List.mem_of_mem_take hn)
  · rcases List.mem_cons.mp hn with rfl | hn
    · exact hv
    · exact h n (List.mem_of_mem_drop hn)

theorem lt_ints {prog : Program} {w : World} {A : Around} {E : Value → Shared → Prop} {s : Shared} {us : List Value} {ns : List Int} {v : Int} {t : Tok} {Q : Value → Shared → Prop} (hi : IntsAre us ns) (i : Nat) (h : i < us.length) (hQ : Q (.bool (decide (ns.getD i 0 < v))) s) :
    wpAny (model prog w) A (compareOp .Lt (us[i]'h) (.int v t)) Q E s := by
  obtain ⟨t', e⟩ := ints_get hi i h
  have e2 : us[i]'h = .int (ns.getD i 0) t' := by rw [← e]; simp
  rw [e2]
  exact ltAt_int _ _ _ _ hQ

def LawJ (M : Nat) (pre : List (Addr × Obj)) (i : Nat) (_m : Str → Option Value) (nx : List (Addr × Obj)) : Prop :=
  ∃ (us : List Value) (ns : List Int) (nn : Nat), nx = (M, listOf us.toArray nn) :: pre ∧ IntsAre us ns ∧ ns.Pairwise (· ≤ ·) ∧ (∀ n ∈ ns, 1 ≤ n ∧ n ≤ 9) ∧ ns.length = i

theorem fm9 (n : Int) : 1 ≤ 1 + n.fmod 9 ∧ 1 + n.fmod 9 ≤ 9 := by
  rw [Int.fmod_eq_emod_of_nonneg _ (by decide)]
  omega

theorem news_swap {g h : Heap} {L : Addr} {a b : Addr × Obj} {l : List (Addr × Obj)} (N : News g L h (a :: b :: l)) : News g L h (b :: a :: l) := fun p hp => N p (by
  rcases List.mem_cons.mp hp with h | hp
  · rw [h]; exact .tail _ (.head _)
  rcases List.mem_cons.mp hp with h | hp
  · rw [h]; exact .head _
  · exact .tail _ (.tail _ hp))
theorem foldl_same {α β : Type} (l : List α) (b : β) : l.foldl (fun x _ => x) b = b := by
  induction l with
  | nil => rfl
  | cons a r ih => exact ih

def Once (m₀ : Str → Option Value) (n₀ : List (Addr × Obj)) (i : Nat) (m : Str → Option Value) (nx : List (Addr × Obj)) : Prop := (i = 0 → m = m₀) ∧ nx = n₀

def Only0 (m₀ : Str → Option Value) (n₀ : List (Addr × Obj)) (i : Nat) (m : Str → Option Value) (nx : List (Addr × Obj)) : Prop := i = 0 ∧ m = m₀ ∧ nx = n₀

theorem fr_any {g h : Heap} {L : Addr} {m : Str → Option Value} (F : Fr g L h m) : ∃ m', Fr g L h m' := ⟨m, F⟩

end Mine

namespace Mine

def insI (v : Int) : List Int → List Int
  | [] => [v]
  | a :: r => if v ≤ a then v :: a :: r else a :: insI v r
theorem insI_perm (v : Int) : ∀ l : List Int, (insI v l).Perm (l ++ [v])
  | [] => List.Perm.refl _
  | a :: r => by
    unfold insI
    split
    · exact (List.perm_append_comm (l₁ := [v]) (l₂ := a :: r))
    · exact (insI_perm v r).cons a
theorem insI_mem {v x : Int} {l : List Int} (h : x ∈ insI v l) : x = v ∨ x ∈ l := by
  have := (insI_perm v l).mem_iff.mp h
  rcases List.mem_append.mp this with h | h
  · exact .inr h
  · exact .inl (List.mem_singleton.mp h)
theorem insI_srt (v : Int) : ∀ l : List Int, l.Pairwise (· ≤ ·) → (insI v l).Pairwise (· ≤ ·)
  | [], _ => List.pairwise_singleton _ _
  | a :: r, h => by
    unfold insI
    have h1 := List.pairwise_cons.mp h
    split
    · rename_i hv
      refine List.pairwise_cons.mpr ⟨?_, h⟩
      intro b hb
      rcases List.mem_cons.mp hb with rfl | hb
      · exact hv
      · exact Int.le_trans hv (h1.1 b hb)
    · rename_i hv
      refine List.pairwise_cons.mpr ⟨?_, insI_srt v r h1.2⟩
      intro b hb
      rcases insI_mem hb with rfl | hb
      · omega
      · exact h1.1 b hb

theorem told_more {zs q : List Int} (hs : zs.Pairwise (· ≤ ·)) (hr : ∀ n ∈ zs, 1 ≤ n ∧ n ≤ 9) (hl : zs.length ≤ 4) (hp : q.Perm (zs ++ [5])) (hq : q.Pairwise (· ≤ ·)) : toldS zs ≤ toldS q := by
  have e : q = insI 5 zs := lks_uniq (hp.trans (insI_perm 5 zs).symm) hq (insI_srt 5 zs hs)
  rw [e]
  clear e hp hq
  rcases zs with _ | ⟨n1, _ | ⟨n2, _ | ⟨n3, _ | ⟨n4, _ | ⟨n5, nr⟩⟩⟩⟩⟩
  · decide
  · simp only [List.mem_cons, List.not_mem_nil, or_false, forall_eq] at hr
    simp only [insI]; split <;> simp only [toldS] <;> omega
  · simp only [List.mem_cons, List.not_mem_nil, or_false, forall_eq_or_imp, forall_eq, List.pairwise_cons] at hr hs
    simp only [insI]; repeat' split
    all_goals simp only [toldS]; omega
  · simp only [List.mem_cons, List.not_mem_nil, or_false, forall_eq_or_imp, forall_eq, List.pairwise_cons] at hr hs
    simp only [insI]; repeat' split
    all_goals simp only [toldS]; omega
  · simp only [List.mem_cons, List.not_mem_nil, or_false, forall_eq_or_imp, forall_eq, List.pairwise_cons] at hr hs
    simp only [insI]; repeat' split
    all_goals simp only [toldS]; omega
  · simp only [List.length_cons] at hl; omega

theorem told_double {zs q : List Int} (hs : zs.Pairwise (· ≤ ·)) (hr : ∀ n ∈ zs, 1 ≤ n ∧ n ≤ 9) (hl : zs.length ≤ 4) (hp : q.Perm (zs.map (fun k => 2 * k))) (hq : q.Pairwise (· ≤ ·)) : toldS q = 2 * toldS zs := by
  have e : q = zs.map (fun k => 2 * k) := lks_uniq hp hq (List.pairwise_map.mpr (hs.imp fun h => by omega))
  rw [e]
  clear e hp hq
  rcases zs with _ | ⟨n1, _ | ⟨n2, _ | ⟨n3, _ | ⟨n4, _ | ⟨n5, nr⟩⟩⟩⟩⟩
  · decide
  · simp only [List.map_cons, List.map_nil, toldS]; omega
  · simp only [List.map_cons, List.map_nil, toldS]; omega
  · simp only [List.map_cons, List.map_nil, toldS]; omega
  · simp only [List.map_cons, List.map_nil, toldS]; omega
  · simp only [List.length_cons] at hl; omega

theorem told_slow {zs q : List Int} (hs : zs.Pairwise (· ≤ ·)) (hr : ∀ n ∈ zs, 1 ≤ n ∧ n ≤ 9) (hl : zs.length ≤ 4) (h0 : zs ≠ []) {k : Nat} (hk : k = zs.length - 1) (hp : q.Perm (zs.take k ++ [zs.getD k 0 + 1])) (hq : q.Pairwise (· ≤ ·)) : toldS zs ≤ toldS q ∧ toldS q ≤ toldS zs + 1 := by
  subst hk
  rcases zs with _ | ⟨n1, _ | ⟨n2, _ | ⟨n3, _ | ⟨n4, _ | ⟨n5, nr⟩⟩⟩⟩⟩
  · exact absurd rfl h0
  · simp at hp
    have e : q = [n1 + 1] := by simpa using hp
    rw [e]
    simp only [List.mem_cons, List.not_mem_nil, or_false, forall_eq] at hr
    simp only [toldS]; omega
  · simp at hp
    simp only [List.mem_cons, List.not_mem_nil, or_false, forall_eq_or_imp, forall_eq, List.pairwise_cons] at hr hs
    have e : q = [n1, n2 + 1] := lks_uniq hp hq (by simp; omega)
    rw [e]
    simp only [toldS]; omega
  · simp at hp
    simp only [List.mem_cons, List.not_mem_nil, or_false, forall_eq_or_imp, forall_eq, List.pairwise_cons] at hr hs
    have e : q = [n1, n2, n3 + 1] := lks_uniq hp hq (by simp; omega)
    rw [e]
    simp only [toldS]; omega
  · simp at hp
    simp only [List.mem_cons, List.not_mem_nil, or_false, forall_eq_or_imp, forall_eq, List.pairwise_cons] at hr hs
    have e : q = [n1, n2, n3, n4 + 1] := lks_uniq hp hq (by simp; omega)
    rw [e]
    simp only [toldS]; omega
  · simp only [List.length_cons] at hl; omega
theorem told_two {zs : List Int} (hr : ∀ n ∈ zs, 1 ≤ n ∧ n ≤ 9) (h : zs.length = 2) : toldS zs = zs.getD (Int.toNat 1) 0 := by
  rcases zs with _ | ⟨n1, _ | ⟨n2, _ | ⟨n3, nr⟩⟩⟩
  · simp at h
  · simp at h
  · simp only [List.mem_cons, List.not_mem_nil, or_false, forall_eq_or_imp, forall_eq] at hr
    show max 0 n2 = n2
    omega
  · simp at h
theorem told_three {zs : List Int} (h : zs.length = 3) : toldS zs = zs.sum := by
  rcases zs with _ | ⟨n1, _ | ⟨n2, _ | ⟨n3, _ | ⟨n4, nr⟩⟩⟩⟩
  · simp at h
  · simp at h
  · simp at h
  · simp [toldS]; omega
  · simp at h
end Mine

namespace Mine

def prs (n : Nat) (s : Stt) : List (Int × Int) := pairsOf (sideOf s.1 s.2 n) (sideOf s.1 s.2 n)
def nxt (n : Nat) (s : Stt) (p : Int × Int) : Stt := (afterOf s.1 s.2 p.1 p.2 n, 1 - s.2)
def fee (ns : List Int) (p : Int × Int) : Int := max (ns.getD p.1.toNat 0) (ns.getD p.2.toNat 0)

structure Cert (ns : List Int) (out : Int) where
  S : List Stt
  pot : Stt → Int
  P : Nat → Stt
  c : Nat → Int
  m : Nat
  hS32 : S.length ≤ 32
  hS : ∀ s ∈ S, s.1.length = ns.length
  hst : (List.replicate ns.length 1, 1) ∈ S
  hstep : ∀ s ∈ S, ∀ p ∈ prs ns.length s, nxt ns.length s p ∈ S
  pot0 : out ≤ pot (List.replicate ns.length 1, 1)
  potE : ∀ s ∈ S, s.1.sum = 0 → pot s ≤ 0
  potS : ∀ s ∈ S, s.1.sum ≠ 0 → ∀ p ∈ prs ns.length s, pot s ≤ fee ns p + pot (nxt ns.length s p)
  p0 : P 0 = (List.replicate ns.length 1, 1)
  c0 : 0 ≤ c 0
  pm : (P m).1.sum = 0
  cm : c m ≤ out
  mono : ∀ k, k < m → c k ≤ c (k+1)
  pS : ∀ k, k < m → ∃ p ∈ prs ns.length (P k), nxt ns.length (P k) p = P (k+1) ∧ c k + fee ns p ≤ c (k+1)

def Pend (o : List Ent) (s : Stt) (c : Int) : Prop := ∃ f, f ≤ c ∧ (f, s) ∈ o

structure RunI (ns : List Int) (out : Int) (C : Cert ns out) (o : List Ent) (seen : List Stt) : Prop where
  len : o.length ≤ 1 + 16 * seen.length
  nd : seen.Nodup
  sn : ∀ s ∈ seen, s ∈ C.S ∧ s.1.sum ≠ 0
  st : ∀ e ∈ o, e.2 ∈ C.S
  srt : FarSorted o
  lb : ∀ e ∈ o, out ≤ e.1 + C.pot e.2
  u0 : C.P 0 ∈ seen ∨ Pend o (C.P 0) (C.c 0)
  u1 : ∀ k, k < C.m → C.P k ∈ seen → C.P (k+1) ∈ seen ∨ Pend o (C.P (k+1)) (C.c (k+1))

theorem RunI.first {ns : List Int} {out : Int} {C : Cert ns out} {o : List Ent} {seen : List Stt} (R : RunI ns out C o seen) :
    ∀ k, k ≤ C.m → C.P k ∉ seen → ∃ f, f ≤ C.c k ∧ ∃ e ∈ o, e.1 = f
  | 0, _, h => by
    rcases R.u0 with q | ⟨f, h1, h2⟩
    · exact absurd q h
    · exact ⟨f, h1, _, h2, rfl⟩
  | k+1, hk, h => by
    by_cases hp : C.P k ∈ seen
    · rcases R.u1 k hk hp with q | ⟨f, h1, h2⟩
      · exact absurd q h
      · exact ⟨f, h1, _, h2, rfl⟩
    · obtain ⟨f, h1, h2⟩ := R.first k (by omega) hp
      exact ⟨f, Int.le_trans h1 (C.mono k hk), h2⟩

theorem RunI.pm {ns : List Int} {out : Int} {C : Cert ns out} {o : List Ent} {seen : List Stt} (R : RunI ns out C o seen) : C.P C.m ∉ seen := fun h => (R.sn _ h).2 C.pm

theorem len_sub {α : Type} [DecidableEq α] : ∀ {l L : List α}, l.Nodup → (∀ x ∈ l, x ∈ L) → l.length ≤ L.length
  | [], _, _, _ => Nat.zero_le _
  | a :: r, L, hn, hs => by
    have h1 := List.nodup_cons.mp hn
    have ha := hs a (.head _)
    have h2 : r.length ≤ (L.erase a).length := len_sub h1.2 fun x hx => by
      have hne : x ≠ a := fun e => h1.1 (e ▸ hx)
      exact (List.mem_erase_of_ne hne).mpr (hs x (.tail _ hx))
    rw [List.length_erase_of_mem ha] at h2
    have h3 : 0 < L.length := List.length_pos_of_mem ha
    simp only [List.length_cons]; omega

theorem far_head {e : Ent} {r : List Ent} (h : FarSorted (e :: r)) : ∀ x ∈ e :: r, e.1 ≤ x.1 := by
  intro x hx
  rcases List.mem_cons.mp hx with rfl | hx
  · exact Int.le_refl _
  · exact (List.pairwise_cons.mp h).1 x hx

theorem pend_tail {e : Ent} {r : List Ent} {s : Stt} {c : Int} (h : Pend (e :: r) s c) : s = e.2 ∨ Pend r s c := by
  obtain ⟨f, h1, h2⟩ := h
  rcases List.mem_cons.mp h2 with q | q
  · exact .inl (by rw [← q])
  · exact .inr ⟨f, h1, q⟩

theorem cert_thr {ns : List Int} {out : Int} (C : Cert ns out) (hl : ns.length ≤ 4) : ∃ I, ThrOk ns I out := by
  refine ⟨RunI ns out C, ?_⟩
  have fin : ∀ {e rest seen}, RunI ns out C (e :: rest) seen → ∀ k, k ≤ C.m → C.P k ∉ seen → e.1 ≤ C.c k := by
    intro e rest seen R k hk hn
    obtain ⟨f, h1, x, hx, rfl⟩ := R.first k hk hn
    exact Int.le_trans (far_head R.srt x hx) h1
  constructor
  case start =>
    exact ⟨by simp, List.nodup_nil, fun _ h => (nomatch h), fun e he => by rw [List.mem_singleton.mp he]; exact C.hst, List.pairwise_singleton _ _, fun e he => by rw [List.mem_singleton.mp he]; have := C.pot0; simp only; omega, .inr ⟨0, C.c0, by rw [C.p0]; exact .head _⟩, fun _ _ h => (nomatch h)⟩
  case bound =>
    intro o seen R
    exact ⟨R.len, Nat.le_trans (len_sub R.nd fun s hs => (R.sn s hs).1) C.hS32⟩
  case wf => exact fun o seen R e he => C.hS _ (R.st e he)
  case sorted => exact fun o seen R => R.srt
  case ne =>
    intro seen R
    obtain ⟨f, _, e, he, _⟩ := R.first C.m (Nat.le_refl _) R.pm
    cases he
  case goal =>
    intro e rest seen R h0
    have h1 := R.lb e (.head _)
    have h2 := C.potE _ (R.st e (.head _)) h0
    have h3 := fin R C.m (Nat.le_refl _) R.pm
    have h4 := C.cm
    omega
  case skip =>
    intro e rest seen R h0 hin
    have go : ∀ {s c}, Pend (e :: rest) s c → s ∈ seen ∨ Pend rest s c := fun h => (pend_tail h).imp (fun q => by rw [q]; exact hin) id
    refine ⟨?_, R.nd, R.sn, fun x hx => R.st x (.tail _ hx), (List.pairwise_cons.mp R.srt).2, fun x hx => R.lb x (.tail _ hx), ?_, ?_⟩
    · have := R.len; simp only [List.length_cons] at this; omega
    · rcases R.u0 with q | q
      · exact .inl q
      · exact go q
    · intro k hk hp
      rcases R.u1 k hk hp with q | q
      · exact .inl q
      · exact go q
  case step =>
    intro e rest seen o' R h0 hin I
    have hS := R.st e (.head _)
    have hst : ∀ p, (stepOf ns e.1 e.2.1 e.2.2 p).2 = nxt ns.length e.2 p := fun p => rfl
    have hfe : ∀ p, (stepOf ns e.1 e.2.1 e.2.2 p).1 = e.1 + fee ns p := fun p => rfl
    have go : ∀ {s c}, Pend (e :: rest) s c → s ∈ seen ++ [e.2] ∨ Pend o' s c := by
      intro s c h
      rcases pend_tail h with q | ⟨f, h1, h2⟩
      · exact .inl (by rw [q]; exact List.mem_append.mpr (.inr (.head _)))
      · exact .inr ⟨f, h1, I.old _ h2⟩
    have inl : ∀ {s : Stt}, s ∈ seen → s ∈ seen ++ [e.2] := fun h => List.mem_append.mpr (.inl h)
    refine ⟨?_, ?_, ?_, ?_, I.sorted, ?_, ?_, ?_⟩
    · have h1 := R.len
      have h2 := I.len
      have h3 := len_pairsOf (sideOf e.2.1 e.2.2 ns.length) (sideOf e.2.1 e.2.2 ns.length)
      have h4 := len_side e.2.1 e.2.2 ns.length
      have h5 := Nat.mul_le_mul (Nat.le_trans h4 hl) (Nat.le_trans h4 hl)
      simp only [List.length_cons, List.length_append, List.length_nil] at h1 ⊢
      omega
    · refine List.nodup_append.mpr ⟨R.nd, by simp, ?_⟩
      intro a ha b hb e1
      rw [List.mem_singleton.mp hb] at e1
      exact hin (e1 ▸ ha)
    · intro s hs
      rcases List.mem_append.mp hs with h | h
      · exact R.sn s h
      · rw [List.mem_singleton.mp h]; exact ⟨hS, h0⟩
    · intro x hx
      rcases I.new x hx with h | ⟨p, hp, rfl⟩
      · exact R.st x (.tail _ h)
      · rw [hst]; exact C.hstep _ hS p hp
    · intro x hx
      rcases I.new x hx with h | ⟨p, hp, rfl⟩
      · exact R.lb x (.tail _ h)
      · have h1 := R.lb e (.head _)
        have h2 := C.potS _ hS h0 p hp
        rw [hst, hfe]; omega
    · rcases R.u0 with q | q
      · exact .inl (inl q)
      · exact go q
    · intro k hk hp
      rcases List.mem_append.mp hp with h | h
      · rcases R.u1 k hk h with q | q
        · exact .inl (inl q)
        · exact go q
      · have he := List.mem_singleton.mp h
        have hfar := fin R k (by omega) (by rw [he]; exact hin)
        obtain ⟨p, h1, h2, h3⟩ := C.pS k hk
        rw [he] at h1 h2
        rcases I.all p h1 with q | q
        · exact .inl (by rw [← h2]; exact q)
        · refine .inr ⟨(stepOf ns e.1 e.2.1 e.2.2 p).1, ?_, ?_⟩
          · rw [hfe]; omega
          · rw [← h2]; exact q
end Mine

namespace Mine

def codeOf (s : Stt) : Nat := s.1.foldr (fun x acc => x.toNat + 2 * acc) s.2.toNat
def edg (n : Nat) (S : List Stt) : List (Nat × Nat × Nat × Nat) := S.flatMap (fun s => if s.1.sum = 0 then [] else (prs n s).map (fun p => (codeOf s, p.1.toNat, p.2.toNat, codeOf (nxt n s p))))
theorem mem_edg {n : Nat} {S : List Stt} {s : Stt} {p : Int × Int} (hs : s ∈ S) (h0 : s.1.sum ≠ 0) (hp : p ∈ prs n s) : (codeOf s, p.1.toNat, p.2.toNat, codeOf (nxt n s p)) ∈ edg n S :=
  List.mem_flatMap.mpr ⟨s, hs, by rw [if_neg h0]; exact List.mem_map.mpr ⟨p, hp, rfl⟩⟩
def EQ (ns tab : List Int) (x : Nat × Nat × Nat × Nat) : Prop := tab.getD x.1 0 ≤ ns.getD x.2.1 0 + tab.getD x.2.2.2 0
def AllE (ns tab : List Int) : List (Nat × Nat × Nat × Nat) → Prop
  | [] => True
  | x :: r => EQ ns tab x ∧ AllE ns tab r
theorem allE_mem {ns tab : List Int} : ∀ {l : List (Nat × Nat × Nat × Nat)}, AllE ns tab l → ∀ x ∈ l, EQ ns tab x
  | [], _ => fun _ h => (nomatch h)
  | y :: r, h => fun x hx => by
    rcases List.mem_cons.mp hx with rfl | hx
    · exact h.1
    · exact allE_mem h.2 x hx

def S1 : List Stt := [([0], 0), ([1], 0), ([0], 1), ([1], 1)]
def tab1 (a : Int) : List Int := [0, 0, 0, a]
def ed1 : List (Nat × Nat × Nat × Nat) := [(3, 0, 0, 0)]
theorem edE1 : edg 1 S1 = ed1 := by decide +kernel
theorem all1 (a : Int) (ha : 1 ≤ a) : AllE [a] (tab1 a) ed1 := by
  refine ⟨?_, trivial⟩
  · show a ≤ a + (0); omega
theorem stp1 : ∀ s ∈ S1, ∀ p ∈ prs 1 s, nxt 1 s p ∈ S1 := by decide +kernel
theorem zer1 : ∀ s ∈ S1, s.1.sum = 0 → codeOf s = 0 ∨ codeOf s = 2 := by decide +kernel
theorem lenS1 : ∀ s ∈ S1, s.1.length = 1 := by decide +kernel
def cert1A (a : Int) (ha : 1 ≤ a) (out : Int) (ho : out ≤ a) (hq : a ≤ out) : Cert [a] out where
  S := S1
  pot := fun s => (tab1 a).getD (codeOf s) 0
  P := fun k => [([1], 1), ([0], 0)].getD k ([], 0)
  c := fun k => [0, a].getD k 0
  m := 1
  hS32 := by show 4 ≤ 32; omega
  hS := lenS1
  hst := by show ([1], 1) ∈ S1; decide +kernel
  hstep := stp1
  pot0 := ho
  potE := by
    intro s hs h0
    rcases zer1 s hs h0 with e | e
    · show (tab1 a).getD (codeOf s) 0 ≤ 0; rw [e]; exact Int.le_refl _
    · show (tab1 a).getD (codeOf s) 0 ≤ 0; rw [e]; exact Int.le_refl _
  potS := fun s hs h0 p hp => by
    have h := mem_edg (n := 1) hs h0 hp
    rw [edE1] at h
    exact Int.le_trans (allE_mem (all1 a ha) _ h) (Int.add_le_add_right (Int.le_max_left _ _) _)
  p0 := rfl
  c0 := Int.le_refl 0
  pm := by decide
  cm := hq
  mono := by
    intro k hk
    rcases k with _ | k
    · show 0 ≤ a; omega
    · omega
  pS := by
    intro k hk
    rcases k with _ | k
    · exact ⟨(0, 0), by show ((0, 0) : Int × Int) ∈ prs 1 ([1], 1); decide +kernel, by show nxt 1 ([1], 1) (0, 0) = ([0], 0); decide +kernel, by show 0 + max a a ≤ a; omega⟩
    · omega

def S2 : List Stt := [([0, 0], 0), ([1, 0], 0), ([0, 1], 0), ([1, 1], 0), ([0, 0], 1), ([1, 0], 1), ([0, 1], 1), ([1, 1], 1)]
def tab2 (a b : Int) : List Int := [0, 2*b, a + b, 0, 0, a, b, b]
def ed2 : List (Nat × Nat × Nat × Nat) := [(1, 1, 1, 7), (2, 0, 0, 7), (5, 0, 0, 0), (6, 1, 1, 0), (7, 0, 0, 2), (7, 1, 0, 0), (7, 1, 1, 1)]
theorem edE2 : edg 2 S2 = ed2 := by decide +kernel
theorem all2 (a b : Int) (ha : 1 ≤ a) (hb : a ≤ b) : AllE [a, b] (tab2 a b) ed2 := by
  refine ⟨?_, ⟨?_, ⟨?_, ⟨?_, ⟨?_, ⟨?_, ⟨?_, trivial⟩⟩⟩⟩⟩⟩⟩
  · show 2*b ≤ b + (b); omega
  · show a + b ≤ a + (b); omega
  · show a ≤ a + (0); omega
  · show b ≤ b + (0); omega
  · show b ≤ a + (a + b); omega
  · show b ≤ b + (0); omega
  · show b ≤ b + (2*b); omega
theorem stp2 : ∀ s ∈ S2, ∀ p ∈ prs 2 s, nxt 2 s p ∈ S2 := by decide +kernel
theorem zer2 : ∀ s ∈ S2, s.1.sum = 0 → codeOf s = 0 ∨ codeOf s = 4 := by decide +kernel
theorem lenS2 : ∀ s ∈ S2, s.1.length = 2 := by decide +kernel
def cert2A (a b : Int) (ha : 1 ≤ a) (hb : a ≤ b) (out : Int) (ho : out ≤ b) (hq : b ≤ out) : Cert [a, b] out where
  S := S2
  pot := fun s => (tab2 a b).getD (codeOf s) 0
  P := fun k => [([1, 1], 1), ([0, 0], 0)].getD k ([], 0)
  c := fun k => [0, b].getD k 0
  m := 1
  hS32 := by show 8 ≤ 32; omega
  hS := lenS2
  hst := by show ([1, 1], 1) ∈ S2; decide +kernel
  hstep := stp2
  pot0 := ho
  potE := by
    intro s hs h0
    rcases zer2 s hs h0 with e | e
    · show (tab2 a b).getD (codeOf s) 0 ≤ 0; rw [e]; exact Int.le_refl _
    · show (tab2 a b).getD (codeOf s) 0 ≤ 0; rw [e]; exact Int.le_refl _
  potS := fun s hs h0 p hp => by
    have h := mem_edg (n := 2) hs h0 hp
    rw [edE2] at h
    exact Int.le_trans (allE_mem (all2 a b ha hb) _ h) (Int.add_le_add_right (Int.le_max_left _ _) _)
  p0 := rfl
  c0 := Int.le_refl 0
  pm := by decide
  cm := hq
  mono := by
    intro k hk
    rcases k with _ | k
    · show 0 ≤ b; omega
    · omega
  pS := by
    intro k hk
    rcases k with _ | k
    · exact ⟨(1, 0), by show ((1, 0) : Int × Int) ∈ prs 2 ([1, 1], 1); decide +kernel, by show nxt 2 ([1, 1], 1) (1, 0) = ([0, 0], 0); decide +kernel, by show 0 + max b a ≤ b; omega⟩
    · omega

def S3 : List Stt := [([0, 0, 0], 0), ([1, 0, 0], 0), ([0, 1, 0], 0), ([1, 1, 0], 0), ([0, 0, 1], 0), ([1, 0, 1], 0), ([0, 1, 1], 0), ([1, 1, 1], 0), ([0, 0, 0], 1), ([1, 0, 0], 1), ([0, 1, 0], 1), ([1, 1, 0], 1), ([0, 0, 1], 1), ([1, 0, 1], 1), ([0, 1, 1], 1), ([1, 1, 1], 1)]
def tab3 (a b c : Int) : List Int := [0, 2*b, a + b, a + b + 2*c, a + c, a + 2*b + c, 2*a + b + c, 0, 0, a, b, b, c, c, c, a + b + c]
def ed3 : List (Nat × Nat × Nat × Nat) := [(1, 1, 1, 11), (1, 2, 1, 15), (1, 2, 2, 13), (2, 0, 0, 11), (2, 2, 0, 15), (2, 2, 2, 14), (3, 2, 2, 15), (4, 0, 0, 13), (4, 1, 0, 15), (4, 1, 1, 14), (5, 1, 1, 15), (6, 0, 0, 15), (9, 0, 0, 0), (10, 1, 1, 0), (11, 0, 0, 2), (11, 1, 0, 0), (11, 1, 1, 1), (12, 2, 2, 0), (13, 0, 0, 4), (13, 2, 0, 0), (13, 2, 2, 1), (14, 1, 1, 4), (14, 2, 1, 0), (14, 2, 2, 2), (15, 0, 0, 6), (15, 1, 0, 4), (15, 1, 1, 5), (15, 2, 0, 2), (15, 2, 1, 1), (15, 2, 2, 3)]
theorem edE3 : edg 3 S3 = ed3 := by decide +kernel
theorem all3 (a b c : Int) (ha : 1 ≤ a) (hb : a ≤ b) (hc : b ≤ c) : AllE [a, b, c] (tab3 a b c) ed3 := by
  refine ⟨?_, ⟨?_, ⟨?_, ⟨?_, ⟨?_, ⟨?_, ⟨?_, ⟨?_, ⟨?_, ⟨?_, ⟨?_, ⟨?_, ⟨?_, ⟨?_, ⟨?_, ⟨?_, ⟨?_, ⟨?_, ⟨?_, ⟨?_, ⟨?_, ⟨?_, ⟨?_, ⟨?_, ⟨?_, ⟨?_, ⟨?_, ⟨?_, ⟨?_, ⟨?_, trivial⟩⟩⟩⟩⟩⟩⟩⟩⟩⟩⟩⟩⟩⟩⟩⟩⟩⟩⟩⟩⟩⟩⟩⟩⟩⟩⟩⟩⟩⟩
  · show 2*b ≤ b + (b); omega
  · show 2*b ≤ c + (a + b + c); omega
  · show 2*b ≤ c + (c); omega
  · show a + b ≤ a + (b); omega
  · show a + b ≤ c + (a + b + c); omega
  · show a + b ≤ c + (c); omega
  · show a + b + 2*c ≤ c + (a + b + c); omega
  · show a + c ≤ a + (c); omega
  · show a + c ≤ b + (a + b + c); omega
  · show a + c ≤ b + (c); omega
  · show a + 2*b + c ≤ b + (a + b + c); omega
  · show 2*a + b + c ≤ a + (a + b + c); omega
  · show a ≤ a + (0); omega
  · show b ≤ b + (0); omega
  · show b ≤ a + (a + b); omega
  · show b ≤ b + (0); omega
  · show b ≤ b + (2*b); omega
  · show c ≤ c + (0); omega
  · show c ≤ a + (a + c); omega
  · show c ≤ c + (0); omega
  · show c ≤ c + (2*b); omega
  · show c ≤ b + (a + c); omega
  · show c ≤ c + (0); omega
  · show c ≤ c + (a + b); omega
  · show a + b + c ≤ a + (2*a + b + c); omega
  · show a + b + c ≤ b + (a + c); omega
  · show a + b + c ≤ b + (a + 2*b + c); omega
  · show a + b + c ≤ c + (a + b); omega
  · show a + b + c ≤ c + (2*b); omega
  · show a + b + c ≤ c + (a + b + 2*c); omega
theorem stp3 : ∀ s ∈ S3, ∀ p ∈ prs 3 s, nxt 3 s p ∈ S3 := by decide +kernel
theorem zer3 : ∀ s ∈ S3, s.1.sum = 0 → codeOf s = 0 ∨ codeOf s = 8 := by decide +kernel
theorem lenS3 : ∀ s ∈ S3, s.1.length = 3 := by decide +kernel
def cert3A (a b c : Int) (ha : 1 ≤ a) (hb : a ≤ b) (hc : b ≤ c) (out : Int) (ho : out ≤ a + b + c) (hq : c + a + b ≤ out) : Cert [a, b, c] out where
  S := S3
  pot := fun s => (tab3 a b c).getD (codeOf s) 0
  P := fun k => [([1, 1, 1], 1), ([0, 1, 0], 0), ([1, 1, 0], 1), ([0, 0, 0], 0)].getD k ([], 0)
  c := fun k => [0, c, c + a, c + a + b].getD k 0
  m := 3
  hS32 := by show 16 ≤ 32; omega
  hS := lenS3
  hst := by show ([1, 1, 1], 1) ∈ S3; decide +kernel
  hstep := stp3
  pot0 := ho
  potE := by
    intro s hs h0
    rcases zer3 s hs h0 with e | e
    · show (tab3 a b c).getD (codeOf s) 0 ≤ 0; rw [e]; exact Int.le_refl _
    · show (tab3 a b c).getD (codeOf s) 0 ≤ 0; rw [e]; exact Int.le_refl _
  potS := fun s hs h0 p hp => by
    have h := mem_edg (n := 3) hs h0 hp
    rw [edE3] at h
    exact Int.le_trans (allE_mem (all3 a b c ha hb hc) _ h) (Int.add_le_add_right (Int.le_max_left _ _) _)
  p0 := rfl
  c0 := Int.le_refl 0
  pm := by decide
  cm := hq
  mono := by
    intro k hk
    rcases k with _ | _ | _ | k
    · show 0 ≤ c; omega
    · show c ≤ c + a; omega
    · show c + a ≤ c + a + b; omega
    · omega
  pS := by
    intro k hk
    rcases k with _ | _ | _ | k
    · exact ⟨(2, 0), by show ((2, 0) : Int × Int) ∈ prs 3 ([1, 1, 1], 1); decide +kernel, by show nxt 3 ([1, 1, 1], 1) (2, 0) = ([0, 1, 0], 0); decide +kernel, by show 0 + max c a ≤ c; omega⟩
    · exact ⟨(0, 0), by show ((0, 0) : Int × Int) ∈ prs 3 ([0, 1, 0], 0); decide +kernel, by show nxt 3 ([0, 1, 0], 0) (0, 0) = ([1, 1, 0], 1); decide +kernel, by show c + max a a ≤ c + a; omega⟩
    · exact ⟨(1, 0), by show ((1, 0) : Int × Int) ∈ prs 3 ([1, 1, 0], 1); decide +kernel, by show nxt 3 ([1, 1, 0], 1) (1, 0) = ([0, 0, 0], 0); decide +kernel, by show c + a + max b a ≤ c + a + b; omega⟩
    · omega

def S4 : List Stt := [([0, 0, 0, 0], 0), ([1, 0, 0, 0], 0), ([0, 1, 0, 0], 0), ([1, 1, 0, 0], 0), ([0, 0, 1, 0], 0), ([1, 0, 1, 0], 0), ([0, 1, 1, 0], 0), ([1, 1, 1, 0], 0), ([0, 0, 0, 1], 0), ([1, 0, 0, 1], 0), ([0, 1, 0, 1], 0), ([1, 1, 0, 1], 0), ([0, 0, 1, 1], 0), ([1, 0, 1, 1], 0), ([0, 1, 1, 1], 0), ([1, 1, 1, 1], 0), ([0, 0, 0, 0], 1), ([1, 0, 0, 0], 1), ([0, 1, 0, 0], 1), ([1, 1, 0, 0], 1), ([0, 0, 1, 0], 1), ([1, 0, 1, 0], 1), ([0, 1, 1, 0], 1), ([1, 1, 1, 0], 1), ([0, 0, 0, 1], 1), ([1, 0, 0, 1], 1), ([0, 1, 0, 1], 1), ([1, 1, 0, 1], 1), ([0, 0, 1, 1], 1), ([1, 0, 1, 1], 1), ([0, 1, 1, 1], 1), ([1, 1, 1, 1], 1)]
def tab4 (a b c d : Int) : List Int := [0, 2*b, a + b, a + b + 2*c, a + c, a + 2*b + c, 2*a + b + c, d + (min (a + 3*b + d) (2*a + b + c + d)), a + d, a + 2*b + d, 2*a + b + d, c + (min (a + 3*b + d) (2*a + b + c + d)), min (2*a + c + d) (a + 2*b + d), b + (min (a + 3*b + d) (2*a + b + c + d)), a + (min (a + 3*b + d) (2*a + b + c + d)), 0, 0, a, b, b, c, c, c, a + b + c, d, d, d, a + b + d, d, min (a + c + d) (2*b + d), a + b + d, min (a + 3*b + d) (2*a + b + c + d)]
def ed4 : List (Nat × Nat × Nat × Nat) := [(1, 1, 1, 19), (1, 2, 1, 23), (1, 2, 2, 21), (1, 3, 1, 27), (1, 3, 2, 29), (1, 3, 3, 25), (2, 0, 0, 19), (2, 2, 0, 23), (2, 2, 2, 22), (2, 3, 0, 27), (2, 3, 2, 30), (2, 3, 3, 26), (3, 2, 2, 23), (3, 3, 2, 31), (3, 3, 3, 27), (4, 0, 0, 21), (4, 1, 0, 23), (4, 1, 1, 22), (4, 3, 0, 29), (4, 3, 1, 30), (4, 3, 3, 28), (5, 1, 1, 23), (5, 3, 1, 31), (5, 3, 3, 29), (6, 0, 0, 23), (6, 3, 0, 31), (6, 3, 3, 30), (7, 3, 3, 31), (8, 0, 0, 25), (8, 1, 0, 27), (8, 1, 1, 26), (8, 2, 0, 29), (8, 2, 1, 30), (8, 2, 2, 28), (9, 1, 1, 27), (9, 2, 1, 31), (9, 2, 2, 29), (10, 0, 0, 27), (10, 2, 0, 31), (10, 2, 2, 30), (11, 2, 2, 31), (12, 0, 0, 29), (12, 1, 0, 31), (12, 1, 1, 30), (13, 1, 1, 31), (14, 0, 0, 31), (17, 0, 0, 0), (18, 1, 1, 0), (19, 0, 0, 2), (19, 1, 0, 0), (19, 1, 1, 1), (20, 2, 2, 0), (21, 0, 0, 4), (21, 2, 0, 0), (21, 2, 2, 1), (22, 1, 1, 4), (22, 2, 1, 0), (22, 2, 2, 2), (23, 0, 0, 6), (23, 1, 0, 4), (23, 1, 1, 5), (23, 2, 0, 2), (23, 2, 1, 1), (23, 2, 2, 3), (24, 3, 3, 0), (25, 0, 0, 8), (25, 3, 0, 0), (25, 3, 3, 1), (26, 1, 1, 8), (26, 3, 1, 0), (26, 3, 3, 2), (27, 0, 0, 10), (27, 1, 0, 8), (27, 1, 1, 9), (27, 3, 0, 2), (27, 3, 1, 1), (27, 3, 3, 3), (28, 2, 2, 8), (28, 3, 2, 0), (28, 3, 3, 4), (29, 0, 0, 12), (29, 2, 0, 8), (29, 2, 2, 9), (29, 3, 0, 4), (29, 3, 2, 1), (29, 3, 3, 5), (30, 1, 1, 12), (30, 2, 1, 8), (30, 2, 2, 10), (30, 3, 1, 4), (30, 3, 2, 2), (30, 3, 3, 6), (31, 0, 0, 14), (31, 1, 0, 12), (31, 1, 1, 13), (31, 2, 0, 10), (31, 2, 1, 9), (31, 2, 2, 11), (31, 3, 0, 6), (31, 3, 1, 5), (31, 3, 2, 3), (31, 3, 3, 7)]
theorem edE4 : edg 4 S4 = ed4 := by decide +kernel
theorem all4 (a b c d : Int) (ha : 1 ≤ a) (hb : a ≤ b) (hc : b ≤ c) (hd : c ≤ d) : AllE [a, b, c, d] (tab4 a b c d) ed4 := by
  refine ⟨?_, ⟨?_, ⟨?_, ⟨?_, ⟨?_, ⟨?_, ⟨?_, ⟨?_, ⟨?_, ⟨?_, ⟨?_, ⟨?_, ⟨?_, ⟨?_, ⟨?_, ⟨?_, ⟨?_, ⟨?_, ⟨?_, ⟨?_, ⟨?_, ⟨?_, ⟨?_, ⟨?_, ⟨?_, ⟨?_, ⟨?_, ⟨?_, ⟨?_, ⟨?_, ⟨?_, ⟨?_, ⟨?_, ⟨?_, ⟨?_, ⟨?_, ⟨?_, ⟨?_, ⟨?_, ⟨?_, ⟨?_, ⟨?_, ⟨?_, ⟨?_, ⟨?_, ⟨?_, ⟨?_, ⟨?_, ⟨?_, ⟨?_, ⟨?_, ⟨?_, ⟨?_, ⟨?_, ⟨?_, ⟨?_, ⟨?_, ⟨?_, ⟨?_, ⟨?_, ⟨?_, ⟨?_, ⟨?_, ⟨?_, ⟨?_, ⟨?_, ⟨?_, ⟨?_, ⟨?_, ⟨?_, ⟨?_, ⟨?_, ⟨?_, ⟨?_, ⟨?_, ⟨?_, ⟨?_, ⟨?_, ⟨?_, ⟨?_, ⟨?_, ⟨?_, ⟨?_, ⟨?_, ⟨?_, ⟨?_, ⟨?_, ⟨?_, ⟨?_, ⟨?_, ⟨?_, ⟨?_, ⟨?_, ⟨?_, ⟨?_, ⟨?_, ⟨?_, ⟨?_, ⟨?_, ⟨?_, ⟨?_, ⟨?_, trivial⟩⟩⟩⟩⟩⟩⟩⟩⟩⟩⟩⟩⟩⟩⟩⟩⟩⟩⟩⟩⟩⟩⟩⟩⟩⟩⟩⟩⟩⟩⟩⟩⟩⟩⟩⟩⟩⟩⟩⟩⟩⟩⟩⟩⟩⟩⟩⟩⟩⟩⟩⟩⟩⟩⟩⟩⟩⟩⟩⟩⟩⟩⟩⟩⟩⟩⟩⟩⟩⟩⟩⟩⟩⟩⟩⟩⟩⟩⟩⟩⟩⟩⟩⟩⟩⟩⟩⟩⟩⟩⟩⟩⟩⟩⟩⟩⟩⟩⟩⟩⟩⟩
  · show 2*b ≤ b + (b); omega
  · show 2*b ≤ c + (a + b + c); omega
  · show 2*b ≤ c + (c); omega
  · show 2*b ≤ d + (a + b + d); omega
  · show 2*b ≤ d + (min (a + c + d) (2*b + d)); omega
  · show 2*b ≤ d + (d); omega
  · show a + b ≤ a + (b); omega
  · show a + b ≤ c + (a + b + c); omega
  · show a + b ≤ c + (c); omega
  · show a + b ≤ d + (a + b + d); omega
  · show a + b ≤ d + (a + b + d); omega
  · show a + b ≤ d + (d); omega
  · show a + b + 2*c ≤ c + (a + b + c); omega
  · show a + b + 2*c ≤ d + (min (a + 3*b + d) (2*a + b + c + d)); omega
  · show a + b + 2*c ≤ d + (a + b + d); omega
  · show a + c ≤ a + (c); omega
  · show a + c ≤ b + (a + b + c); omega
  · show a + c ≤ b + (c); omega
  · show a + c ≤ d + (min (a + c + d) (2*b + d)); omega
  · show a + c ≤ d + (a + b + d); omega
  · show a + c ≤ d + (d); omega
  · show a + 2*b + c ≤ b + (a + b + c); omega
  · show a + 2*b + c ≤ d + (min (a + 3*b + d) (2*a + b + c + d)); omega
  · show a + 2*b + c ≤ d + (min (a + c + d) (2*b + d)); omega
  · show 2*a + b + c ≤ a + (a + b + c); omega
  · show 2*a + b + c ≤ d + (min (a + 3*b + d) (2*a + b + c + d)); omega
  · show 2*a + b + c ≤ d + (a + b + d); omega
  · show d + (min (a + 3*b + d) (2*a + b + c + d)) ≤ d + (min (a + 3*b + d) (2*a + b + c + d)); omega
  · show a + d ≤ a + (d); omega
  · show a + d ≤ b + (a + b + d); omega
  · show a + d ≤ b + (d); omega
  · show a + d ≤ c + (min (a + c + d) (2*b + d)); omega
  · show a + d ≤ c + (a + b + d); omega
  · show a + d ≤ c + (d); omega
  · show a + 2*b + d ≤ b + (a + b + d); omega
  · show a + 2*b + d ≤ c + (min (a + 3*b + d) (2*a + b + c + d)); omega
  · show a + 2*b + d ≤ c + (min (a + c + d) (2*b + d)); omega
  · show 2*a + b + d ≤ a + (a + b + d); omega
  · show 2*a + b + d ≤ c + (min (a + 3*b + d) (2*a + b + c + d)); omega
  · show 2*a + b + d ≤ c + (a + b + d); omega
  · show c + (min (a + 3*b + d) (2*a + b + c + d)) ≤ c + (min (a + 3*b + d) (2*a + b + c + d)); omega
  · show min (2*a + c + d) (a + 2*b + d) ≤ a + (min (a + c + d) (2*b + d)); omega
  · show min (2*a + c + d) (a + 2*b + d) ≤ b + (min (a + 3*b + d) (2*a + b + c + d)); omega
  · show min (2*a + c + d) (a + 2*b + d) ≤ b + (a + b + d); omega
  · show b + (min (a + 3*b + d) (2*a + b + c + d)) ≤ b + (min (a + 3*b + d) (2*a + b + c + d)); omega
  · show a + (min (a + 3*b + d) (2*a + b + c + d)) ≤ a + (min (a + 3*b + d) (2*a + b + c + d)); omega
  · show a ≤ a + (0); omega
  · show b ≤ b + (0); omega
  · show b ≤ a + (a + b); omega
  · show b ≤ b + (0); omega
  · show b ≤ b + (2*b); omega
  · show c ≤ c + (0); omega
  · show c ≤ a + (a + c); omega
  · show c ≤ c + (0); omega
  · show c ≤ c + (2*b); omega
  · show c ≤ b + (a + c); omega
  · show c ≤ c + (0); omega
  · show c ≤ c + (a + b); omega
  · show a + b + c ≤ a + (2*a + b + c); omega
  · show a + b + c ≤ b + (a + c); omega
  · show a + b + c ≤ b + (a + 2*b + c); omega
  · show a + b + c ≤ c + (a + b); omega
  · show a + b + c ≤ c + (2*b); omega
  · show a + b + c ≤ c + (a + b + 2*c); omega
  · show d ≤ d + (0); omega
  · show d ≤ a + (a + d); omega
  · show d ≤ d + (0); omega
  · show d ≤ d + (2*b); omega
  · show d ≤ b + (a + d); omega
  · show d ≤ d + (0); omega
  · show d ≤ d + (a + b); omega
  · show a + b + d ≤ a + (2*a + b + d); omega
  · show a + b + d ≤ b + (a + d); omega
  · show a + b + d ≤ b + (a + 2*b + d); omega
  · show a + b + d ≤ d + (a + b); omega
  · show a + b + d ≤ d + (2*b); omega
  · show a + b + d ≤ d + (a + b + 2*c); omega
  · show d ≤ c + (a + d); omega
  · show d ≤ d + (0); omega
  · show d ≤ d + (a + c); omega
  · show min (a + c + d) (2*b + d) ≤ a + (min (2*a + c + d) (a + 2*b + d)); omega
  · show min (a + c + d) (2*b + d) ≤ c + (a + d); omega
  · show min (a + c + d) (2*b + d) ≤ c + (a + 2*b + d); omega
  · show min (a + c + d) (2*b + d) ≤ d + (a + c); omega
  · show min (a + c + d) (2*b + d) ≤ d + (2*b); omega
  · show min (a + c + d) (2*b + d) ≤ d + (a + 2*b + c); omega
  · show a + b + d ≤ b + (min (2*a + c + d) (a + 2*b + d)); omega
  · show a + b + d ≤ c + (a + d); omega
  · show a + b + d ≤ c + (2*a + b + d); omega
  · show a + b + d ≤ d + (a + c); omega
  · show a + b + d ≤ d + (a + b); omega
  · show a + b + d ≤ d + (2*a + b + c); omega
  · show min (a + 3*b + d) (2*a + b + c + d) ≤ a + (a + (min (a + 3*b + d) (2*a + b + c + d))); omega
  · show min (a + 3*b + d) (2*a + b + c + d) ≤ b + (min (2*a + c + d) (a + 2*b + d)); omega
  · show min (a + 3*b + d) (2*a + b + c + d) ≤ b + (b + (min (a + 3*b + d) (2*a + b + c + d))); omega
  · show min (a + 3*b + d) (2*a + b + c + d) ≤ c + (2*a + b + d); omega
  · show min (a + 3*b + d) (2*a + b + c + d) ≤ c + (a + 2*b + d); omega
  · show min (a + 3*b + d) (2*a + b + c + d) ≤ c + (c + (min (a + 3*b + d) (2*a + b + c + d))); omega
  · show min (a + 3*b + d) (2*a + b + c + d) ≤ d + (2*a + b + c); omega
  · show min (a + 3*b + d) (2*a + b + c + d) ≤ d + (a + 2*b + c); omega
  · show min (a + 3*b + d) (2*a + b + c + d) ≤ d + (a + b + 2*c); omega
  · show min (a + 3*b + d) (2*a + b + c + d) ≤ d + (d + (min (a + 3*b + d) (2*a + b + c + d))); omega
theorem stp4 : ∀ s ∈ S4, ∀ p ∈ prs 4 s, nxt 4 s p ∈ S4 := by decide +kernel
theorem zer4 : ∀ s ∈ S4, s.1.sum = 0 → codeOf s = 0 ∨ codeOf s = 16 := by decide +kernel
theorem lenS4 : ∀ s ∈ S4, s.1.length = 4 := by decide +kernel
def cert4A (a b c d : Int) (ha : 1 ≤ a) (hb : a ≤ b) (hc : b ≤ c) (hd : c ≤ d) (out : Int) (ho : out ≤ min (a + 3*b + d) (2*a + b + c + d)) (hq : b + a + d + b + b ≤ out) : Cert [a, b, c, d] out where
  S := S4
  pot := fun s => (tab4 a b c d).getD (codeOf s) 0
  P := fun k => [([1, 1, 1, 1], 1), ([0, 0, 1, 1], 0), ([1, 0, 1, 1], 1), ([1, 0, 0, 0], 0), ([1, 1, 0, 0], 1), ([0, 0, 0, 0], 0)].getD k ([], 0)
  c := fun k => [0, b, b + a, b + a + d, b + a + d + b, b + a + d + b + b].getD k 0
  m := 5
  hS32 := by show 32 ≤ 32; omega
  hS := lenS4
  hst := by show ([1, 1, 1, 1], 1) ∈ S4; decide +kernel
  hstep := stp4
  pot0 := ho
  potE := by
    intro s hs h0
    rcases zer4 s hs h0 with e | e
    · show (tab4 a b c d).getD (codeOf s) 0 ≤ 0; rw [e]; exact Int.le_refl _
    · show (tab4 a b c d).getD (codeOf s) 0 ≤ 0; rw [e]; exact Int.le_refl _
  potS := fun s hs h0 p hp => by
    have h := mem_edg (n := 4) hs h0 hp
    rw [edE4] at h
    exact Int.le_trans (allE_mem (all4 a b c d ha hb hc hd) _ h) (Int.add_le_add_right (Int.le_max_left _ _) _)
  p0 := rfl
  c0 := Int.le_refl 0
  pm := by decide
  cm := hq
  mono := by
    intro k hk
    rcases k with _ | _ | _ | _ | _ | k
    · show 0 ≤ b; omega
    · show b ≤ b + a; omega
    · show b + a ≤ b + a + d; omega
    · show b + a + d ≤ b + a + d + b; omega
    · show b + a + d + b ≤ b + a + d + b + b; omega
    · omega
  pS := by
    intro k hk
    rcases k with _ | _ | _ | _ | _ | k
    · exact ⟨(1, 0), by show ((1, 0) : Int × Int) ∈ prs 4 ([1, 1, 1, 1], 1); decide +kernel, by show nxt 4 ([1, 1, 1, 1], 1) (1, 0) = ([0, 0, 1, 1], 0); decide +kernel, by show 0 + max b a ≤ b; omega⟩
    · exact ⟨(0, 0), by show ((0, 0) : Int × Int) ∈ prs 4 ([0, 0, 1, 1], 0); decide +kernel, by show nxt 4 ([0, 0, 1, 1], 0) (0, 0) = ([1, 0, 1, 1], 1); decide +kernel, by show b + max a a ≤ b + a; omega⟩
    · exact ⟨(3, 2), by show ((3, 2) : Int × Int) ∈ prs 4 ([1, 0, 1, 1], 1); decide +kernel, by show nxt 4 ([1, 0, 1, 1], 1) (3, 2) = ([1, 0, 0, 0], 0); decide +kernel, by show b + a + max d c ≤ b + a + d; omega⟩
    · exact ⟨(1, 1), by show ((1, 1) : Int × Int) ∈ prs 4 ([1, 0, 0, 0], 0); decide +kernel, by show nxt 4 ([1, 0, 0, 0], 0) (1, 1) = ([1, 1, 0, 0], 1); decide +kernel, by show b + a + d + max b b ≤ b + a + d + b; omega⟩
    · exact ⟨(1, 0), by show ((1, 0) : Int × Int) ∈ prs 4 ([1, 1, 0, 0], 1); decide +kernel, by show nxt 4 ([1, 1, 0, 0], 1) (1, 0) = ([0, 0, 0, 0], 0); decide +kernel, by show b + a + d + b + max b a ≤ b + a + d + b + b; omega⟩
    · omega
def cert4B (a b c d : Int) (ha : 1 ≤ a) (hb : a ≤ b) (hc : b ≤ c) (hd : c ≤ d) (out : Int) (ho : out ≤ min (a + 3*b + d) (2*a + b + c + d)) (hq : d + a + c + a + b ≤ out) : Cert [a, b, c, d] out where
  S := S4
  pot := fun s => (tab4 a b c d).getD (codeOf s) 0
  P := fun k => [([1, 1, 1, 1], 1), ([0, 1, 1, 0], 0), ([1, 1, 1, 0], 1), ([0, 1, 0, 0], 0), ([1, 1, 0, 0], 1), ([0, 0, 0, 0], 0)].getD k ([], 0)
  c := fun k => [0, d, d + a, d + a + c, d + a + c + a, d + a + c + a + b].getD k 0
  m := 5
  hS32 := by show 32 ≤ 32; omega
  hS := lenS4
  hst := by show ([1, 1, 1, 1], 1) ∈ S4; decide +kernel
  hstep := stp4
  pot0 := ho
  potE := by
    intro s hs h0
    rcases zer4 s hs h0 with e | e
    · show (tab4 a b c d).getD (codeOf s) 0 ≤ 0; rw [e]; exact Int.le_refl _
    · show (tab4 a b c d).getD (codeOf s) 0 ≤ 0; rw [e]; exact Int.le_refl _
  potS := fun s hs h0 p hp => by
    have h := mem_edg (n := 4) hs h0 hp
    rw [edE4] at h
    exact Int.le_trans (allE_mem (all4 a b c d ha hb hc hd) _ h) (Int.add_le_add_right (Int.le_max_left _ _) _)
  p0 := rfl
  c0 := Int.le_refl 0
  pm := by decide
  cm := hq
  mono := by
    intro k hk
    rcases k with _ | _ | _ | _ | _ | k
    · show 0 ≤ d; omega
    · show d ≤ d + a; omega
    · show d + a ≤ d + a + c; omega
    · show d + a + c ≤ d + a + c + a; omega
    · show d + a + c + a ≤ d + a + c + a + b; omega
    · omega
  pS := by
    intro k hk
    rcases k with _ | _ | _ | _ | _ | k
    · exact ⟨(3, 0), by show ((3, 0) : Int × Int) ∈ prs 4 ([1, 1, 1, 1], 1); decide +kernel, by show nxt 4 ([1, 1, 1, 1], 1) (3, 0) = ([0, 1, 1, 0], 0); decide +kernel, by show 0 + max d a ≤ d; omega⟩
    · exact ⟨(0, 0), by show ((0, 0) : Int × Int) ∈ prs 4 ([0, 1, 1, 0], 0); decide +kernel, by show nxt 4 ([0, 1, 1, 0], 0) (0, 0) = ([1, 1, 1, 0], 1); decide +kernel, by show d + max a a ≤ d + a; omega⟩
    · exact ⟨(2, 0), by show ((2, 0) : Int × Int) ∈ prs 4 ([1, 1, 1, 0], 1); decide +kernel, by show nxt 4 ([1, 1, 1, 0], 1) (2, 0) = ([0, 1, 0, 0], 0); decide +kernel, by show d + a + max c a ≤ d + a + c; omega⟩
    · exact ⟨(0, 0), by show ((0, 0) : Int × Int) ∈ prs 4 ([0, 1, 0, 0], 0); decide +kernel, by show nxt 4 ([0, 1, 0, 0], 0) (0, 0) = ([1, 1, 0, 0], 1); decide +kernel, by show d + a + c + max a a ≤ d + a + c + a; omega⟩
    · exact ⟨(1, 0), by show ((1, 0) : Int × Int) ∈ prs 4 ([1, 1, 0, 0], 1); decide +kernel, by show nxt 4 ([1, 1, 0, 0], 1) (1, 0) = ([0, 0, 0, 0], 0); decide +kernel, by show d + a + c + a + max b a ≤ d + a + c + a + b; omega⟩
    · omega

theorem thr_ok {zs : List Int} (hs : zs.Pairwise (· ≤ ·)) (hr : ∀ n ∈ zs, 1 ≤ n ∧ n ≤ 9) (hl : zs.length ≤ 4) (h0 : zs ≠ []) : ∃ I, ThrOk zs I (toldS zs) := by
  rcases zs with _ | ⟨a, _ | ⟨b, _ | ⟨c, _ | ⟨d, _ | ⟨e, nr⟩⟩⟩⟩⟩
  · exact absurd rfl h0
  · simp only [List.mem_cons, List.not_mem_nil, or_false, forall_eq] at hr
    exact cert_thr (cert1A a (by omega) _ (by simp only [toldS]; omega) (by simp only [toldS]; omega)) hl
  · simp only [List.mem_cons, List.not_mem_nil, or_false, forall_eq_or_imp, forall_eq, List.pairwise_cons] at hr hs
    exact cert_thr (cert2A a b (by omega) (by omega) _ (by simp only [toldS]; omega) (by simp only [toldS]; omega)) hl
  · simp only [List.mem_cons, List.not_mem_nil, or_false, forall_eq_or_imp, forall_eq, List.pairwise_cons] at hr hs
    exact cert_thr (cert3A a b c (by omega) (by omega) (by omega) _ (by simp only [toldS]; omega) (by simp only [toldS]; omega)) hl
  · simp only [List.mem_cons, List.not_mem_nil, or_false, forall_eq_or_imp, forall_eq, List.pairwise_cons] at hr hs
    by_cases h : a + 3 * b + d ≤ 2 * a + b + c + d
    · exact cert_thr (cert4A a b c d (by omega) (by omega) (by omega) (by omega) _ (by simp only [toldS]; omega) (by simp only [toldS]; omega)) hl
    · exact cert_thr (cert4B a b c d (by omega) (by omega) (by omega) (by omega) _ (by simp only [toldS]; omega) (by simp only [toldS]; omega)) hl
  · simp only [List.length_cons] at hl; omega
end Mine

namespace Mine

local macro_rules | `(tactic| kp_kind "stop") => `(tactic| first
  | (with_reducible show wpAny _ _ (call (Value.ref 23) _) _ _ _)
  | (with_reducible show wpAny _ _ (call (Value.ref 67) _) _ _ _)
  | (with_reducible show wpAny _ _ (call (Value.ref 72) _) _ _ _)
  | (with_reducible show wpAny _ _ (exec (Stmt.Assign [_] (Expr.BinOp _ _ _ _) _) _) _ _ _)
  | (with_reducible show wpAny _ _ (exec (Stmt.For (Expr.Name _ _) _ _ _ _) _) _ _ _)
  | (with_reducible show wpAny _ _ (eval (Expr.ListComp _ _ _ _) _) _ _ _)
  | (with_reducible show LCg.FinA _ _ _ _ _ _ _ _)
  | (with_reducible show LCg.FinE _ _ _ _ _ _ _)
  | (with_reducible show LCt.CompSrcT _ _ _ _ _ _ _ _ _ _ _ _ _ _ _)
  | (with_reducible show LCg.CompSrc _ _ _ _ _ _ _ _ _ _ _ _ _ _))

local macro_rules | `(tactic| k_steps) => `(tactic| repeat' (first | (k_unfold; (try dsimp only)) | (k_end; kc_close) | ((fail_if_success kp_kind "stop"); walk1) | ((fail_if_success kp_kind "stop"); dsimp only; walk1) | (leave1; walk_say "STEP leave1"; try dsimp only) | fail "no step"))

local macro_rules | `(tactic| lge_steps) => `(tactic| repeat' (first | (k_unfold; (try dsimp only)) | ((fail_if_success kp_kind "stop"); walk1) | ((fail_if_success kp_kind "stop"); dsimp only; walk1) | (leave1; walk_say "STEP leave1"; try dsimp only) | fail "no step"))

set_option maxHeartbeats 8000000 in
theorem law_x : PySem.Challenge.rw_ie0001_01.Holds := Mine.hd (by
  k_go0
  (all_goals try k_fold)
  k_steps
  refine wpAny_For ?_
  k_steps
  rename Shared => s1
  rename World => ww
  rename_i o2 oX d2 dX X0 M h2 lm h3 oT dT SL ws hh F1 N1 hws hC hL lsl
  obtain ⟨m1, F1'⟩ := fr_any F1
  clear F1
  refine for_list (l := SL) (us := ws) (nn := 0) (fun i => LawJ M [(SL, listOf ws.toArray 0), (s1.heap.objs.size+1+1, o2), (s1.heap.objs.size+1, oT)] i) (by rfl) F1' (news := (M, listOf [].toArray 0) :: (SL, listOf ws.toArray 0) :: (s1.heap.objs.size+1+1, o2) :: (s1.heap.objs.size+1, oT) :: []) (fun p hp => N1 p (by simp only [List.mem_cons, List.not_mem_nil, or_false] at hp ⊢; rcases hp with h | h | h | h <;> simp [h])) ⟨[], [], 0, rfl, .nil, .nil, by simp, rfl⟩ ?hJl ?turn ?done
  case hJl =>
    rintro i m nx ⟨us, ns, nn, rfl, _⟩
    exact .tail _ (.head _)
  case turn =>
    rintro i v m₁ nx I oI h20 tk20 hv ⟨us, ns, nn, rfl, hus, hsrt, hrng, hlen⟩ hI hcI F2 N2
    replace F2 : Fr _ _ _ _ := F2
    obtain ⟨n, tn, rfl, hn⟩ := IntsAre.at hws i v hv
    k_steps
    rename Fr _ _ _ _ => F3
    rename News _ _ _ _ => N3
    have hlw : us.length ≤ 100000 := by
      have h1 := (List.getElem?_eq_some_iff.mp hn).1
      have h2 := hus.length
      rw [List.length_take] at h1
      omega
    refine insort_ct ww _ _ _ _ _ _ _ _ _ _ _ _ _ _ _ _ _ [(I, oI), (SL, listOf ws.toArray 0), (s1.heap.objs.size+1+1, o2), (s1.heap.objs.size+1, oT)] M us nn _ (fun i => decide (ns.getD i 0 < 1 + n.fmod 9)) (by k_asm) F3 (fun p hp => N3 p (by simp only [List.mem_cons, List.not_mem_nil, or_false] at hp ⊢; rcases hp with h | h | h | h | h <;> simp [h])) (by k_asm) (by rfl) ?hr hlw ?hlt (by decide) (by decide) ?hret (by assumption)
    case hr =>
      have h1 := hI _ (.head _)
      simp only at h1
      intro p hp
      simp only [List.mem_cons, List.not_mem_nil, or_false] at hp
      rcases hp with rfl | rfl | rfl | rfl
      · exact fun e => h1 e.symm
      · refine neN ?_; simp only; omega
      · refine neN ?_; simp only; omega
      · refine neN ?_; simp only; omega
    case hlt =>
      intro i hi A E' hh1 L1 ss Q' _ _ hQ
      exact lt_ints hus i hi hQ
    case hret =>
      intro r h4 tk4 hb F4 N4
      (try k_fold)
      k_steps
      rename Fr _ _ _ _ => F5
      rename News _ _ _ _ => N5
      rw [hus.length] at hb
      refine ForEnd.mk F5 (news_swap N5) (fun p hp => ?_) ⟨_, _, _, rfl, ints_ins hus r, srt_ins hsrt hb, rng_ins hrng (fm9 n), ?_⟩
      · simp only [List.mem_cons, List.not_mem_nil, or_false] at hp
        rcases hp with rfl | rfl | rfl | rfl
        · exact hI (M, listOf us.toArray nn) (.head _)
        · exact hI _ (.tail _ (.head _))
        · exact hI _ (.tail _ (.tail _ (.head _)))
        · exact hI _ (.tail _ (.tail _ (.tail _ (.head _))))
      · simp only [List.length_append, List.length_cons, List.length_take, List.length_drop]; omega
  case done =>
    rintro m₁ nx h20 tk20 ⟨us, ns, nn, rfl, hus, hsrt, hrng, hlen⟩ F2 N2
    replace F2 : Fr _ _ _ _ := F2
    have hl4 : ns.length ≤ 4 := by
      rw [hlen, hws.length, List.length_take]; omega
    clear hlen hC hL hws
    have hul := hus.length
    dsimp only
    k_steps
    k_dflt (refine LCt.ListComp_T (F₀ := by k_asm) (by with_unfolding_all rfl) (by decide) (by rfl) (by decide) (by rfl) ?_)
    k_steps
    rename Fr _ _ _ _ => F21
    rename News _ _ _ _ => N21
    refine LCt.CompSrcT.range (by rfl) F21 N21 (by assumption) (by exact small_one (by decide) (by decide) (by omega) (by omega)) (by exact rangeSize_nat _ _) (by rw [PySem.sizeLine_eq]; omega) ?_
    intro g22
    refine kci_range (fun l _ => l) (fun k' t' I' oI' C' oC' D' m' ys' l' h' tk' E' hlo' hhi' hI' hC' hx' F' N' off' ne' _ => ?_) ?_ ?_
    · k_steps
      refine wpAny_For ?_
      k_steps
      rename Fr _ _ _ _ => F23
      rename News _ _ _ _ => N23
      refine for_tup (us := [_]) (nn := 0) (Once _ _) (by rfl) F23 N23 ⟨fun _ => rfl, rfl⟩ (fun i m nx h => by rw [h.2]; kcf_m) ?_ ?_ (fun v hv => ⟨_, List.mem_singleton.mp hv⟩)
      · rintro i v m₂ nx I2 oI2 h24 tk24 hv hJ hI2 hc2 F24 N24
        obtain ⟨hm, rfl⟩ := hJ
        rcases i with _ | i
        · have hm2 := hm rfl
          subst hm2
          clear hm
          cases hv
          replace F24 : Fr _ _ _ _ := F24
          k_steps
          · dsimp only [ForEnd]
            k_steps
            rename Fr _ _ _ _ => F25
            rename News _ _ _ _ => N25
            exact ⟨_, _, _, rfl, F25, fun p hp => N25 p (by kcf_m), off', trivial, rfl, rfl⟩
          · rename ns.getD k'.toNat 0 < _ => hz
            have := ksl_le hsrt (i := (k'-1).toNat) (j := k'.toNat) (by omega) (by omega)
            omega
          · rename Fr _ _ _ _ => F25
            rename News _ _ _ _ => N25
            exact ForEnd.mk F25 N25 hI2 ⟨fun h => absurd h (by decide), rfl⟩
        · simp at hv
      · rintro m₂ nx h24 tk24 hJ F24 N24
        obtain ⟨hm, rfl⟩ := hJ
        clear hm
        replace F24 : Fr _ _ _ _ := F24
        dsimp only
        k_steps
        rename Fr _ _ _ _ => F25
        rename News _ _ _ _ => N25
        exact ⟨_, _, _, rfl, F25, fun p hp => N25 p (by kcf_m), off', trivial, rfl, rfl⟩
    · unfold KPfDone
      intro zs hzs hzl
      rw [foldl_same] at hzs
      have := ints_nil hzs
      subst this
      clear hzs hzl
      k_steps
      intro Z h26 tk26 F26 N26 off26
      k_steps
      refine wpAny_For ?_
      k_steps
      rename Fr _ _ _ _ => F27
      rename News _ _ _ _ => N27
      refine for_tup (us := [_]) (nn := 0) (Only0 _ _) (by rfl) F27 N27 ⟨rfl, rfl, rfl⟩ (fun i m nx h => by rw [h.2.2]; kcf_m) ?_ ?_ (fun v hv => ⟨_, List.mem_singleton.mp hv⟩)
      · rintro i v m₂ nx I2 oI2 h24 tk24 hv hJ hI2 hc2 F24 N24
        obtain ⟨rfl, rfl, rfl⟩ := hJ
        cases hv
        replace F24 : Fr _ _ _ _ := F24
        k_steps
        dsimp only [ForEnd]
        k_steps
        rename List Int => zs
        rename Fr _ _ _ _ => F30
        rename News _ _ _ _ => N30
        refine told_ct ww _ _ _ _ _ _ _ _ _ _ _ _ _ _ _ _ _ _ M us zs nn (by k_asm) F30 N30 (by k_asm) (by rfl) (by kcf_m) hus (by omega) (by decide) (by decide) (fun t31 h31 tk31 q pq sq F31 N31 => ?_) (by assumption)
        rw [lks_uniq pq sq hsrt]
        clear pq sq
        k_steps
        rename decide (zs = []) = false => hz
        have h0 : zs ≠ [] := of_decide_eq_false hz
        clear hz
        rename Fr _ _ _ _ => F32
        rename News _ _ _ _ => N32
        obtain ⟨IT, KT⟩ := thr_ok hsrt hrng hl4 h0
        refine through_ct ww _ _ _ _ _ _ _ _ _ _ _ _ _ _ _ _ _ _ M us zs nn IT (toldS zs) KT (by k_asm) F32 N32 (by k_asm) (by rfl) (by kcf_m) hus (by omega) (by decide) (by decide) (fun t33 h33 tk33 F33 N33 => ?_) (by assumption)
        clear KT
        k_steps
        k_dflt (refine LCg.ListComp_U (F₀ := by k_asm) (by with_unfolding_all rfl) (by decide) (by rfl) (by decide) (by rfl) ?_)
        k_steps
        rename Fr _ _ _ _ => F34
        rename News _ _ _ _ => N34
        refine LCg.CompSrc.ledger (ax := M) (its := us.toArray) (k := nn) (by rfl) F34 N34 (by kcf_m) (by rw [PySem.sizeLine_eq, List.size_toArray]; omega) ?_
        intro g35
        refine kcf_list (fun k => 2 * k) hus (fun k' t' I' oI' C' oC' D' m' ys' h' tk' E' hk' hC' hx' F' N' off' ne' _ => ?_) ?_
        · k_steps
        · unfold KPfDone
          intro ds hds
          k_steps
          intro Y h36 tk36 F36 N36 off36
          k_steps
          rename Fr _ _ _ _ => F37
          rename News _ _ _ _ => N37
          refine told_ct ww _ _ _ _ _ _ _ _ _ _ _ _ _ _ _ _ _ _ Y ds (zs.map (fun k => 2 * k)) ds.length (by k_asm) F37 N37 (by k_asm) (by rfl) (.head _) hds (by rw [List.length_map]; omega) (by decide) (by decide) (fun t38 h38 tk38 q pq sq F38 N38 => ?_) (by assumption)
          rw [told_double hsrt hrng hl4 pq sq]
          clear pq sq q
          k_steps
          rename Fr _ _ _ _ => F39
          rename News _ _ _ _ => N39
          rename IntsAre _ (zs ++ [5]) => h5
          revert F39 N39
          repeat (rename News _ _ _ _ => hz; clear hz)
          repeat (rename Fr _ _ _ _ => hz; clear hz)
          intro F39 N39
          (try clear X0); (try clear dX); (try clear d2)
          refine told_ct ww _ _ _ _ _ _ _ _ _ _ _ _ _ _ _ _ _ _ _ _ (zs ++ [5]) _ (by k_asm) F39 N39 (by k_asm) (by rfl) (.head _) h5 (by rw [List.length_append]; exact Nat.succ_le_succ hl4) (by decide) (by decide) (fun t40 h40 tk40 q pq sq F40 N40 => ?_) (by assumption)
          have hmore := told_more hsrt hrng hl4 pq sq
          have hq2 := fun h => told_two hrng (zs := zs) h
          have hq3 := fun h => told_three (zs := zs) h
          clear pq sq
          have hl1 : 0 < zs.length := List.length_pos_iff.mpr h0
          lge_steps
          walk1
          lge_steps
          rename Fr _ _ _ _ => F41
          rename News _ _ _ _ => N41
          rename IntsAre _ (_ ++ [_ + 1]) => h6
          have e6 : ((-1 : Int) + (zs.length : Int)).toNat = zs.length - 1 := by omega
          rw [e6] at h6
          refine told_ct ww _ _ _ _ _ _ _ _ _ _ _ _ _ _ _ _ _ _ _ _ (List.take (zs.length - 1) zs ++ [zs.getD (zs.length - 1) 0 + 1]) _ (by k_asm) F41 N41 (by k_asm) (by rfl) (.head _) h6 (by rw [List.length_append, List.length_take]; simp only [List.length_cons, List.length_nil]; omega) (by decide) (by decide) (fun t42 h42 tk42 q2 pq sq F42 N42 => ?_) (by assumption)
          have hslow := told_slow hsrt hrng hl4 h0 rfl pq sq
          obtain ⟨hslow1, hslow2⟩ := hslow
          clear pq sq e6
          lge_steps
          · rename toldS zs ≠ _ => hz
            exact absurd (hq2 (by omega)) hz
          · exfalso; omega
          · clear hq2 hq3 hmore hslow1 hslow2
            rename Fr _ _ _ _ => F43
            rename News _ _ _ _ => N43
            refine told_ct ww _ _ _ _ _ _ _ _ _ _ _ _ _ _ _ _ _ _ _ _ [1, 2, 5, 10] _ (by k_asm) F43 N43 (by k_asm) (by rfl) (.head _) (.cons _ _ (.cons _ _ (.cons _ _ (.cons _ _ .nil)))) (by decide) (by decide) (by decide) (fun t44 h44 tk44 q43 pq sq F44 N44 => ?_) (by assumption)
            rw [lks_uniq pq sq (by decide)]
            clear pq sq
            rw [show toldS [1, 2, 5, 10] = 17 by decide]
            lge_steps
            rename Fr _ _ _ _ => F45
            rename News _ _ _ _ => N45
            refine told_ct ww _ _ _ _ _ _ _ _ _ _ _ _ _ _ _ _ _ _ _ _ [1, 3, 6, 8, 12] _ (by k_asm) F45 N45 (by k_asm) (by rfl) (.head _) (.cons _ _ (.cons _ _ (.cons _ _ (.cons _ _ (.cons _ _ .nil))))) (by decide) (by decide) (by decide) (fun t46 h46 tk46 q45 pq sq F46 N46 => ?_) (by assumption)
            rw [lks_uniq pq sq (by decide)]
            clear pq sq
            rw [show toldS [1, 3, 6, 8, 12] = 29 by decide]
            k_steps
          · rename toldS zs ≠ _ => hz
            exact absurd (hq3 (by omega)) hz
          · clear hq2 hq3 hmore hslow1 hslow2
            rename Fr _ _ _ _ => F43
            rename News _ _ _ _ => N43
            refine told_ct ww _ _ _ _ _ _ _ _ _ _ _ _ _ _ _ _ _ _ _ _ [1, 2, 5, 10] _ (by k_asm) F43 N43 (by k_asm) (by rfl) (.head _) (.cons _ _ (.cons _ _ (.cons _ _ (.cons _ _ .nil)))) (by decide) (by decide) (by decide) (fun t44 h44 tk44 q43 pq sq F44 N44 => ?_) (by assumption)
            rw [lks_uniq pq sq (by decide)]
            clear pq sq
            rw [show toldS [1, 2, 5, 10] = 17 by decide]
            lge_steps
            rename Fr _ _ _ _ => F45
            rename News _ _ _ _ => N45
            refine told_ct ww _ _ _ _ _ _ _ _ _ _ _ _ _ _ _ _ _ _ _ _ [1, 3, 6, 8, 12] _ (by k_asm) F45 N45 (by k_asm) (by rfl) (.head _) (.cons _ _ (.cons _ _ (.cons _ _ (.cons _ _ (.cons _ _ .nil))))) (by decide) (by decide) (by decide) (fun t46 h46 tk46 q45 pq sq F46 N46 => ?_) (by assumption)
            rw [lks_uniq pq sq (by decide)]
            clear pq sq
            rw [show toldS [1, 3, 6, 8, 12] = 29 by decide]
            k_steps
          · clear hq2 hq3 hmore hslow1 hslow2
            rename Fr _ _ _ _ => F43
            rename News _ _ _ _ => N43
            refine told_ct ww _ _ _ _ _ _ _ _ _ _ _ _ _ _ _ _ _ _ _ _ [1, 2, 5, 10] _ (by k_asm) F43 N43 (by k_asm) (by rfl) (.head _) (.cons _ _ (.cons _ _ (.cons _ _ (.cons _ _ .nil)))) (by decide) (by decide) (by decide) (fun t44 h44 tk44 q43 pq sq F44 N44 => ?_) (by assumption)
            rw [lks_uniq pq sq (by decide)]
            clear pq sq
            rw [show toldS [1, 2, 5, 10] = 17 by decide]
            lge_steps
            rename Fr _ _ _ _ => F45
            rename News _ _ _ _ => N45
            refine told_ct ww _ _ _ _ _ _ _ _ _ _ _ _ _ _ _ _ _ _ _ _ [1, 3, 6, 8, 12] _ (by k_asm) F45 N45 (by k_asm) (by rfl) (.head _) (.cons _ _ (.cons _ _ (.cons _ _ (.cons _ _ (.cons _ _ .nil))))) (by decide) (by decide) (by decide) (fun t46 h46 tk46 q45 pq sq F46 N46 => ?_) (by assumption)
            rw [lks_uniq pq sq (by decide)]
            clear pq sq
            rw [show toldS [1, 3, 6, 8, 12] = 29 by decide]
            k_steps
      · rintro m₂ nx h24 tk24 hJ F24 N24
        exact absurd hJ.1 (by simp)
    · intro l k; exact Nat.le_succ _
  )
end Mine

theorem PySem.Challenge.cw_ie0001_01_holds : PySem.Challenge.rw_ie0001_01.Holds :=
  Mine.law_x
