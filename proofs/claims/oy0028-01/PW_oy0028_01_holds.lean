import PyProof.Rows.All
import Wide.All
import OpenK.AllK
import Wide.FinOn
import PySem.Challenge.RW_oy0028_01
set_option Elab.async false
set_option rowWalk.seconds 0
section
open PySem PySem.W PyProof.Rows
namespace Mine
set_option maxRecDepth 100000 in
set_option maxHeartbeats 8000000 in
open_top hd for PySem.Challenge.rw_oy0028_01
end Mine
end
section
namespace Mine
/-- the loop of a sift towards the root -/
noncomputable def sd (x : Int) (s : Nat) (h : List Int) (p : Nat) : List Int :=
  if s < p then
    if x < h.getD ((p - 1) / 2) 0 then sd x s (h.set p (h.getD ((p - 1) / 2) 0)) ((p - 1) / 2) else h.set p x
  else h.set p x
termination_by p
decreasing_by omega
noncomputable def siftdown (h : List Int) (s p : Nat) : List Int := sd (h.getD p 0) s h p
/-- the smaller child's place -/
def kid (h : List Int) (p : Nat) : Nat := if 2 * p + 2 < h.length ∧ ¬ h.getD (2 * p + 1) 0 < h.getD (2 * p + 2) 0 then 2 * p + 2 else 2 * p + 1
theorem kid_cases (h : List Int) (p : Nat) : kid h p = 2 * p + 2 ∨ kid h p = 2 * p + 1 := by unfold kid; split <;> simp
/-- the loop of a sift towards the leaves -/
noncomputable def su (h : List Int) (p : Nat) : List Int × Nat :=
  if 2 * p + 1 < h.length then su (h.set p (h.getD (kid h p) 0)) (kid h p) else (h, p)
termination_by h.length - p
decreasing_by
  simp only [List.length_set]
  rcases kid_cases h p with e | e <;> rw [e] <;> omega
noncomputable def siftup (h : List Int) (p : Nat) : List Int := siftdown ((su h p).1.set (su h p).2 (h.getD p 0)) p (su h p).2
noncomputable def hpush (h : List Int) (x : Int) : List Int := siftdown (h ++ [x]) 0 h.length
noncomputable def hreplace (h : List Int) (x : Int) : List Int := siftup (h.set 0 x) 0
/-- what is left when the first one is taken off -/
noncomputable def hpop (h : List Int) : List Int := if h.dropLast = [] then [] else hreplace h.dropLast (h.getLast?.getD 0)
/-- heapify's loop from place n down to place 0 -/
noncomputable def hify (h : List Int) : Nat → List Int
  | 0 => h
  | n + 1 => hify (siftup h n) n

-- the walk's own facts
theorem sd_stop {x s p : Int} {h R : List Int} (e : sd x s.toNat h p.toNat = R) (hs : ¬ s < p) : h.set p.toNat x = R := by
  rw [← e, sd, if_neg (by omega)]
theorem sd_brk {x s p : Int} {h R : List Int} (e : sd x s.toNat h p.toNat = R) (h0 : 0 ≤ s) (hs : s < p) (hx : ¬ x < h.getD ((p - 1) / 2).toNat 0) : h.set p.toNat x = R := by
  have q : ((p - 1) / 2).toNat = (p.toNat - 1) / 2 := by omega
  rw [q] at hx
  rw [← e, sd, if_pos (by omega), if_neg hx]
theorem sd_turn {x s p : Int} {h R : List Int} (e : sd x s.toNat h p.toNat = R) (h0 : 0 ≤ s) (hs : s < p) (hx : x < h.getD ((p - 1) / 2).toNat 0) :
    sd x s.toNat (h.set p.toNat (h.getD ((p - 1) / 2).toNat 0)) ((p - 1) / 2).toNat = R := by
  have q : ((p - 1) / 2).toNat = (p.toNat - 1) / 2 := by omega
  rw [q] at hx ⊢
  rw [← e, sd.eq_1 x s.toNat h p.toNat, if_pos (by omega), if_pos hx]
theorem sd_length (x : Int) (s : Nat) (h : List Int) (p : Nat) : (sd x s h p).length = h.length := by
  induction h, p using sd.induct (x := x) (s := s) with
  | case1 h p h1 h2 ih => rw [sd, if_pos h1, if_pos h2, ih, List.length_set]
  | case2 h p h1 h2 => rw [sd, if_pos h1, if_neg h2, List.length_set]
  | case3 h p h1 => rw [sd, if_neg h1, List.length_set]
end Mine
namespace Mine
theorem siftdown_length (h : List Int) (s p : Nat) : (siftdown h s p).length = h.length := sd_length _ _ _ _
theorem su_stop {h : List Int} {p : Int} {R : List Int × Nat} (e : su h p.toNat = R) (h0 : 0 ≤ p) (hs : ¬ 2 * p + 1 < (h.length : Int)) : R = (h, p.toNat) := by
  rw [← e, su, if_neg (by omega)]
theorem kid_right {h : List Int} {p : Int} (h0 : 0 ≤ p) (h1 : 2 * p + 1 + 1 < (h.length : Int)) (h2 : ¬ h.getD (2 * p + 1).toNat 0 < h.getD (2 * p + 1 + 1).toNat 0) : kid h p.toNat = (2 * p + 1 + 1).toNat := by
  have e1 : (2 * p + 1).toNat = 2 * p.toNat + 1 := by omega
  have e2 : (2 * p + 1 + 1).toNat = 2 * p.toNat + 2 := by omega
  rw [e1, e2] at h2
  rw [kid, if_pos ⟨by omega, h2⟩, e2]
theorem kid_left {h : List Int} {p : Int} (h0 : 0 ≤ p) (h1 : ¬ (2 * p + 1 + 1 < (h.length : Int) ∧ ¬ h.getD (2 * p + 1).toNat 0 < h.getD (2 * p + 1 + 1).toNat 0)) : kid h p.toNat = (2 * p + 1).toNat := by
  have e1 : (2 * p + 1).toNat = 2 * p.toNat + 1 := by omega
  have e2 : (2 * p + 1 + 1).toNat = 2 * p.toNat + 2 := by omega
  rw [e1, e2] at h1
  rw [kid, if_neg (fun ⟨a, b⟩ => h1 ⟨by omega, b⟩), e1]
theorem su_right {h : List Int} {p c en : Int} {R : List Int × Nat} (e : su h p.toNat = R) (h0 : 0 ≤ p) (hc : c = 2 * p + 1) (hE : en = (h.length : Int)) (h1 : c + 1 < en) (h2 : ¬ h.getD c.toNat 0 < h.getD (c + 1).toNat 0) :
    su (h.set p.toNat (h.getD (c + 1).toNat 0)) (c + 1).toNat = R := by
  subst hc hE
  rw [← e, su.eq_1 h p.toNat, if_pos (by omega), kid_right h0 h1 h2]
theorem su_left {h : List Int} {p c en : Int} {R : List Int × Nat} (e : su h p.toNat = R) (h0 : 0 ≤ p) (hc : c = 2 * p + 1) (hE : en = (h.length : Int)) (h1 : c < en) (h2 : ¬ (c + 1 < en ∧ ¬ h.getD c.toNat 0 < h.getD (c + 1).toNat 0)) :
    su (h.set p.toNat (h.getD c.toNat 0)) c.toNat = R := by
  subst hc hE
  rw [← e, su.eq_1 h p.toNat, if_pos (by omega), kid_left h0 h2]
theorem su_left1 {h : List Int} {p c en : Int} {R : List Int × Nat} (e : su h p.toNat = R) (h0 : 0 ≤ p) (hc : c = 2 * p + 1) (hE : en = (h.length : Int)) (h1 : c < en) (h2 : h.getD c.toNat 0 < h.getD (c + 1).toNat 0) :
    su (h.set p.toNat (h.getD c.toNat 0)) c.toNat = R := su_left e h0 hc hE h1 fun q => q.2 h2
theorem su_left2 {h : List Int} {p c en : Int} {R : List Int × Nat} (e : su h p.toNat = R) (h0 : 0 ≤ p) (hc : c = 2 * p + 1) (hE : en = (h.length : Int)) (h1 : c < en) (h2 : ¬ c + 1 < en) :
    su (h.set p.toNat (h.getD c.toNat 0)) c.toNat = R := su_left e h0 hc hE h1 fun q => h2 q.1
theorem su_end {h ns r : List Int} {p q c en : Int} (e : su h q.toNat = su ns p.toNat) (h0 : 0 ≤ q) (hc : c = 2 * q + 1) (hE : en = (h.length : Int)) (hs : ¬ c < en) (hr : r = siftdown (h.set q.toNat (ns.getD p.toNat 0)) p.toNat q.toNat) : r = siftup ns p.toNat := by
  subst hc hE
  rw [siftup, su_stop e h0 hs, hr]
theorem push_end {ns r : List Int} {x : Int} (h : r = siftdown (ns ++ [x]) (Int.toNat 0) (((ns.length + 1 : Nat) : Int) - 1).toNat) : r = hpush ns x := by
  have e : (((ns.length + 1 : Nat) : Int) - 1).toNat = ns.length := by omega
  rw [h, e]; rfl
theorem pop_end {ns r : List Int} (hd : 0 < ns.dropLast.length) (h : r = siftup (ns.dropLast.set (Int.toNat 0) (ns.getLastD 0)) (Int.toNat 0)) : r = hpop ns := by
  have hn : ns.dropLast ≠ [] := fun e => by rw [e] at hd; exact absurd hd (by decide)
  rw [h, hpop, if_neg hn, hreplace, List.getLastD_eq_getLast?]; rfl
theorem nil_of_not {ns : List Int} (h : ¬ 0 < ns.length) : ns = [] := List.eq_nil_of_length_eq_zero (by omega)
theorem pop_one {ns : List Int} (hn : ¬ 0 < ns.dropLast.length) : ns.dropLast = hpop ns := by
  have hd := nil_of_not hn
  rw [hpop, if_pos hd, hd]
theorem pop_fst {ns : List Int} (hp : 0 < ns.dropLast.length) : ns.dropLast.getD (Int.toNat 0) 0 = ns.getD 0 0 := by
  match ns, hp with
  | [_], hp => exact absurd hp (by simp)
  | a :: b :: r, _ => rfl
theorem pop_last {ns : List Int} (hp : 0 < ns.length) (hn : ¬ 0 < ns.dropLast.length) : ns.getLastD 0 = ns.getD 0 0 := by
  have hd := nil_of_not hn
  match ns, hp, hd with
  | [_], _, _ => rfl
  | a :: b :: r, _, hd => exact absurd hd (by simp)
theorem ify_turn {ns h r : List Int} {pre : List Int} {k : Int} (hk : k = ((ns.length / 2 : Nat) : Int) - 1 - (pre.length : Int)) (hlt : pre.length < ns.length / 2) (e : hify h (ns.length / 2 - pre.length) = hify ns (ns.length / 2)) (hr : r = siftup h k.toNat) :
    hify r (ns.length / 2 - (pre ++ [k]).length) = hify ns (ns.length / 2) := by
  have e1 : ns.length / 2 - pre.length = k.toNat + 1 := by omega
  have e2 : ns.length / 2 - (pre ++ [k]).length = k.toNat := by rw [List.length_append, List.length_singleton]; omega
  rw [e1] at e
  rw [e2, hr, ← e]
  rfl
theorem siftup_length (h : List Int) (p : Nat) : (siftup h p).length = h.length := by
  rw [siftup, siftdown_length, List.length_set]
  suffices hs : ∀ (h : List Int) (p : Nat), (su h p).1.length = h.length from hs h p
  intro h p
  induction h, p using su.induct with
  | case1 h p h1 ih => rw [su, if_pos h1, ih, List.length_set]
  | case2 h p h1 => rw [su, if_neg h1]
theorem ify_end {ns h : List Int} {ks : List Int} (hk : ks.length = ns.length / 2) (e : hify h (ns.length / 2 - ks.length) = hify ns (ns.length / 2)) : h = hify ns (ns.length / 2) := by
  rw [hk, Nat.sub_self] at e
  exact e
theorem hpush_length (h : List Int) (x : Int) : (hpush h x).length = h.length + 1 := by rw [hpush, siftdown_length, List.length_append]; rfl
theorem hreplace_length (h : List Int) (x : Int) : (hreplace h x).length = h.length := by rw [hreplace, siftup_length, List.length_set]
theorem hpop_length (h : List Int) : (hpop h).length = h.length - 1 := by
  rw [hpop]
  split
  · next e =>
    have := congrArg List.length e
    rw [List.length_dropLast] at this
    rw [this]
  · rw [hreplace_length, List.length_dropLast]
theorem len_push {r ns : List Int} {x : Int} (h : r = hpush ns x) : r = hpush ns x ∧ r.length = ns.length + 1 := ⟨h, by rw [h, hpush_length]⟩
theorem len_repl {r ns : List Int} {x : Int} (h : r = hreplace ns x) : r = hreplace ns x ∧ r.length = ns.length := ⟨h, by rw [h, hreplace_length]⟩
theorem len_pop {r ns : List Int} (h : r = hpop ns) : r = hpop ns ∧ r.length = ns.length - 1 := ⟨h, by rw [h, hpop_length]⟩
theorem len_ify {r ns : List Int} (h : r = siftup ns 0) : r.length = ns.length := by rw [h, siftup_length]
theorem hify_length (n : Nat) : ∀ h : List Int, (hify h n).length = h.length := by
  induction n with
  | zero => intro h; rfl
  | succ n ih => intro h; rw [hify, ih, siftup_length]
theorem len_hify {r ns : List Int} {n : Nat} (h : r = hify ns n) : r = hify ns n ∧ r.length = ns.length := ⟨h, by rw [h, hify_length]⟩
end Mine
end
section
open PySem PySem.W PyProof.Rows
namespace Mine
theorem ints_of {vs : List Value} {a b : List Int} (h : IntsAre vs a) (e : a = b) : IntsAre vs b := e ▸ h
theorem rshift1 {prog : Program} {w : World} {A : Around} {Q : Value → Shared → Prop} {E : Value → Shared → Prop} {s : Shared} {a : Int} {t u : Tok}
    (h : Q (.int (a / 2) s.toks) { s with toks := s.toks + 1 }) : wpAny (model prog w) A (binaryOp .RShift (.int a t) (.int 1 u)) Q E s := by
  refine rshift_int (by decide) ?_
  have e : a.fdiv (2 ^ Int.toNat 1) = a / 2 := by
    show a.fdiv 2 = a / 2
    rw [Int.fdiv_eq_ediv_of_nonneg _ (by decide)]
  rw [e]
  exact h

theorem ret_as {Q : Value → Shared → Prop} {x y : Int} {t : Tok} {s : Shared} (h : Q (.int x t) s) (e : y = x) : Q (.int y t) s := e ▸ h
/-- the call of the def at f turns the one list of ints l of the ledger, nothing else -/
def Turns (w : World) (mean : ExcName → Option Value) (mg mb : Str → Option Value) (f : Addr) (args : List Value) (pre : List Int → Prop) (post : List Int → List Int → Prop) (res : List Int → Tok → Value) (deep : Nat) : Prop :=
  ∀ (dp un : Nat) (gd : Option (List Code)) (cn : Str) (cs : Scope) (a : Addr) (ccd : Value) (cl : List (Str × Addr)) (outer : List Env) (A₀ : Around) (base h₀ : Heap) (L : Addr) (m : Str → Option Value) (s : Shared) (Q E : Value → Shared → Prop)
    (l : Addr) (vs : List Value) (ns : List Int) (c : Nat) (own : List (Addr × Obj)),
    Below A₀ base outer h₀ → Fr h₀ L s.heap m → (hd.heap_39 w.params).In h₀ → News h₀ L s.heap ((l, listOf vs.toArray c) :: own) → OwnOff own [l] → Top hd.view_39 (looseW hd.view_39 []) mean mg mb h₀ → cs.kind = .function →
    IntsAre vs ns → pre ns → dp + deep < recursionLimit → un + 8 * deep < cLine →
    (∀ (vs' : List Value) (ns' : List Int) (t : Tok) (c' : Nat) (h' : Heap) (tk' : Nat), Fr h₀ L h' m → News h₀ L h' ((l, listOf vs'.toArray c') :: own) → IntsAre vs' ns' → post ns ns' → Q (res ns t) { s with heap := h', toks := tk' }) →
    wpAny (model PySem.Challenge.rw_oy0028_01.row.prog w) (ktrTop dp un gd cn cs L a ccd cl outer) (call (.ref f) (.ref l :: args)) Q E s

inductive Slot : List (Addr × Obj) → Addr → Obj → List (Addr × Obj) → List (Addr × Obj) → Prop where
  | head {l : Addr} {o : Obj} {r : List (Addr × Obj)} : Slot ((l, o) :: r) l o [] r
  | tail {q : Addr × Obj} {r pre post : List (Addr × Obj)} {l : Addr} {o : Obj} : Slot r l o pre post → Slot (q :: r) l o (q :: pre) post
theorem Slot.eq {news pre post : List (Addr × Obj)} {l : Addr} {o : Obj} (S : Slot news l o pre post) : news = pre ++ (l, o) :: post := by
  induction S with
  | head => rfl
  | tail _ ih => rw [ih]; rfl
theorem ownOff1 {own : List (Addr × Obj)} {l : Addr} (h : ∀ p ∈ own, p.1 ≠ l) : OwnOff own [l] := fun p hp b hb => by
  rw [List.mem_singleton.mp hb]; exact h p hp

theorem turns_use {w : World} {mean : ExcName → Option Value} {mg mb : Str → Option Value} {f : Addr} {args : List Value} {pre : List Int → Prop} {post : List Int → List Int → Prop} {res : List Int → Tok → Value} {deep : Nat}
    {dp un : Nat} {gd : Option (List Code)} {cn : Str} {cs : Scope} {a : Addr} {ccd : Value} {cl : List (Str × Addr)} {outer : List Env} {A₀ : Around} {base h₀ : Heap} {L : Addr} {m : Str → Option Value} {s : Shared} {Q E : Value → Shared → Prop}
    {l : Addr} {vs : List Value} {ns : List Int} {c : Nat} {news pr po : List (Addr × Obj)}
    (C : Turns w mean mg mb f args pre post res deep)
    (B : Below A₀ base outer h₀) (F : Fr h₀ L s.heap m) (X : (hd.heap_39 w.params).In h₀) (N : News h₀ L s.heap news) (S : Slot news l (listOf vs.toArray c) pr po) (hoff : ∀ p ∈ pr ++ po, p.1 ≠ l) (T : Top hd.view_39 (looseW hd.view_39 []) mean mg mb h₀) (hk : cs.kind = .function)
    (hi : IntsAre vs ns) (hp : pre ns) (hd : dp + deep < recursionLimit) (hu : un + 8 * deep < cLine)
    (ret : ∀ (vs' : List Value) (ns' : List Int) (t : Tok) (c' : Nat) (h' : Heap) (tk' : Nat), Fr h₀ L h' m → News h₀ L h' (pr ++ (l, listOf vs'.toArray c') :: po) → IntsAre vs' ns' → post ns ns' → Q (res ns t) { s with heap := h', toks := tk' }) :
    wpAny (model PySem.Challenge.rw_oy0028_01.row.prog w) (ktrTop dp un gd cn cs L a ccd cl outer) (call (.ref f) (.ref l :: args)) Q E s := by
  have e := S.eq
  subst e
  refine C dp un gd cn cs a ccd cl outer A₀ base h₀ L m s Q E l vs ns c (pr ++ po) B F X ?_ (ownOff1 hoff) T hk hi hp hd hu ?_
  · intro p hp
    refine N p ?_
    simp only [List.mem_cons, List.mem_append] at hp ⊢
    rcases hp with h | h | h
    · exact .inr (.inl h)
    · exact .inl h
    · exact .inr (.inr h)
  · intro vs' ns' t c' h' tk' F' N' hi' hp'
    refine ret vs' ns' t c' h' tk' F' ?_ hi' hp'
    intro p hp
    refine N' p ?_
    simp only [List.mem_cons, List.mem_append] at hp ⊢
    rcases hp with h | h | h
    · exact .inr (.inl h)
    · exact .inl h
    · exact .inr (.inr h)
end Mine
end
section
open PySem PySem.W PyProof.Rows
namespace Mine
local macro_rules | `(tactic| walk_at "binaryOp RShift int int") => `(tactic| (refine rshift1 ?_))
set_option maxRecDepth 100000 in
set_option maxHeartbeats 2000000 in
theorem sd_tells (w : World) (mean : ExcName → Option Value) (mg mb : Str → Option Value) (st p : Int) (t1 t2 : Tok) :
    Turns w mean mg mb 63 [.int st t1, .int p t2] (fun ns => 0 ≤ st ∧ 0 ≤ p ∧ p < (ns.length : Int) ∧ ns.length < 1000) (fun ns ns' => ns' = siftdown ns st.toNat p.toNat) (fun _ _ => .none) 1 := by
  unfold Turns
  k_fill
  rintro dp un gd cn cs a ccd cl outer A₀ base h₀ L m s Q E l vs ns c own B F X N hoff T hk hi ⟨hst, hp, hpl, hlen⟩ hd hu hret
  have hMk := kstMark
  w_top off
  k_with_none
  k_with "exec While Compare cons nil" => k_while_given ["startpos", "newitem", "heap!", "pos!"] (fun s x h₀ p₀ script h p => 0 ≤ p ∧ p < (h.length : Int) ∧ h.length = h₀.length ∧ sd x s.toNat h p.toNat = sd x s.toNat h₀ p₀.toNat) (fun s x h₀ p₀ script h p => p.toNat) "heap" "pos"
  k_with "state" => (refine ⟨by omega, by omega, rfl, rfl⟩)
  k_with "state" => (refine ⟨by omega, by (simp only [List.length_set]; omega), by (simp only [List.length_set]; assumption), sd_turn (by assumption) (by assumption) (by assumption) (by assumption)⟩)
  refine wpAny_call ?_
  k_dflt cell_enter
  k_steps
  all_goals first
    | exact hret _ _ 0 _ _ _ (by k_asm) (by k_asm) (by assumption) (sd_stop (by assumption) (by assumption))
    | exact hret _ _ 0 _ _ _ (by k_asm) (by k_asm) (by assumption) (sd_brk (by assumption) (by assumption) (by assumption) (by assumption))
    | trace_state
end Mine
end
section
open PySem PySem.W PyProof.Rows
namespace Mine
local macro_rules | `(tactic| walk_at "idle") => `(tactic| fail)
local macro_rules | `(tactic| walk_at "call ref") => `(tactic| (k_here; (with_reducible show wpAny _ _ (call (Value.ref 63) _) _ _ _); (refine' turns_use (sd_tells _ _ _ _ _ _ _ _) ?k1 ?k2 ?k3 ?k4 ?k5 ?k6 ?k7 ?k8 ?k9 ?kp ?kd ?ku ?kR); (case k1 => k_asm); (case k2 => k_asm); (case k3 => k_asm); (case k4 => k_asm); (case k5 => (repeat (first | exact Slot.head | refine Slot.tail ?_))); (case k7 => k_asm); (case k8 => first | exact rfl | assumption); (case k9 => assumption); (case k6 => ((try simp only [List.nil_append, List.cons_append]); k_all)); (case kp => (refine ⟨?_, ?_, ?_, ?_⟩ <;> (try simp only [List.length_set]) <;> omega)); (case kd => ktr_room); (case ku => ktr_units); (intro vs9 ns9 t9 c9 h9 tk9 F9 N9 I9 P9; (try dsimp only); (try simp only [List.nil_append, List.cons_append] at N9); (try k_fold))))
set_option maxRecDepth 100000 in
set_option maxHeartbeats 2000000 in
theorem su_tells (w : World) (mean : ExcName → Option Value) (mg mb : Str → Option Value) (p : Int) (t1 : Tok) :
    Turns w mean mg mb 70 [.int p t1] (fun ns => 0 ≤ p ∧ p < (ns.length : Int) ∧ ns.length < 1000) (fun ns ns' => ns' = siftup ns p.toNat) (fun _ _ => .none) 2 := by
  unfold Turns
  k_fill
  rintro dp un gd cn cs a ccd cl outer A₀ base h₀ L m s Q E l vs ns c own B F X N hoff T hk hi ⟨hp, hpl, hlen⟩ hd hu hret
  have hMk := kstMark
  w_top off
  k_with_none
  k_with "exec While Compare cons nil" => k_while_given ["endpos", "heap!", "pos!"] (fun e h₀ p₀ script h p c => 0 ≤ p ∧ p < (h.length : Int) ∧ h.length = h₀.length ∧ c = 2 * p + 1 ∧ e = (h.length : Int) ∧ su h p.toNat = su h₀ p₀.toNat) (fun e h₀ p₀ script h p c => h.length - p.toNat) "heap" "pos" "childpos"
  k_with "state" => (refine ⟨by omega, by (simp only [List.length_set]; omega), by (simp only [List.length_set]; assumption), rfl, by (simp only [List.length_set]; omega), su_right (by assumption) (by assumption) (by assumption) (by assumption) (by assumption) (by assumption)⟩)
  k_with "state" => (refine ⟨by omega, by (simp only [List.length_set]; omega), by (simp only [List.length_set]; assumption), rfl, by (simp only [List.length_set]; omega), su_left1 (by assumption) (by assumption) (by assumption) (by assumption) (by assumption) (by assumption)⟩)
  k_with "state" => (refine ⟨by omega, by (simp only [List.length_set]; omega), by (simp only [List.length_set]; assumption), rfl, by (simp only [List.length_set]; omega), su_left2 (by assumption) (by assumption) (by assumption) (by assumption) (by assumption) (by assumption)⟩)
  k_with "state" => (refine ⟨by omega, by omega, rfl, rfl, by omega, rfl⟩)
  refine wpAny_call ?_
  k_dflt cell_enter
  k_steps
  all_goals first
    | exact hret _ _ 0 _ _ _ (by k_asm) (by k_asm) (by assumption) (su_end (by assumption) (by assumption) (by assumption) (by assumption) (by assumption) (by assumption))
    | trace_state
end Mine
end
section
open PySem PySem.W PyProof.Rows
namespace Mine
open PySem.Builtin.Range in
theorem call_range_reversed {prog : Program} {w : World} {A : Around} {E : Value → Shared → Prop} {s : Shared} {r : Addr} {a b c : Int} {t u v : Tok} {Q : Value → Shared → Prop} (hr : IsRange s.heap r a b c t u v)
    (hs : (rangeFitsLong a && rangeFitsLong b && rangeFitsLong c && rangeFitsLong (-c) && rangeFitsLong (a - c) && rangeFitsLong (rangeSize a b c)) = true)
    (h : Q (.ref s.heap.objs.size) { s with heap := s.heap.push { cls := .type "range_iterator", data := .fields #[rawInt (a + (rangeSize a b c - 1) * c), rawInt (rangeSize a b c), rawInt (-c)] } }) :
    wpAny (model prog w) A (call (.builtin "range.__reversed__") [.ref r]) Q E s := by
  have hT : s.TypeIs (.ref r) "range" := ⟨_, hr, rfl⟩
  refine wpAny_call_entry F.slot_range_reversed hT F.entry_range_reversed ?_ (F.args_range_reversed_1 _)
  unfold Builtin.«range.__reversed__»
  refine wpAny_bind (wpAny_of_eq (a := Value.ref r) rfl ?_)
  unfold rangeFields
  refine wpAny_bind ?_
  refine wpAny_bind (wpAny_field hr rfl (x := .int a t) rfl ?_)
  refine wpAny_bind (wpAny_of_eq (a := some a) rfl ?_)
  refine wpAny_bind (wpAny_field hr rfl (x := .int b u) rfl ?_)
  refine wpAny_bind (wpAny_of_eq (a := some b) rfl ?_)
  refine wpAny_bind (wpAny_field hr rfl (x := .int c v) rfl ?_)
  refine wpAny_bind (wpAny_of_eq (a := some c) rfl ?_)
  refine wpAny_pure ?_
  dsimp only
  rw [hs]
  simp only [Bool.not_true, Bool.false_eq_true, if_false, if_true]
  exact wpAny_bind (wpAny_newObj_type (wpAny_pure ⟨_, rfl, h⟩))

theorem sub_ri_reversed : isSubtype (.type "range_iterator") (.type "reversed") = pure false := by rw [isSubtype_type]; kernel_rfl

open PySem.Builtin.Range in
theorem code_reversed_range {prog : Program} {w : World} {A : Around} {E : Value → Shared → Prop} {s : Shared} {r : Addr} {a b c : Int} {t u v : Tok} {Q₁ : Value → Shared → Prop} (hr : IsRange s.heap r a b c t u v)
    (hs : (rangeFitsLong a && rangeFitsLong b && rangeFitsLong c && rangeFitsLong (-c) && rangeFitsLong (a - c) && rangeFitsLong (rangeSize a b c)) = true)
    (h : Q₁ (.ref s.heap.objs.size) { s with heap := s.heap.push { cls := .type "range_iterator", data := .fields #[rawInt (a + (rangeSize a b c - 1) * c), rawInt (rangeSize a b c), rawInt (-c)] } }) :
    codeAny (model prog w) A (.call (.builtin "reversed.__new__") ⟨[.type "reversed", .ref r], []⟩) (wants Q₁ E) s := by
  have hT : s.TypeIs (.ref r) "range" := ⟨_, hr, rfl⟩
  refine codeAny_of_tree ?_
  show wpAny _ A.in1 (do checkBuiltinCall "reversed.__new__" ⟨[.type "reversed", .ref r], []⟩; again (.builtin "reversed.__new__" ⟨[.type "reversed", .ref r], []⟩)) _ _ s
  refine wpAny_bind (wpAny_of_eq (F.newCall_reversed_1 _) (wpAny_pure ⟨plainId_quiet F.plain_reversed_new _, codeAny_builtin F.entry_reversed_new ?_⟩))
  rw [Around.under_plainId F.plain_reversed_new _]
  unfold Builtin.«reversed.__new__»
  refine wpAny_bind (wpAny_of_eq (newClass_reversed _) ?_)
  try dsimp only
  refine wpAny_bind (wpAny_of_eq (a := ()) (by first | rfl | kernel_rfl) ?_)
  refine wpAny_bind (wpAny_of_eq (a := ()) (by first | rfl | kernel_rfl) ?_)
  try dsimp only
  refine wpAny_bind (wpAny_specialOf hT F.slot_range_reversed.lookup ?_)
  try dsimp only
  refine wpAny_bind (wpAny_of_eq (F.slot_range_reversed.bind _) ?_)
  try dsimp only
  first
  | rw [if_neg (show ¬ ((Value.builtin "range.__reversed__" == Value.none) = true) from Bool.false_ne_true)]
  | (show wpAny _ _ (if (Value.builtin "range.__reversed__" == Value.none) = true then _ else _) _ _ _; rw [if_neg (show ¬ ((Value.builtin "range.__reversed__" == Value.none) = true) from Bool.false_ne_true)])
  refine wpAny_bind (wpAny_rule ?_)
  refine wpAny_bind (m := runValue (.call (.builtin "range.__reversed__") ⟨[.ref r], []⟩)) (show wpAny _ _ (call (.builtin "range.__reversed__") [.ref r]) _ _ _ from call_range_reversed hr hs ?_)
  first
  | exact wpAny_pure h
  | exact wpAny_bind (wpAny_pure (wpAny_pure h))

open PySem.Builtin.Range in
theorem call_reversed_range {prog : Program} {w : World} {A : Around} {E : Value → Shared → Prop} {s : Shared} {r : Addr} {a b c : Int} {t u v : Tok} {Q : Value → Shared → Prop} (hr : IsRange s.heap r a b c t u v)
    (hs : (rangeFitsLong a && rangeFitsLong b && rangeFitsLong c && rangeFitsLong (-c) && rangeFitsLong (a - c) && rangeFitsLong (rangeSize a b c)) = true)
    (h : Q (.ref s.heap.objs.size) { s with heap := s.heap.push { cls := .type "range_iterator", data := .fields #[rawInt (a + (rangeSize a b c - 1) * c), rawInt (rangeSize a b c), rawInt (-c)] } }) :
    wpAny (model prog w) A (call (.type "reversed") [.ref r]) Q E s := by
  refine callType_other (U := "range_iterator") (Q₁ := fun obj s₁ => obj = .ref s.heap.objs.size ∧ s₁ = { s with heap := s.heap.push { cls := .type "range_iterator", data := .fields #[rawInt (a + (rangeSize a b c - 1) * c), rawInt (rangeSize a b c), rawInt (-c)] } }) (by decide +kernel) F.create_reversed ⟨_, _, F.mro_reversed⟩ F.made_reversed sub_ri_reversed (F.typeCall_reversed_1 _) (code_reversed_range hr hs ⟨rfl, rfl⟩) ?_
  rintro obj s₁ ⟨rfl, rfl⟩
  exact ⟨⟨_, Heap.get?_push_size _ rfl, rfl⟩, h⟩

open PySem.Builtin.Range in
/-- for x in reversed(range(n)): a state that the turns keep -/
theorem kst_revRange {prog : Program} {w : World} {A : Around} {E : Value → Shared → Prop} {s : Shared} {env : Env} {h₀ : Heap} {x : Str} {body : List Stmt} {Q : Flow → Shared → Prop}
    {σ : Type} {r : Addr} {n : Nat} {b₀ : Int} {t₀ u₀ v₀ : Tok} {m₀ : Str → Option Value} (Led : σ → List (Addr × Obj)) (ps : σ → List (Str × Value)) (Facts : σ → Prop) (stored : List Str) (P : List Int → σ → Prop) (c₀ : σ)
    (hh : A.handled = none) (hr : IsRange s.heap r 0 b₀ 1 t₀ u₀ v₀) (hb : b₀ = (n : Int)) (hn : n < 2 ^ 60) (F : Fr h₀ env.locals s.heap m₀) (N : News h₀ env.locals s.heap (Led c₀)) (hf : Facts c₀) (hk : ∀ p ∈ ps c₀, m₀ p.1 = some p.2) (hp : P [] c₀)
    (turn : ∀ (c : σ) (pre : List Int) (k : Int) t (u : Str → Option Value) h tk own, k = (n : Int) - 1 - (pre.length : Int) → pre.length < n → OwnOff own ((Led c₀).map (·.1)) → Facts c → P pre c →
      Fr h₀ env.locals h (fun y => if y = x then some (.int k t) else kstB (fun z => if stored.contains z then u z else m₀ z) (ps c) y) → News h₀ env.locals h (Led c ++ own) →
      wpAny (model prog w) A (execs body env) (InvPostN h₀ env.locals (KstS Led ps Facts x stored m₀ P (pre ++ [k])) own ((Led c₀).map (·.1)) { s with heap := h, toks := tk } Q) E { s with heap := h, toks := tk })
    (done : ∀ (c : σ) (u : Str → Option Value) h tk, Facts c → P (downKs ((n : Int) - 1) n) c → Fr h₀ env.locals h (fun y => if y = x then u y else kstB (fun z => if stored.contains z then u z else m₀ z) (ps c) y) → News h₀ env.locals h (Led c) → Q .next { s with heap := h, toks := tk }) :
    wpAny (model prog w) A (call (.type "reversed") [.ref r]) (fun xv s₁ => wpAny (model prog w) A (pyIter xv) (fun it s₂ => LoopAtV prog w A h₀ env x body Q E it s₂) E s₁) E s := by
  subst hb
  have hsz : rangeSize 0 (n : Int) 1 = (n : Int) := by
    unfold rangeSize
    simp only [show ((1 : Int) > 0) by decide, if_true, Int.ediv_one]
    split <;> omega
  refine call_reversed_range hr ?_ ?_
  · rw [hsz]
    simp only [rangeFitsLong, Bool.and_eq_true, decide_eq_true_eq]
    omega
  rw [hsz]
  have e0 : (0 : Int) + ((n : Int) - 1) * 1 = (n : Int) - 1 := by omega
  rw [e0]
  refine wpAny_pyIter_rangeiter (x := (n : Int) - 1) (left := (n : Int)) (step := -1) (Heap.get?_push_size _ rfl) ?_
  have W : Walks prog w A s.heap.objs.size [s.heap.objs.size] [s.heap.objs.size] n (fun i v => i < n ∧ ∃ t, v = .int (((n : Int) - 1) + i * (-1)) t)
      (fun i h => IsRangeIter h s.heap.objs.size (((n : Int) - 1) + (i : Nat) * (-1)) ((n : Int) - (i : Nat)) (-1)) := (Walks.range hh _ ((n : Int) - 1) (-1) n).bound
  refine loop_invN (fun i m nx => KstS Led ps Facts x stored m₀ P ((downKs ((n : Int) - 1) n).take i) m nx) W ?_ ?_ ?_ ?_ (by show IsRangeIter _ _ _ _ _; simpa using Heap.get?_push_size _ rfl) (F.push _) (fun p hp => ⟨Heap.get?_push_of_some _ (N p hp).1, (N p hp).2⟩) ⟨c₀, rfl, hf, hk, fun _ _ _ _ => rfl, by simpa using hp⟩ ?_ ?_
  · intro hm
    exact absurd F.ns.lt ((List.mem_singleton.mp hm) ▸ Nat.lt_irrefl _)
  · intro b hb
    rw [List.mem_singleton.mp hb]
    exact next_is_new F
  · intro p hp hI
    exact absurd (Heap.lt_size (N p hp).1) ((List.mem_singleton.mp hI) ▸ Nat.lt_irrefl _)
  · intro p hp hI
    exact absurd (Heap.lt_size (N p hp).1) ((List.mem_singleton.mp hI) ▸ Nat.lt_irrefl _)
  · rintro i v m₁ nx h tk own hi ⟨_, t, rfl⟩ _ hoff ⟨c, rfl, hf', h1, h2, hp'⟩ F₁ N₁
    have e1 : ((n : Int) - 1) + (i : Int) * (-1) = ((n : Int) - 1) - (i : Int) := by omega
    rw [e1] at F₁
    have hk' : (downKs ((n : Int) - 1) n)[i]? = some (((n : Int) - 1) - (i : Int)) := by simp [downKs, hi]
    have hs : (downKs ((n : Int) - 1) n).take (i + 1) = (downKs ((n : Int) - 1) n).take i ++ [((n : Int) - 1) - (i : Int)] := by simp [List.take_add_one, hk']
    have hlen : ((downKs ((n : Int) - 1) n).take i).length = i := by rw [List.length_take, downKs_length]; omega
    rw [hs]
    exact turn c _ _ t m₁ h tk own (by rw [hlen]) (by rw [hlen]; exact hi) hoff hf' hp' (kst_fr h1 h2 F₁) N₁
  · rintro m₁ nx h tk ⟨c, rfl, hf', h1, h2, hp'⟩ F₁ N₁
    have hl : (downKs ((n : Int) - 1) n).take n = downKs ((n : Int) - 1) n := List.take_of_length_le (Nat.le_of_eq (downKs_length _ _))
    rw [hl] at hp'
    exact done c m₁ h tk hf' hp' (kst_frOut h1 h2 F₁) N₁
end Mine
end
section
open PySem PySem.W PyProof.Rows
namespace Mine
local macro_rules | `(tactic| walk_at "idle") => `(tactic| fail)
local macro_rules | `(tactic| walk_at "idle") => `(tactic| fail)
local macro_rules | `(tactic| walk_at "call ref") => `(tactic| (k_here; (with_reducible show wpAny _ _ (call (Value.ref 63) _) _ _ _); k_dflt ((refine' turns_use (sd_tells _ _ _ _ _ _ _ _) ?k1 ?k2 ?k3 ?k4 ?k5 ?k6 ?k7 ?k8 ?k9 ?kp ?kd ?ku ?_); (case k1 => k_asm); (case k2 => k_asm); (case k3 => k_asm); (case k4 => k_asm); (case k5 => (repeat (first | exact Slot.head | apply Slot.tail))); (case k7 => k_asm); (case k8 => first | exact rfl | assumption); (case k9 => (first | assumption | k_intsEnd)); (case k6 => ((try simp only [List.nil_append, List.cons_append]); k_all)); (case kp => (refine ⟨?_, ?_, ?_, ?_⟩ <;> (try simp only [List.length_set, List.length_append, List.length_cons, List.length_nil]) <;> omega)); (case kd => ktr_room); (case ku => ktr_units); (intro vs9 ns9 t9 c9 h9 tk9 F9 N9 I9 P9; (try dsimp only); (try (have Q9 := P9.2)); (try (replace P9 := P9.1)); (try simp only [List.nil_append, List.cons_append] at N9); (try k_fold)))))
set_option maxRecDepth 100000 in
set_option maxHeartbeats 2000000 in
theorem push_tells (w : World) (mean : ExcName → Option Value) (mg mb : Str → Option Value) (x : Int) (t1 : Tok) :
    Turns w mean mg mb 35 [.int x t1] (fun ns => ns.length < 999) (fun ns ns' => ns' = hpush ns x ∧ ns'.length = ns.length + 1) (fun _ _ => .none) 2 := by
  unfold Turns
  k_fill
  rintro dp un gd cn cs a ccd cl outer A₀ base h₀ L m s Q E l vs ns c own B F X N hoff T hk hi hlen hd hu hret
  have hMk := kstMark
  have hLn := IntsAre.length hi
  w_top off
  k_with_none
  refine wpAny_call ?_
  k_dflt cell_enter
  k_steps
  all_goals exact hret _ _ 0 _ _ _ (by k_asm) (by k_asm) (by assumption) (len_push (push_end (by assumption)))
end Mine
end
section
open PySem PySem.W PyProof.Rows
namespace Mine
local macro_rules | `(tactic| walk_at "idle") => `(tactic| fail)
local macro_rules | `(tactic| walk_at "idle") => `(tactic| fail)
local macro_rules | `(tactic| walk_at "idle") => `(tactic| fail)
local macro_rules | `(tactic| walk_at "call ref") => `(tactic| (k_here; (with_reducible show wpAny _ _ (call (Value.ref 70) _) _ _ _); k_dflt ((refine' turns_use (su_tells _ _ _ _ _ _) ?k1 ?k2 ?k3 ?k4 ?k5 ?k6 ?k7 ?k8 ?k9 ?kp ?kd ?ku ?_); (case k1 => k_asm); (case k2 => k_asm); (case k3 => k_asm); (case k4 => k_asm); (case k5 => (repeat (first | exact Slot.head | apply Slot.tail))); (case k7 => k_asm); (case k8 => first | exact rfl | assumption); (case k9 => (first | assumption | k_intsEnd)); (case k6 => ((try simp only [List.nil_append, List.cons_append]); k_all)); (case kp => (refine ⟨?_, ?_, ?_⟩ <;> (try simp only [List.length_set]) <;> omega)); (case kd => ktr_room); (case ku => ktr_units); (intro vs9 ns9 t9 c9 h9 tk9 F9 N9 I9 P9; (try dsimp only); (try (have Q9 := P9.2)); (try (replace P9 := P9.1)); (try simp only [List.nil_append, List.cons_append] at N9); (try k_fold)))))
set_option maxRecDepth 100000 in
set_option maxHeartbeats 2000000 in
theorem pop_tells (w : World) (mean : ExcName → Option Value) (mg mb : Str → Option Value) :
    Turns w mean mg mb 42 [] (fun ns => 0 < ns.length ∧ ns.length < 1000) (fun ns ns' => ns' = hpop ns ∧ ns'.length = ns.length - 1) (fun ns t => .int (ns.getD (Int.toNat 0) 0) t) 3 := by
  unfold Turns
  k_fill
  rintro dp un gd cn cs a ccd cl outer A₀ base h₀ L m s Q E l vs ns c own B F X N hoff T hk hi ⟨hpos, hlen⟩ hd hu hret
  have hMk := kstMark
  have hLn := IntsAre.length hi
  w_top off
  k_with_none
  have hDl : ns.dropLast.length = ns.length - 1 := List.length_dropLast
  refine wpAny_call ?_
  k_dflt cell_enter
  k_steps
  all_goals first
    | exact ret_as (by exact hret _ _ _ _ _ _ (by k_asm) (by k_asm) (by assumption) (len_pop (pop_end (by assumption) (by assumption)))) (pop_fst (by assumption))
    | exact ret_as (by exact hret _ _ _ _ _ _ (by k_asm) (by k_asm) (by assumption) (len_pop (pop_one (by assumption)))) (pop_last (by assumption) (by assumption))
    | trace_state
end Mine
end
section
open PySem PySem.W PyProof.Rows
namespace Mine
local macro_rules | `(tactic| walk_at "idle") => `(tactic| fail)
local macro_rules | `(tactic| walk_at "idle") => `(tactic| fail)
local macro_rules | `(tactic| walk_at "idle") => `(tactic| fail)
local macro_rules | `(tactic| walk_at "idle") => `(tactic| fail)
local macro_rules | `(tactic| walk_at "call ref") => `(tactic| (k_here; (with_reducible show wpAny _ _ (call (Value.ref 70) _) _ _ _); k_dflt ((refine' turns_use (su_tells _ _ _ _ _ _) ?k1 ?k2 ?k3 ?k4 ?k5 ?k6 ?k7 ?k8 ?k9 ?kp ?kd ?ku ?_); (case k1 => k_asm); (case k2 => k_asm); (case k3 => k_asm); (case k4 => k_asm); (case k5 => (repeat (first | exact Slot.head | apply Slot.tail))); (case k7 => k_asm); (case k8 => first | exact rfl | assumption); (case k9 => (first | assumption | k_intsEnd)); (case k6 => ((try simp only [List.nil_append, List.cons_append]); k_all)); (case kp => (refine ⟨?_, ?_, ?_⟩ <;> (try simp only [List.length_set]) <;> omega)); (case kd => ktr_room); (case ku => ktr_units); (intro vs9 ns9 t9 c9 h9 tk9 F9 N9 I9 P9; (try dsimp only); (try (have Q9 := P9.2)); (try (replace P9 := P9.1)); (try simp only [List.nil_append, List.cons_append] at N9); (try k_fold)))))
set_option maxRecDepth 100000 in
set_option maxHeartbeats 2000000 in
theorem repl_tells (w : World) (mean : ExcName → Option Value) (mg mb : Str → Option Value) (x : Int) (t1 : Tok) :
    Turns w mean mg mb 49 [.int x t1] (fun ns => 0 < ns.length ∧ ns.length < 1000) (fun ns ns' => ns' = hreplace ns x ∧ ns'.length = ns.length) (fun ns t => .int (ns.getD (Int.toNat 0) 0) t) 3 := by
  unfold Turns
  k_fill
  rintro dp un gd cn cs a ccd cl outer A₀ base h₀ L m s Q E l vs ns c own B F X N hoff T hk hi ⟨hpos, hlen⟩ hd hu hret
  have hMk := kstMark
  have hLn := IntsAre.length hi
  w_top off
  k_with_none
  refine wpAny_call ?_
  k_dflt cell_enter
  k_steps
  all_goals exact hret _ _ _ _ _ _ (by k_asm) (by k_asm) (by assumption) (len_repl (by assumption))
end Mine
end
section
open PySem PySem.W PyProof.Rows
namespace Mine
local macro_rules | `(tactic| walk_at "idle") => `(tactic| fail)
local macro_rules | `(tactic| walk_at "idle") => `(tactic| fail)
local macro_rules | `(tactic| walk_at "idle") => `(tactic| fail)
local macro_rules | `(tactic| walk_at "idle") => `(tactic| fail)
local macro_rules | `(tactic| walk_at "idle") => `(tactic| fail)
local macro_rules | `(tactic| walk_at "call ref") => `(tactic| (k_here; (with_reducible show wpAny _ _ (call (Value.ref 70) _) _ _ _); k_dflt ((refine' turns_use (su_tells _ _ _ _ _ _) ?k1 ?k2 ?k3 ?k4 ?k5 ?k6 ?k7 ?k8 ?k9 ?kp ?kd ?ku ?_); (case k1 => k_asm); (case k2 => k_asm); (case k3 => k_asm); (case k4 => k_asm); (case k5 => (repeat (first | exact Slot.head | apply Slot.tail))); (case k7 => k_asm); (case k8 => first | exact rfl | assumption); (case k9 => (first | assumption | k_intsEnd)); (case k6 => ((try simp only [List.nil_append, List.cons_append]); k_all)); (case kp => (refine ⟨?_, ?_, ?_⟩ <;> (try simp only [List.length_set]) <;> omega)); (case kd => ktr_room); (case ku => ktr_units); (intro vs9 ns9 t9 c9 h9 tk9 F9 N9 I9 P9; (try dsimp only); (try (have Q9 := P9.2)); (try (replace P9 := P9.1)); (try simp only [List.nil_append, List.cons_append] at N9); (try k_fold)))))
set_option maxRecDepth 100000 in
set_option maxHeartbeats 2000000 in
theorem ify_tells (w : World) (mean : ExcName → Option Value) (mg mb : Str → Option Value) :
    Turns w mean mg mb 56 [] (fun ns => ns.length < 1000) (fun ns ns' => ns' = hify ns (ns.length / 2) ∧ ns'.length = ns.length) (fun _ _ => .none) 3 := by
  unfold Turns
  k_fill
  rintro dp un gd cn cs a ccd cl outer A₀ base h₀ L m s Q E l vs ns c own B F X N hoff T hk hi hlen hd hu hret
  have hMk := kstMark
  have hLn := IntsAre.length hi
  w_top off
  k_with_none
  refine wpAny_call ?_
  k_dflt cell_enter
  k_steps
  all_goals refine kst_revRange (n := ns.length / 2) (σ := List Value × List Int × Nat) (fun c => (l, listOf c.1.toArray c.2.2) :: own) (fun _ => []) (fun c => IntsAre c.1 c.2.1) [] (fun pre c => c.2.1.length = ns.length ∧ hify c.2.1 (ns.length / 2 - pre.length) = hify ns (ns.length / 2)) (vs, ns, c) (by rfl) (by assumption) ?hb ?hn (by k_asm) (by k_asm) hi (fun _ hp => nomatch hp) ⟨rfl, rfl⟩ ?turn ?done
  case hb => rw [Int.fdiv_eq_ediv_of_nonneg _ (by decide)]; omega
  case hn => omega
  case turn =>
    rintro ⟨vs9, ns9, c9⟩ pre k t u h tk own9 hk9 hlt9 hoff9 hI9 ⟨hl9, hP9⟩ F9 N9
    dsimp only [kstB] at F9
    dsimp only at N9 hI9 hl9 hP9 hoff9
    simp only [List.cons_append, List.map_cons] at N9 hoff9
    have hLn9 := IntsAre.length hI9
    k_with "state" => (refine ⟨?_, ify_turn (by assumption) (by assumption) (by assumption) (by assumption)⟩; rename _ = siftup _ _ => e9; rw [e9, siftup_length]; assumption)
    try k_fold
    k_steps
    all_goals trace_state
  case done =>
    rintro ⟨vs9, ns9, c9⟩ u h tk hI9 ⟨hl9, hP9⟩ F9 N9
    dsimp only [kstB] at F9
    dsimp only at N9 hI9 hl9 hP9
    try k_fold
    k_steps
    all_goals exact hret _ _ 0 _ _ _ (by k_asm) (by k_asm) (by assumption) (len_hify (ify_end (downKs_length _ _) hP9))
end Mine
end
section
open PySem PySem.W PyProof.Rows
namespace Mine
local macro_rules | `(tactic| walk_at "idle") => `(tactic| fail)
local macro_rules | `(tactic| walk_at "idle") => `(tactic| fail)
local macro_rules | `(tactic| walk_at "idle") => `(tactic| fail)
local macro_rules | `(tactic| walk_at "idle") => `(tactic| fail)
local macro_rules | `(tactic| walk_at "idle") => `(tactic| fail)
local macro_rules | `(tactic| walk_at "idle") => `(tactic| fail)
local macro_rules | `(tactic| walk_at "idle") => `(tactic| fail)
/-- the call of the def at f gives back a value and changes nothing -/
def Gives (w : World) (mean : ExcName → Option Value) (mg mb : Str → Option Value) (f : Addr) (args : List Value) (res : Tok → Value) (deep : Nat) : Prop :=
  ∀ (dp un : Nat) (gd : Option (List Code)) (cn : Str) (cs : Scope) (a : Addr) (ccd : Value) (cl : List (Str × Addr)) (outer : List Env) (A₀ : Around) (base h₀ : Heap) (L : Addr) (m : Str → Option Value) (s : Shared) (Q E : Value → Shared → Prop)
    (news : List (Addr × Obj)),
    Below A₀ base outer h₀ → Fr h₀ L s.heap m → (hd.heap_39 w.params).In h₀ → News h₀ L s.heap news → Top hd.view_39 (looseW hd.view_39 []) mean mg mb h₀ → cs.kind = .function →
    dp + deep < recursionLimit → un + 8 * deep < cLine →
    (∀ (t : Tok) (h' : Heap) (tk' : Nat), Fr h₀ L h' m → News h₀ L h' news → Q (res t) { s with heap := h', toks := tk' }) →
    wpAny (model PySem.Challenge.rw_oy0028_01.row.prog w) (ktrTop dp un gd cn cs L a ccd cl outer) (call (.ref f) args) Q E s

def isb (n : Int) : Bool := if n = 0 then false else Builtin.bitAnd n (n - 1) == 0
def hbit (n : Int) : Int := ((Builtin.Int.intBits n : Nat) : Int) - 1
theorem bret_as {Q : Value → Shared → Prop} {x y : Bool} {s : Shared} (h : Q (.bool x) s) (e : y = x) : Q (.bool y) s := e ▸ h
set_option maxRecDepth 100000 in
set_option maxHeartbeats 2000000 in
theorem sb_tells (w : World) (mean : ExcName → Option Value) (mg mb : Str → Option Value) (n : Int) (t1 : Tok) :
    Gives w mean mg mb 21 [.int n t1] (fun _ => .bool (isb n)) 1 := by
  unfold Gives
  k_fill
  rintro dp un gd cn cs a ccd cl outer A₀ base h₀ L m s Q E news B F X N T hk hd hu hret
  have hMk := kstMark
  w_top off
  k_with_none
  refine wpAny_call ?_
  k_dflt cell_enter
  k_steps
  all_goals first
    | exact bret_as (by exact hret 0 _ _ (by k_asm) (by k_asm)) (by rw [isb, if_pos (by assumption)])
    | exact bret_as (by exact hret 0 _ _ (by k_asm) (by k_asm)) (by rw [isb, if_neg (by assumption)])
    | trace_state

set_option maxRecDepth 100000 in
set_option maxHeartbeats 2000000 in
theorem hb_tells (w : World) (mean : ExcName → Option Value) (mg mb : Str → Option Value) (n : Int) (t1 : Tok) :
    Gives w mean mg mb 28 [.int n t1] (fun t => .int (hbit n) t) 1 := by
  unfold Gives
  k_fill
  rintro dp un gd cn cs a ccd cl outer A₀ base h₀ L m s Q E news B F X N T hk hd hu hret
  have hMk := kstMark
  w_top off
  k_with_none
  refine wpAny_call ?_
  k_dflt cell_enter
  k_steps
  all_goals first
    | exact hret _ _ _ (by k_asm) (by k_asm)
    | trace_state

theorem gives_use {w : World} {mean : ExcName → Option Value} {mg mb : Str → Option Value} {f : Addr} {args : List Value} {res : Tok → Value} {deep : Nat}
    {dp un : Nat} {gd : Option (List Code)} {cn : Str} {cs : Scope} {a : Addr} {ccd : Value} {cl : List (Str × Addr)} {outer : List Env} {A₀ : Around} {base h₀ : Heap} {L : Addr} {m : Str → Option Value} {s : Shared} {Q E : Value → Shared → Prop}
    {news : List (Addr × Obj)} (C : Gives w mean mg mb f args res deep)
    (B : Below A₀ base outer h₀) (F : Fr h₀ L s.heap m) (X : (hd.heap_39 w.params).In h₀) (N : News h₀ L s.heap news) (T : Top hd.view_39 (looseW hd.view_39 []) mean mg mb h₀) (hk : cs.kind = .function)
    (hd : dp + deep < recursionLimit) (hu : un + 8 * deep < cLine)
    (ret : ∀ (t : Tok) (h' : Heap) (tk' : Nat), Fr h₀ L h' m → News h₀ L h' news → Q (res t) { s with heap := h', toks := tk' }) :
    wpAny (model PySem.Challenge.rw_oy0028_01.row.prog w) (ktrTop dp un gd cn cs L a ccd cl outer) (call (.ref f) args) Q E s :=
  C dp un gd cn cs a ccd cl outer A₀ base h₀ L m s Q E news B F X N T hk hd hu ret
end Mine
end
section
namespace Mine
-- reading a list behind a store
theorem getD_set (h : List Int) (p i : Nat) (x : Int) (hp : p < h.length) : (h.set p x).getD i 0 = if i = p then x else h.getD i 0 := by
  rw [List.getD_eq_getElem?_getD, List.getD_eq_getElem?_getD, List.getElem?_set]
  by_cases e : p = i
  · subst e; simp [hp]
  · have e' : ¬ i = p := fun q => e q.symm
    simp [e, e']
theorem getD_set_self (h : List Int) (p : Nat) (x : Int) (hp : p < h.length) : (h.set p x).getD p 0 = x := by rw [getD_set _ _ _ _ hp, if_pos rfl]
theorem getD_set_ne (h : List Int) (p i : Nat) (x : Int) (hp : p < h.length) (hi : i ≠ p) : (h.set p x).getD i 0 = h.getD i 0 := by rw [getD_set _ _ _ _ hp, if_neg hi]
theorem getD_eq {h : List Int} {i : Nat} (hi : i < h.length) : h.getD i 0 = h[i] := by
  rw [List.getD_eq_getElem?_getD, List.getElem?_eq_getElem hi]; rfl
theorem set_getD (h : List Int) (p : Nat) (hp : p < h.length) : h.set p (h.getD p 0) = h := by
  rw [getD_eq hp]
  exact List.set_getElem_self hp
/-- two places change their items -/
theorem swap_perm (h : List Int) (p q : Nat) (x : Int) (hp : p < h.length) (hq : q < h.length) (hpq : q ≠ p) : ((h.set p (h.getD q 0)).set q x).Perm (h.set p x) := by
  have hp' : p < (h.set p x).length := by rw [List.length_set]; exact hp
  have hq' : q < (h.set p x).length := by rw [List.length_set]; exact hq
  have k := List.set_set_perm (as := h.set p x) hp' hq'
  have e1 : (h.set p x)[p] = x := by simp
  have e2 : (h.set p x)[q] = h.getD q 0 := by rw [getD_eq hq]; simp [Ne.symm hpq]
  rw [e1, e2, List.set_set] at k
  exact k

/-- all the edges below places from s on are in order -/
def HF (s : Nat) (h : List Int) : Prop := ∀ i, 0 < i → i < h.length → s ≤ (i - 1) / 2 → h.getD ((i - 1) / 2) 0 ≤ h.getD i 0
inductive Desc (s : Nat) : Nat → Prop where
  | self : Desc s s
  | kid {p : Nat} : 0 < p → Desc s ((p - 1) / 2) → Desc s p
theorem Desc.le {s p : Nat} (d : Desc s p) : s ≤ p := by
  induction d with
  | self => exact Nat.le_refl _
  | kid _ _ ih => omega
theorem Desc.up {s p : Nat} (d : Desc s p) (h : s < p) : Desc s ((p - 1) / 2) := by
  cases d with
  | self => exact absurd h (Nat.lt_irrefl _)
  | kid _ d => exact d
theorem desc_zero (p : Nat) : Desc 0 p := by
  induction p using Nat.strongRecOn with
  | ind p ih =>
    by_cases h : p = 0
    · subst h; exact .self
    · exact .kid (by omega) (ih _ (by omega))

theorem sd_spec (x : Int) (s : Nat) (h : List Int) (p : Nat) : p < h.length → Desc s p →
    (∀ i, 0 < i → i < h.length → s ≤ (i - 1) / 2 → i ≠ p → (h.set p x).getD ((i - 1) / 2) 0 ≤ (h.set p x).getD i 0) →
    (s < p → ∀ c, 0 < c → c < h.length → (c - 1) / 2 = p → (h.set p x).getD ((p - 1) / 2) 0 ≤ (h.set p x).getD c 0) →
    HF s (sd x s h p) ∧ (sd x s h p).Perm (h.set p x) := by
  induction h, p using sd.induct (x := x) (s := s) with
  | case1 h p h1 h2 ih =>
    intro hp d hE hC
    have hq : (p - 1) / 2 < h.length := by omega
    have hqp : (p - 1) / 2 ≠ p := by omega
    generalize hQ : (p - 1) / 2 = q at *
    have hl : (h.set p (h.getD q 0)).length = h.length := List.length_set
    have G : ∀ i, (h.set p x).getD i 0 = if i = p then x else h.getD i 0 := fun i => getD_set _ _ _ _ hp
    have G' : ∀ i, ((h.set p (h.getD q 0)).set q x).getD i 0 = if i = q then x else if i = p then h.getD q 0 else h.getD i 0 := fun i => by
      rw [getD_set _ _ _ _ (by rw [hl]; exact hq), getD_set _ _ _ _ hp]
    have dq : Desc s q := hQ ▸ d.up h1
    have r := ih (by rw [hl]; exact hq) dq ?_ ?_
    · rw [sd, if_pos h1, hQ, if_pos h2]
      exact ⟨r.1, r.2.trans (swap_perm h p q x hp hq hqp)⟩
    · intro i hi0 hil his hiq
      rw [hl] at hil
      have e := hE i hi0 hil his
      rw [G', G', if_neg hiq]
      rw [G, G] at e
      by_cases hip : i = p
      · subst hip
        rw [hQ, if_pos rfl, if_pos rfl]
        omega
      · rw [if_neg hip]
        have e := e hip
        rw [if_neg hip] at e
        by_cases hpi : (i - 1) / 2 = p
        · rw [hpi, if_neg (Ne.symm hqp), if_pos rfl]
          have c := hC h1 i hi0 hil hpi
          rw [G, G, if_neg hqp, if_neg hip] at c
          exact c
        · rw [if_neg hpi] at e ⊢
          by_cases hqi : (i - 1) / 2 = q
          · rw [if_pos hqi]; rw [hqi] at e; omega
          · rw [if_neg hqi]; exact e
    · intro hsq c hc0 hcl hcq
      rw [hl] at hcl
      have hsq' := (dq.up hsq).le
      have hcq' : c ≠ q := by omega
      have hu1 : (q - 1) / 2 ≠ q := by omega
      have hu2 : (q - 1) / 2 ≠ p := by omega
      rw [G', G', if_neg hu1, if_neg hu2, if_neg hcq']
      have e1 := hE q (by omega) hq hsq' hqp
      rw [G, G, if_neg hu2, if_neg hqp] at e1
      by_cases hcp : c = p
      · rw [if_pos hcp]; exact e1
      · rw [if_neg hcp]
        have e2 := hE c hc0 hcl (by omega) hcp
        rw [G, G, hcq, if_neg hqp, if_neg hcp] at e2
        omega
  | case2 h p h1 h2 =>
    intro hp d hE hC
    rw [sd, if_pos h1, if_neg h2]
    refine ⟨fun i hi0 hil his => ?_, List.Perm.refl _⟩
    rw [List.length_set] at hil
    by_cases hip : i = p
    · subst hip
      rw [getD_set_self _ _ _ hp, getD_set_ne _ _ _ _ hp (by omega)]
      omega
    · exact hE i hi0 hil his hip
  | case3 h p h1 =>
    intro hp d hE hC
    rw [sd, if_neg h1]
    refine ⟨fun i hi0 hil his => ?_, List.Perm.refl _⟩
    rw [List.length_set] at hil
    have := d.le
    exact hE i hi0 hil his (by omega)

theorem kid_facts (h : List Int) (p : Nat) (hp : 2 * p + 1 < h.length) : kid h p < h.length ∧ (kid h p - 1) / 2 = p ∧ p < kid h p ∧ ∀ i, 0 < i → i < h.length → (i - 1) / 2 = p → h.getD (kid h p) 0 ≤ h.getD i 0 := by
  unfold kid
  split
  · next c =>
    refine ⟨c.1, by omega, by omega, fun i hi0 hil hip => ?_⟩
    have : i = 2 * p + 1 ∨ i = 2 * p + 2 := by omega
    rcases this with e | e
    · rw [e]; exact Int.not_lt.mp c.2
    · rw [e]; exact Int.le_refl _
  · next c =>
    refine ⟨hp, by omega, by omega, fun i hi0 hil hip => ?_⟩
    have : i = 2 * p + 1 ∨ i = 2 * p + 2 := by omega
    rcases this with e | e
    · rw [e]; exact Int.le_refl _
    · rw [e]
      by_cases hl : 2 * p + 2 < h.length
      · have : h.getD (2 * p + 1) 0 < h.getD (2 * p + 2) 0 := Decidable.not_not.mp fun q => c ⟨hl, q⟩
        omega
      · omega

theorem su_spec (s : Nat) (h : List Int) (p : Nat) : p < h.length → Desc s p →
    (∀ i, 0 < i → i < h.length → s ≤ (i - 1) / 2 → i ≠ p → (i - 1) / 2 ≠ p → h.getD ((i - 1) / 2) 0 ≤ h.getD i 0) →
    (s < p → ∀ c, 0 < c → c < h.length → (c - 1) / 2 = p → h.getD ((p - 1) / 2) 0 ≤ h.getD c 0) →
    (su h p).1.length = h.length ∧ (su h p).2 < h.length ∧ Desc s (su h p).2 ∧ h.length ≤ 2 * (su h p).2 + 1 ∧
    (∀ i, 0 < i → i < h.length → s ≤ (i - 1) / 2 → i ≠ (su h p).2 → (i - 1) / 2 ≠ (su h p).2 → (su h p).1.getD ((i - 1) / 2) 0 ≤ (su h p).1.getD i 0) ∧
    ∀ x, ((su h p).1.set (su h p).2 x).Perm (h.set p x) := by
  induction h, p using su.induct with
  | case1 h p h1 ih =>
    intro hp d hE hC
    obtain ⟨k1, k2, k3, k4⟩ := kid_facts h p h1
    generalize hQ : kid h p = c at *
    have hl : (h.set p (h.getD c 0)).length = h.length := List.length_set
    have G : ∀ i, (h.set p (h.getD c 0)).getD i 0 = if i = p then h.getD c 0 else h.getD i 0 := fun i => getD_set _ _ _ _ hp
    have dc : Desc s c := .kid (by omega) (by rw [k2]; exact d)
    have r := ih (by rw [hl]; exact k1) dc ?_ ?_
    · have e : su h p = su (h.set p (h.getD c 0)) c := by rw [su.eq_1 h p, if_pos h1, hQ]
      rw [hl] at r
      rw [e]
      exact ⟨r.1, r.2.1, r.2.2.1, r.2.2.2.1, r.2.2.2.2.1, fun x => (r.2.2.2.2.2 x).trans (swap_perm h p c x hp k1 (by omega))⟩
    · intro i hi0 hil his hic hpc
      rw [hl] at hil
      rw [G, G]
      by_cases hip : i = p
      · subst hip
        rw [if_neg (show ¬ (i - 1) / 2 = i by omega), if_pos rfl]
        exact hC (by omega) c (by omega) k1 k2
      · rw [if_neg hip]
        by_cases hpp : (i - 1) / 2 = p
        · rw [if_pos hpp]; exact k4 i hi0 hil hpp
        · rw [if_neg hpp]; exact hE i hi0 hil his hip hpp
    · intro hsc e he0 hel hec
      rw [hl] at hel
      rw [G, G, k2, if_pos rfl, if_neg (show ¬ e = p by omega)]
      have := hE e he0 hel (by rw [hec]; exact dc.le) (by omega) (by omega)
      rw [hec] at this
      exact this
  | case2 h p h1 =>
    intro hp d hE hC
    have e : su h p = (h, p) := by rw [su.eq_1 h p, if_neg h1]
    rw [e]
    exact ⟨rfl, hp, d, by omega, hE, fun x => List.Perm.refl _⟩

theorem siftup_spec (h : List Int) (s : Nat) (hs : s < h.length) (hF : HF (s + 1) h) : HF s (siftup h s) ∧ (siftup h s).Perm h := by
  obtain ⟨r1, r2, r3, r4, r5, r6⟩ := su_spec s h s hs .self (fun i hi0 hil his _ hps => hF i hi0 hil (by omega)) (fun q => absurd q (Nat.lt_irrefl _))
  rw [siftup, siftdown]
  generalize (su h s).1 = g at *
  generalize (su h s).2 = p at *
  have hpg : p < g.length := by omega
  rw [getD_set_self _ _ _ hpg]
  have hss : (g.set p (h.getD s 0)).set p (h.getD s 0) = g.set p (h.getD s 0) := by rw [List.set_set]
  have k := sd_spec (h.getD s 0) s (g.set p (h.getD s 0)) p (by rw [List.length_set]; exact hpg) r3 (fun i hi0 hil his hip => by
    rw [List.length_set] at hil
    rw [hss, getD_set_ne _ _ _ _ hpg hip, getD_set_ne _ _ _ _ hpg (by omega)]
    exact r5 i hi0 (by omega) his hip (by omega)) (fun _ c hc0 hcl hcp => by rw [List.length_set] at hcl; omega)
  rw [hss] at k
  refine ⟨k.1, k.2.trans ((r6 _).trans ?_)⟩
  rw [set_getD _ _ hs]
end Mine
end
section
namespace Mine
def Hp (h : List Int) : Prop := ∀ i, 0 < i → i < h.length → h.getD ((i - 1) / 2) 0 ≤ h.getD i 0
theorem hp_of_hf {h : List Int} (H : HF 0 h) : Hp h := fun i a b => H i a b (Nat.zero_le _)
theorem hp_nil : Hp [] := fun i _ b => absurd b (by simp)
theorem hp_min_at {h : List Int} (H : Hp h) (i : Nat) : i < h.length → h.getD 0 0 ≤ h.getD i 0 := by
  induction i using Nat.strongRecOn with
  | ind i ih =>
    intro hi
    by_cases h0 : i = 0
    · subst h0; exact Int.le_refl _
    · exact Int.le_trans (ih ((i - 1) / 2) (by omega) (by omega)) (H i (by omega) hi)
theorem hp_min {h : List Int} (H : Hp h) {x : Int} (hx : x ∈ h) : h.getD 0 0 ≤ x := by
  obtain ⟨i, hi, e⟩ := List.mem_iff_getElem.mp hx
  have := hp_min_at H i hi
  rw [getD_eq hi, e] at this
  exact this
theorem head_mem {h : List Int} (hp : 0 < h.length) : h.getD 0 0 ∈ h := by
  rw [getD_eq hp]; exact List.getElem_mem hp
theorem getD_app_left (h k : List Int) (i : Nat) (hi : i < h.length) : (h ++ k).getD i 0 = h.getD i 0 := by
  rw [getD_eq hi, getD_eq (by rw [List.length_append]; omega), List.getElem_append_left hi]
theorem getD_app_last (h : List Int) (x : Int) : (h ++ [x]).getD h.length 0 = x := by
  rw [getD_eq (by simp)]; simp
theorem push_spec {h : List Int} (H : Hp h) (x : Int) : Hp (hpush h x) ∧ (hpush h x).Perm (h ++ [x]) := by
  have hl : h.length < (h ++ [x]).length := by simp
  have e : (h ++ [x]).set h.length x = h ++ [x] := by
    have := set_getD (h ++ [x]) h.length hl
    rw [getD_app_last] at this
    exact this
  have k := sd_spec x 0 (h ++ [x]) h.length hl (desc_zero _) (fun i hi0 hil _ hip => by
    rw [List.length_append, List.length_singleton] at hil
    rw [e, getD_app_left _ _ _ (by omega), getD_app_left _ _ _ (by omega)]
    exact H i hi0 (by omega)) (fun _ c hc0 hcl hcp => by rw [List.length_append, List.length_singleton] at hcl; omega)
  rw [e] at k
  rw [hpush, siftdown, getD_app_last]
  exact ⟨hp_of_hf k.1, k.2⟩
theorem replace_spec {h : List Int} (H : Hp h) (hp : 0 < h.length) (x : Int) : Hp (hreplace h x) ∧ (hreplace h x).Perm (h.set 0 x) := by
  have k := siftup_spec (h.set 0 x) 0 (by rw [List.length_set]; exact hp) (fun i hi0 hil his => by
    rw [List.length_set] at hil
    rw [getD_set_ne _ _ _ _ hp (by omega), getD_set_ne _ _ _ _ hp (by omega)]
    exact H i hi0 hil)
  exact ⟨hp_of_hf k.1, k.2⟩
theorem replace_cons {h : List Int} (H : Hp h) (hp : 0 < h.length) (x : Int) : ∃ r, h.Perm (h.getD 0 0 :: r) ∧ (hreplace h x).Perm (x :: r) := by
  have k := (replace_spec H hp x).2
  match h, hp with
  | a :: r, _ => exact ⟨r, List.Perm.refl _, k⟩
theorem hp_dropLast {h : List Int} (H : Hp h) : Hp h.dropLast := by
  intro i hi0 hil
  rw [List.length_dropLast] at hil
  have g : ∀ j, j < h.length - 1 → h.dropLast.getD j 0 = h.getD j 0 := by
    intro j hj
    rw [getD_eq (by rw [List.length_dropLast]; exact hj), getD_eq (by omega), List.getElem_dropLast]
  rw [g _ (by omega), g _ hil]
  exact H i hi0 (by omega)
theorem pop_spec {h : List Int} (H : Hp h) (hp : 0 < h.length) : Hp (hpop h) ∧ h.Perm (h.getD 0 0 :: hpop h) := by
  have hn : h ≠ [] := fun e => by rw [e] at hp; exact absurd hp (by decide)
  have ed := List.dropLast_concat_getLast hn
  have hL : h.getLast?.getD 0 = h.getLast hn := by rw [List.getLast?_eq_some_getLast hn]; rfl
  rw [hpop, hL]
  generalize h.getLast hn = z at *
  by_cases hd : h.dropLast = []
  · rw [if_pos hd]
    refine ⟨hp_nil, ?_⟩
    rw [hd] at ed
    rw [← ed]
    exact List.Perm.refl _
  · rw [if_neg hd]
    have hdp : 0 < h.dropLast.length := List.length_pos_iff.mpr hd
    have k := replace_spec (hp_dropLast H) hdp z
    refine ⟨k.1, ?_⟩
    have k2 := k.2
    generalize hreplace h.dropLast z = w at *
    match hh : h.dropLast, hdp with
    | a :: r, _ =>
      rw [hh] at ed k2
      have e0 : h.getD 0 0 = a := by rw [← ed]; rfl
      rw [e0, ← ed]
      refine List.Perm.cons a ?_
      refine List.Perm.trans ?_ k2.symm
      exact (List.perm_append_comm (l₁ := r) (l₂ := [z]))
theorem hify_spec (n : Nat) : ∀ h : List Int, n ≤ h.length → HF n h → HF 0 (hify h n) ∧ (hify h n).Perm h := by
  induction n with
  | zero => intro h _ H; exact ⟨H, List.Perm.refl _⟩
  | succ n ih =>
    intro h hn H
    have k := siftup_spec h n (by omega) H
    have r := ih (siftup h n) (by rw [siftup_length]; omega) k.1
    exact ⟨r.1, r.2.trans k.2⟩
theorem ify_spec (h : List Int) : Hp (hify h (h.length / 2)) ∧ (hify h (h.length / 2)).Perm h := by
  have k := hify_spec (h.length / 2) h (by omega) (fun i hi0 hil his => by omega)
  exact ⟨hp_of_hf k.1, k.2⟩
end Mine
end
section
namespace Mine
def bitsOf (n : Int) : List Int := ((List.range 6).filter fun k => n / 2 ^ k % 2 == 1).map fun k => (2 : Int) ^ k
def Pw (x : Int) : Prop := ∃ j : Nat, x = 2 ^ j
/-- what is asked of a number of one bit -/
def okS (n : Int) : Bool := decide (2 ^ (hbit n).toNat = n) && (bitsOf n == [n])
/-- of one of more bits -/
def okM (n : Int) : Bool := decide (0 ≤ hbit n) && decide (1 ≤ n - 2 ^ (hbit n).toNat) && decide (n - 2 ^ (hbit n).toNat < 2 ^ (hbit n).toNat) && decide (2 ^ (hbit n).toNat < n) && (bitsOf n == bitsOf (n - 2 ^ (hbit n).toNat) ++ bitsOf (2 ^ (hbit n).toNat)) && ((bitsOf (2 ^ (hbit n).toNat)).length == 1) && decide (1 ≤ (bitsOf (n - 2 ^ (hbit n).toNat)).length)
def okN (n : Int) : Bool := (if isb n then okS n else okM n) && decide (0 ≤ hbit n) && decide (hbit n ≤ 5) && (bitsOf n).all (fun x => (List.range 6).any fun j => x == 2 ^ j) && decide ((bitsOf n).sum = n) && decide (1 ≤ (bitsOf n).length) && decide ((bitsOf n).length ≤ 6) && decide (isb (2 ^ 64 + n) = false) && decide (hbit (2 ^ 64 - n) = 63)
theorem okN_all : ∀ i : Fin 63, okN ((i.val : Int) + 1) = true := by decide +kernel
theorem okN_of {n : Int} (h1 : 1 ≤ n) (h2 : n ≤ 63) : okN n = true := by
  have := okN_all ⟨(n - 1).toNat, by omega⟩
  have e : (((n - 1).toNat : Nat) : Int) + 1 = n := by omega
  rw [e] at this
  exact this
structure NumFacts (n : Int) : Prop where
  one : isb n = true → 2 ^ (hbit n).toNat = n ∧ bitsOf n = [n]
  more : isb n = false → 1 ≤ n - 2 ^ (hbit n).toNat ∧ n - 2 ^ (hbit n).toNat < 2 ^ (hbit n).toNat ∧ 2 ^ (hbit n).toNat < n ∧ bitsOf n = bitsOf (n - 2 ^ (hbit n).toNat) ++ bitsOf (2 ^ (hbit n).toNat) ∧ (bitsOf (2 ^ (hbit n).toNat)).length = 1 ∧ 1 ≤ (bitsOf (n - 2 ^ (hbit n).toNat)).length
  hb : 0 ≤ hbit n ∧ hbit n ≤ 5
  pw : ∀ x ∈ bitsOf n, Pw x
  sum : (bitsOf n).sum = n
  len : 1 ≤ (bitsOf n).length ∧ (bitsOf n).length ≤ 6
  big : isb (2 ^ 64 + n) = false
  high : hbit (2 ^ 64 - n) = 63
theorem numFacts {n : Int} (h1 : 1 ≤ n) (h2 : n ≤ 63) : NumFacts n := by
  have h := okN_of h1 h2
  simp only [okN, Bool.and_eq_true, decide_eq_true_eq, List.all_eq_true, List.any_eq_true, beq_iff_eq] at h
  obtain ⟨⟨⟨⟨⟨⟨⟨⟨a, b⟩, c⟩, d⟩, e⟩, f⟩, g⟩, i⟩, j⟩ := h
  refine ⟨fun hi => ?_, fun hi => ?_, ⟨b, c⟩, fun x hx => ?_, e, ⟨f, g⟩, i, j⟩
  · rw [hi, if_pos rfl] at a
    simp only [okS, Bool.and_eq_true, decide_eq_true_eq, beq_iff_eq] at a
    exact a
  · rw [hi, if_neg (by decide)] at a
    simp only [okM, Bool.and_eq_true, decide_eq_true_eq, beq_iff_eq] at a
    obtain ⟨⟨⟨⟨⟨⟨_, a1⟩, a2⟩, a3⟩, a4⟩, a5⟩, a6⟩ := a
    exact ⟨a1, a2, a3, a4, a5, a6⟩
  · obtain ⟨k, _, hk⟩ := d x hx
    exact ⟨k, hk⟩
end Mine
end
section
namespace Mine
theorem sum_perm {a b : List Int} (p : a.Perm b) : a.sum = b.sum := by
  induction p with
  | nil => rfl
  | cons x _ ih => rw [List.sum_cons, List.sum_cons, ih]
  | swap x y l => simp only [List.sum_cons]; omega
  | trans _ _ h1 h2 => exact h1.trans h2
def cost1 (n : Int) : Nat := 2 * (bitsOf n).length - 1
def cost (h : List Int) : Nat := (h.map cost1).sum
theorem cost_perm {a b : List Int} (p : a.Perm b) : cost a = cost b := (p.map _).sum_nat
theorem cost_cons (a : Int) (r : List Int) : cost (a :: r) = cost1 a + cost r := by simp only [cost, List.map_cons, List.sum_cons]
theorem cost_len {h : List Int} (rng : ∀ x ∈ h, 1 ≤ x ∧ x ≤ 63) : h.length ≤ cost h := by
  induction h with
  | nil => simp [cost]
  | cons a r ih =>
    have r1 := rng a List.mem_cons_self
    have := (numFacts r1.1 r1.2).len
    have := ih fun x hx => rng x (List.mem_cons_of_mem _ hx)
    rw [cost_cons, List.length_cons, cost1]
    omega
structure PInv (T : List Int) (k : Nat) (h b : List Int) : Prop where
  hp : Hp h
  rng : ∀ x ∈ h, 1 ≤ x ∧ x ≤ 63
  tgt : ∃ s : List Int, s.Perm h ∧ s.Pairwise (· ≤ ·) ∧ T = b ++ s.flatMap bitsOf
  cst : cost h + k ≤ 60
  len : b.length ≤ k
structure FInv (pre h : List Int) : Prop where
  hp : Hp h
  perm : h.Perm pre
def tgt (ns : List Int) : List Int := (ns.mergeSort (fun a b => decide (a ≤ b))).flatMap bitsOf
structure NumsOk (ns : List Int) : Prop where
  len : ns.length ≤ 6
  rng : ∀ x ∈ ns, 1 ≤ x ∧ x ≤ 63
  cst : cost ns ≤ 60
theorem PInv.hlen {T : List Int} {k : Nat} {h b : List Int} (I : PInv T k h b) : h.length ≤ 60 := by
  have := cost_len I.rng
  have := I.cst
  omega
theorem PInv.head {T : List Int} {k : Nat} {h b : List Int} (I : PInv T k h b) (hp : 0 < h.length) : NumFacts (h.getD 0 0) := by
  have := I.rng _ (head_mem hp)
  exact numFacts this.1 this.2
theorem hbit_b {T h b : List Int} {k : Nat} (I : PInv T k h b) (hp : 0 < h.length) : 0 ≤ hbit (h.getD (Int.toNat 0) 0) ∧ hbit (h.getD (Int.toNat 0) 0) ≤ 5 := (I.head hp).hb
theorem no_way {T h b : List Int} {k : Nat} (I : PInv T k h b) (hp : 0 < h.length) (h1 : (isb (h.getD (Int.toNat 0) 0) == true) = true) (h2 : 2 ^ (hbit (h.getD (Int.toNat 0) 0)).toNat ≠ h.getD (Int.toNat 0) 0) : False :=
  h2 ((I.head hp).one (beq_iff_eq.mp h1)).1

/-- the sorted form of a heap begins with its first one -/
theorem sorted_head {h s : List Int} (H : Hp h) (hp : 0 < h.length) (P : s.Perm h) (O : s.Pairwise (· ≤ ·)) {r : List Int} (R : h.Perm (h.getD 0 0 :: r)) : ∃ s', s = h.getD 0 0 :: s' ∧ s'.Perm r ∧ s'.Pairwise (· ≤ ·) := by
  match s, P, O with
  | [], P, _ => have := P.length_eq; simp at this; omega
  | a :: s', P, O =>
    have h1 : h.getD 0 0 ≤ a := hp_min H (P.mem_iff.mp List.mem_cons_self)
    have h2 : a ≤ h.getD 0 0 := by
      rcases List.mem_cons.mp (P.mem_iff.mpr (head_mem hp)) with e | e
      · exact Int.le_of_eq e.symm
      · exact (List.pairwise_cons.mp O).1 _ e
    have e : a = h.getD 0 0 := by omega
    rw [← e] at R ⊢
    exact ⟨s', rfl, (P.trans R).cons_inv, (List.pairwise_cons.mp O).2⟩

/-- the turn at which the least one is told -/
theorem p_pop {T h b : List Int} {k : Nat} (I : PInv T k h b) (hp : 0 < h.length) (h1 : isb (h.getD 0 0) = true) : PInv T (k + 1) (hpop h) (b ++ [h.getD 0 0]) := by
  obtain ⟨H, P⟩ := pop_spec I.hp hp
  obtain ⟨s, sP, sO, sT⟩ := I.tgt
  obtain ⟨s', rfl, sP', sO'⟩ := sorted_head I.hp hp sP sO P
  have f := (I.head hp).one h1
  have c := cost_perm P
  rw [cost_cons, cost1, f.2] at c
  have c' := I.cst
  refine ⟨H, fun x hx => I.rng x (P.mem_iff.mpr (List.mem_cons_of_mem _ hx)), ⟨s', sP', sO', ?_⟩, ?_, ?_⟩
  · rw [sT, List.flatMap_cons, f.2, List.append_assoc]
  · rw [List.length_singleton] at c; omega
  · have := I.len
    rw [List.length_append, List.length_singleton]; omega
/-- the turn at which the least one is parted -/
theorem p_part {T h b : List Int} {k : Nat} (I : PInv T k h b) (hp : 0 < h.length) (h1 : isb (h.getD 0 0) = false) :
    PInv T (k + 1) (hpush (hreplace h (2 ^ (hbit (h.getD 0 0)).toNat)) (h.getD 0 0 - 2 ^ (hbit (h.getD 0 0)).toNat)) b := by
  obtain ⟨r, P, P2⟩ := replace_cons I.hp hp (2 ^ (hbit (h.getD 0 0)).toNat)
  have H2 := (replace_spec I.hp hp (2 ^ (hbit (h.getD 0 0)).toNat)).1
  obtain ⟨H3, P3⟩ := push_spec H2 (h.getD 0 0 - 2 ^ (hbit (h.getD 0 0)).toNat)
  obtain ⟨s, sP, sO, sT⟩ := I.tgt
  obtain ⟨s', rfl, sP', sO'⟩ := sorted_head I.hp hp sP sO P
  have f := (I.head hp).more h1
  have rg := I.rng _ (head_mem hp)
  have c := cost_perm P
  have P4 := P3.trans ((P2.append_right [h.getD 0 0 - 2 ^ (hbit (h.getD 0 0)).toNat]).trans (List.perm_append_comm (l₂ := [h.getD 0 0 - 2 ^ (hbit (h.getD 0 0)).toNat])))
  have c2 := cost_perm P4
  have c' := I.cst
  have I' := I.rng
  have IL := I.len
  generalize hpush (hreplace h (2 ^ (hbit (h.getD 0 0)).toNat)) (h.getD 0 0 - 2 ^ (hbit (h.getD 0 0)).toNat) = q at *
  generalize (2 : Int) ^ (hbit (h.getD 0 0)).toNat = x at *
  generalize h.getD 0 0 = n at *
  obtain ⟨f1, f2, f3, f4, f5, f6⟩ := f
  change q.Perm ((n - x) :: x :: r) at P4
  change cost q = cost ((n - x) :: x :: r) at c2
  refine ⟨H3, fun y hy => ?_, ⟨(n - x) :: x :: s', ?_, ?_, ?_⟩, ?_, ?_⟩
  · rcases List.mem_cons.mp (P4.mem_iff.mp hy) with e | hy
    · omega
    · rcases List.mem_cons.mp hy with e | hy
      · omega
      · exact I' y (P.mem_iff.mpr (List.mem_cons_of_mem _ hy))
  · exact ((sP'.cons x).cons (n - x)).trans P4.symm
  · have o := List.pairwise_cons.mp sO
    refine List.pairwise_cons.mpr ⟨fun y hy => ?_, List.pairwise_cons.mpr ⟨fun y hy => ?_, sO'⟩⟩
    · rcases List.mem_cons.mp hy with e | hy
      · omega
      · have := o.1 y hy; omega
    · have := o.1 y hy; omega
  · rw [sT, List.flatMap_cons, List.flatMap_cons, List.flatMap_cons, f4, List.append_assoc]
  · rw [cost_cons, cost1] at c
    rw [cost_cons, cost_cons, cost1, cost1, f5] at c2
    rw [f4, List.length_append, f5] at c
    omega
  · omega

-- the turns' ends
theorem st_f0 : FInv [] [] ∧ ([] : List Int).length = ([] : List Int).length := ⟨⟨hp_nil, List.Perm.refl _⟩, rfl⟩
theorem st_f1 {pre h r : List Int} {n : Int} (I : FInv pre h) (P : r = hpush h n) : FInv (pre ++ [n]) r ∧ r.length = (pre ++ [n]).length := by
  subst P
  have k := push_spec I.hp n
  have p := k.2.trans (I.perm.append_right [n])
  exact ⟨⟨k.1, p⟩, p.length_eq⟩
theorem tgt_sorted (ns : List Int) : (ns.mergeSort (fun a b => decide (a ≤ b))).Pairwise (· ≤ ·) := by
  have := List.pairwise_mergeSort (le := fun a b : Int => decide (a ≤ b)) (fun a b c h1 h2 => by
    simp only [decide_eq_true_eq] at *; omega) (fun a b => by simp only [Bool.or_eq_true, decide_eq_true_eq]; omega) ns
  simpa only [decide_eq_true_eq] using this
theorem st_p0 {ns h : List Int} (N : NumsOk ns) (I : FInv ns h) : PInv (tgt ns) ([] : List Int).length h [] ∧ ([] : List Int).length ≤ ([] : List Int).length ∧ h.length ≤ 60 := by
  have J : PInv (tgt ns) ([] : List Int).length h [] := by
    refine ⟨I.hp, fun x hx => N.rng x (I.perm.mem_iff.mp hx), ⟨ns.mergeSort (fun a b => decide (a ≤ b)), (List.mergeSort_perm _ _).trans I.perm.symm, tgt_sorted ns, rfl⟩, ?_, Nat.le_refl _⟩
    rw [cost_perm I.perm]
    have := N.cst
    simpa using this
  exact ⟨J, Nat.le_refl _, J.hlen⟩
theorem st_pe {T h b pre : List Int} {k : Int} (I : PInv T pre.length h b) (he : h = []) (hk : pre.length < (60 - 0 : Int).toNat) : PInv T (pre ++ [k]).length h b ∧ b.length ≤ (pre ++ [k]).length ∧ h.length ≤ 60 := by
  subst he
  have hk' : pre.length < 60 := hk
  have := I.len
  have l : (pre ++ [k]).length = pre.length + 1 := by simp
  rw [l]
  exact ⟨⟨I.hp, I.rng, I.tgt, by simp [cost]; omega, by omega⟩, by omega, by simp⟩
theorem st_ps {T h b pre r : List Int} {k : Int} (I : PInv T pre.length h b) (hp : 0 < h.length) (h1 : (isb (h.getD (Int.toNat 0) 0) == true) = true) (P : r = hpop h) :
    PInv T (pre ++ [k]).length r (b ++ [h.getD (Int.toNat 0) 0]) ∧ (b ++ [h.getD (Int.toNat 0) 0]).length ≤ (pre ++ [k]).length ∧ r.length ≤ 60 := by
  subst P
  have l : (pre ++ [k]).length = pre.length + 1 := by simp
  rw [l]
  have J := p_pop I hp (beq_iff_eq.mp h1)
  exact ⟨J, J.len, J.hlen⟩
theorem st_pr {T h b pre r q : List Int} {k : Int} (I : PInv T pre.length h b) (hp : 0 < h.length) (h1 : (isb (h.getD (Int.toNat 0) 0) == false) = true) (P : r = hreplace h (2 ^ (hbit (h.getD (Int.toNat 0) 0)).toNat)) (P' : q = hpush r (h.getD (Int.toNat 0) 0 - 2 ^ (hbit (h.getD (Int.toNat 0) 0)).toNat)) :
    PInv T (pre ++ [k]).length q b ∧ b.length ≤ (pre ++ [k]).length ∧ q.length ≤ 60 := by
  subst P'
  subst P
  have l : (pre ++ [k]).length = pre.length + 1 := by simp
  rw [l]
  have J := p_part I hp (beq_iff_eq.mp h1)
  exact ⟨J, J.len, J.hlen⟩
theorem p_end {T h b ks : List Int} (I : PInv T ks.length h b) (hk : ks.length = 60) : b = T := by
  have c := I.cst
  have l := cost_len I.rng
  have e : h = [] := List.eq_nil_of_length_eq_zero (by omega)
  obtain ⟨s, sP, _, sT⟩ := I.tgt
  rw [e] at sP
  rw [sT, sP.eq_nil]
  simp

structure SOk (ns : List Int) : Prop where
  pw : ∀ x ∈ ns, Pw x
  len : ns.length ≤ 60
  sum : ns.sum < 512
structure SInv (S : Int) (k : Nat) (h t : List Int) : Prop where
  hp : Hp h
  pwh : ∀ x ∈ h, Pw x
  pwt : ∀ x ∈ t, Pw x
  inc : t.Pairwise (· < ·)
  sep : ∀ y ∈ t, ∀ x ∈ h, y < x
  sum : t.sum + h.sum = S
  cnt : h.length + k ≤ 60
  len : t.length ≤ k
def bitsUpTo (n : Int) (j : Nat) : List Int := ((List.range j).filter fun k => n / 2 ^ k % 2 == 1).map fun k => (2 : Int) ^ k
theorem bitsUpTo_yes {n : Int} {j : Nat} (h : (n / 2 ^ j % 2 == 1) = true) : bitsUpTo n (j + 1) = bitsUpTo n j ++ [2 ^ j] := by
  simp only [bitsUpTo, List.range_succ, List.filter_append, List.map_append, List.filter_cons, h, if_true, List.filter_nil, List.map_cons, List.map_nil]
theorem bitsUpTo_no {n : Int} {j : Nat} (h : (n / 2 ^ j % 2 == 1) = false) : bitsUpTo n (j + 1) = bitsUpTo n j := by
  simp only [bitsUpTo, List.range_succ, List.filter_append, List.map_append, List.filter_cons, h, Bool.false_eq_true, if_false, List.filter_nil, List.map_nil, List.append_nil]
theorem bitsUpTo_len (n : Int) (j : Nat) : (bitsUpTo n j).length ≤ j := by
  rw [bitsUpTo, List.length_map]
  exact Nat.le_trans (List.length_filter_le _ _) (by simp)
def sumBits (S : Int) : List Int := bitsUpTo S 9
theorem st_s0 {ns h : List Int} (N : SOk ns) (P : h = hify ns (ns.length / 2)) : SInv ns.sum ([] : List Int).length h [] ∧ ([] : List Int).length ≤ ([] : List Int).length ∧ h.length ≤ 60 := by
  subst P
  have k := ify_spec ns
  have L := N.len
  have l := k.2.length_eq
  refine ⟨⟨k.1, fun x hx => N.pw x (k.2.mem_iff.mp hx), fun x hx => absurd hx (by simp), List.Pairwise.nil, fun x hx => absurd hx (by simp), ?_, by simp; omega, Nat.le_refl _⟩, Nat.le_refl _, by omega⟩
  rw [sum_perm k.2]; simp
theorem st_se {S : Int} {h t pre : List Int} {k : Int} (I : SInv S pre.length h t) (he : h = []) (hk : pre.length < (60 - 0 : Int).toNat) : SInv S (pre ++ [k]).length h t ∧ t.length ≤ (pre ++ [k]).length ∧ h.length ≤ 60 := by
  subst he
  have hk' : pre.length < 60 := hk
  have := I.len
  have l : (pre ++ [k]).length = pre.length + 1 := by simp
  rw [l]
  exact ⟨⟨I.hp, I.pwh, I.pwt, I.inc, I.sep, I.sum, by simp; omega, by omega⟩, by omega, by simp⟩
theorem s_told {S : Int} {h t : List Int} {k : Nat} (I : SInv S k h t) (hp : 0 < h.length) (he : ∀ x ∈ hpop h, h.getD 0 0 < x) : SInv S (k + 1) (hpop h) (t ++ [h.getD 0 0]) := by
  obtain ⟨H, P⟩ := pop_spec I.hp hp
  have l := P.length_eq
  have s := sum_perm P
  have s' := I.sum
  have c := I.cnt
  have tl := I.len
  rw [List.length_cons] at l
  rw [List.sum_cons] at s
  refine ⟨H, fun x hx => I.pwh x (P.mem_iff.mpr (List.mem_cons_of_mem _ hx)), fun x hx => ?_, ?_, fun y hy x hx => ?_, ?_, by omega, by rw [List.length_append, List.length_singleton]; omega⟩
  · rcases List.mem_append.mp hx with hx | hx
    · exact I.pwt x hx
    · rw [List.mem_singleton.mp hx]; exact I.pwh _ (head_mem hp)
  · refine List.pairwise_append.mpr ⟨I.inc, List.pairwise_singleton _ _, fun a ha b hb => ?_⟩
    rw [List.mem_singleton.mp hb]
    exact I.sep a ha _ (head_mem hp)
  · rcases List.mem_append.mp hy with hy | hy
    · exact I.sep y hy x (P.mem_iff.mpr (List.mem_cons_of_mem _ hx))
    · rw [List.mem_singleton.mp hy]; exact he x hx
  · rw [List.sum_append_int, List.sum_singleton]; omega
theorem SInv.hlen {S : Int} {h t : List Int} {k : Nat} (I : SInv S k h t) : h.length ≤ 60 := by have := I.cnt; omega
theorem st_st1 {S : Int} {h t pre r : List Int} {k : Int} (I : SInv S pre.length h t) (hp : 0 < h.length) (P : r = hpop h) (he : r = []) :
    SInv S (pre ++ [k]).length r (t ++ [h.getD (Int.toNat 0) 0]) ∧ (t ++ [h.getD (Int.toNat 0) 0]).length ≤ (pre ++ [k]).length ∧ r.length ≤ 60 := by
  subst P
  have l : (pre ++ [k]).length = pre.length + 1 := by simp
  rw [l]
  have J := s_told I hp (fun x hx => by rw [he] at hx; exact absurd hx (by simp))
  exact ⟨J, J.len, J.hlen⟩
theorem st_st2 {S : Int} {h t pre r : List Int} {k : Int} (I : SInv S pre.length h t) (hp : 0 < h.length) (P : r = hpop h) (hr : 0 < r.length) (he : r.getD (Int.toNat 0) 0 ≠ h.getD (Int.toNat 0) 0) :
    SInv S (pre ++ [k]).length r (t ++ [h.getD (Int.toNat 0) 0]) ∧ (t ++ [h.getD (Int.toNat 0) 0]).length ≤ (pre ++ [k]).length ∧ r.length ≤ 60 := by
  subst P
  have l : (pre ++ [k]).length = pre.length + 1 := by simp
  rw [l]
  have he' : (hpop h).getD 0 0 ≠ h.getD 0 0 := he
  obtain ⟨H, P⟩ := pop_spec I.hp hp
  have J := s_told I hp (fun x hx => by
    have h1 := hp_min H hx
    have h2 := hp_min I.hp (P.mem_iff.mpr (List.mem_cons_of_mem _ (head_mem hr)))
    omega)
  exact ⟨J, J.len, J.hlen⟩
theorem pw_two {x : Int} (h : Pw x) : Pw (2 * x) := by
  obtain ⟨j, rfl⟩ := h
  exact ⟨j + 1, by rw [Int.pow_succ]; omega⟩
theorem pw_pos {x : Int} (h : Pw x) : 0 < x := by
  obtain ⟨j, rfl⟩ := h
  exact Int.pow_pos (by decide)
theorem st_sr {S : Int} {h t pre r q : List Int} {k : Int} (I : SInv S pre.length h t) (hp : 0 < h.length) (P : r = hpop h) (hr : 0 < r.length) (he : r.getD (Int.toNat 0) 0 = h.getD (Int.toNat 0) 0) (P' : q = hreplace r (2 * h.getD (Int.toNat 0) 0)) :
    SInv S (pre ++ [k]).length q t ∧ t.length ≤ (pre ++ [k]).length ∧ q.length ≤ 60 := by
  subst P'
  subst P
  have l : (pre ++ [k]).length = pre.length + 1 := by simp
  rw [l]
  have he' : (hpop h).getD 0 0 = h.getD 0 0 := he
  obtain ⟨H, P⟩ := pop_spec I.hp hp
  obtain ⟨w, P2, P3⟩ := replace_cons H hr (2 * h.getD 0 0)
  have H3 := (replace_spec H hr (2 * h.getD 0 0)).1
  have pwn := I.pwh _ (head_mem hp)
  have npos := pw_pos pwn
  have sepn := fun y hy => I.sep y hy _ (head_mem hp)
  have l1 := P.length_eq
  have l2 := P2.length_eq
  have l3 := P3.length_eq
  have s1 := sum_perm P
  have s2 := sum_perm P2
  have s3 := sum_perm P3
  have c := I.cnt
  have tl := I.len
  have sS := I.sum
  simp only [List.length_cons, List.sum_cons] at l1 l2 l3 s1 s2 s3
  have J : SInv S (pre.length + 1) (hreplace (hpop h) (2 * h.getD 0 0)) t := by
    refine ⟨H3, fun x hx => ?_, I.pwt, I.inc, fun y hy x hx => ?_, by omega, by omega, by omega⟩
    · rcases List.mem_cons.mp (P3.mem_iff.mp hx) with e | hx
      · rw [e]; exact pw_two pwn
      · exact I.pwh x (P.mem_iff.mpr (List.mem_cons_of_mem _ (P2.mem_iff.mpr (List.mem_cons_of_mem _ hx))))
    · rcases List.mem_cons.mp (P3.mem_iff.mp hx) with e | hx
      · have := sepn y hy; omega
      · exact I.sep y hy x (P.mem_iff.mpr (List.mem_cons_of_mem _ (P2.mem_iff.mpr (List.mem_cons_of_mem _ hx))))
  exact ⟨J, J.len, J.hlen⟩

/-- the sum of a growing row of powers of two below 2 ^ J -/
theorem pw_mono {a b : Nat} (h : a < b) : (2 : Int) ^ a < 2 ^ b := by
  have := Nat.pow_lt_pow_right (a := 2) (by decide) h
  exact_mod_cast this
theorem pw_lt {a b : Nat} (h : (2 : Int) ^ a < 2 ^ b) : a < b := by
  by_cases c : a < b
  · exact c
  · by_cases e : a = b
    · subst e; omega
    · have := pw_mono (show b < a by omega); omega
theorem bits_low {S x : Int} {j : Nat} (h : ∃ q, S = x + q * 2 ^ j) : ∀ k, k ≤ j → bitsUpTo S k = bitsUpTo x k := by
  intro k hk
  obtain ⟨q, rfl⟩ := h
  have e : ∀ i, i < j → (x + q * 2 ^ j) / 2 ^ i % 2 = x / 2 ^ i % 2 := by
    intro i hi
    obtain ⟨d, rfl⟩ : ∃ d, j = i + (d + 1) := ⟨j - i - 1, by omega⟩
    have pos : (2 : Int) ^ i ≠ 0 := Int.ne_of_gt (Int.pow_pos (by decide))
    have e1 : q * (2 : Int) ^ (i + (d + 1)) = (q * 2 ^ d * 2) * 2 ^ i := by
      rw [Int.pow_add, Int.pow_succ]
      rw [Int.mul_comm (2 ^ i) (2 ^ d * 2), ← Int.mul_assoc, ← Int.mul_assoc]
    rw [e1, Int.add_mul_ediv_right _ _ pos]
    omega
  unfold bitsUpTo
  congr 1
  refine List.filter_congr fun i hi => ?_
  rw [e i (by have := List.mem_range.mp hi; omega)]
theorem inc_bits (J : Nat) : ∀ t : List Int, t.Pairwise (· < ·) → (∀ x ∈ t, Pw x) → (∀ x ∈ t, x < 2 ^ J) → t = bitsUpTo t.sum J ∧ t.sum < 2 ^ J ∧ 0 ≤ t.sum := by
  induction J with
  | zero =>
    intro t _ hw hl
    match t, hw, hl with
    | [], _, _ => exact ⟨rfl, by decide, by decide⟩
    | a :: r, hw, hl =>
      have := pw_pos (hw a List.mem_cons_self)
      have := hl a List.mem_cons_self
      simp at this; omega
  | succ J ih =>
    intro t ho hw hl
    have pJ : (2 : Int) ^ (J + 1) = 2 ^ J * 2 := Int.pow_succ _ _
    by_cases hm : ∀ x ∈ t, x < 2 ^ J
    · obtain ⟨e, l, z⟩ := ih t ho hw hm
      refine ⟨?_, by omega, z⟩
      have : t.sum / 2 ^ J = 0 := Int.ediv_eq_zero_of_lt z l
      rw [bitsUpTo_no (by rw [this]; decide)]
      exact e
    · have hex : ∃ x ∈ t, ¬ x < 2 ^ J := by
        refine Classical.byContradiction fun c => hm fun x hx => Classical.byContradiction fun d => c ⟨x, hx, d⟩
      obtain ⟨x, hx, hn⟩ := hex
      have ex : x = 2 ^ J := by
        obtain ⟨j, rfl⟩ := hw x hx
        have h1 := pw_lt (hl _ hx)
        by_cases c : j = J
        · rw [c]
        · exact absurd (pw_mono (show j < J by omega)) hn
      subst ex
      obtain ⟨a, b, rfl⟩ := List.append_of_mem hx
      obtain ⟨o1, o2, o3⟩ := List.pairwise_append.mp ho
      have eb : b = [] := by
        match b, o2, hl, hw with
        | [], _, _, _ => rfl
        | y :: r, o2, hl, hw =>
          have h1 := (List.pairwise_cons.mp o2).1 y List.mem_cons_self
          have h2 := hl y (by simp)
          obtain ⟨j, rfl⟩ := hw y (by simp)
          have := pw_lt h1
          have := pw_lt h2
          omega
      subst eb
      obtain ⟨e, l, z⟩ := ih a o1 (fun x hx => hw x (by simp [hx])) (fun x hx => o3 x hx _ (by simp))
      have sm : (a ++ [(2 : Int) ^ J]).sum = a.sum + 2 ^ J := by rw [List.sum_append_int, List.sum_singleton]
      rw [sm]
      have pos : (2 : Int) ^ J ≠ 0 := Int.ne_of_gt (Int.pow_pos (by decide))
      have d : (a.sum + 2 ^ J) / 2 ^ J = 1 := by
        have := Int.add_mul_ediv_right a.sum 1 pos
        rw [Int.one_mul, Int.ediv_eq_zero_of_lt z l] at this
        omega
      refine ⟨?_, by omega, by omega⟩
      rw [bitsUpTo_yes (by rw [d]; decide), bits_low (x := a.sum) (j := J) ⟨1, by omega⟩ J (Nat.le_refl _), ← e]
theorem mem_le_sum {t : List Int} (hw : ∀ x ∈ t, Pw x) : 0 ≤ t.sum ∧ ∀ x ∈ t, x ≤ t.sum := by
  induction t with
  | nil => exact ⟨Int.le_refl _, fun x hx => absurd hx (by simp)⟩
  | cons a r ih =>
    obtain ⟨z, l⟩ := ih fun x hx => hw x (List.mem_cons_of_mem _ hx)
    have := pw_pos (hw a List.mem_cons_self)
    rw [List.sum_cons]
    refine ⟨by omega, fun x hx => ?_⟩
    rcases List.mem_cons.mp hx with e | hx
    · omega
    · have := l x hx; omega
theorem s_end {S : Int} {h t ks : List Int} (hS : S < 512) (I : SInv S ks.length h t) (hk : ks.length = 60) : t = sumBits S := by
  have c := I.cnt
  have e : h = [] := List.eq_nil_of_length_eq_zero (by omega)
  have s := I.sum
  rw [e] at s
  have s' : t.sum = S := by simpa using s
  have m := mem_le_sum I.pwt
  have := (inc_bits 9 t I.inc I.pwt (fun x hx => by have := m.2 x hx; have e9 : (2 : Int) ^ 9 = 512 := by decide
                                                    omega)).1
  rw [s'] at this
  exact this
end Mine
end
section
open PySem PySem.W PyProof.Rows
namespace Mine
/-- the call of the def at f makes a list of ints -/
def Makes (w : World) (mean : ExcName → Option Value) (mg mb : Str → Option Value) (f : Addr) (pre : List Int → Prop) (post : List Int → List Int → Prop) (deep : Nat) : Prop :=
  ∀ (dp un : Nat) (gd : Option (List Code)) (cn : Str) (cs : Scope) (a : Addr) (ccd : Value) (cl : List (Str × Addr)) (outer : List Env) (A₀ : Around) (base h₀ : Heap) (L : Addr) (m : Str → Option Value) (s : Shared) (Q E : Value → Shared → Prop)
    (l : Addr) (vs : List Value) (ns : List Int) (c : Nat) (own : List (Addr × Obj)),
    Below A₀ base outer h₀ → Fr h₀ L s.heap m → (hd.heap_39 w.params).In h₀ → News h₀ L s.heap ((l, listOf vs.toArray c) :: own) → Top hd.view_39 (looseW hd.view_39 []) mean mg mb h₀ → cs.kind = .function →
    IntsAre vs ns → pre ns → dp + deep < recursionLimit → un + 100 < cLine →
    (∀ (r : Addr) (vs' : List Value) (ns' : List Int) (c' : Nat) (h' : Heap) (tk' : Nat), Fr h₀ L h' m → News h₀ L h' ((r, listOf vs'.toArray c') :: (l, listOf vs.toArray c) :: own) → (∀ p ∈ (l, listOf vs.toArray c) :: own, p.1 < r) → IntsAre vs' ns' → post ns ns' → Q (.ref r) { s with heap := h', toks := tk' }) →
    wpAny (model PySem.Challenge.rw_oy0028_01.row.prog w) (ktrTop dp un gd cn cs L a ccd cl outer) (call (.ref f) [.ref l]) Q E s
theorem lt_all {x r l : Nat} {o : Obj} {own : List (Addr × Obj)} (h : x < r ∧ l < r ∧ AllLt r own) : ∀ p ∈ ((l, o) :: own : List (Addr × Obj)), p.1 < r := by
  intro p hp
  rcases List.mem_cons.mp hp with rfl | hp
  · exact h.2.1
  · exact kst_ltOf h.2.2 p hp
theorem ne_nil {prog : Program} {w : World} {A : Around} {E : Value → Shared → Prop} {s : Shared} {a b : Addr} {vs us : List Value} {ns : List Int} {Q : Value → Shared → Prop} (hl : s.heap.IsList a vs.toArray) (hi : IntsAre vs ns) (hl' : s.heap.IsList b us.toArray) (hi' : IntsAre us []) (hu : A.units + 64 < cLine)
    (ht : 0 < ns.length → Q (.bool true) s) (hf : ns = [] → Q (.bool false) s) : wpAny (model prog w) A (compareOp .NotEq (.ref a) (.ref b)) Q E s := by
  refine ne_intsK hl hi hl' hi' hu ?_
  cases ns with
  | nil => exact hf rfl
  | cons n r => exact ht (Nat.succ_pos _)
theorem eq_nil {prog : Program} {w : World} {A : Around} {E : Value → Shared → Prop} {s : Shared} {a b : Addr} {vs us : List Value} {ns : List Int} {Q : Value → Shared → Prop} (hl : s.heap.IsList a vs.toArray) (hi : IntsAre vs ns) (hl' : s.heap.IsList b us.toArray) (hi' : IntsAre us []) (hu : A.units + 64 < cLine)
    (ht : 0 < ns.length → Q (.bool false) s) (hf : ns = [] → Q (.bool true) s) : wpAny (model prog w) A (compareOp .Eq (.ref a) (.ref b)) Q E s := by
  refine eq_intsK hl hi hl' hi' hu ?_
  cases ns with
  | nil => exact hf rfl
  | cons n r => exact ht (Nat.succ_pos _)
local macro_rules | `(tactic| units_room) => `(tactic| ktr_units)
local macro_rules | `(tactic| walk_at "compareOp NotEq ref ref") => `(tactic| (k_here; (with_reducible show wpAny _ _ (compareOp CmpOp.NotEq (Value.ref _) (Value.ref _)) _ _ _); k_dflt ((with_unfolding_all refine' ne_nil ?k1 ?k2 ?k3 ?k4 ?k5 ?_ ?_); (case k1 => is_list); (case k2 => l_intsC); (case k3 => is_list); (case k4 => exact IntsAre.nil); (case k5 => units_room); (all_goals intro hT9))))
local macro_rules | `(tactic| walk_at "compareOp Eq ref ref") => `(tactic| (k_here; (with_reducible show wpAny _ _ (compareOp CmpOp.Eq (Value.ref _) (Value.ref _)) _ _ _); k_dflt ((with_unfolding_all refine' eq_nil ?k1 ?k2 ?k3 ?k4 ?k5 ?_ ?_); (case k1 => is_list); (case k2 => l_intsC); (case k3 => is_list); (case k4 => exact IntsAre.nil); (case k5 => units_room); (all_goals intro hT9))))
local macro_rules | `(tactic| walk_at "execs cons") => `(tactic| (exfalso; exact no_way (by assumption) (by assumption) (by assumption) (by assumption)))
local macro_rules | `(tactic| walk_at "call ref") => `(tactic| (k_here; (with_reducible show wpAny _ _ (call (Value.ref 21) _) _ _ _); k_dflt ((refine' gives_use (sb_tells _ _ _ _ _ _) ?k1 ?k2 ?k3 ?k4 ?k7 ?k8 ?kd ?ku ?_); (case k1 => k_asm); (case k2 => k_asm); (case k3 => k_asm); (case k4 => k_asm); (case k7 => k_asm); (case k8 => first | exact rfl | assumption); (case kd => ktr_room); (case ku => ktr_units); (intro t9 h9 tk9 F9 N9; (try dsimp only); (try k_fold)))))
local macro_rules | `(tactic| walk_at "call ref") => `(tactic| (k_here; (with_reducible show wpAny _ _ (call (Value.ref 28) _) _ _ _); k_dflt ((refine' gives_use (hb_tells _ _ _ _ _ _) ?k1 ?k2 ?k3 ?k4 ?k7 ?k8 ?kd ?ku ?_); (case k1 => k_asm); (case k2 => k_asm); (case k3 => k_asm); (case k4 => k_asm); (case k7 => k_asm); (case k8 => first | exact rfl | assumption); (case kd => ktr_room); (case ku => ktr_units); (intro t9 h9 tk9 F9 N9; (try (have hb9 := hbit_b (by assumption) (by assumption))); (try dsimp only); (try k_fold)))))
local macro_rules | `(tactic| walk_at "call ref") => `(tactic| (k_here; (with_reducible show wpAny _ _ (call (Value.ref 35) _) _ _ _); k_dflt ((refine' turns_use (push_tells _ _ _ _ _ _) ?k1 ?k2 ?k3 ?k4 ?k5 ?k6 ?k7 ?k8 ?k9 ?kp ?kd ?ku ?_); (case k1 => k_asm); (case k2 => k_asm); (case k3 => k_asm); (case k4 => k_asm); (case k5 => (repeat (first | exact Slot.head | apply Slot.tail))); (case k7 => k_asm); (case k8 => first | exact rfl | assumption); (case k9 => (first | assumption | k_intsEnd)); (case k6 => ((try simp only [List.nil_append, List.cons_append]); k_all)); (case kp => ((try dsimp only); first | assumption | omega)); (case kd => ktr_room); (case ku => ktr_units); (intro vs9 ns9 t9 c9 h9 tk9 F9 N9 I9 P9; (try dsimp only); (try (have Q9 := P9.2)); (try (replace P9 := P9.1)); (try simp only [List.nil_append, List.cons_append] at N9); (try k_fold)))))
local macro_rules | `(tactic| walk_at "call ref") => `(tactic| (k_here; (with_reducible show wpAny _ _ (call (Value.ref 42) _) _ _ _); k_dflt ((refine' turns_use (pop_tells _ _ _ _) ?k1 ?k2 ?k3 ?k4 ?k5 ?k6 ?k7 ?k8 ?k9 ?kp ?kd ?ku ?_); (case k1 => k_asm); (case k2 => k_asm); (case k3 => k_asm); (case k4 => k_asm); (case k5 => (repeat (first | exact Slot.head | apply Slot.tail))); (case k7 => k_asm); (case k8 => first | exact rfl | assumption); (case k9 => (first | assumption | k_intsEnd)); (case k6 => ((try simp only [List.nil_append, List.cons_append]); k_all)); (case kp => first | exact ⟨by assumption, by assumption⟩ | exact ⟨by omega, by omega⟩); (case kd => ktr_room); (case ku => ktr_units); (intro vs9 ns9 t9 c9 h9 tk9 F9 N9 I9 P9; (try dsimp only); (try (have Q9 := P9.2)); (try (replace P9 := P9.1)); (try simp only [List.nil_append, List.cons_append] at N9); (try k_fold)))))
local macro_rules | `(tactic| walk_at "call ref") => `(tactic| (k_here; (with_reducible show wpAny _ _ (call (Value.ref 49) _) _ _ _); k_dflt ((refine' turns_use (repl_tells _ _ _ _ _ _) ?k1 ?k2 ?k3 ?k4 ?k5 ?k6 ?k7 ?k8 ?k9 ?kp ?kd ?ku ?_); (case k1 => k_asm); (case k2 => k_asm); (case k3 => k_asm); (case k4 => k_asm); (case k5 => (repeat (first | exact Slot.head | apply Slot.tail))); (case k7 => k_asm); (case k8 => first | exact rfl | assumption); (case k9 => (first | assumption | k_intsEnd)); (case k6 => ((try simp only [List.nil_append, List.cons_append]); k_all)); (case kp => first | exact ⟨by assumption, by assumption⟩ | exact ⟨by omega, by omega⟩); (case kd => ktr_room); (case ku => ktr_units); (intro vs9 ns9 t9 c9 h9 tk9 F9 N9 I9 P9; (try dsimp only); (try (have Q9 := P9.2)); (try (replace P9 := P9.1)); (try simp only [List.nil_append, List.cons_append] at N9); (try k_fold)))))
set_option maxRecDepth 100000 in
set_option maxHeartbeats 2000000 in
theorem parted_tells (w : World) (mean : ExcName → Option Value) (mg mb : Str → Option Value) :
    Makes w mean mg mb 77 (fun ns => NumsOk ns) (fun ns ns' => ns' = tgt ns) 4 := by
  unfold Makes
  k_fill
  rintro dp un gd cn cs a ccd cl outer A₀ base h₀ L m s Q E l vs ns c own B F X N T hk hi hpre hd hu hret
  have hMk := kstMark
  have hLn := IntsAre.length hi
  w_top off
  k_with_none
  have hL6 := hpre.len
  k_with "pyIter ref" => (k_of "number" => k_state (fun pre h => FInv pre h ∧ h.length = pre.length) "heap")
  k_with "pyIter ref" => (k_of "turn" => k_state_given ["numbers"] (fun ns pre h b => PInv (tgt ns) pre.length h b ∧ b.length ≤ pre.length ∧ h.length ≤ 60) "heap" "bits")
  k_with "state" => exact st_f0
  k_with "state" => exact st_f1 (by assumption) (by assumption)
  k_with "state" => exact st_p0 (by assumption) (by assumption)
  k_with "state" => exact st_pe (by assumption) (by assumption) (by assumption)
  k_with "state" => exact st_ps (by assumption) (by assumption) (by assumption) (by assumption)
  k_with "state" => exact st_pr (by assumption) (by assumption) (by assumption) (by assumption) (by assumption)
  refine wpAny_call ?_
  k_dflt cell_enter
  k_steps
  all_goals first
    | exact hret _ _ _ _ _ _ (by k_asm) (by (refine' cb_drop ?cbN ?cbS; (case cbN => k_asm); (case cbS => kcj_all))) (lt_all (by assumption)) (by assumption) (p_end (by assumption) (rangeKs_length _ _))
    | trace_state
end Mine
end
section
open PySem PySem.W PyProof.Rows
namespace Mine
local macro_rules | `(tactic| walk_at "idle") => `(tactic| fail)
local macro_rules | `(tactic| walk_at "idle") => `(tactic| fail)
local macro_rules | `(tactic| walk_at "idle") => `(tactic| fail)
local macro_rules | `(tactic| walk_at "idle") => `(tactic| fail)
local macro_rules | `(tactic| units_room) => `(tactic| ktr_units)
local macro_rules | `(tactic| walk_at "compareOp NotEq ref ref") => `(tactic| (k_here; (with_reducible show wpAny _ _ (compareOp CmpOp.NotEq (Value.ref _) (Value.ref _)) _ _ _); k_dflt ((with_unfolding_all refine' ne_nil ?k1 ?k2 ?k3 ?k4 ?k5 ?_ ?_); (case k1 => is_list); (case k2 => l_intsC); (case k3 => is_list); (case k4 => exact IntsAre.nil); (case k5 => units_room); (all_goals intro hT9))))
local macro_rules | `(tactic| walk_at "compareOp Eq ref ref") => `(tactic| (k_here; (with_reducible show wpAny _ _ (compareOp CmpOp.Eq (Value.ref _) (Value.ref _)) _ _ _); k_dflt ((with_unfolding_all refine' eq_nil ?k1 ?k2 ?k3 ?k4 ?k5 ?_ ?_); (case k1 => is_list); (case k2 => l_intsC); (case k3 => is_list); (case k4 => exact IntsAre.nil); (case k5 => units_room); (all_goals intro hT9))))
local macro_rules | `(tactic| walk_at "call ref") => `(tactic| (k_here; (with_reducible show wpAny _ _ (call (Value.ref 42) _) _ _ _); k_dflt ((refine' turns_use (pop_tells _ _ _ _) ?k1 ?k2 ?k3 ?k4 ?k5 ?k6 ?k7 ?k8 ?k9 ?kp ?kd ?ku ?_); (case k1 => k_asm); (case k2 => k_asm); (case k3 => k_asm); (case k4 => k_asm); (case k5 => (repeat (first | exact Slot.head | apply Slot.tail))); (case k7 => k_asm); (case k8 => first | exact rfl | assumption); (case k9 => (first | assumption | k_intsEnd)); (case k6 => ((try simp only [List.nil_append, List.cons_append]); k_all)); (case kp => first | exact ⟨by assumption, by assumption⟩ | exact ⟨by omega, by omega⟩); (case kd => ktr_room); (case ku => ktr_units); (intro vs9 ns9 t9 c9 h9 tk9 F9 N9 I9 P9; (try dsimp only); (try (have Q9 := P9.2)); (try (replace P9 := P9.1)); (try simp only [List.nil_append, List.cons_append] at N9); (try k_fold)))))
local macro_rules | `(tactic| walk_at "call ref") => `(tactic| (k_here; (with_reducible show wpAny _ _ (call (Value.ref 49) _) _ _ _); k_dflt ((refine' turns_use (repl_tells _ _ _ _ _ _) ?k1 ?k2 ?k3 ?k4 ?k5 ?k6 ?k7 ?k8 ?k9 ?kp ?kd ?ku ?_); (case k1 => k_asm); (case k2 => k_asm); (case k3 => k_asm); (case k4 => k_asm); (case k5 => (repeat (first | exact Slot.head | apply Slot.tail))); (case k7 => k_asm); (case k8 => first | exact rfl | assumption); (case k9 => (first | assumption | k_intsEnd)); (case k6 => ((try simp only [List.nil_append, List.cons_append]); k_all)); (case kp => first | exact ⟨by assumption, by assumption⟩ | exact ⟨by omega, by omega⟩); (case kd => ktr_room); (case ku => ktr_units); (intro vs9 ns9 t9 c9 h9 tk9 F9 N9 I9 P9; (try dsimp only); (try (have Q9 := P9.2)); (try (replace P9 := P9.1)); (try simp only [List.nil_append, List.cons_append] at N9); (try k_fold)))))
local macro_rules | `(tactic| walk_at "call ref") => `(tactic| (k_here; (with_reducible show wpAny _ _ (call (Value.ref 56) _) _ _ _); k_dflt ((refine' turns_use (ify_tells _ _ _ _) ?k1 ?k2 ?k3 ?k4 ?k5 ?k6 ?k7 ?k8 ?k9 ?kp ?kd ?ku ?_); (case k1 => k_asm); (case k2 => k_asm); (case k3 => k_asm); (case k4 => k_asm); (case k5 => (repeat (first | exact Slot.head | apply Slot.tail))); (case k7 => k_asm); (case k8 => first | exact rfl | assumption); (case k9 => (first | assumption | k_intsEnd)); (case k6 => ((try simp only [List.nil_append, List.cons_append]); k_all)); (case kp => ((try dsimp only); first | assumption | omega)); (case kd => ktr_room); (case ku => ktr_units); (intro vs9 ns9 t9 c9 h9 tk9 F9 N9 I9 P9; (try dsimp only); (try (have Q9 := P9.2)); (try (replace P9 := P9.1)); (try simp only [List.nil_append, List.cons_append] at N9); (try k_fold)))))
set_option maxRecDepth 100000 in
set_option maxHeartbeats 2000000 in
theorem summed_tells (w : World) (mean : ExcName → Option Value) (mg mb : Str → Option Value) :
    Makes w mean mg mb 84 (fun ns => SOk ns) (fun ns ns' => ns' = sumBits ns.sum) 4 := by
  unfold Makes
  k_fill
  rintro dp un gd cn cs a ccd cl outer A₀ base h₀ L m s Q E l vs ns c own B F X N T hk hi hpre hd hu hret
  have hMk := kstMark
  have hLn := IntsAre.length hi
  w_top off
  k_with_none
  have hL6 := hpre.len
  k_with "pyIter ref" => (k_of "turn" => k_state_given ["bits"] (fun ns pre h t => SInv ns.sum pre.length h t ∧ t.length ≤ pre.length ∧ h.length ≤ 60) "heap" "told")
  k_with "state" => exact st_s0 (by assumption) (by assumption)
  k_with "state" => exact st_se (by assumption) (by assumption) (by assumption)
  k_with "state" => exact st_st1 (by assumption) (by assumption) (by assumption) (by assumption)
  k_with "state" => exact st_st2 (by assumption) (by assumption) (by assumption) (by assumption) (by assumption)
  k_with "state" => exact st_sr (by assumption) (by assumption) (by assumption) (by assumption) (by assumption) (by assumption)
  refine wpAny_call ?_
  k_dflt cell_enter
  k_steps
  all_goals first
    | exact hret _ _ _ _ _ _ (by k_asm) (by (refine' cb_drop ?cbN ?cbS; (case cbN => k_asm); (case cbS => kcj_all))) (lt_all (by assumption)) (by assumption) (s_end hpre.sum (by assumption) (rangeKs_length _ _))
    | trace_state
end Mine
end
section
open PySem PySem.W PyProof.Rows
namespace Mine
section
variable {prog : Program} {w : World} {A : Around} {E : Value → Shared → Prop} {R : Result → Shared → Prop} {s : Shared}

theorem compTurn_outer (elt t1 i1 t2 i2 ct : Expr) (scope : Scope) (pos : Pos) (it acc : Value) (env : Env) :
    compTurn (.ListComp elt [⟨t1, i1, [], 0⟩, ⟨t2, i2, [ct], 0⟩] scope pos) 0 it acc env = (standAt i1.pos >>= fun _ => pyNext it >>= fun r => match r with
      | none => pure (.done .next)
      | some v => letOwnedTupleGo t1 it v >>= fun _ => assign t1 env v >>= fun _ =>
        eval i2 env >>= fun x => standAt i2.pos >>= fun _ => foldedSetIterable i2 env x >>= fun x => holding [x] (pyIter x) >>= fun it2 =>
          runOwn (.compStart (.ListComp elt [⟨t1, i1, [], 0⟩, ⟨t2, i2, [ct], 0⟩] scope pos) 1 it2 acc env) env >>= fun _ =>
            again (.compLoop (.ListComp elt [⟨t1, i1, [], 0⟩, ⟨t2, i2, [ct], 0⟩] scope pos) 0 it acc env)) := by rfl

theorem compTurn_inner (elt t1 i1 t2 i2 ct : Expr) (scope : Scope) (pos : Pos) (it acc : Value) (env : Env) :
    compTurn (.ListComp elt [⟨t1, i1, [], 0⟩, ⟨t2, i2, [ct], 0⟩] scope pos) 1 it acc env = (do
      standAt i2.pos
      match ← pyNext it with
      | none => pure (.done .next)
      | some v =>
        letOwnedTupleGo t2 it v
        assign t2 env v
        let mut ok := true
        for c in [ct] do
          if ok then ok ← isTrue c env (eval c env)
        if ok then
          (do let _ ← call (.builtin "list.append") [acc, ← eval elt env])
        again (.compLoop (.ListComp elt [⟨t1, i1, [], 0⟩, ⟨t2, i2, [ct], 0⟩] scope pos) 1 it acc env)) := by rfl

theorem codeAny_compLoop_outer {elt t1 i1 t2 i2 ct : Expr} {scope : Scope} {pos : Pos} {it acc : Value} {env : Env} (I : Nat → Shared → Prop)
    (turn : ∀ n s, I n s → wpAny (model prog w) A (pyNext it) (fun r s₁ => match r with
      | none => R (.ok .next) s₁
      | some v => wpAny (model prog w) A (assign t1 env v) (fun _ s₂ => wpAny (model prog w) A (eval i2 env) (fun x s₃ => wpAny (model prog w) A (pyIter x) (fun it2 s₄ =>
          codeAny (model prog w) A (.compStart (.ListComp elt [⟨t1, i1, [], 0⟩, ⟨t2, i2, [ct], 0⟩] scope pos) 1 it2 acc env)
            (fun r s' => match r with | .ok _ => ∃ m, m < n ∧ I m s' | .error e => cameBackBy (model prog w) A env (notedBy (model prog w) A env fun e s' => R (.error e) s') e s') s₄) (notedBy (model prog w) A env fun e s' => R (.error e) s') s₃)
          (notedBy (model prog w) A env fun e s' => R (.error e) s') s₂) (notedBy (model prog w) A env fun e s' => R (.error e) s') s₁) (notedBy (model prog w) A env fun e s' => R (.error e) s') s)
    (n : Nat) (h : I n s) (ht : ∀ v, letOwnedTupleGo t1 it v = pure () := by intro _; rfl) (hs : ∀ x, foldedSetIterable i2 env x = pure x := by intro _; rfl) :
    codeAny (model prog w) A (.compLoop (.ListComp elt [⟨t1, i1, [], 0⟩, ⟨t2, i2, [ct], 0⟩] scope pos) 0 it acc env) R s := by
  refine codeAny_loop rfl I (fun n s hI => ?_) n h
  show wpAny _ A ((compTurn (.ListComp elt [⟨t1, i1, [], 0⟩, ⟨t2, i2, [ct], 0⟩] scope pos) 0 it acc env).onRaise (fun x => do noteFrame x env; theTreesLotGoes x)) _ _ s
  refine wpAny_noted ?_
  rw [compTurn_outer]
  refine wpAny_bind (wpAny_standAt (wpAny_bind (wpAny_mono (turn n s hI) (fun r s₁ h₁ => ?_) fun _ _ h' => h')))
  cases r with
  | none => exact wpAny_pure h₁
  | some v =>
    refine wpAny_bind (wpAny_of_eq (ht v) ?_)
    refine wpAny_bind (wpAny_mono h₁ (fun _ s₂ h₂ => wpAny_bind (wpAny_mono h₂ (fun x s₃ h₃ => ?_) fun _ _ h' => h')) fun _ _ h' => h')
    refine wpAny_bind (wpAny_standAt (wpAny_bind (wpAny_of_eq (hs x) (wpAny_bind (wpAny_holding (wpAny_mono h₃ (fun it2 s₄ h₄ => ?_) fun _ _ h' => h'))))))
    exact wpAny_bind (wpAny_runOwn (codeAny_mono h₄ fun r s' hr => by
      cases r with
      | ok f => exact wpAny_pure ⟨rfl, hr⟩
      | error e => exact hr))

theorem codeAny_compLoop_inner {elt t1 i1 t2 i2 ct : Expr} {scope : Scope} {pos : Pos} {it acc : Value} {env : Env} (I : Nat → Shared → Prop)
    (turn : ∀ n s, I n s → wpAny (model prog w) A (pyNext it) (fun r s₁ => match r with
      | none => R (.ok .next) s₁
      | some v => wpAny (model prog w) A (assign t2 env v) (fun _ s₂ =>
          wpAny (model prog w) A (isTrue ct env (eval ct env)) (fun ok s₃ =>
            if ok = true then wpAny (model prog w) A (eval elt env) (fun x s₄ =>
              wpAny (model prog w) A (call (.builtin "list.append") [acc, x]) (fun _ s₅ => ∃ m, m < n ∧ I m s₅) (notedBy (model prog w) A env fun e s' => R (.error e) s') s₄) (notedBy (model prog w) A env fun e s' => R (.error e) s') s₃
            else ∃ m, m < n ∧ I m s₃) (notedBy (model prog w) A env fun e s' => R (.error e) s') s₂) (notedBy (model prog w) A env fun e s' => R (.error e) s') s₁) (notedBy (model prog w) A env fun e s' => R (.error e) s') s)
    (n : Nat) (h : I n s) (ht : ∀ v, letOwnedTupleGo t2 it v = pure () := by intro _; rfl) :
    codeAny (model prog w) A (.compLoop (.ListComp elt [⟨t1, i1, [], 0⟩, ⟨t2, i2, [ct], 0⟩] scope pos) 1 it acc env) R s := by
  refine codeAny_loop rfl I (fun n s hI => ?_) n h
  show wpAny _ A ((compTurn (.ListComp elt [⟨t1, i1, [], 0⟩, ⟨t2, i2, [ct], 0⟩] scope pos) 1 it acc env).onRaise (fun x => do noteFrame x env; theTreesLotGoes x)) _ _ s
  refine wpAny_noted ?_
  rw [compTurn_inner]
  refine wpAny_bind (wpAny_standAt (wpAny_bind (wpAny_mono (turn n s hI) (fun r s₁ h₁ => ?_) fun _ _ h' => h')))
  cases r with
  | none => exact wpAny_pure h₁
  | some v =>
    refine wpAny_bind (wpAny_of_eq (ht v) ?_)
    refine wpAny_bind (wpAny_mono h₁ (fun _ s₂ h₂ => wpAny_bind (wpAny_tests_one (wpAny_mono h₂ (fun ok s₃ h₃ => ?_) fun _ _ h' => h'))) fun _ _ h' => h')
    cases ok with
    | false => exact wpAny_pure ⟨rfl, h₃⟩
    | true =>
      exact wpAny_bind (wpAny_bind (wpAny_mono h₃ (fun x s₄ h₄ => wpAny_bind (wpAny_mono h₄ (fun _ s₅ h₅ => wpAny_pure (wpAny_pure ⟨rfl, h₅⟩)) fun _ _ h' => h')) fun _ _ h' => h'))

theorem codeAny_compStart_at1 {elt t1 i1 t2 i2 ct scope pos it acc env}
    (h0 : codeAny (model prog w) A (.compLoop (.ListComp elt [⟨t1, i1, [], 0⟩, ⟨t2, i2, [ct], 0⟩] scope pos) 1 it acc env) R s)
    (h : wpAny (model prog w) A (pyIter it) (fun it' s' => codeAny (model prog w) A (.compLoop (.ListComp elt [⟨t1, i1, [], 0⟩, ⟨t2, i2, [ct], 0⟩] scope pos) 1 it' acc env) R s')
      (notedBy (model prog w) A env fun x s' => R (.error x) s') s) :
    codeAny (model prog w) A (.compStart (.ListComp elt [⟨t1, i1, [], 0⟩, ⟨t2, i2, [ct], 0⟩] scope pos) 1 it acc env) R s := by
  refine codeAny_of_tree ?_
  show wpAny _ _ ((compStart (.ListComp elt [⟨t1, i1, [], 0⟩, ⟨t2, i2, [ct], 0⟩] scope pos) 1 it acc env).onRaise (fun x => do noteFrame x env; standAt theWindowsPlace)) _ _ s
  refine wpAny_notedAt ?_
  unfold compStart
  show wpAny _ _ (ask >>= _) _ _ s
  refine wpAny_bind (wpAny_askSetting (wpAny_ite ?_))
  split
  · first
      | exact wpAny_bind (wpAny_pure (wpAny_pure (And.intro rfl h0)))
      | exact wpAny_pure (And.intro rfl h0)
  · first
      | exact wpAny_bind (wpAny_rule (wpAny_bind (wpAny_standAt (wpAny_bind (wpAny_mono h (fun it' s' h' => wpAny_pure (And.intro rfl h')) fun _ _ x => x)))))
      | (refine wpAny_bind (wpAny_rule ?_); show wpAny _ _ (standAt i2.pos >>= _) _ _ s; exact wpAny_bind (wpAny_standAt (wpAny_bind (wpAny_mono h (fun it' s' h' => wpAny_pure (And.intro rfl h')) fun _ _ x => x))))
end
end Mine
end
section
open PySem PySem.W PyProof.Rows
namespace Mine
local macro_rules | `(tactic| walk_at "idle") => `(tactic| fail)
local macro_rules | `(tactic| walk_at "idle") => `(tactic| fail)
local macro_rules | `(tactic| walk_at "idle") => `(tactic| fail)
local macro_rules | `(tactic| walk_at "idle") => `(tactic| fail)
local macro_rules | `(tactic| walk_at "idle") => `(tactic| fail)
local macro_rules | `(tactic| walk_at "idle") => `(tactic| fail)
local macro_rules | `(tactic| walk_at "idle") => `(tactic| fail)
local macro_rules | `(tactic| walk_at "idle") => `(tactic| fail)
local macro_rules | `(tactic| walk_at "idle") => `(tactic| fail)
local macro_rules | `(tactic| walk_at "idle") => `(tactic| fail)
abbrev sc2 : Scope := { kind := .function, names := [(Str.ofString ".0", .local), (Str.ofString "number", .local), (Str.ofString "k", .local), (Str.ofString "range", .globalImplicit)], isGenerator := false, isCoroutine := false }
set_option maxRecDepth 100000 in
set_option maxHeartbeats 2000000 in
theorem range6_eval (w : World) (mean : ExcName → Option Value) (mg mb : Str → Option Value) :
  ∀ (A : Around) (cn : Str) (cs : Scope) (a : Addr) (ccd : Value) (cl cl' : List (Str × Addr)) (h₀ : Heap) (L C : Addr) (m : Str → Option Value) (s : Shared) (Q E : Value → Shared → Prop) (news : List (Addr × Obj)) (p1 p2 p3 : Pos),
    Fr h₀ L s.heap m → (hd.heap_39 w.params).In h₀ → News h₀ L s.heap news → Top hd.view_39 (looseW hd.view_39 []) mean mg mb h₀ →
    (∀ (r : Addr) (h' : Heap) (tk : Nat) (t0 u0 v0 : Tok), Fr h₀ L h' m → (∀ b o, s.heap.get? b = some o → h'.get? b = some o) → IsRange h' r 0 6 1 t0 u0 v0 → Q (.ref r) { s with heap := h', toks := tk }) →
    wpAny (model PySem.Challenge.rw_oy0028_01.row.prog w) A (eval (.Call (.Name (Str.ofString "range") p1) [.Constant (.int 6) 0 p2] [] p3) (compEnvC sc2 cl' C (envX cn cs L a ccd cl))) Q E s := by
  k_fill
  intro A cn cs a ccd cl cl' h₀ L C m s Q E news p1 p2 p3 F X N T hret
  w_top off
  k_with_none
  k_steps
  all_goals exact hret _ _ _ _ _ _ (by k_asm) (by assumption) (by assumption)
set_option maxRecDepth 100000 in
set_option maxHeartbeats 2000000 in
theorem test_eval (w : World) (mean : ExcName → Option Value) (mg mb : Str → Option Value) :
  ∀ (A : Around) (cn : Str) (cs : Scope) (a : Addr) (ccd : Value) (cl cl' : List (Str × Addr)) (h₀ : Heap) (L C : Addr) (m m₂ : Str → Option Value) (s : Shared) (Q : Bool → Shared → Prop) (E : Value → Shared → Prop) (news : List (Addr × Obj)) (p1 p2 p3 p4 p5 p6 p7 p8 p9 : Pos) (oC : Obj) (n k : Int) (t1 t2 : Tok),
    Fr h₀ L s.heap m → (hd.heap_39 w.params).In h₀ → News h₀ L s.heap ((C, oC) :: news) → Top hd.view_39 (looseW hd.view_39 []) mean mg mb h₀ → LCg.NsObj oC m₂ → m₂ (Str.ofString "number") = some (.int n t1) → m₂ (Str.ofString "k") = some (.int k t2) → 0 ≤ k → k < 9 → 
    (∀ (tk : Nat), Q (n / 2 ^ k.toNat % 2 == 1) { s with toks := tk }) →
    wpAny (model PySem.Challenge.rw_oy0028_01.row.prog w) A (isTrue (.Compare (.BinOp (.BinOp (.Name (Str.ofString "number") p1) .FloorDiv (.BinOp (.Constant (.int 2) 0 p2) .Pow (.Name (Str.ofString "k") p3) p4) p5) .Mod (.Constant (.int 2) 0 p6) p7) [.Eq] [.Constant (.int 1) 0 p8] p9) (compEnvC sc2 cl' C (envX cn cs L a ccd cl)) (eval (.Compare (.BinOp (.BinOp (.Name (Str.ofString "number") p1) .FloorDiv (.BinOp (.Constant (.int 2) 0 p2) .Pow (.Name (Str.ofString "k") p3) p4) p5) .Mod (.Constant (.int 2) 0 p6) p7) [.Eq] [.Constant (.int 1) 0 p8] p9) (compEnvC sc2 cl' C (envX cn cs L a ccd cl)))) Q E s := by
  k_fill
  intro A cn cs a ccd cl cl' h₀ L C m m₂ s Q E news p1 p2 p3 p4 p5 p6 p7 p8 p9 oC n k t1 t2 F X N T hC h1 h2 hk0 hk6 hret
  w_top off
  k_with_none
  k_steps
  all_goals (rw [show (n.fdiv (2 ^ k.toNat)).fmod 2 = n / 2 ^ k.toNat % 2 from by rw [Int.fdiv_eq_ediv_of_nonneg _ (Int.le_of_lt (Int.pow_pos (by decide))), Int.fmod_eq_emod_of_nonneg _ (by decide)]]; exact hret _)
set_option maxRecDepth 100000 in
set_option maxHeartbeats 2000000 in
theorem elt_eval (w : World) (mean : ExcName → Option Value) (mg mb : Str → Option Value) :
  ∀ (A : Around) (cn : Str) (cs : Scope) (a : Addr) (ccd : Value) (cl cl' : List (Str × Addr)) (h₀ : Heap) (L C : Addr) (m m₂ : Str → Option Value) (s : Shared) (Q : Value → Shared → Prop) (E : Value → Shared → Prop) (news : List (Addr × Obj)) (p2 p3 p4 : Pos) (oC : Obj) (k : Int) (t2 : Tok),
    Fr h₀ L s.heap m → (hd.heap_39 w.params).In h₀ → News h₀ L s.heap ((C, oC) :: news) → Top hd.view_39 (looseW hd.view_39 []) mean mg mb h₀ → LCg.NsObj oC m₂ → m₂ (Str.ofString "k") = some (.int k t2) → 0 ≤ k → k < 9 → 
    (∀ (t : Tok) (tk : Nat), Q (.int (2 ^ k.toNat) t) { s with toks := tk }) →
    wpAny (model PySem.Challenge.rw_oy0028_01.row.prog w) A (eval (.BinOp (.Constant (.int 2) 0 p2) .Pow (.Name (Str.ofString "k") p3) p4) (compEnvC sc2 cl' C (envX cn cs L a ccd cl))) Q E s := by
  k_fill
  intro A cn cs a ccd cl cl' h₀ L C m m₂ s Q E news p2 p3 p4 oC k t2 F X N T hC h2 hk0 hk6 hret
  w_top off
  k_with_none
  k_steps
  all_goals exact hret _ _
end Mine
end
section
open PySem PySem.W PyProof.Rows
namespace Mine
def NestI (h₀ : Heap) (L : Addr) (m : Str → Option Value) (s₁ : Shared) (I ax C D : Addr) (vs : List Value) (ns : List Int) (news : List (Addr × Obj)) (k : Nat) (s' : Shared) : Prop :=
  ∃ h' tk i ys m', s' = { s₁ with heap := h', toks := tk } ∧ i ≤ vs.toArray.size ∧ k = vs.toArray.size + 1 - i ∧ IntsAre ys ((ns.take i).flatMap bitsOf) ∧ (h'.IsListIter I ax i ∧ h'.IsList ax vs.toArray) ∧ Fr h₀ L h' m ∧ h'.Ns C m' ∧ News h₀ L h' ((D, LCg.lst ys) :: news)
section
variable (p1 p2 p3 p4 p5 p6 p7 p8 p9 q1 q2 q3 r1 r2 r3 r4 r5 : Pos)
abbrev ctE : Expr := .Compare (.BinOp (.BinOp (.Name (Str.ofString "number") p1) .FloorDiv (.BinOp (.Constant (.int 2) 0 p2) .Pow (.Name (Str.ofString "k") p3) p4) p5) .Mod (.Constant (.int 2) 0 p6) p7) [.Eq] [.Constant (.int 1) 0 p8] p9
abbrev eltE : Expr := .BinOp (.Constant (.int 2) 0 q1) .Pow (.Name (Str.ofString "k") q2) q3
abbrev i2E : Expr := .Call (.Name (Str.ofString "range") r1) [.Constant (.int 6) 0 r2] [] r3
abbrev compE (i1 : Expr) (pos : Pos) : Expr := .ListComp (eltE q1 q2 q3) [⟨.Name (Str.ofString "number") r4, i1, [], 0⟩, ⟨.Name (Str.ofString "k") r5, i2E r1 r2 r3, [ctE p1 p2 p3 p4 p5 p6 p7 p8 p9], 0⟩] sc2 pos

theorem inner_loop (w : World) (mean : ExcName → Option Value) (mg mb : Str → Option Value) {A : Around} {cn : Str} {cs : Scope} {a : Addr} {ccd : Value} {cl cl' : List (Str × Addr)} {h₀ : Heap} {L C D I2 : Addr} {m : Str → Option Value} {s : Shared} {R : Result → Shared → Prop} {rest : List (Addr × Obj)}
    {i1 : Expr} {pos : Pos} {n : Int} {t1 : Tok} {bs : List Int} {ys : List Value} {m' : Str → Option Value}
    (hh : A.handled = none) (X : (hd.heap_39 w.params).In h₀) (T : Top hd.view_39 (looseW hd.view_39 []) mean mg mb h₀)
    (F : Fr h₀ L s.heap m) (hn : s.heap.Ns C m') (hnum : m' (Str.ofString "number") = some (.int n t1)) (N : News h₀ L s.heap ((D, LCg.lst ys) :: rest)) (hI : IsRangeIter s.heap I2 0 6 1) (hy : IntsAre ys bs) (hlen : bs.length ≤ 100)
    (hCL : C ≠ L) (hC₀ : h₀.get? C = none) (hIL : I2 ≠ L) (hI₀ : h₀.get? I2 = none) (hCD : C ≠ D) (hIC : I2 ≠ C) (hID : I2 ≠ D) (off : ∀ p ∈ rest, p.1 ≠ D ∧ p.1 ≠ C ∧ p.1 ≠ I2)
    (done : ∀ h' tk m'' ys', Fr h₀ L h' m → h'.Ns C m'' → News h₀ L h' ((D, LCg.lst ys') :: rest) → IntsAre ys' (bs ++ bitsOf n) → R (.ok .next) { s with heap := h', toks := tk }) :
    codeAny (model PySem.Challenge.rw_oy0028_01.row.prog w) A (.compLoop (compE p1 p2 p3 p4 p5 p6 p7 p8 p9 q1 q2 q3 r1 r2 r3 r4 r5 i1 pos) 1 (.ref I2) (.ref D) (compEnvC sc2 cl' C (envX cn cs L a ccd cl))) R s := by
  have W := Walks.range (prog := PySem.Challenge.rw_oy0028_01.row.prog) (w := w) hh I2 0 1 6
  refine codeAny_compLoop_inner (fun k s' => ∃ h' tk j ys' m'', s' = { s with heap := h', toks := tk } ∧ j ≤ 6 ∧ k = 7 - j ∧ IntsAre ys' (bs ++ bitsUpTo n j) ∧ IsRangeIter h' I2 (0 + (j : Nat) * 1) ((6 : Nat) - (j : Nat)) 1 ∧ Fr h₀ L h' m ∧ h'.Ns C m'' ∧ m'' (Str.ofString "number") = some (.int n t1) ∧ News h₀ L h' ((D, LCg.lst ys') :: rest)) ?_ 7
    ⟨s.heap, s.toks, 0, ys, m', rfl, by decide, rfl, by simpa [bitsUpTo] using hy, by simpa using hI, F, hn, hnum, N⟩
  rintro k s' ⟨h', tk, j, ys', m'', rfl, hj, rfl, hy', hI', F', hn', hnum', N'⟩
  by_cases hlt : j < 6
  · refine W.item j _ _ _ hlt hI' fun v h₂ tk₂ hPv hst₂ hk₂ => ?_
    obtain ⟨t, rfl⟩ := hPv
    have hkj : (0 : Int) + (j : Nat) * 1 = (j : Int) := by omega
    rw [hkj]
    have F₂ : Fr h₀ L h₂ m := LCg.fr_but F' hk₂ (Ne.symm hIL) hI₀
    have hn₂ : h₂.Ns C m'' := hn'.at' fun o e => hk₂ _ o (by simpa using Ne.symm hIC) e
    have N₂ : News h₀ L h₂ ((D, LCg.lst ys') :: rest) := LCg.news_but N' hk₂ fun p hp => by
      rcases List.mem_cons.mp hp with rfl | hp
      · exact Ne.symm hID
      · exact (off p hp).2.2
    refine wpAny_assign_Name (wpAny_storeName_local (env := compEnvC sc2 cl' C (envX cn cs L a ccd cl)) rfl hn₂ (fun h₃ hn₃ hs₃ => ?_) rfl)
    have hk₃ : ∀ b o, b ∉ [C] → h₂.get? b = some o → h₃.get? b = some o := fun b o hb e => hs₃.extBut b o (fun q => hb (List.mem_singleton.mpr q)) e
    have F₃ : Fr h₀ L h₃ m := LCg.fr_but F₂ hk₃ (Ne.symm hCL) hC₀
    have N₃ : News h₀ L h₃ ((D, LCg.lst ys') :: rest) := LCg.news_but N₂ hk₃ fun p hp => by
      rcases List.mem_cons.mp hp with rfl | hp
      · exact Ne.symm hCD
      · exact (off p hp).2.1
    have hI₃ : IsRangeIter h₃ I2 (0 + ((j + 1 : Nat) : Int) * 1) ((6 : Nat) - ((j + 1 : Nat) : Int)) 1 := W.frame _ _ _ hst₂ fun b hb o e => hk₃ b o (by rw [List.mem_singleton.mp hb]; simpa using hIC) e
    obtain ⟨oC, heC, hoC⟩ := LCg.ns_obj hn₃
    have NC : News h₀ L h₃ ((C, oC) :: (D, LCg.lst ys') :: rest) := fun p hp => by
      rcases List.mem_cons.mp hp with rfl | hp
      · exact ⟨heC, hCL, hC₀⟩
      · exact N₃ p hp
    refine test_eval w mean mg mb A cn cs a ccd cl cl' h₀ L C m _ _ _ _ _ p1 p2 p3 p4 p5 p6 p7 p8 p9 oC n (j : Int) t1 t F₃ X NC T hoC ?_ ?_ (by omega) (by omega) fun tk₄ => ?_
    · have hne : (Str.ofString "number" = Str.ofString "k") ↔ False := by decide
      simp only [hne, if_false]
      exact hnum'
    · simp
    have ej : ((j : Int)).toNat = j := by omega
    rw [ej]
    have hnum₃ : (fun x => if x = Str.ofString "k" then some (Value.int (j : Int) t) else m'' x) (Str.ofString "number") = some (.int n t1) := by
      have hne : (Str.ofString "number" = Str.ofString "k") ↔ False := by decide
      simp only [hne, if_false]
      exact hnum'
    cases hb : (n / 2 ^ j % 2 == 1) with
    | true =>
      simp only [if_true]
      refine elt_eval w mean mg mb A cn cs a ccd cl cl' h₀ L C m _ _ _ _ _ q1 q2 q3 oC (j : Int) t F₃ X NC T hoC (by simp) (by omega) (by omega) fun t₅ tk₅ => ?_
      rw [ej]
      have zD := (N₃ (D, LCg.lst ys') List.mem_cons_self).1
      have hD := (N₃ (D, LCg.lst ys') List.mem_cons_self).2
      have hl' := hy'.length
      have hbl := bitsUpTo_len n j
      refine append_at (s := { s with heap := h₃, toks := tk₅ }) (hsz := by show ys'.toArray.size ≤ sizeLine; rw [List.size_toArray, hl', List.length_append, PySem.sizeLine_eq]; omega) zD fun h₅ hs₅ hD₅ => ?_
      have hk₅ : ∀ b o, b ∉ [D] → h₃.get? b = some o → h₅.get? b = some o := fun b o hb e => hs₅.extBut b o (by simpa using hb) e
      refine ⟨7 - (j + 1), by omega, h₅, tk₅, j + 1, ys' ++ [.int (2 ^ j) t₅], _, rfl, by omega, rfl, ?_, ?_, LCg.fr_but F₃ hk₅ (Ne.symm hD.1) hD.2, hn₃.at' fun o e => hk₅ _ o (fun q => hCD (List.mem_singleton.mp q)) e, hnum₃, fun p hp => ?_⟩
      · rw [bitsUpTo_yes hb, ← List.append_assoc]
        exact IntsAre.append hy' (.cons _ _ .nil)
      · exact hk₅ _ _ (by simpa using hID) hI₃
      · rcases List.mem_cons.mp hp with rfl | hp
        · exact ⟨hD₅.trans (congrArg some (LCg.lst_snoc _ _)), hD⟩
        · exact ⟨hk₅ _ _ (by simpa using (off p hp).1) (N₃ p (List.mem_cons_of_mem _ hp)).1, (N₃ p (List.mem_cons_of_mem _ hp)).2⟩
    | false =>
      simp only [Bool.false_eq_true, if_false]
      refine ⟨7 - (j + 1), by omega, h₃, tk₄, j + 1, ys', _, rfl, by omega, rfl, ?_, hI₃, F₃, hn₃, hnum₃, N₃⟩
      rw [bitsUpTo_no hb]
      exact hy'
  · have ej : j = 6 := by omega
    subst ej
    refine W.done _ _ _ hI' fun h₂ tk₂ hk₂ => ?_
    exact done h₂ tk₂ m'' ys' (LCg.fr_but F' hk₂ (Ne.symm hIL) hI₀) (hn'.at' fun o e => hk₂ _ o (by simpa using Ne.symm hIC) e) (LCg.news_but N' hk₂ fun p hp => by
      rcases List.mem_cons.mp hp with rfl | hp
      · exact Ne.symm hID
      · exact (off p hp).2.2) hy'

theorem nest_comp (w : World) (mean : ExcName → Option Value) (mg mb : Str → Option Value) {A : Around} {cn : Str} {cs : Scope} {a : Addr} {ccd : Value} {cl cl' : List (Str × Addr)} {h₀ : Heap} {L : Addr} {m : Str → Option Value} {s : Shared} {Q : Value → Shared → Prop} {E : Value → Shared → Prop}
    {i1 : Expr} {pos : Pos}
    (hh : A.handled = none) (F₀ : Fr h₀ L s.heap m) (X : (hd.heap_39 w.params).In h₀) (T : Top hd.view_39 (looseW hd.view_39 []) mean mg mb h₀) (hclos : closureFor sc2 (envX cn cs L a ccd cl) = pure cl') (hs : ∀ x, foldedSetIterable i1 (envX cn cs L a ccd cl) x = pure x)
    (h : wpAny (model PySem.Challenge.rw_oy0028_01.row.prog w) A (eval i1 (envX cn cs L a ccd cl)) (fun xv s₁ => ∃ ax vs ns c news, xv = .ref ax ∧ Fr h₀ L s₁.heap m ∧ News h₀ L s₁.heap news ∧ (ax, listOf vs.toArray c) ∈ news ∧ IntsAre vs ns ∧ ns.length ≤ 6 ∧
      ∀ D ys h tk, Fr h₀ L h m → News h₀ L h ((D, LCg.lst ys) :: news) → (∀ p ∈ news, p.1 < D) → IntsAre ys (ns.flatMap bitsOf) → Q (.ref D) { s₁ with heap := h, toks := tk }) E s) :
    wpAny (model PySem.Challenge.rw_oy0028_01.row.prog w) A (eval (compE p1 p2 p3 p4 p5 p6 p7 p8 p9 q1 q2 q3 r1 r2 r3 r4 r5 i1 pos) (envX cn cs L a ccd cl)) Q E s := by
  rw [eval_ListComp]
  refine wpAny_comprehension_free (use := none) rfl hs hclos rfl (by decide) (wpAny_mono h (fun xv s₁ h₁ => ?_) fun _ _ e => e)
  obtain ⟨ax, vs, ns, c, news, rfl, F, N, hm, hi, hlen, fin⟩ := h₁
  have hl : s₁.heap.IsList ax vs.toArray := ⟨_, (N _ hm).1, rfl, c, rfl⟩
  have hlt : ax < s₁.heap.objs.size := Heap.lt_size (N _ hm).1
  refine wpAny_pyIter_list hl ?_
  have W := Walks.list (prog := PySem.Challenge.rw_oy0028_01.row.prog) (w := w) hh s₁.heap.objs.size ax (Nat.ne_of_lt hlt) vs.toArray
  refine wpAny_newObj_type (wpAny_newFunctionEnv (by decide) (by intro y hy; simp at hy) (fun h₁ hns₁ hsb₁ => ?_) rfl)
  dsimp only at hns₁ hsb₁ ⊢
  generalize hH1 : s₁.heap.push { cls := .type "list_iterator", data := .fields #[.ref ax, .int 0 0] } = H1 at hns₁ hsb₁ ⊢
  have sz1 : H1.objs.size = s₁.heap.objs.size + 1 := by rw [← hH1, Heap.size_push]
  generalize hH2 : H1.push { cls := .type "list", dict := none, data := .seq ([] : List Value).toArray } = H2 at hns₁ hsb₁ ⊢
  have sz2 : H2.objs.size = H1.objs.size + 1 := by rw [← hH2, Heap.size_push]
  generalize hI : s₁.heap.objs.size = I at *
  generalize hD : H1.objs.size = D at *
  generalize hC : H2.objs.size = C at *
  have lt₁ : ∀ (b : Nat) o, s₁.heap.get? b = some o → @LT.lt Nat _ b I := fun b o e => hI ▸ Heap.lt_size e
  have old : ∀ b o, s₁.heap.get? b = some o → h₁.get? b = some o := fun b o e => hsb₁.extBut b o (neN (by have := lt₁ b o e; omega)) (Heap.get?_push_of_some _ (by rw [← hH2]; exact Heap.get?_push_of_some _ (by rw [← hH1]; exact Heap.get?_push_of_some _ e)))
  have hIo : h₁.get? I = some { cls := .type "list_iterator", data := .fields #[.ref ax, .int 0 0] } := hsb₁.extBut _ _ (neN (by omega)) (Heap.get?_push_of_some _ (by rw [← hH2]; exact Heap.get?_push_of_some _ (by rw [← hH1, ← hI]; exact Heap.get?_push_size _ rfl)))
  have hDo : h₁.get? D = some (LCg.lst []) := hsb₁.extBut _ _ (neN (by omega)) (Heap.get?_push_of_some _ (by rw [← hH2, ← hD]; exact Heap.get?_push_size _ rfl))
  have fresh₀ : ∀ (b : Nat), I ≤ b → h₀.get? b = none := fun b hb => by
    cases e : h₀.get? b with
    | none => rfl
    | some o => have := lt₁ b o (F.keep b o e); omega
  have hLlt : @LT.lt Nat _ L I := hI ▸ F.ns.lt
  have hI₀ := fresh₀ I (Nat.le_refl _)
  have hD₀ := fresh₀ D (by omega)
  have hC₀ := fresh₀ C (by omega)
  have lnews : ∀ p ∈ news, @LT.lt Nat _ p.1 I := fun p hp => lt₁ _ _ (N p hp).1
  have hIL : I ≠ L := neN (by omega)
  have hDL : D ≠ L := neN (by omega)
  have hCL : C ≠ L := neN (by omega)
  have hCI : C ≠ I := neN (by omega)
  have hDI : D ≠ I := neN (by omega)
  have hDC : D ≠ C := neN (by omega)
  have hlt' : @LT.lt Nat _ ax I := hlt
  have hxC : ax ≠ C := neN (by omega)
  have F₁ : Fr h₀ L h₁ m := F.keeps old
  have N₁ : News h₀ L h₁ ((D, LCg.lst []) :: news) := fun p hp => by
    rcases List.mem_cons.mp hp with rfl | hp
    · exact ⟨hDo, hDL, hD₀⟩
    · exact ⟨old _ _ (N p hp).1, (N p hp).2⟩
  have st₁ : h₁.IsListIter I ax 0 ∧ h₁.IsList ax vs.toArray := ⟨⟨_, hIo, rfl, rfl⟩, hl.at fun o e => old _ _ e⟩
  have hvn := hi.length
  have loop : ∀ s₃ : Shared, s₃ = { s₁ with heap := h₁, toks := s₁.toks + ([] : List (Str × Value)).length } →
      codeAny (model PySem.Challenge.rw_oy0028_01.row.prog w) A (.compLoop (compE p1 p2 p3 p4 p5 p6 p7 p8 p9 q1 q2 q3 r1 r2 r3 r4 r5 i1 pos) 0 (.ref I) (.ref D) (compEnvC sc2 cl' C (envX cn cs L a ccd cl)))
        (compPost (model PySem.Challenge.rw_oy0028_01.row.prog w) A E none Q (.ref D) C) s₃ := by
    rintro s₃ rfl
    refine codeAny_compLoop_outer (NestI h₀ L m s₁ I ax C D vs ns news) ?_ (vs.toArray.size + 1)
      ⟨h₁, _, 0, [], _, rfl, Nat.zero_le _, rfl, by simpa using IntsAre.nil, st₁, F₁, hns₁, N₁⟩
    rintro k s' ⟨h', tk, i, ys, m', rfl, hile, rfl, hy, st', F', hn', N'⟩
    by_cases hilt : i < vs.toArray.size
    · refine W.item i _ _ _ hilt st' fun v h₂ tk₂ hPv hst₂ hk₂ => ?_
      obtain ⟨n, t, rfl, hni⟩ := IntsAre.at hi i v (by simpa using hPv)
      have F₂ : Fr h₀ L h₂ m := LCg.fr_but F' hk₂ (Ne.symm hIL) hI₀
      have hn₂ : h₂.Ns C m' := hn'.at' fun o e => hk₂ _ o (fun q => hCI (List.mem_singleton.mp q)) e
      have N₂ : News h₀ L h₂ ((D, LCg.lst ys) :: news) := LCg.news_but N' hk₂ fun p hp => by
        rcases List.mem_cons.mp hp with rfl | hp
        · exact hDI
        · have := lnews p hp; exact neN (by omega)
      refine wpAny_assign_Name (wpAny_storeName_local (env := compEnvC sc2 cl' C (envX cn cs L a ccd cl)) rfl hn₂ (fun h₃ hn₃ hs₃ => ?_) rfl)
      have hk₃ : ∀ b o, b ∉ [C] → h₂.get? b = some o → h₃.get? b = some o := fun b o hb e => hs₃.extBut b o (fun q => hb (List.mem_singleton.mpr q)) e
      have F₃ : Fr h₀ L h₃ m := LCg.fr_but F₂ hk₃ (Ne.symm hCL) hC₀
      have N₃ : News h₀ L h₃ ((D, LCg.lst ys) :: news) := LCg.news_but N₂ hk₃ fun p hp => by
        rcases List.mem_cons.mp hp with rfl | hp
        · exact hDC
        · have := lnews p hp; exact neN (by omega)
      have st₃ : h₃.IsListIter I ax (i + 1) ∧ h₃.IsList ax vs.toArray := W.frame _ _ _ hst₂ fun b hb o e => hk₃ b o (fun q => by
        have q' := List.mem_singleton.mp q
        rcases List.mem_cons.mp hb with h | h
        · exact hCI (q'.symm.trans h)
        · exact hxC ((List.mem_singleton.mp h).symm.trans q')) e
      refine range6_eval w mean mg mb A cn cs a ccd cl cl' h₀ L C m _ _ _ _ r1 r2 r3 F₃ X N₃ T fun r h₄ tk₄ t0 u0 v0 F₄ hk₄ hr => ?_
      refine wpAny_pyIter_range (s := { s₁ with heap := h₄, toks := tk₄ }) hr (by decide) ?_
      obtain ⟨oI, heI, hIr⟩ := st₃.1
      have lt₄ : ∀ (b : Nat) o, h₄.get? b = some o → @LT.lt Nat _ b h₄.objs.size := fun b o e => Heap.lt_size e
      have hCo : @LT.lt Nat _ C h₄.objs.size := by obtain ⟨o, _, _, e, _⟩ := hn₃; exact lt₄ _ _ (hk₄ _ _ e)
      have e6 : Builtin.Range.rangeSize 0 6 1 = 6 := by decide
      rw [e6]
      generalize hH5 : h₄.push { cls := .type "range_iterator", data := .fields #[rawInt 0, rawInt 6, rawInt 1] } = H5
      have up₅ : ∀ b o, h₃.get? b = some o → H5.get? b = some o := fun b o e => by rw [← hH5]; exact Heap.get?_push_of_some _ (hk₄ b o e)
      have hI5 : IsRangeIter H5 h₄.objs.size 0 6 1 := by rw [← hH5]; exact Heap.get?_push_size _ rfl
      have hns : i < ns.length := by rw [← hvn]; simpa using hilt
      have inner : codeAny (model PySem.Challenge.rw_oy0028_01.row.prog w) A (.compLoop (compE p1 p2 p3 p4 p5 p6 p7 p8 p9 q1 q2 q3 r1 r2 r3 r4 r5 i1 pos) 1 (.ref h₄.objs.size) (.ref D) (compEnvC sc2 cl' C (envX cn cs L a ccd cl)))
          (fun r s' => match r with
            | .ok _ => ∃ k', k' < vs.toArray.size + 1 - i ∧ NestI h₀ L m s₁ I ax C D vs ns news k' s'
            | .error e => cameBackBy (model PySem.Challenge.rw_oy0028_01.row.prog w) A (compEnvC sc2 cl' C (envX cn cs L a ccd cl)) (notedBy (model PySem.Challenge.rw_oy0028_01.row.prog w) A (compEnvC sc2 cl' C (envX cn cs L a ccd cl)) fun e s' => compPost (model PySem.Challenge.rw_oy0028_01.row.prog w) A E none Q (.ref D) C (.error e) s') e s') { s₁ with heap := H5, toks := tk₄ } := by
        refine inner_loop p1 p2 p3 p4 p5 p6 p7 p8 p9 q1 q2 q3 r1 r2 r3 r4 r5 w mean mg mb (rest := (I, oI) :: news) (n := n) (t1 := t) (bs := (ns.take i).flatMap bitsOf) (ys := ys) hh X T (F₃.keeps up₅) (hn₃.at' fun o e => up₅ _ _ e) (by simp) (fun p hp => ?_) hI5 hy ?_ hCL hC₀ ?_ ?_ (Ne.symm hDC) (neN (by omega)) (neN (by omega)) (fun p hp => ?_) ?_
        · rcases List.mem_cons.mp hp with rfl | hp
          · exact ⟨up₅ _ _ (N₃ _ List.mem_cons_self).1, hDL, hD₀⟩
          · rcases List.mem_cons.mp hp with rfl | hp
            · exact ⟨up₅ _ _ heI, hIL, hI₀⟩
            · exact ⟨up₅ _ _ (N₃ p (List.mem_cons_of_mem _ hp)).1, (N₃ p (List.mem_cons_of_mem _ hp)).2⟩
        · have hb : ∀ l : List Int, (l.flatMap bitsOf).length ≤ 6 * l.length := by
            intro l
            induction l with
            | nil => simp
            | cons x r ih =>
              rw [List.flatMap_cons, List.length_append, List.length_cons]
              have : (bitsOf x).length ≤ 6 := bitsUpTo_len x 6
              omega
          have := hb (ns.take i)
          rw [List.length_take] at this
          omega
        · exact neN (by omega)
        · exact fresh₀ _ (by omega)
        · rcases List.mem_cons.mp hp with rfl | hp
          · exact ⟨Ne.symm hDI, Ne.symm hCI, neN (by show (_ : Nat) ≠ _; omega)⟩
          · have := lnews p hp
            exact ⟨neN (by omega), neN (by omega), neN (by omega)⟩
        · intro h₆ tk₆ m₆ ys₆ F₆ hn₆ N₆ hy₆
          refine ⟨vs.toArray.size + 1 - (i + 1), by omega, h₆, tk₆, i + 1, ys₆, m₆, rfl, hilt, rfl, ?_, ⟨⟨oI, (N₆ (I, oI) (List.mem_cons_of_mem _ List.mem_cons_self)).1, hIr⟩, ⟨_, (N₆ _ (List.mem_cons_of_mem _ (List.mem_cons_of_mem _ hm))).1, rfl, c, rfl⟩⟩, F₆, hn₆, fun p hp => ?_⟩
          · rw [List.take_add_one, hni, List.flatMap_append]
            simpa using hy₆
          · rcases List.mem_cons.mp hp with rfl | hp
            · exact N₆ _ List.mem_cons_self
            · exact N₆ p (List.mem_cons_of_mem _ (List.mem_cons_of_mem _ hp))
      exact codeAny_compStart_at1 inner (wpAny_pyIter_rangeiter (x := 0) (left := 6) (step := 1) hI5 inner)
    · have ei : i = vs.toArray.size := by omega
      subst ei
      refine W.done _ _ _ st' fun h₂ tk₂ hk₂ => ?_
      have hn₂ : h₂.Ns C m' := hn'.at' fun o e => hk₂ _ o (fun q => hCI (List.mem_singleton.mp q)) e
      have F₂ : Fr h₀ L h₂ m := LCg.fr_but F' hk₂ (Ne.symm hIL) hI₀
      have N₂ : News h₀ L h₂ ((D, LCg.lst ys) :: news) := LCg.news_but N' hk₂ fun p hp => by
        rcases List.mem_cons.mp hp with rfl | hp
        · exact hDI
        · have := lnews p hp; exact neN (by omega)
      refine ⟨m', hn₂, fun h'' hs'' => ?_⟩
      have hk : ∀ b o, b ∉ [C] → h₂.get? b = some o → h''.get? b = some o := fun b o hb e => hs''.extBut b o (fun q => hb (List.mem_singleton.mpr q)) e
      refine fin D ys h'' tk₂ (LCg.fr_but F₂ hk (Ne.symm hCL) hC₀) (LCg.news_but N₂ hk fun p hp => ?_) (fun p hp => ltN (by have := lnews p hp; omega)) ?_
      · rcases List.mem_cons.mp hp with rfl | hp
        · exact hDC
        · have := lnews p hp; exact neN (by omega)
      · have e : ns.take vs.toArray.size = ns := List.take_of_length_le (by rw [List.size_toArray, hvn]; exact Nat.le_refl _)
        rw [e] at hy
        exact hy
  exact codeAny_compStart_list (loop _ rfl) (W.self 0 _ _ _ st₁ (loop _ rfl))
end
end Mine
end
section
open PySem PySem.W PyProof.Rows
namespace Mine
local macro_rules | `(tactic| walk_at "idle") => `(tactic| fail)
local macro_rules | `(tactic| walk_at "idle") => `(tactic| fail)
local macro_rules | `(tactic| walk_at "idle") => `(tactic| fail)
local macro_rules | `(tactic| walk_at "idle") => `(tactic| fail)
local macro_rules | `(tactic| walk_at "idle") => `(tactic| fail)
local macro_rules | `(tactic| walk_at "idle") => `(tactic| fail)
local macro_rules | `(tactic| walk_at "idle") => `(tactic| fail)
local macro_rules | `(tactic| walk_at "idle") => `(tactic| fail)
local macro_rules | `(tactic| walk_at "idle") => `(tactic| fail)
local macro_rules | `(tactic| walk_at "idle") => `(tactic| fail)
local macro_rules | `(tactic| walk_at "idle") => `(tactic| fail)
abbrev sc9 : Scope := { kind := .function, names := [(Str.ofString ".0", .local), (Str.ofString "k", .local), (Str.ofString "total", .free)], isGenerator := false, isCoroutine := false }
abbrev lawSc : Scope := { kind := .function, names := [(Str.ofString "script", .local), (Str.ofString "numbers", .local), (Str.ofString "total", .cell), (Str.ofString "bits", .local), (Str.ofString "sum", .globalImplicit), (Str.ofString "_law_parted", .globalImplicit), (Str.ofString "_is_single_bit", .globalImplicit), (Str.ofString "sorted", .globalImplicit), (Str.ofString "_law_summed", .globalImplicit), (Str.ofString "range", .globalImplicit)], isGenerator := false, isCoroutine := false, more := [(Str.ofString "fast", .str (Str.ofString "script")), (Str.ofString "fast", .str (Str.ofString "x")), (Str.ofString "fast", .str (Str.ofString "numbers")), (Str.ofString "fast", .str (Str.ofString "total")), (Str.ofString "fast", .str (Str.ofString "bits")), (Str.ofString "fast", .str (Str.ofString "one")), (Str.ofString "fast", .str (Str.ofString "number")), (Str.ofString "fast", .str (Str.ofString "k"))] }
section
variable (p1 p2 p3 p4 p5 p6 p7 p8 p9 q1 q2 q3 : Pos)
abbrev ct9 : Expr := .Compare (.BinOp (.BinOp (.Name (Str.ofString "total") p1) .FloorDiv (.BinOp (.Constant (.int 2) 0 p2) .Pow (.Name (Str.ofString "k") p3) p4) p5) .Mod (.Constant (.int 2) 0 p6) p7) [.Eq] [.Constant (.int 1) 0 p8] p9
set_option maxRecDepth 100000 in
set_option maxHeartbeats 2000000 in
theorem test9_eval (w : World) (mean : ExcName → Option Value) (mg mb : Str → Option Value) :
  ∀ (A : Around) (cn : Str) (a : Addr) (ccd : Value) (cl : List (Str × Addr)) (h₀ : Heap) (L C c : Addr) (m m₂ : Str → Option Value) (s : Shared) (Q : Bool → Shared → Prop) (E : Value → Shared → Prop) (news : List (Addr × Obj)) (oC o : Obj) (S k : Int) (t1 t2 : Tok),
    Fr h₀ L s.heap m → (hd.heap_39 w.params).In h₀ → News h₀ L s.heap ((C, oC) :: (c, o) :: news) → Top hd.view_39 (looseW hd.view_39 []) mean mg mb h₀ → LCg.NsObj oC m₂ → o.data = .cell (some (.int S t1)) → m₂ (Str.ofString "k") = some (.int k t2) → 0 ≤ k → k < 9 →
    (∀ (tk : Nat), Q (S / 2 ^ k.toNat % 2 == 1) { s with toks := tk }) →
    wpAny (model PySem.Challenge.rw_oy0028_01.row.prog w) A (isTrue (ct9 p1 p2 p3 p4 p5 p6 p7 p8 p9) (compEnvC sc9 [(Str.ofString "total", c)] C (envX cn lawSc L a ccd cl)) (eval (ct9 p1 p2 p3 p4 p5 p6 p7 p8 p9) (compEnvC sc9 [(Str.ofString "total", c)] C (envX cn lawSc L a ccd cl)))) Q E s := by
  k_fill
  intro A cn a ccd cl h₀ L C c m m₂ s Q E news oC o S k t1 t2 F X N T hC h1 h2 hk0 hk6 hret
  w_top off
  k_with_none
  k_steps
  all_goals (rw [show (S.fdiv (2 ^ k.toNat)).fmod 2 = S / 2 ^ k.toNat % 2 from by rw [Int.fdiv_eq_ediv_of_nonneg _ (Int.le_of_lt (Int.pow_pos (by decide))), Int.fmod_eq_emod_of_nonneg _ (by decide)]]; exact hret _)
set_option maxRecDepth 100000 in
set_option maxHeartbeats 2000000 in
theorem elt9_eval (w : World) (mean : ExcName → Option Value) (mg mb : Str → Option Value) :
  ∀ (A : Around) (cn : Str) (a : Addr) (ccd : Value) (cl cl' : List (Str × Addr)) (h₀ : Heap) (L C : Addr) (m m₂ : Str → Option Value) (s : Shared) (Q : Value → Shared → Prop) (E : Value → Shared → Prop) (news : List (Addr × Obj)) (oC : Obj) (k : Int) (t2 : Tok),
    Fr h₀ L s.heap m → (hd.heap_39 w.params).In h₀ → News h₀ L s.heap ((C, oC) :: news) → Top hd.view_39 (looseW hd.view_39 []) mean mg mb h₀ → LCg.NsObj oC m₂ → m₂ (Str.ofString "k") = some (.int k t2) → 0 ≤ k → k < 9 →
    (∀ (t : Tok) (tk : Nat), Q (.int (2 ^ k.toNat) t) { s with toks := tk }) →
    wpAny (model PySem.Challenge.rw_oy0028_01.row.prog w) A (eval (eltE q1 q2 q3) (compEnvC sc9 cl' C (envX cn lawSc L a ccd cl))) Q E s := by
  k_fill
  intro A cn a ccd cl cl' h₀ L C m m₂ s Q E news oC k t2 F X N T hC h2 hk0 hk6 hret
  w_top off
  k_with_none
  k_steps
  all_goals exact hret _ _

def stepG (S : Int) (l : List Int) (k : Int) : List Int := if (S / 2 ^ k.toNat % 2 == 1) = true then l ++ [2 ^ k.toNat] else l
theorem stepG_grows (S : Int) : KPfGrows (stepG S) := by
  intro l k
  unfold stepG
  split <;> simp
theorem tot_rest (w : World) (mean : ExcName → Option Value) (mg mb : Str → Option Value) {A : Around} {cn : Str} {a : Addr} {ccd : Value} {cl : List (Str × Addr)} {h₀ : Heap} {L c : Addr} {m : Str → Option Value} {s : Shared} {S' : List (Addr × Obj) → Prop} {Fin : List Value → List (Addr × Obj) → Prop} {news : List (Addr × Obj)}
    {S : Int} {o : Obj} {tS : Tok} (X : (hd.heap_39 w.params).In h₀) (T : Top hd.view_39 (looseW hd.view_39 []) mean mg mb h₀) (hm : (c, o) ∈ news) (hc : o.data = .cell (some (.int S tS))) (hS : S' news)
    (fin : ∀ ys, IntsAre ys ((rangeKs 0 9).foldl (stepG S) []) → ys.length ≤ 9 → Fin ys news) :
    LCt.CompRestT PySem.Challenge.rw_oy0028_01.row.prog w A h₀ L m (envX cn lawSc L a ccd cl) (ct9 p1 p2 p3 p4 p5 p6 p7 p8 p9) (eltE q1 q2 q3) (Str.ofString "k") sc9 [(Str.ofString "total", c)] s S' (fun i v => ∃ t, v = .int (0 + (i : Int)) t) Fin 9 0 [] news := by
  refine kci_range (stepG S) ?_ fin (stepG_grows S)
  intro k t I oI C oC D m₂ ys l h tk E' hk0 hk9 hy hC hx F N off ne _
  have hk9' : k < 9 := by omega
  have sub : News h₀ L h ((C, oC) :: (c, o) :: (D, LCg.lst ys) :: news) := fun p hp => by
    refine N p ?_
    simp only [List.mem_cons] at hp ⊢
    rcases hp with h | h | h | h
    · exact .inr (.inl h)
    · exact .inr (.inr (.inr (h ▸ hm)))
    · exact .inr (.inr (.inl h))
    · exact .inr (.inr (.inr h))
  refine test9_eval p1 p2 p3 p4 p5 p6 p7 p8 p9 w mean mg mb A cn a ccd cl h₀ L C c m m₂ _ _ _ _ oC o S k tS t F X sub T hC hc hx hk0 hk9' fun tk₁ => ?_
  cases hb : (S / 2 ^ k.toNat % 2 == 1) with
  | true =>
    simp only [if_true]
    refine elt9_eval q1 q2 q3 w mean mg mb A cn a ccd cl _ h₀ L C m m₂ _ _ _ _ oC k t F X sub T hC hx hk0 hk9' fun t₂ tk₂ => ?_
    exact ⟨h, tk₂, news, rfl, F, N, off, hS, rfl, _, t₂, rfl, by rw [stepG, if_pos hb]⟩
  | false =>
    simp only [Bool.false_eq_true, if_false]
    exact ⟨h, tk₁, news, rfl, F, N, off, hS, rfl, by rw [stepG, if_neg (by rw [hb]; decide)]⟩
end
end Mine
end
section
namespace Mine
abbrev nums (w : List Int) : List Int := List.map (fun k' => 1 + (if k' < 0 then -k' else k').fmod 63) (List.take 3 w) ++ [22, 13, 7]
theorem nums_rng (w : List Int) : ∀ x ∈ nums w, 1 ≤ x ∧ x ≤ 63 := by
  intro x hx
  rcases List.mem_append.mp hx with h | h
  · obtain ⟨k, _, rfl⟩ := List.mem_map.mp h
    generalize (if k < 0 then -k else k) = z
    rw [Int.fmod_eq_emod_of_nonneg _ (by decide)]
    omega
  · simp only [List.mem_cons, List.not_mem_nil, or_false] at h
    omega
theorem nums_len (w : List Int) : (nums w).length ≤ 6 := by
  simp only [nums, List.length_append, List.length_map, List.length_take, List.length_cons, List.length_nil]
  omega
theorem cost_le {h : List Int} (rng : ∀ x ∈ h, 1 ≤ x ∧ x ≤ 63) : cost h ≤ 11 * h.length := by
  induction h with
  | nil => simp [cost]
  | cons a r ih =>
    have r1 := rng a List.mem_cons_self
    have := (numFacts r1.1 r1.2).len
    have := ih fun x hx => rng x (List.mem_cons_of_mem _ hx)
    rw [cost_cons, List.length_cons, cost1]
    omega
theorem cost_app (a b : List Int) : cost (a ++ b) = cost a + cost b := by simp only [cost, List.map_append, List.sum_append_nat]
theorem nums_ok (w : List Int) : NumsOk (List.map (fun k' => 1 + (if k' < 0 then -k' else k').fmod 63) (List.take 3 w) ++ [22, 13, 7]) := by
  refine ⟨nums_len w, nums_rng w, ?_⟩
  have c : cost [22, 13, 7] = 15 := by decide +kernel
  have r : ∀ x ∈ List.map (fun k' : Int => 1 + (if k' < 0 then -k' else k').fmod 63) (List.take 3 w), 1 ≤ x ∧ x ≤ 63 := fun x hx => nums_rng w x (List.mem_append_left _ hx)
  have k := cost_le r
  rw [List.length_map, List.length_take] at k
  rw [cost_app, c]
  omega
theorem flat_pw {ns : List Int} (rng : ∀ x ∈ ns, 1 ≤ x ∧ x ≤ 63) : ∀ x ∈ ns.flatMap bitsOf, Pw x := by
  intro x hx
  obtain ⟨n, hn, hx⟩ := List.mem_flatMap.mp hx
  have r := rng n hn
  exact (numFacts r.1 r.2).pw x hx
theorem flat_len {ns : List Int} (rng : ∀ x ∈ ns, 1 ≤ x ∧ x ≤ 63) : (ns.flatMap bitsOf).length ≤ 6 * ns.length := by
  induction ns with
  | nil => simp
  | cons a r ih =>
    have r1 := rng a List.mem_cons_self
    have := (numFacts r1.1 r1.2).len
    have := ih fun x hx => rng x (List.mem_cons_of_mem _ hx)
    rw [List.flatMap_cons, List.length_append, List.length_cons]
    omega
theorem flat_sum {ns : List Int} (rng : ∀ x ∈ ns, 1 ≤ x ∧ x ≤ 63) : (ns.flatMap bitsOf).sum = ns.sum := by
  induction ns with
  | nil => simp
  | cons a r ih =>
    have r1 := rng a List.mem_cons_self
    have := (numFacts r1.1 r1.2).sum
    have := ih fun x hx => rng x (List.mem_cons_of_mem _ hx)
    rw [List.flatMap_cons, List.sum_append_int, List.sum_cons]
    omega
theorem sum_le {ns : List Int} (rng : ∀ x ∈ ns, 1 ≤ x ∧ x ≤ 63) : ns.sum ≤ 63 * ns.length := by
  induction ns with
  | nil => simp
  | cons a r ih =>
    have r1 := rng a List.mem_cons_self
    have := ih fun x hx => rng x (List.mem_cons_of_mem _ hx)
    rw [List.sum_cons, List.length_cons]
    omega
theorem tgt_perm (ns : List Int) : (ns.mergeSort (fun a b => decide (a ≤ b))).Perm ns := List.mergeSort_perm _ _
theorem tgt_sum {ns : List Int} (rng : ∀ x ∈ ns, 1 ≤ x ∧ x ≤ 63) : (tgt ns).sum = ns.sum := by
  have p := tgt_perm ns
  rw [tgt, flat_sum (fun x hx => rng x (p.mem_iff.mp hx)), sum_perm p]
theorem sok_of {w b : List Int} (h : b = tgt (List.map (fun k' => 1 + (if k' < 0 then -k' else k').fmod 63) (List.take 3 w) ++ [22, 13, 7])) : SOk b := by
  subst h
  have p := tgt_perm (nums w)
  have rng : ∀ x ∈ (nums w).mergeSort (fun a b => decide (a ≤ b)), 1 ≤ x ∧ x ≤ 63 := fun x hx => nums_rng w x (p.mem_iff.mp hx)
  have l := nums_len w
  have pl := p.length_eq
  have fl := flat_len rng
  refine ⟨flat_pw rng, ?_, ?_⟩
  · show (((nums w).mergeSort (fun a b => decide (a ≤ b))).flatMap bitsOf).length ≤ 60
    omega
  · have e := tgt_sum (nums_rng w)
    have s := sum_le (nums_rng w)
    show (tgt (nums w)).sum < 512
    omega
theorem le_nums {w : List Int} {k : Nat} (h : k = (List.map (fun k' => 1 + (if k' < 0 then -k' else k').fmod 63) (List.take 3 w) ++ [22, 13, 7]).length) : k ≤ 16777216 := by
  have : k ≤ 6 := h ▸ nums_len w
  omega
theorem len_sorted {w ms : List Int} (hp : ms.Perm (List.map (fun k' => 1 + (if k' < 0 then -k' else k').fmod 63) (List.take 3 w) ++ [22, 13, 7])) : ms.length ≤ 6 := by
  rw [hp.length_eq]; exact nums_len w
theorem bits_eq {b ns ms : List Int} (P : b = tgt ns) (hp : ms.Perm ns) (ho : ms.Pairwise (· ≤ ·)) : b = ms.flatMap bitsOf := by
  subst P
  have e : ns.mergeSort (fun a b => decide (a ≤ b)) = ms := List.Perm.eq_of_pairwise (le := fun a b : Int => a ≤ b) (fun a b _ _ h1 h2 => by omega) (tgt_sorted ns) ho ((tgt_perm ns).trans hp.symm)
  rw [tgt, e]
theorem no_fold {l : List Int} (h : 0 < (List.foldl (fun (l : List Int) (_ : Int) => l) [] l).length) : False := by
  have e : ∀ (l k : List Int), List.foldl (fun (l : List Int) (_ : Int) => l) k l = k := by
    intro l
    induction l with
    | nil => intro k; rfl
    | cons a r ih => intro k; exact ih k
  rw [e] at h
  exact absurd h (by decide)
end Mine
end
section
open PySem PySem.W PyProof.Rows
namespace Mine
local macro_rules | `(tactic| walk_at "idle") => `(tactic| fail)
local macro_rules | `(tactic| walk_at "idle") => `(tactic| fail)
local macro_rules | `(tactic| walk_at "idle") => `(tactic| fail)
local macro_rules | `(tactic| walk_at "idle") => `(tactic| fail)
local macro_rules | `(tactic| walk_at "idle") => `(tactic| fail)
local macro_rules | `(tactic| walk_at "idle") => `(tactic| fail)
local macro_rules | `(tactic| walk_at "idle") => `(tactic| fail)
local macro_rules | `(tactic| walk_at "idle") => `(tactic| fail)
local macro_rules | `(tactic| walk_at "idle") => `(tactic| fail)
local macro_rules | `(tactic| walk_at "idle") => `(tactic| fail)
theorem big_no {k : Int} (h1 : 1 ≤ k) (h2 : k ≤ 63) (h : (isb (2 ^ Int.toNat 64 + k) != false) = true) : False := by
  have e : isb (2 ^ Int.toNat 64 + k) = false := (numFacts h1 h2).big
  rw [e] at h
  exact absurd h (by decide)
theorem high_no {k : Int} (h1 : 1 ≤ k) (h2 : k ≤ 63) (h : hbit (2 ^ Int.toNat 64 - k) ≠ 63) : False := h (numFacts h1 h2).high
abbrev sc1 : Scope := { kind := .function, names := [(Str.ofString ".0", .local), (Str.ofString "one", .local), (Str.ofString "_is_single_bit", .globalImplicit), (Str.ofString "_high_bit", .globalImplicit)], isGenerator := false, isCoroutine := false }
section
variable (p1 p2 p3 p4 p5 p6 p7 p8 p9 q1 q2 q3 q4 q5 q6 q7 q8 q9 r1 : Pos)
abbrev ct1 : Expr := .BoolOp .Or [.Compare (.Call (.Name (Str.ofString "_is_single_bit") p1) [.BinOp (.BinOp (.Constant (.int 2) 0 p2) .Pow (.Constant (.int 64) 0 p3) p4) .Add (.Name (Str.ofString "one") p5) p6] [] p7) [.IsNot] [.Constant (.bool false) 0 p8] p9,
  .Compare (.Call (.Name (Str.ofString "_high_bit") q1) [.BinOp (.BinOp (.Constant (.int 2) 0 q2) .Pow (.Constant (.int 64) 0 q3) q4) .Sub (.Name (Str.ofString "one") q5) q6] [] q7) [.NotEq] [.Constant (.int 63) 0 q8] q9] r1
local macro_rules | `(tactic| units_room) => `(tactic| ktr_units)
local macro_rules | `(tactic| walk_at "call ref") => `(tactic| (k_here; (with_reducible show wpAny _ _ (call (Value.ref 21) _) _ _ _); k_dflt ((refine' gives_use (sb_tells _ _ _ _ _ _) ?k1 ?k2 ?k3 ?k4 ?k7 ?k8 ?kd ?ku ?_); (case k1 => k_asm); (case k2 => k_asm); (case k3 => k_asm); (case k4 => k_asm); (case k7 => k_asm); (case k8 => first | exact rfl | assumption); (case kd => ktr_room); (case ku => ktr_units); (intro t9 h9 tk9 F9 N9; (try dsimp only); (try k_fold)))))
local macro_rules | `(tactic| walk_at "call ref") => `(tactic| (k_here; (with_reducible show wpAny _ _ (call (Value.ref 28) _) _ _ _); k_dflt ((refine' gives_use (hb_tells _ _ _ _ _ _) ?k1 ?k2 ?k3 ?k4 ?k7 ?k8 ?kd ?ku ?_); (case k1 => k_asm); (case k2 => k_asm); (case k3 => k_asm); (case k4 => k_asm); (case k7 => k_asm); (case k8 => first | exact rfl | assumption); (case kd => ktr_room); (case ku => ktr_units); (intro t9 h9 tk9 F9 N9; (try dsimp only); (try k_fold)))))
set_option maxRecDepth 100000 in
set_option maxHeartbeats 2000000 in
theorem one_test (w : World) (mean : ExcName → Option Value) (mg mb : Str → Option Value) :
  ∀ (dp un : Nat) (gd : Option (List Code)) (cn : Str) (cs : Scope) (a : Addr) (ccd : Value) (cl cl' : List (Str × Addr)) (outer : List Env) (A₀ : Around) (base h₀ : Heap) (L C : Addr) (m m₂ : Str → Option Value) (s : Shared) (Q : Bool → Shared → Prop) (E : Value → Shared → Prop) (news : List (Addr × Obj)) (oC : Obj) (k : Int) (t2 : Tok),
    Below A₀ base outer h₀ → Fr h₀ L s.heap m → (hd.heap_39 w.params).In h₀ → News h₀ L s.heap ((C, oC) :: news) → Top hd.view_39 (looseW hd.view_39 []) mean mg mb h₀ → cs.kind = .function → dp + 4 < recursionLimit → un + 100 < cLine → LCg.NsObj oC m₂ → m₂ (Str.ofString "one") = some (.int k t2) → 1 ≤ k → k ≤ 63 →
    (∀ (h' : Heap) (tk : Nat), Fr h₀ L h' m → News h₀ L h' ((C, oC) :: news) → Q false { s with heap := h', toks := tk }) →
    wpAny (model PySem.Challenge.rw_oy0028_01.row.prog w) (ktrTop dp un gd cn cs L a ccd cl outer) (isTrue (ct1 p1 p2 p3 p4 p5 p6 p7 p8 p9 q1 q2 q3 q4 q5 q6 q7 q8 q9 r1) (compEnvC sc1 cl' C (envX cn cs L a ccd cl)) (eval (ct1 p1 p2 p3 p4 p5 p6 p7 p8 p9 q1 q2 q3 q4 q5 q6 q7 q8 q9 r1) (compEnvC sc1 cl' C (envX cn cs L a ccd cl)))) Q E s := by
  k_fill
  intro dp un gd cn cs a ccd cl cl' outer A₀ base h₀ L C m m₂ s Q E news oC k t2 B F X N T hk hd hu hC h2 hk1 hk2 hret
  have hMk := kstMark
  w_top off
  k_with_none
  k_steps
  all_goals first
    | exact hret _ _ (by k_asm) (by k_asm)
    | (exfalso; exact big_no (by assumption) (by assumption) (by assumption))
    | (exfalso; exact high_no (by assumption) (by assumption) (by assumption))
    | trace_state
theorem one_rest (w : World) (mean : ExcName → Option Value) (mg mb : Str → Option Value) {dp un : Nat} {gd : Option (List Code)} {cn : Str} {cs : Scope} {a : Addr} {ccd : Value} {cl cl' : List (Str × Addr)} {outer : List Env} {A₀ : Around} {base h₀ : Heap} {L : Addr} {m : Str → Option Value} {s : Shared} {S' : List (Addr × Obj) → Prop} {Fin : List Value → List (Addr × Obj) → Prop} {news : List (Addr × Obj)} {elt : Expr}
    {vs : List Value} {ns : List Int} (B : Below A₀ base outer h₀) (X : (hd.heap_39 w.params).In h₀) (T : Top hd.view_39 (looseW hd.view_39 []) mean mg mb h₀) (hk : cs.kind = .function) (hd : dp + 4 < recursionLimit) (hu : un + 100 < cLine) (hi : IntsAre vs ns) (rng : ∀ x ∈ ns, 1 ≤ x ∧ x ≤ 63) (hS : S' news)
    (fin : Fin [] news) :
    LCt.CompRestT PySem.Challenge.rw_oy0028_01.row.prog w (ktrTop dp un gd cn cs L a ccd cl outer) h₀ L m (envX cn cs L a ccd cl) (ct1 p1 p2 p3 p4 p5 p6 p7 p8 p9 q1 q2 q3 q4 q5 q6 q7 q8 q9 r1) elt (Str.ofString "one") sc1 cl' s S' (fun i v => vs.toArray[i]? = some v) Fin vs.toArray.size 0 [] news := by
  refine kci_list (fun l _ => l) hi ?_ ?_ ?_
  · intro k t I oI C oC D m₂ ys l h tk E' hk' hy hC hx F N off ne _
    have r := rng k hk'
    have sub : News h₀ L h ((C, oC) :: (I, oI) :: (D, LCg.lst ys) :: news) := fun p hp => by
      refine N p ?_
      simp only [List.mem_cons] at hp ⊢
      rcases hp with h | h | h | h
      · exact .inr (.inl h)
      · exact .inl h
      · exact .inr (.inr (.inl h))
      · exact .inr (.inr (.inr h))
    refine one_test p1 p2 p3 p4 p5 p6 p7 p8 p9 q1 q2 q3 q4 q5 q6 q7 q8 q9 r1 w mean mg mb dp un gd cn cs a ccd cl cl' outer A₀ base h₀ L C m m₂ _ _ _ _ oC k t B F X sub T hk hd hu hC hx r.1 r.2 fun h₂ tk₂ F₂ N₂ => ?_
    simp only [Bool.false_eq_true, if_false]
    refine ⟨h₂, tk₂, news, rfl, F₂, fun p hp => N₂ p ?_, off, hS, rfl, rfl⟩
    simp only [List.mem_cons] at hp ⊢
    rcases hp with h | h | h | h
    · exact .inr (.inl h)
    · exact .inl h
    · exact .inr (.inr (.inl h))
    · exact .inr (.inr (.inr h))
  · intro ys hy _
    have e : ys = [] := by
      have := hy.length
      have z : ∀ (l k : List Int), List.foldl (fun (l : List Int) (_ : Int) => l) k l = k := by
        intro l
        induction l with
        | nil => intro k; rfl
        | cons a r ih => intro k; exact ih k
      rw [z] at this
      exact List.eq_nil_of_length_eq_zero this
    subst e
    exact fin
  · intro l _; exact Nat.le_succ _
theorem step_fold (S : Int) (n : Nat) : (rangeKs 0 n).foldl (stepG S) [] = bitsUpTo S n := by
  induction n with
  | zero => rfl
  | succ n ih =>
    have e : rangeKs 0 (n + 1) = rangeKs 0 n ++ [(n : Int)] := by simp [rangeKs, List.range_succ]
    rw [e, List.foldl_append, ih]
    show stepG S (bitsUpTo S n) n = _
    unfold stepG
    rw [Int.toNat_natCast]
    cases h : (S / 2 ^ n % 2 == 1) with
    | true => rw [if_pos rfl, bitsUpTo_yes h]
    | false => rw [if_neg (by decide), bitsUpTo_no h]
theorem final_eq {w b r : List Int} (P : b = tgt (List.map (fun k' => 1 + (if k' < 0 then -k' else k').fmod 63) (List.take 3 w) ++ [22, 13, 7])) (P' : r = sumBits b.sum) : r = (rangeKs 0 9).foldl (stepG (List.map (fun k' => 1 + (if k' < 0 then -k' else k').fmod 63) (List.take 3 w) ++ [22, 13, 7]).sum) [] := by
  rw [step_fold, P', P, tgt_sum (nums_rng w)]
  rfl
end
end Mine
end
section
open PySem PySem.W PyProof.Rows
namespace Mine
theorem makes_use {w : World} {mean : ExcName → Option Value} {mg mb : Str → Option Value} {f : Addr} {pre : List Int → Prop} {post : List Int → List Int → Prop} {deep : Nat}
    {dp un : Nat} {gd : Option (List Code)} {cn : Str} {cs : Scope} {a : Addr} {ccd : Value} {cl : List (Str × Addr)} {outer : List Env} {A₀ : Around} {base h₀ : Heap} {L : Addr} {m : Str → Option Value} {s : Shared} {Q E : Value → Shared → Prop}
    {l : Addr} {vs : List Value} {ns : List Int} {c : Nat} {news pr po : List (Addr × Obj)}
    (C : Makes w mean mg mb f pre post deep)
    (B : Below A₀ base outer h₀) (F : Fr h₀ L s.heap m) (X : (hd.heap_39 w.params).In h₀) (N : News h₀ L s.heap news) (S : Slot news l (listOf vs.toArray c) pr po) (T : Top hd.view_39 (looseW hd.view_39 []) mean mg mb h₀) (hk : cs.kind = .function)
    (hi : IntsAre vs ns) (hp : pre ns) (hd : dp + deep < recursionLimit) (hu : un + 100 < cLine)
    (ret : ∀ (r : Addr) (vs' : List Value) (ns' : List Int) (c' : Nat) (h' : Heap) (tk' : Nat), Fr h₀ L h' m → News h₀ L h' ((r, listOf vs'.toArray c') :: news) → (∀ p ∈ news, p.1 < r) → IntsAre vs' ns' → post ns ns' → Q (.ref r) { s with heap := h', toks := tk' }) :
    wpAny (model PySem.Challenge.rw_oy0028_01.row.prog w) (ktrTop dp un gd cn cs L a ccd cl outer) (call (.ref f) [.ref l]) Q E s := by
  have e := S.eq
  subst e
  have sub : ∀ p, p ∈ (l, listOf vs.toArray c) :: (pr ++ po) ↔ p ∈ pr ++ (l, listOf vs.toArray c) :: po := by
    intro p
    simp only [List.mem_cons, List.mem_append]
    constructor
    · rintro (h | h | h)
      · exact .inr (.inl h)
      · exact .inl h
      · exact .inr (.inr h)
    · rintro (h | h | h)
      · exact .inr (.inl h)
      · exact .inl h
      · exact .inr (.inr h)
  refine C dp un gd cn cs a ccd cl outer A₀ base h₀ L m s Q E l vs ns c (pr ++ po) B F X (fun p hp => N p ((sub p).mp hp)) T hk hi hp hd hu ?_
  intro r vs' ns' c' h' tk' F' N' hl hi' hp'
  refine ret r vs' ns' c' h' tk' F' ?_ (fun p hp => hl p ((sub p).mpr hp)) hi' hp'
  intro p hp
  refine N' p ?_
  rcases List.mem_cons.mp hp with h | h
  · exact List.mem_cons.mpr (.inl h)
  · exact List.mem_cons.mpr (.inr ((sub p).mpr h))
theorem ne_same {prog : Program} {w : World} {A : Around} {E : Value → Shared → Prop} {s : Shared} {a b : Addr} {vs us : List Value} {ns ms : List Int} {Q : Value → Shared → Prop} (hl : s.heap.IsList a vs.toArray) (hi : IntsAre vs ns) (hl' : s.heap.IsList b us.toArray) (hi' : IntsAre us ms) (e : ns = ms) (hu : A.units + 64 < cLine)
    (h : Q (.bool false) s) : wpAny (model prog w) A (compareOp .NotEq (.ref a) (.ref b)) Q E s := ne_intsK hl hi hl' hi' hu (by rw [e, decide_eq_true rfl]; exact h)
theorem eq_same {prog : Program} {w : World} {A : Around} {E : Value → Shared → Prop} {s : Shared} {a b : Addr} {vs us : List Value} {ns ms : List Int} {Q : Value → Shared → Prop} (hl : s.heap.IsList a vs.toArray) (hi : IntsAre vs ns) (hl' : s.heap.IsList b us.toArray) (hi' : IntsAre us ms) (e : ns = ms) (hu : A.units + 64 < cLine)
    (h : Q (.bool true) s) : wpAny (model prog w) A (compareOp .Eq (.ref a) (.ref b)) Q E s := eq_intsK hl hi hl' hi' hu (by rw [e, decide_eq_true rfl]; exact h)
local macro_rules | `(tactic| walk_at "eval ListComp") => `(tactic| (k_here; (with_reducible show wpAny _ _ (eval (Expr.ListComp _ [_, _] _ _) _) _ _ _); k_dflt (refine nest_comp _ _ _ _ _ _ _ _ _ _ _ _ _ _ _ _ _ _ _ _ _ (by rfl) (by k_asm) (by k_asm) (by k_asm) (by with_unfolding_all rfl) (by intro _; rfl) ?_)))
local macro_rules | `(tactic| walk_at "eval ListComp") => `(tactic| (k_here; (with_reducible show wpAny _ _ (eval (Expr.ListComp (Expr.Name _ _) _ _ _) _) _ _ _); k_dflt (refine LCt.ListComp_T (F₀ := by k_asm) (by with_unfolding_all rfl) (by decide) (by rfl) (by decide) (by rfl) ?_)))
local macro_rules | `(tactic| walk_at "CompSrcT") => `(tactic| (k_here; k_dflt (refine LCt.CompSrcT.ledger (by rfl) (by k_asm) (by k_asm) (by k_mem) (by (rw [PySem.sizeLine_eq, List.size_toArray]; exact le_nums (IntsAre.length (by assumption)))) ?_; intro g'; (refine' one_rest _ _ _ _ _ _ _ _ _ _ _ _ _ _ _ _ _ _ _ _ _ _ _ ?oB ?oX ?oT ?oK ?oD ?oU ?oI ?oR ?oS ?_); (case oB => k_asm); (case oX => k_asm); (case oT => k_asm); (case oK => first | exact rfl | assumption); (case oD => ktr_room); (case oU => ktr_units); (case oI => assumption); (case oR => exact nums_rng _); (case oS => exact .inr ⟨_, by k_mem, rfl, _, rfl⟩))))
local macro_rules | `(tactic| walk_at "Exists") => `(tactic| (k_here; k_dflt (refine ⟨_, _, _, _, _, rfl, by k_asm, by k_asm, by k_mem, by assumption, len_sorted (by assumption), ?_⟩; intro D9 ys9 h9 tk9 F9 N9 l1 I9; (try k_lt l1))))
local macro_rules | `(tactic| walk_at "execs cons") => `(tactic| (exfalso; exact absurd (by assumption) (by decide)))
local macro_rules | `(tactic| walk_at "compareOp NotEq ref ref") => `(tactic| (k_here; (with_reducible show wpAny _ _ (compareOp CmpOp.NotEq (Value.ref _) (Value.ref _)) _ _ _); k_dflt ((with_unfolding_all refine' ne_same ?k1 ?k2 ?k3 ?k4 ?k6 ?k5 ?_); (case k1 => is_list); (case k2 => assumption); (case k3 => is_list); (case k4 => assumption); (case k6 => exact bits_eq (by assumption) (by assumption) (by assumption)); (case k5 => units_room))))
local macro_rules | `(tactic| walk_at "compareOp Eq ref ref") => `(tactic| (k_here; (with_reducible show wpAny _ _ (compareOp CmpOp.Eq (Value.ref _) (Value.ref _)) _ _ _); k_dflt ((with_unfolding_all refine' eq_same ?k1 ?k2 ?k3 ?k4 ?k6 ?k5 ?_); (case k1 => is_list); (case k2 => assumption); (case k3 => is_list); (case k4 => assumption); (case k6 => exact final_eq (by assumption) (by assumption)); (case k5 => units_room))))
local macro_rules | `(tactic| walk_at "eval ListComp") => `(tactic| (k_here; (with_reducible show wpAny _ _ (eval (Expr.ListComp (Expr.BinOp (Expr.Constant (Const.int 2) _ _) _ _ _) [_] _ _) _) _ _ _); k_dflt (refine LCt.ListComp_T (F₀ := by k_asm) (by with_unfolding_all rfl) (by decide) (by rfl) (by decide) (by rfl) ?_)))
local macro_rules | `(tactic| walk_at "CompSrcT") => `(tactic| (k_here; k_dflt (refine LCt.CompSrcT.range (n := 9) (by rfl) (by k_asm) (by k_asm) (by assumption) (by decide) (by decide) (by (rw [PySem.sizeLine_eq]; decide)) ?_; intro g'; (refine' tot_rest _ _ _ _ _ _ _ _ _ _ _ _ _ _ _ _ ?oX ?oT ?oM ?oC ?oS ?_); (case oX => k_asm); (case oT => k_asm); (case oM => k_mem); (case oC => assumption); (case oS => trivial); intro ys9 I9 L9)))
local macro_rules | `(tactic| walk_at "compareOp NotEq ref ref") => `(tactic| (k_here; (with_reducible show wpAny _ _ (compareOp CmpOp.NotEq (Value.ref _) (Value.ref _)) _ _ _); k_dflt ((with_unfolding_all refine' ne_nil ?k1 ?k2 ?k3 ?k4 ?k5 ?_ ?_); (case k1 => is_list); (case k2 => l_intsC); (case k3 => is_list); (case k4 => exact IntsAre.nil); (case k5 => units_room); (all_goals intro hT9))))
local macro_rules | `(tactic| walk_at "compareOp Eq ref ref") => `(tactic| (k_here; (with_reducible show wpAny _ _ (compareOp CmpOp.Eq (Value.ref _) (Value.ref _)) _ _ _); k_dflt ((with_unfolding_all refine' eq_nil ?k1 ?k2 ?k3 ?k4 ?k5 ?_ ?_); (case k1 => is_list); (case k2 => l_intsC); (case k3 => is_list); (case k4 => exact IntsAre.nil); (case k5 => units_room); (all_goals intro hT9))))
local macro_rules | `(tactic| walk_at "call ref") => `(tactic| (k_here; (with_reducible show wpAny _ _ (call (Value.ref 21) _) _ _ _); k_dflt ((refine' gives_use (sb_tells _ _ _ _ _ _) ?k1 ?k2 ?k3 ?k4 ?k7 ?k8 ?kd ?ku ?_); (case k1 => k_asm); (case k2 => k_asm); (case k3 => k_asm); (case k4 => k_asm); (case k7 => k_asm); (case k8 => first | exact rfl | assumption); (case kd => ktr_room); (case ku => ktr_units); (intro t9 h9 tk9 F9 N9; (try dsimp only); (try k_fold)))))
local macro_rules | `(tactic| walk_at "call ref") => `(tactic| (k_here; (with_reducible show wpAny _ _ (call (Value.ref 28) _) _ _ _); k_dflt ((refine' gives_use (hb_tells _ _ _ _ _ _) ?k1 ?k2 ?k3 ?k4 ?k7 ?k8 ?kd ?ku ?_); (case k1 => k_asm); (case k2 => k_asm); (case k3 => k_asm); (case k4 => k_asm); (case k7 => k_asm); (case k8 => first | exact rfl | assumption); (case kd => ktr_room); (case ku => ktr_units); (intro t9 h9 tk9 F9 N9; (try (have hb9 := hbit_b (by assumption) (by assumption))); (try dsimp only); (try k_fold)))))
local macro_rules | `(tactic| walk_at "call ref") => `(tactic| (k_here; (with_reducible show wpAny _ _ (call (Value.ref 77) _) _ _ _); k_dflt ((refine' makes_use (parted_tells _ _ _ _) ?k1 ?k2 ?k3 ?k4 ?k5 ?k7 ?k8 ?k9 ?kp ?kd ?ku ?_); (case k1 => k_asm); (case k2 => k_asm); (case k3 => k_asm); (case k4 => k_asm); (case k5 => (repeat (first | exact Slot.head | apply Slot.tail))); (case k7 => k_asm); (case k8 => first | exact rfl | assumption); (case k9 => (first | assumption | k_intsEnd)); (case kp => exact nums_ok _); (case kd => ktr_room); (case ku => ktr_units); (intro r9 vs9 ns9 c9 h9 tk9 F9 N9 l1 I9 P9; (try dsimp only); (try k_lt l1); (try k_sweep); (try k_fold)))))
local macro_rules | `(tactic| walk_at "call ref") => `(tactic| (k_here; (with_reducible show wpAny _ _ (call (Value.ref 84) _) _ _ _); k_dflt ((refine' makes_use (summed_tells _ _ _ _) ?k1 ?k2 ?k3 ?k4 ?k5 ?k7 ?k8 ?k9 ?kp ?kd ?ku ?_); (case k1 => k_asm); (case k2 => k_asm); (case k3 => k_asm); (case k4 => k_asm); (case k5 => (repeat (first | exact Slot.head | apply Slot.tail))); (case k7 => k_asm); (case k8 => first | exact rfl | assumption); (case k9 => (first | assumption | k_intsEnd)); (case kp => exact sok_of (by assumption)); (case kd => ktr_room); (case ku => ktr_units); (intro r9 vs9 ns9 c9 h9 tk9 F9 N9 l1 I9 P9; (try dsimp only); (try k_lt l1); (try k_sweep); (try k_fold)))))
set_option maxRecDepth 100000 in
set_option maxHeartbeats 3000000 in
theorem t : PySem.Challenge.rw_oy0028_01.Holds := hd (by
  w_top off
  k_with_none
  (w_strict (k_go0; (all_goals try k_fold); k_steps)))
end Mine
end
theorem PySem.Challenge.cw_oy0028_01_holds : PySem.Challenge.rw_oy0028_01.Holds := by
  exact Mine.t
