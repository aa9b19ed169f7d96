import PyProof.Rows.All
import Wide.All
import OpenK.AllK
import Wide.FinOn
import PySem.Challenge.RW_sw0025_01
open PySem PySem.W PyProof.Rows PySem.Calls PySem.Spec
set_option Elab.async false
set_option rowWalk.seconds 0
set_option maxRecDepth 100000
set_option maxHeartbeats 3000000
namespace Mine
open_top tp for PySem.Challenge.rw_sw0025_01

local macro_rules | `(tactic| walk_at $s:str) => `(tactic| k_extra $s)
section
theorem fresh_base : True := by
  w_top off
  k_with_none
  trivial

/-! small terms in place of simp: memberships, sublists, addresses apart -/
section
variable {α : Type} {x y : α} {a b c : List α}
theorem mem_h : x ∈ x :: a := .head _
theorem mem_t (h : x ∈ a) : x ∈ y :: a := .tail _ h
theorem sub_nil : ∀ p ∈ ([] : List α), p ∈ b := fun _ h => nomatch h
theorem sub_cons (h : x ∈ b) (r : ∀ p ∈ a, p ∈ b) : ∀ p ∈ x :: a, p ∈ b := List.forall_mem_cons.mpr ⟨h, r⟩
theorem sub_app (h : ∀ p ∈ a, p ∈ b) (r : ∀ p ∈ c, p ∈ b) : ∀ p ∈ a ++ c, p ∈ b := fun p hp => (List.mem_append.mp hp).elim (h p) (r p)
theorem sub_tail (r : ∀ p ∈ a, p ∈ b) : ∀ p ∈ a, p ∈ x :: b := fun p hp => .tail _ (r p hp)
theorem sub_left (r : ∀ p ∈ a, p ∈ b) : ∀ p ∈ a, p ∈ b ++ c := fun p hp => List.mem_append_left _ (r p hp)
theorem sub_right (r : ∀ p ∈ a, p ∈ c) : ∀ p ∈ a, p ∈ b ++ c := fun p hp => List.mem_append_right _ (r p hp)
theorem sub_refl : ∀ p ∈ a, p ∈ a := fun _ h => h
end
section
variable {i j d : Addr} {o : Obj} {l m : List (Addr × Obj)} {bs : List Addr}
theorem off_nil : ∀ p ∈ ([] : List (Addr × Obj)), p.1 ≠ d := fun _ h => nomatch h
theorem off_cons (h : i ≠ d) (r : ∀ p ∈ l, p.1 ≠ d) : ∀ p ∈ (i, o) :: l, p.1 ≠ d := List.forall_mem_cons.mpr ⟨h, r⟩
theorem off_app (h : ∀ p ∈ l, p.1 ≠ d) (r : ∀ p ∈ m, p.1 ≠ d) : ∀ p ∈ l ++ m, p.1 ≠ d := fun p hp => (List.mem_append.mp hp).elim (h p) (r p)
theorem off_of (h : ∀ p ∈ l, ∀ b ∈ bs, p.1 ≠ b) (k : d ∈ bs) : ∀ p ∈ l, p.1 ≠ d := fun p hp => h p hp d k
theorem off_sym (h : ∀ p ∈ l, d ≠ p.1) : ∀ p ∈ l, p.1 ≠ d := fun p hp => (h p hp).symm
theorem offs_nil : ∀ p ∈ l, ∀ b ∈ ([] : List Addr), p.1 ≠ b := fun _ _ _ h => nomatch h
theorem offs_cons (h : ∀ p ∈ l, p.1 ≠ d) (r : ∀ p ∈ l, ∀ b ∈ bs, p.1 ≠ b) : ∀ p ∈ l, ∀ b ∈ d :: bs, p.1 ≠ b := fun p hp => List.forall_mem_cons.mpr ⟨h p hp, r p hp⟩
theorem offs_app (h : ∀ p ∈ l, ∀ b ∈ bs, p.1 ≠ b) (r : ∀ p ∈ m, ∀ b ∈ bs, p.1 ≠ b) : ∀ p ∈ l ++ m, ∀ b ∈ bs, p.1 ≠ b := fun p hp => (List.mem_append.mp hp).elim (h p) (r p)
theorem offs_sub {cs : List Addr} (h : ∀ p ∈ l, ∀ b ∈ cs, p.1 ≠ b) (k : ∀ b ∈ bs, b ∈ cs) : ∀ p ∈ l, ∀ b ∈ bs, p.1 ≠ b := fun p hp b hb => h p hp b (k b hb)
theorem ad_ss (h : i ≠ j) : i + 1 ≠ j + 1 := fun e => h (Nat.succ.inj e)
theorem ad_lt {n : Nat} (h : 0 < n) : (i : Nat) ≠ i + n := Nat.ne_of_lt (Nat.lt_add_of_pos_right h)
theorem ad_1 : i ≠ i + 1 := ad_lt (n := 1) (by decide)
theorem ad_2 : i ≠ i + 1 + 1 := ad_lt (n := 2) (by decide)
theorem ad_3 : i ≠ i + 1 + 1 + 1 := ad_lt (n := 3) (by decide)
theorem ad_4 : i ≠ i + 1 + 1 + 1 + 1 := ad_lt (n := 4) (by decide)
theorem ad_5 : i ≠ i + 1 + 1 + 1 + 1 + 1 := ad_lt (n := 5) (by decide)
theorem ad_6 : i ≠ i + 1 + 1 + 1 + 1 + 1 + 1 := ad_lt (n := 6) (by decide)
theorem ad_7 : i ≠ i + 1 + 1 + 1 + 1 + 1 + 1 + 1 := ad_lt (n := 7) (by decide)
theorem far_sub (h : ∀ p ∈ l, d ≠ p.1) (k : ∀ p ∈ m, p ∈ l) : ∀ p ∈ m, d ≠ p.1 := fun p hp => h p (k p hp)
theorem far_of (h : ∀ p ∈ l, d ≠ p.1) (k : (i, o) ∈ l) : d ≠ i := h _ k
end
theorem gen_Q {β : Type} {M : Model} {A : Around} {E : Value → Shared → Prop} {s : Shared} {t : Sem β} {Q : β → Shared → Prop} (h : ∀ Q' : β → Shared → Prop, (∀ f s', Q f s' → Q' f s') → wpAny M A t Q' E s) : wpAny M A t Q E s := h Q fun _ _ x => x
theorem enter {prog : Program} {w : World} {A : Around} {s : Shared} {K : Frag} {Q E : Value → Shared → Prop} {name qual : Str} {params : Arguments} {body : List Stmt} {scope : Scope} {dV kV doc pm cdv ct oc : Value} {an od : Option Addr} {osl : Array (Option Value)} {f : Addr} {args : List Value} {binds : List (Str × Value)} (rb : List (Str × Value))
    (hrb : binds = rb.reverse) (X : K.In s.heap) (hlim : s.heap.NoLimit)
    (ho : K.lookup f = some ⟨oc, od, .func (fnOf name qual params body scope dV kV doc pm an cdv ct), osl⟩) (hcd : codeIn K cdv qual = true) (hroom : A.depth < recursionLimit)
    (hbind : BindsTo s (fnOf name qual params body scope dV kV doc pm an cdv ct) ⟨args, []⟩ binds) (hloc : ∀ y ∈ binds, scope.names.lookup y.1 = some .local)
    (h : ∀ L' h₁, Fr s.heap L' h₁ (fun y => rb.lookup y) → News s.heap L' h₁ [] →
      wpAny (model prog w) (A.deeper (envOf qual scope L' f cdv)) (execs body (envOf qual scope L' f cdv))
        (fun fl s' => Q (match fl with | .ret v => v | _ => .none) s') (fun _ _ => False)
        { s with heap := h₁, toks := s.toks + binds.length })
    (hco : scope.isCoroutine = false := by rfl) (hgen : scope.isGenerator = false := by rfl) (hk : scope.kind = .function := by rfl)
    (hcell : ∀ x ∈ scope.names, x.2 ≠ .cell := by decide) : wpAny (model prog w) A (call (.ref f) args) Q E s := by
  have hrb' : binds.reverse = rb := by rw [hrb, List.reverse_reverse]
  refine wpAny_call (codeAny_call_def (fd := fnOf name qual params body scope dV kV doc pm an cdv ct) (body := body) (binds := binds) hroom (X _ _ ho) rfl hlim (codeRec_of X hcd) rfl hbind hcell hloc (fun h₁ hns hk₁ => ?_) hco hgen hk)
  refine wpAny_mono (h s.heap.objs.size h₁ ⟨hrb' ▸ hns, hk₁, Nat.le_refl _⟩ (fun _ hp => nomatch hp)) (fun fl s' hl => hl) fun _ _ y => y.elim

section
variable {h h₀ : Heap} {L a b : Addr} {o : Obj} {m : Str → Option Value} {news : List (Addr × Obj)}
/-- an address at which nothing stands is none of those at which something does -/
theorem voidNe (e : h.get? a = none) (f : h.get? b = some o) : b ≠ a := fun q => by rw [q, e] at f; cases f
theorem voidIn (e : h.get? a = none) {fp : List Addr} (l : ∀ b ∈ fp, ∃ o, h.get? b = some o) : a ∉ fp := fun q => let ⟨_, f⟩ := l a q; voidNe e f rfl
theorem voidFr (F : Fr h₀ L h m) (e : h.get? a = none) : h₀.get? a = none ∧ a ≠ L :=
  ⟨Option.eq_none_iff_forall_ne_some.mpr fun o q => voidNe e (F.keep a o q) rfl, fun q => let ⟨_, _, _, g, _⟩ := F.ns; voidNe e g q.symm⟩
theorem voidNews (N : News h₀ L h news) (e : h.get? a = none) : ∀ p ∈ news, p.1 ≠ a := fun p hp => voidNe e (N p hp).1
theorem voidUp {h h' : Heap} {a : Addr} (up : ∀ b o, h.get? b = some o → h'.get? b = some o) (e : h'.get? a = none) : h.get? a = none := Option.eq_none_iff_forall_ne_some.mpr fun o q => voidNe e (up a o q) rfl
end

def Halt (P : Prop) : Prop := P
theorem Halt.mk {P : Prop} (h : Halt P) : P := h

theorem toI {Q : Value → Shared → Prop} {s : Shared} {x y : Int} {t : Tok} (e : x = y) (h : Q (.int y t) s) : Q (.int x t) s := e ▸ h
theorem toB {Q : Value → Shared → Prop} {s : Shared} {x y : Bool} (e : x = y) (h : Q (.bool y) s) : Q (.bool x) s := e ▸ h
theorem toS {Q : Value → Shared → Prop} {s : Shared} {x y : Str} {t : Tok} (e : x = y) (h : Q (.str y t) s) : Q (.str x t) s := e ▸ h

section
variable {h₀ h h' : Heap} {L : Addr} {m m' : Str → Option Value} {news : List (Addr × Obj)}
theorem frCg (F : Fr h₀ L h m) (e : ∀ y, m y = m' y) : Fr h₀ L h m' := (funext e : m = m') ▸ F
theorem frUp (F : Fr h₀ L h m) (st : h.StaysIn h') : Fr h₀ L h' m := F.keeps st
theorem newsUp (N : News h₀ L h news) (st : h.StaysIn h') : News h₀ L h' news := N.grown st
end

section
variable {prog : Program} {w : World} {A : Around} {E : Value → Shared → Prop} {Q : Flow → Shared → Prop} {s : Shared} {env : Env} {h₀ : Heap} {L : Addr}
theorem fr2 {x y : Str} {v v' z : Option Value} {d1 d2 d3 : Decidable (y = x)} : @ite _ (y = x) d1 v' (@ite _ (y = x) d2 v z) = @ite _ (y = x) d3 v' z := by
  by_cases h : y = x
  · rw [if_pos h, if_pos h]
  · rw [if_neg h, if_neg h, if_neg h]
/-- between two turns of a while that changes one int of the frame; its values are told by a count -/
abbrev nInv (fr : Nat → Tok → Str → Option Value) (news : List (Addr × Obj)) (P : Nat → Prop) (μ : Nat → Nat) (n : Nat) (m : Str → Option Value) (nx : List (Addr × Obj)) : Prop := ∃ c t, P c ∧ μ c = n ∧ m = fr c t ∧ nx = news
/-- a turn's end (the library's, but no line of the walk opens it) -/
structure NStep (h₀ : Heap) (L : Addr) (s : Shared) (fr : Nat → Tok → Str → Option Value) (news : List (Addr × Obj)) (P : Nat → Prop) (μ : Nat → Nat) (Q : Flow → Shared → Prop) (c : Nat) (f : Flow) (s₃ : Shared) : Prop where
  out : WhileStep2 h₀ L s (nInv fr news P μ) Q (μ c) f s₃
structure NExit (h₀ : Heap) (L : Addr) (s : Shared) (fr : Nat → Tok → Str → Option Value) (news : List (Addr × Obj)) (R : Nat → Prop) (s₃ : Shared) : Prop where
  out : ∃ c h k, R c ∧ (∃ t, Fr h₀ L h (fr c t)) ∧ News h₀ L h news ∧ { s with heap := h, toks := k } = s₃
theorem while_q {test : PySem.Expr} {body : List Stmt} {pos : Pos} {news : List (Addr × Obj)} {x : Str} {d : ∀ y : Str, Decidable (y = x)} {m₁ : Str → Option Value} {v₀ : Int} {t₀ : Tok} (val : Nat → Int) (P R : Nat → Prop) (μ : Nat → Nat)
    (F : Fr h₀ L s.heap (fun y => @ite _ (y = x) (d y) (some (.int v₀ t₀)) (m₁ y))) (N : News h₀ L s.heap news) (hv : v₀ = val 0) (hp : P 0)
    (turn : ∀ c t h tk, P c → Fr h₀ L h (fun y => @ite _ (y = x) (d y) (some (.int (val c) t)) (m₁ y)) → News h₀ L h news →
      ∀ (QS : Flow → Shared → Prop) (QX : Shared → Prop), (∀ f s', NStep h₀ L s (fun c t y => @ite _ (y = x) (d y) (some (.int (val c) t)) (m₁ y)) news P μ Q c f s' → QS f s') → (∀ s', NExit h₀ L s (fun c t y => @ite _ (y = x) (d y) (some (.int (val c) t)) (m₁ y)) news R s' → QX s') →
      wpAny (model prog w) A (isTrue test env (eval test env)) (fun b s₂ => if b = true then wpAny (model prog w) A (execs body env) QS E s₂ else QX s₂) E { s with heap := h, toks := tk })
    (done : ∀ c t h tk, R c → Fr h₀ L h (fun y => @ite _ (y = x) (d y) (some (.int (val c) t)) (m₁ y)) → News h₀ L h news → Q .next { s with heap := h, toks := tk })
    (hE : PassesOwn (model prog w) A env E := by passes_own) :
    wpAny (model prog w) A (exec (.While test body [] pos) env) Q E s := by
  subst hv
  refine While_inv2 (nInv (fun c t y => @ite _ (y = x) (d y) (some (.int (val c) t)) (m₁ y)) news P μ) F N ⟨0, t₀, hp, rfl, rfl, rfl⟩ ?_ hE
  rintro n _ _ h k F' N' ⟨c, t, hc, rfl, rfl, rfl⟩
  exact turn c t h k hc F' N' _ _ (fun _ _ x => x.out) fun _ x => let ⟨c', h', k', r, ⟨t', F''⟩, N'', e⟩ := x.out; e ▸ done c' t' h' k' r F'' N''
theorem nstep {x : Str} {d d' : ∀ y : Str, Decidable (y = x)} {m₁ : Str → Option Value} {val : Nat → Int} {news : List (Addr × Obj)} {P : Nat → Prop} {μ : Nat → Nat} {c : Nat} {h' : Heap} {tk' : Nat} {v v' : Int} {t t' : Tok} (c' : Nat)
    (F : Fr h₀ L h' (fun y => @ite _ (y = x) (d' y) (some (.int v' t')) (@ite _ (y = x) (d y) (some (.int v t)) (m₁ y)))) (N : News h₀ L h' news) (hv : v' = val c') (hp : P c') (hm : μ c' < μ c) :
    NStep h₀ L s (fun c t y => @ite _ (y = x) (d y) (some (.int (val c) t)) (m₁ y)) news P μ Q c .next { s with heap := h', toks := tk' } :=
  ⟨⟨h', tk', _, news, μ c', rfl, frCg F fun y => hv ▸ fr2, N, hm, c', t', hp, rfl, rfl, rfl⟩⟩
theorem nexit {x : Str} {d : ∀ y : Str, Decidable (y = x)} {m₁ : Str → Option Value} {val : Nat → Int} {news : List (Addr × Obj)} {R : Nat → Prop} {h' : Heap} {tk' : Nat} {t : Tok} (c : Nat)
    (F : Fr h₀ L h' (fun y => @ite _ (y = x) (d y) (some (.int (val c) t)) (m₁ y))) (N : News h₀ L h' news) (hr : R c) :
    NExit h₀ L s (fun c t y => @ite _ (y = x) (d y) (some (.int (val c) t)) (m₁ y)) news R { s with heap := h', toks := tk' } :=
  ⟨⟨c, h', tk', hr, ⟨t, F⟩, N, rfl⟩⟩
end

section
variable {prog : Program} {w : World} {A : Around} {E : Value → Shared → Prop} {s : Shared} {value slice : PySem.Expr} {x : Str} {t : Tok} {h₀ : Heap} {L : Addr} {m : Str → Option Value} {news : List (Addr × Obj)} {Q : Value → Shared → Prop}
theorem slNN (x : Str) : Txt.slice x none none = x := by
  unfold Txt.slice
  rw [if_pos]
  simp [PySem.Builtin.Str.strSliceIndices, PySem.sliceRange]
  split <;> omega
theorem slNS {x : Str} {j : Nat} (h0 : j ≠ 0) (h1 : j ≤ x.length) : (Txt.slice x none (some (-(j : Int)))).length = x.length - j := by
  rw [slice_to_neg (by omega)]
  have := (fact_slice_ns x (max 0 ((x.length : Int) + -(j : Int)))).1 (by omega) (by omega)
  omega
theorem slSN {x : Str} {j : Nat} (h1 : j ≤ x.length) : (Txt.slice x (some (j : Int)) none).length = x.length - j := by
  have := (fact_slice_sn x (j : Int)).1 (by omega) (by omega)
  omega
theorem sl_nn (hF : Fr h₀ L s.heap m) (hN : News h₀ L s.heap news) (hx : x.length ≤ 4) (h : ∀ h' t' k, Fr h₀ L h' m → News h₀ L h' news → Q (.str x t') { s with heap := h', toks := k })
    (hs : subscripted slice false (.str x t) (.ref s.heap.objs.size) = operate [.ref s.heap.objs.size, .str x t] (getItem (.str x t) (.ref s.heap.objs.size)) := by with_unfolding_all rfl)
    (ht : ∀ r, letTemporaryGo value (.str x t) r = pure () := by intro _; with_unfolding_all rfl) :
    wpAny (model prog w) A (subscriptTail value slice (.str x t) (.ref s.heap.objs.size)) Q E { s with heap := s.heap.push { cls := .type "slice", data := .fields #[.none, .none, .none] } } :=
  slice_strN_nn hF hN (fun h' t' k F N => (slNN x).symm ▸ h h' t' k F N) hs ht (by rw [sizeLine_eq]; omega)
theorem sl_ns {j : Nat} {uj : Tok} (hF : Fr h₀ L s.heap m) (hN : News h₀ L s.heap news) (hx : x.length ≤ 4) (h0 : j ≠ 0) (h1 : j ≤ x.length) (h : ∀ h' t' k, Fr h₀ L h' m → News h₀ L h' news → (Txt.slice x none (some (-(j : Int)))).length = x.length - j → Q (.str (Txt.slice x none (some (-(j : Int)))) t') { s with heap := h', toks := k })
    (hs : subscripted slice false (.str x t) (.ref s.heap.objs.size) = operate [.ref s.heap.objs.size, .str x t] (getItem (.str x t) (.ref s.heap.objs.size)) := by with_unfolding_all rfl)
    (ht : ∀ r, letTemporaryGo value (.str x t) r = pure () := by intro _; with_unfolding_all rfl) :
    wpAny (model prog w) A (subscriptTail value slice (.str x t) (.ref s.heap.objs.size)) Q E { s with heap := s.heap.push { cls := .type "slice", data := .fields #[.none, .int (-(j : Int)) uj, .none] } } :=
  slice_strN_ns hF hN (fun h' t' k F N => h h' t' k F N (slNS h0 h1)) hs ht (by rw [sizeLine_eq]; omega)
theorem sl_sn {j : Nat} {uj : Tok} (hF : Fr h₀ L s.heap m) (hN : News h₀ L s.heap news) (hx : x.length ≤ 4) (h1 : j ≤ x.length) (h : ∀ h' t' k, Fr h₀ L h' m → News h₀ L h' news → (Txt.slice x (some (j : Int)) none).length = x.length - j → Q (.str (Txt.slice x (some (j : Int)) none) t') { s with heap := h', toks := k })
    (hs : subscripted slice false (.str x t) (.ref s.heap.objs.size) = operate [.ref s.heap.objs.size, .str x t] (getItem (.str x t) (.ref s.heap.objs.size)) := by with_unfolding_all rfl)
    (ht : ∀ r, letTemporaryGo value (.str x t) r = pure () := by intro _; with_unfolding_all rfl) :
    wpAny (model prog w) A (subscriptTail value slice (.str x t) (.ref s.heap.objs.size)) Q E { s with heap := s.heap.push { cls := .type "slice", data := .fields #[.int (j : Int) uj, .none, .none] } } :=
  slice_strN_sn hF hN (fun h' t' k F N => h h' t' k F N (slSN h1)) hs ht (by rw [sizeLine_eq]; omega)
end

section
variable {M : Model} {A : Around} {E : Value → Shared → Prop} {Q : Flow → Shared → Prop} {s : Shared} {env : Env}
theorem execs_app (l₂ : List Stmt) : ∀ l₁ : List Stmt, execs (l₁ ++ l₂) env = (execs l₁ env >>= fun f => match f with | .next => execs l₂ env | f => pure f)
  | [] => by
    show execs l₂ env = (pure Flow.next >>= _)
    rw [pure_bind]
  | a :: l => by
    show execs (a :: (l ++ l₂)) env = _
    rw [execs_cons, execs_cons, bind_assoc]
    refine congrArg _ (funext fun f => ?_)
    cases f with
    | next => exact execs_app l₂ l
    | brk => exact (pure_bind _ _).symm
    | cont => exact (pure_bind _ _).symm
    | ret v => exact (pure_bind _ _).symm
/-- the first statements apart, by what they leave -/
theorem cutAt {l₁ l₂ : List Stmt} (R : Shared → Prop) (h1 : ∀ Qc : Flow → Shared → Prop, (∀ s', R s' → Qc .next s') → wpAny M A (execs l₁ env) Qc E s)
    (h2 : ∀ s', R s' → wpAny M A (execs l₂ env) Q E s') : wpAny M A (execs (l₁ ++ l₂) env) Q E s := by
  rw [execs_app]
  refine wpAny_bind (wpAny_mono (h1 (fun f s' => f = .next ∧ R s') fun _ r => ⟨rfl, r⟩) (fun f s' h => ?_) fun _ _ x => x)
  obtain ⟨rfl, r⟩ := h
  exact h2 s' r
theorem cut1 {a : Stmt} {rest : List Stmt} (R : Shared → Prop) (h1 : ∀ Qc : Flow → Shared → Prop, (∀ s', R s' → Qc .next s') → wpAny M A (execs [a] env) Qc E s)
    (h2 : ∀ s', R s' → wpAny M A (execs rest env) Q E s') : wpAny M A (execs (a :: rest) env) Q E s := cutAt (l₁ := [a]) R h1 h2
theorem cut2 {a b : Stmt} {rest : List Stmt} (R : Shared → Prop) (h1 : ∀ Qc : Flow → Shared → Prop, (∀ s', R s' → Qc .next s') → wpAny M A (execs [a, b] env) Qc E s)
    (h2 : ∀ s', R s' → wpAny M A (execs rest env) Q E s') : wpAny M A (execs (a :: b :: rest) env) Q E s := cutAt (l₁ := [a, b]) R h1 h2
end

section
variable {prog : Program} {w : World} {A : Around} {E : Value → Shared → Prop} {s : Shared} {h₀ : Heap} {L r : Addr} {m : Str → Option Value} {news : List (Addr × Obj)} {a b c : Int} {t u v : Tok} {n : Nat} {Q : Value → Shared → Prop}
def stepKs (a c : Int) (n : Nat) : List Int := (List.range n).map fun j : Nat => a + (j : Int) * c
theorem ints_at : ∀ (ks : List Int) (vs : List Value), vs.length = ks.length → (∀ (j : Nat) (v : Value) (k : Int), vs[j]? = some v → ks[j]? = some k → ∃ t, v = .int k t) → IntsAre vs ks
  | [], [], _, _ => .nil
  | [], _ :: _, e, _ => nomatch e
  | _ :: _, [], e, _ => nomatch e
  | k :: ks, v :: vs, e, h => by
    obtain ⟨t, rfl⟩ := h 0 v k rfl rfl
    exact .cons k t (ints_at ks vs (Nat.succ.inj e) fun j x y a b => h (j + 1) x y a b)
theorem rg3 (F : Fr h₀ L s.heap m) (N : News h₀ L s.heap news) (hn : n ≤ 4)
    (h : ∀ h' tk t₁ u₁ v₁, IsRange h' s.heap.objs.size 2 (2 * ((n : Int) + 1)) 2 t₁ u₁ v₁ → Fr h₀ L h' m → News h₀ L h' news → Q (.ref s.heap.objs.size) { s with heap := h', toks := tk }) :
    wpAny (model prog w) A (call (.type "range") [.int 2 t, .int (2 * ((n : Int) + 1)) u, .int 2 v]) Q E s :=
  range3_rows F N (by decide) (fun h' tk t₁ u₁ v₁ a b c _ => h h' tk t₁ u₁ v₁ a b c) (.inl (PyProof.noPylong_small (by omega)))
theorem ls3 (hh : A.handled = none) (F : Fr h₀ L s.heap m) (N : News h₀ L s.heap news) (hr : IsRange s.heap r 2 (2 * ((n : Int) + 1)) 2 t u v) (hn : n ≤ 4)
    (h : ∀ D us c h' tk, Fr h₀ L h' m → News h₀ L h' ((D, listOf (List.toArray us) c) :: news) → (∀ p ∈ news, p.1 < D) → IntsAre us (stepKs 2 2 n) → Q (.ref D) { s with heap := h', toks := tk }) :
    wpAny (model prog w) A (call (.type "list") [.ref r]) Q E s := by
  have q : Builtin.Range.small 2 (2 * ((n : Int) + 1)) 2 = true ∧ Builtin.Range.rangeSize 2 (2 * ((n : Int) + 1)) 2 = (n : Int) := by
    match n, hn with
    | 0, _ => exact ⟨rfl, rfl⟩
    | 1, _ => exact ⟨rfl, rfl⟩
    | 2, _ => exact ⟨rfl, rfl⟩
    | 3, _ => exact ⟨rfl, rfl⟩
    | 4, _ => exact ⟨rfl, rfl⟩
  refine call_list_range hh hr q.1 q.2 (Nat.le_trans hn (by decide)) fun h' tk acc c up gD facts => ?_
  refine h s.heap.objs.size acc.toList c h' tk (F.keeps up) (List.forall_mem_cons.mpr ⟨⟨gD, Nat.ne_of_gt F.ns.lt, next_is_new F⟩, N.grown up⟩) (fun p hp => Heap.lt_size (N p hp).1) (ints_at _ _ (by simpa [stepKs] using facts.1) fun j v k gv gk => ?_)
  obtain ⟨t', rfl⟩ := facts.2 j v (by simpa using gv)
  have jn : j < n := by
    have := (List.getElem?_eq_some_iff.mp gk).1
    simpa [stepKs] using this
  refine ⟨t', ?_⟩
  rw [stepKs, List.getElem?_map, List.getElem?_range jn] at gk
  exact congrArg (Value.int · t') (Option.some.inj gk)
end

section
variable {prog : Program} {w : World} {A : Around} {E : Value → Shared → Prop} {s : Shared} {env : Env} {h₀ : Heap} {x : Str} {body : List Stmt} {Q : Flow → Shared → Prop}
/-- what a turn of a loop over range(n) leaves; a structure, so that no line of the walk opens it -/
structure RPost {σ : Type} (h₀ : Heap) (L : Addr) (Led : σ → List (Addr × Obj)) (ps : σ → List (Str × Value)) (Facts : σ → Prop) (x : Str) (stored : List Str) (m₀ : Str → Option Value) (P : Nat → σ → Prop) (k : Nat) (own : List (Addr × Obj)) (adr : List Addr) (s₁ : Shared) (Q : Flow → Shared → Prop) (f : Flow) (s₂ : Shared) : Prop where
  out : ∀ pre : List Int, pre.length = k → InvPostN h₀ L (KstS Led ps Facts x stored m₀ (fun pre c => P pre.length c) pre) own adr s₁ Q f s₂
theorem for_rng {σ : Type} {r : Addr} {t₀ u₀ v₀ : Tok} {n : Nat} {m₀ : Str → Option Value} (Led : σ → List (Addr × Obj)) (ps : σ → List (Str × Value)) (Facts : σ → Prop) (stored : List Str) (P : Nat → σ → Prop) (c₀ : σ)
    (hh : A.handled = none) (hr : IsRange s.heap r 0 (n : Int) 1 t₀ u₀ v₀) (hn : n < 2 ^ 20) (F : Fr h₀ env.locals s.heap m₀) (N : News h₀ env.locals s.heap (Led c₀)) (hf : Facts c₀) (hk : ∀ p ∈ ps c₀, m₀ p.1 = some p.2) (hp : P 0 c₀)
    (turn : ∀ (c : σ) (k : Nat) t (u : Str → Option Value) h tk own, k < n → OwnOff own ((Led c₀).map (·.1)) → Facts c → P k c →
      Fr h₀ env.locals h (fun y => if y = x then some (.int (k : Int) t) else kstB (fun z => if stored.contains z then u z else m₀ z) (ps c) y) → News h₀ env.locals h (Led c ++ own) →
      wpAny (model prog w) A (execs body env) (RPost h₀ env.locals Led ps Facts x stored m₀ P (k + 1) own ((Led c₀).map (·.1)) { s with heap := h, toks := tk } Q) E { s with heap := h, toks := tk })
    (done : ∀ (c : σ) (u : Str → Option Value) h tk, Facts c → P n c → Fr h₀ env.locals h (fun y => if y = x then u y else kstB (fun z => if stored.contains z then u z else m₀ z) (ps c) y) → News h₀ env.locals h (Led c) → Q .next { s with heap := h, toks := tk }) :
    wpAny (model prog w) A (pyIter (.ref r)) (fun it s₂ => LoopAtV prog w A h₀ env x body Q E it s₂) E s := by
  refine kst_range (n := n) Led ps Facts stored (fun pre c => P pre.length c) c₀ hh hr (small_one (by omega) (by omega) (by omega) (by omega)) ?_ F N hf hk hp ?_ ?_
  · rw [rangeSize_one]; split <;> omega
  · intro c pre k t u h tk own hk' hlt hoff hfc hpc F' N'
    have e : k = (pre.length : Int) := by omega
    subst e
    exact wpAny_mono (turn c pre.length t u h tk own hlt hoff hfc hpc F' N') (fun f s₂ p => p.out _ (by simp)) fun _ _ e => e
  · intro c u h tk hfc hpc F' N'
    exact done c u h tk hfc (by simpa [rangeKs_length] using hpc) F' N'
theorem rpost_next {σ : Type} {Led : σ → List (Addr × Obj)} {ps : σ → List (Str × Value)} {Facts : σ → Prop} {stored : List Str} {m₀ : Str → Option Value} {P : Nat → σ → Prop} {k : Nat} (c : σ) {L : Addr} {m' : Str → Option Value} {own news' : List (Addr × Obj)} {adr : List Addr} {s₁ : Shared} {h' : Heap} {tk : Nat}
    (F : Fr h₀ L h' m') (N : News h₀ L h' news') (hn : ∀ p ∈ Led c, p ∈ news') (ho : ∀ p ∈ own, p ∈ news') (ha : (Led c).map (·.1) = adr) (hf : Facts c) (hk : ∀ p ∈ ps c, m' p.1 = some p.2) (hr : ∀ z, z ≠ x → (∀ p ∈ ps c, z ≠ p.1) → stored.contains z = false → m' z = m₀ z) (hp : P k c) :
    RPost h₀ L Led ps Facts x stored m₀ P k own adr s₁ Q .next { s₁ with heap := h', toks := tk } :=
  ⟨fun pre e => kst_end c F N hn ho ha hf hk hr (by rw [e]; exact hp)⟩
theorem rpost_ret {σ : Type} {Led : σ → List (Addr × Obj)} {ps : σ → List (Str × Value)} {Facts : σ → Prop} {stored : List Str} {m₀ : Str → Option Value} {P : Nat → σ → Prop} {k : Nat} {L : Addr} {own : List (Addr × Obj)} {adr : List Addr} {s₁ s₂ : Shared} {v : Value}
    (h : Q (.ret v) s₂) : RPost h₀ L Led ps Facts x stored m₀ P k own adr s₁ Q (.ret v) s₂ := ⟨fun _ _ => h⟩
end

end
section
theorem fresh_small : True := by
  w_top off
  k_with_none
  k_with "mine:enter" => (
  (case k1 => assumption)
  (case k2 => exact Top.nolimit (by assumption))
  (case k3 => k_is)
  (case k4 => k_is)
  (case k5 => ktr_room)
  (case k0 => exact rfl)
  (case k6 => exact BindsTo.of_eq rfl)
  (case k7 => exact locs rfl)
  (case c2 => exact rfl)
  (case c3 => exact rfl)
  (case c4 => exact rfl)
  (case c5 => decide))
  k_with "mine:steps" => repeat' (first | (k_unfold; (try dsimp only)) | walk1 | (dsimp only; walk1) | fail "no step")
  k_with "mine:rest" => (
  (intro zw9 z1w9 z2w9 z3w9);
  (simp only [List.forall_mem_cons, List.not_mem_nil, false_implies, implies_true, and_true, ne_eq] at z2w9);
  (simp only [List.contains_cons, List.contains_nil, Bool.or_false, Bool.or_eq_false_iff, beq_eq_false_iff_ne, ne_eq] at z3w9);
  (simp [kstB, z1w9, z2w9, z3w9]))
  k_with "mine:mm" => first | with_reducible exact mem_h | with_reducible assumption | ((with_reducible refine mem_t ?_); k_extra "mine:mm")
  k_with "mine:md" => first | exact mem_h | assumption | (refine mem_t ?_; k_extra "mine:md")
  k_with "mine:sub" => first | with_reducible exact sub_nil | with_reducible assumption | with_reducible exact sub_refl | ((with_reducible refine sub_cons ?_ ?_); (first | k_extra "mine:mm" | k_extra "mine:md"); k_extra "mine:sub") | ((with_reducible refine sub_app ?_ ?_); k_extra "mine:sub"; k_extra "mine:sub") | ((with_reducible refine sub_tail ?_); k_extra "mine:sub") | ((with_reducible refine sub_left ?_); k_extra "mine:sub") | ((with_reducible refine sub_right ?_); k_extra "mine:sub")
  k_with "mine:subs" => ((try dsimp only [List.cons_append, List.nil_append]); k_extra "mine:sub")
  k_with "mine:ad" => first | with_reducible assumption | ((with_reducible refine ad_ss ?_); k_extra "mine:ad") | with_reducible first | exact ad_1 | exact ad_2 | exact ad_3 | exact ad_4 | exact ad_5 | exact ad_6 | exact ad_7 | exact ad_1.symm | exact ad_2.symm | exact ad_3.symm | exact ad_4.symm | exact ad_5.symm | exact ad_6.symm | exact ad_7.symm
  k_with "mine:off" => first | with_reducible exact off_nil | with_reducible assumption | ((with_reducible refine off_cons ?_ ?_); (first | k_extra "mine:ad" | (refine Ne.symm ?_; k_extra "mine:ad") | k_ne); k_extra "mine:off") | ((with_reducible refine off_app ?_ ?_); k_extra "mine:off"; k_extra "mine:off") | exact off_sym (by with_reducible assumption) | exact off_of (by assumption) (by k_extra "mine:mm")
  k_with "mine:offs" => ((try dsimp only [List.cons_append, List.nil_append]); k_extra "mine:off")
  trivial
theorem and_ok {w : World} {A : Around} {s : Shared} {Q E : Value → Shared → Prop} {mean : ExcName → Option Value} {mg mb : Str → Option Value} {a b : Int} {ta tb : Tok}
   (hd : A.depth + 1 < recursionLimit) (hu : A.units + 8 < cLine) (X : (tp.heap_39 w.params).In s.heap) (T : Top tp.view_39 (looseW tp.view_39 []) mean mg mb s.heap)
   (hQ : ∀ t h' tk', s.heap.StaysIn h' → s.toks ≤ tk' → Q (.int (Builtin.bitAnd a b) t) { s with heap := h', toks := tk' }) :
   wpAny (model PySem.Challenge.rw_sw0025_01.row.prog w) A (call (.ref 42) [.int a ta, .int b tb]) Q E s := by
  revert X; k_fill; intro X
  refine wpAny_with_toks (Nat.le_refl _) ?_
  refine' enter [(Str.ofString "b", .int b tb), (Str.ofString "a", .int a ta)] ?k0 ?k1 ?k2 ?k3 ?k4 ?k5 ?k6 ?k7 ?k8 ?c2 ?c3 ?c4 ?c5
  k_extra "mine:enter"
  intro LL h1 F1 N1
  try dsimp only
  try k_fold
  k_extra "mine:steps"
  all_goals exact hQ _ _ _ (Fr.keep (by assumption)) (by assumption)

theorem or_ok {w : World} {A : Around} {s : Shared} {Q E : Value → Shared → Prop} {mean : ExcName → Option Value} {mg mb : Str → Option Value} {a b : Int} {ta tb : Tok}
   (hd : A.depth + 1 < recursionLimit) (hu : A.units + 8 < cLine) (X : (tp.heap_39 w.params).In s.heap) (T : Top tp.view_39 (looseW tp.view_39 []) mean mg mb s.heap)
   (hQ : ∀ t h' tk', s.heap.StaysIn h' → s.toks ≤ tk' → Q (.int (Builtin.bitOr a b) t) { s with heap := h', toks := tk' }) :
   wpAny (model PySem.Challenge.rw_sw0025_01.row.prog w) A (call (.ref 49) [.int a ta, .int b tb]) Q E s := by
  revert X; k_fill; intro X
  refine wpAny_with_toks (Nat.le_refl _) ?_
  refine' enter [(Str.ofString "b", .int b tb), (Str.ofString "a", .int a ta)] ?k0 ?k1 ?k2 ?k3 ?k4 ?k5 ?k6 ?k7 ?k8 ?c2 ?c3 ?c4 ?c5
  k_extra "mine:enter"
  intro LL h1 F1 N1
  try dsimp only
  try k_fold
  k_extra "mine:steps"
  all_goals exact hQ _ _ _ (Fr.keep (by assumption)) (by assumption)

def subF (x y : Str) : Int := if x == y then 0 else if Txt.lower x == Txt.lower y then 1 else 2
theorem sub_ok {w : World} {A : Around} {s : Shared} {Q E : Value → Shared → Prop} {mean : ExcName → Option Value} {mg mb : Str → Option Value} {a b : Str} {ta tb : Tok} (la : a.length ≤ 1) (lb : b.length ≤ 1)
   (hd : A.depth + 1 < recursionLimit) (hu : A.units + 8 < cLine) (X : (tp.heap_39 w.params).In s.heap) (T : Top tp.view_39 (looseW tp.view_39 []) mean mg mb s.heap)
   (hQ : ∀ t h' tk', s.heap.StaysIn h' → s.toks ≤ tk' → Q (.int (subF a b) t) { s with heap := h', toks := tk' }) :
   wpAny (model PySem.Challenge.rw_sw0025_01.row.prog w) A (call (.ref 21) [.str a ta, .str b tb]) Q E s := by
  revert X; k_fill; intro X
  refine wpAny_with_toks (Nat.le_refl _) ?_
  refine' enter [(Str.ofString "ch_b", .str b tb), (Str.ofString "ch_a", .str a ta)] ?k0 ?k1 ?k2 ?k3 ?k4 ?k5 ?k6 ?k7 ?k8 ?c2 ?c3 ?c4 ?c5
  k_extra "mine:enter"
  intro LL h1 F1 N1
  try dsimp only
  try k_fold
  k_extra "mine:steps"
  all_goals refine toI (y := subF a b) (by simp only [subF, *]; rfl) (hQ _ _ _ (Fr.keep (by assumption)) (by assumption))

theorem contains_ok {w : World} {A : Around} {s : Shared} {Q E : Value → Shared → Prop} {mean : ExcName → Option Value} {mg mb : Str → Option Value} {l : Addr} {vs : List Value} {ns : List Int} {b : Int} {tb : Tok}
   (hd : A.depth + 1 < recursionLimit) (hu : A.units + 8 < cLine) (X : (tp.heap_39 w.params).In s.heap) (T : Top tp.view_39 (looseW tp.view_39 []) mean mg mb s.heap)
   (hl : s.heap.IsList l vs.toArray) (hi : IntsAre vs ns) (hn : ns.length < 2 ^ 20)
   (hQ : ∀ h' tk', s.heap.StaysIn h' → s.toks ≤ tk' → Q (.bool (ns.any fun x => x == b)) { s with heap := h', toks := tk' }) :
   wpAny (model PySem.Challenge.rw_sw0025_01.row.prog w) A (call (.ref 56) [.ref l, .int b tb]) Q E s := by
  revert X; k_fill; intro X
  refine wpAny_with_toks (Nat.le_refl _) ?_
  refine' enter [(Str.ofString "b", .int b tb), (Str.ofString "a", .ref l)] ?k0 ?k1 ?k2 ?k3 ?k4 ?k5 ?k6 ?k7 ?k8 ?c2 ?c3 ?c4 ?c5
  k_extra "mine:enter"
  intro LL h1 F1 N1
  try dsimp only
  try k_fold
  k_extra "mine:steps"
  exact hQ _ _ (Fr.keep (by assumption)) (by assumption)

end
section
theorem fresh_loops : True := by
  w_top off
  k_with_none
  k_with "mine:enter" => (
  (case k1 => assumption)
  (case k2 => exact Top.nolimit (by assumption))
  (case k3 => k_is)
  (case k4 => k_is)
  (case k5 => ktr_room)
  (case k0 => exact rfl)
  (case k6 => exact BindsTo.of_eq rfl)
  (case k7 => exact locs rfl)
  (case c2 => exact rfl)
  (case c3 => exact rfl)
  (case c4 => exact rfl)
  (case c5 => decide))
  k_with "mine:steps" => repeat' (first | (k_unfold; (try dsimp only)) | walk1 | (dsimp only; walk1) | fail "no step")
  k_with "mine:rest" => (
  (intro zw9 z1w9 z2w9 z3w9);
  (simp only [List.forall_mem_cons, List.not_mem_nil, false_implies, implies_true, and_true, ne_eq] at z2w9);
  (simp only [List.contains_cons, List.contains_nil, Bool.or_false, Bool.or_eq_false_iff, beq_eq_false_iff_ne, ne_eq] at z3w9);
  (simp [kstB, z1w9, z2w9, z3w9]))
  k_with "mine:mm" => first | with_reducible exact mem_h | with_reducible assumption | ((with_reducible refine mem_t ?_); k_extra "mine:mm")
  k_with "mine:md" => first | exact mem_h | assumption | (refine mem_t ?_; k_extra "mine:md")
  k_with "mine:sub" => first | with_reducible exact sub_nil | with_reducible assumption | with_reducible exact sub_refl | ((with_reducible refine sub_cons ?_ ?_); (first | k_extra "mine:mm" | k_extra "mine:md"); k_extra "mine:sub") | ((with_reducible refine sub_app ?_ ?_); k_extra "mine:sub"; k_extra "mine:sub") | ((with_reducible refine sub_tail ?_); k_extra "mine:sub") | ((with_reducible refine sub_left ?_); k_extra "mine:sub") | ((with_reducible refine sub_right ?_); k_extra "mine:sub")
  k_with "mine:subs" => ((try dsimp only [List.cons_append, List.nil_append]); k_extra "mine:sub")
  k_with "mine:ad" => first | with_reducible assumption | ((with_reducible refine ad_ss ?_); k_extra "mine:ad") | with_reducible first | exact ad_1 | exact ad_2 | exact ad_3 | exact ad_4 | exact ad_5 | exact ad_6 | exact ad_7 | exact ad_1.symm | exact ad_2.symm | exact ad_3.symm | exact ad_4.symm | exact ad_5.symm | exact ad_6.symm | exact ad_7.symm
  k_with "mine:off" => first | with_reducible exact off_nil | with_reducible assumption | ((with_reducible refine off_cons ?_ ?_); (first | k_extra "mine:ad" | (refine Ne.symm ?_; k_extra "mine:ad") | k_ne); k_extra "mine:off") | ((with_reducible refine off_app ?_ ?_); k_extra "mine:off"; k_extra "mine:off") | exact off_sym (by with_reducible assumption) | exact off_of (by assumption) (by k_extra "mine:mm")
  k_with "mine:offs" => ((try dsimp only [List.cons_append, List.nil_append]); k_extra "mine:off")
  trivial
section
variable {prog : Program} {w : World} {A : Around} {E : Value → Shared → Prop} {s : Shared} {env : Env} {h₀ : Heap} {x : Str} {body : List Stmt} {Q : Flow → Shared → Prop}
/-- a for over a list that the body neither reads nor turns by another road -/
theorem for_vals {σ : Type} {l : Addr} {vs : List Value} {m₀ : Str → Option Value} (Led : σ → List (Addr × Obj)) (ps : σ → List (Str × Value)) (Facts : σ → Prop) (stored : List Str) (P : Nat → σ → Prop) (c₀ : σ)
    (hh : A.handled = none) (hl : s.heap.IsList l vs.toArray) (hL : l ≠ env.locals) (hln : ∀ q ∈ Led c₀, q.1 ≠ l) (F : Fr h₀ env.locals s.heap m₀) (N : News h₀ env.locals s.heap (Led c₀)) (hf : Facts c₀) (hk : ∀ p ∈ ps c₀, m₀ p.1 = some p.2) (hp : P 0 c₀)
    (turn : ∀ (c : σ) (k : Nat) v (u : Str → Option Value) h tk own, vs[k]? = some v → OwnOff own ((Led c₀).map (·.1)) → Facts c → P k c →
      Fr h₀ env.locals h (fun y => if y = x then some v else kstB (fun z => if stored.contains z then u z else m₀ z) (ps c) y) → News h₀ env.locals h (Led c ++ own) →
      wpAny (model prog w) A (execs body env) (RPost h₀ env.locals Led ps Facts x stored m₀ P (k + 1) own ((Led c₀).map (·.1)) { s with heap := h, toks := tk } Q) E { s with heap := h, toks := tk })
    (done : ∀ (c : σ) (u : Str → Option Value) h tk, Facts c → P vs.length c → Fr h₀ env.locals h (fun y => if y = x then u y else kstB (fun z => if stored.contains z then u z else m₀ z) (ps c) y) → News h₀ env.locals h (Led c) → Q .next { s with heap := h, toks := tk }) :
    wpAny (model prog w) A (pyIter (.ref l)) (fun it s₂ => LoopAtV prog w A h₀ env x body Q E it s₂) E s := by
  have no : s.heap.get? s.heap.objs.size = none := Heap.get?_none_of_le (Nat.le_refl _)
  have ne : l ≠ s.heap.objs.size := let ⟨_, e, _⟩ := hl; voidNe no e
  have nI : ∀ p ∈ Led c₀, p.1 ≠ s.heap.objs.size := voidNews N no
  have W := Walks.list (prog := prog) (w := w) hh _ l ne vs.toArray
  rw [List.size_toArray] at W
  have two : ∀ {a : Addr} {P : Prop}, a ∈ [s.heap.objs.size, l] → (a = s.heap.objs.size → P) → (a = l → P) → P := fun q f g => (List.mem_cons.mp q).elim f fun r => g (List.mem_singleton.mp r)
  refine wpAny_pyIter_list hl (loop_invN (fun i m nx => KstS Led ps Facts x stored m₀ (fun pre c => P pre.length c) (List.replicate i 0) m nx) W (fun q => two q (fun r => (voidFr F no).2 r.symm) fun r => hL r.symm)
    (fun b q => List.mem_singleton.mp q ▸ (voidFr F no).1) (fun p hp q => nI p hp (List.mem_singleton.mp q)) (fun p hp q => two q (nI p hp) (hln p hp)) ⟨⟨_, Heap.get?_push_size _ rfl, rfl, rfl⟩, hl.push _⟩ (F.push _) (N.grown fun _ _ => Heap.get?_push_of_some _)
    ⟨c₀, rfl, hf, hk, fun _ _ _ _ => rfl, hp⟩ ?_ ?_)
  · rintro i v m₁ nx h tk own hi hP hadr hoff ⟨c, rfl, hfc, h1, h2, hpc⟩ F₁ N₁
    have hv : vs[i]? = some v := by simpa using hP
    rw [List.length_replicate] at hpc
    exact wpAny_mono (turn c i v m₁ h tk own hv hoff hfc hpc (kst_fr h1 h2 F₁) N₁) (fun f s₂ p => p.out _ (by simp)) fun _ _ e => e
  · rintro m₁ nx h tk ⟨c, rfl, hfc, h1, h2, hpc⟩ F₁ N₁
    rw [List.length_replicate] at hpc
    exact done c m₁ h tk hfc hpc (kst_frOut h1 h2 F₁) N₁
end

theorem isList_news {h₀ h : Heap} {L D : Addr} {news : List (Addr × Obj)} {us : List Value} {c : Nat} (N : News h₀ L h news) (hm : (D, listOf us.toArray c) ∈ news) : h.IsList D us.toArray := N.isList hm

section
variable {prog : Program} {w : World} {A : Around} {E : Value → Shared → Prop} {s : Shared} {h₀ : Heap} {L D : Addr} {m : Str → Option Value} {news news' : List (Addr × Obj)} {us : List Value} {c : Nat} {value slice : PySem.Expr} {u : Tok}
theorem lenN {Q : Value → Shared → Prop} (N : News h₀ L s.heap news) (hm : (D, listOf us.toArray c) ∈ news) (hfit : us.length < 2 ^ 20)
    (h : Q (.int (us.length : Int) (s.toks + 1)) { s with toks := s.toks + 1 + 1 }) : wpAny (model prog w) A (call (.builtin "len") [.ref D]) Q E s := by
  have e : us.toArray.size = us.length := by simp
  exact call_len_list (isList_news N hm) (by rw [e]; omega) (by rw [e]; exact h)
theorem itemN {Q : Value → Shared → Prop} {k : Int} {v : Value} (N : News h₀ L s.heap news) (hm : (D, listOf us.toArray c) ∈ news) (h0 : 0 ≤ k) (hfit : k < 2 ^ 20) (hv : us[k.toNat]? = some v) (h : Q v s)
    (hs : subscripted slice false (.ref D) (.int k u) = operate [.ref D, .int k u] (getItem (.ref D) (.int k u)) := by with_unfolding_all rfl) :
    wpAny (model prog w) A (subscriptTail value slice (.ref D) (.int k u)) Q E s :=
  tail_any (isList_news N hm).typeIs slot_list_getitem.lookup (wpAny_getItem_list (isList_news N hm) h0 (by omega) (by simpa using hv) h) hs
theorem itemL {Q : Value → Shared → Prop} {v : Value} (N : News h₀ L s.heap news) (hm : (D, listOf us.toArray c) ∈ news) (hv : us.getLast? = some v) (h : Q v s)
    (hs : subscripted slice false (.ref D) (.int (-1) u) = operate [.ref D, .int (-1) u] (getItem (.ref D) (.int (-1) u)) := by with_unfolding_all rfl) :
    wpAny (model prog w) A (subscriptTail value slice (.ref D) (.int (-1) u)) Q E s := by
  have hne : us ≠ [] := by rintro rfl; cases hv
  have hl : 0 < us.length := List.length_pos_iff.mpr hne
  have e : us.toArray.size = us.length := by simp
  refine tail_any (isList_news N hm).typeIs slot_list_getitem.lookup (wpAny_getItem_list_neg (isList_news N hm) (by decide) (by rw [e]; omega) (by decide) ?_ h) hs
  rw [e, show ((-1 : Int) + (us.length : Int)).toNat = us.length - 1 by omega]
  rw [List.getLast?_eq_getElem?] at hv
  simpa using hv
theorem delN {Q : Unit → Shared → Prop} {i : Int} {k : Nat} (F : Fr h₀ L s.heap m) (N : News h₀ L s.heap news) (U : Upd D (listOf us.toArray c) (listOf (us.eraseIdx k).toArray (c + 1)) news news') (hk : seqIndex? i us.length = some k)
    (hfit : Builtin.List.listFitsIndex i = true) (hl : us.length < 2 ^ 20) (h : ∀ h', Fr h₀ L h' m → News h₀ L h' news' → Q () { s with heap := h' }) :
    wpAny (model prog w) A (delItem (.ref D) (.int i u)) Q E s := by
  obtain ⟨pre, post, rfl, rfl, a, b⟩ := U.split
  obtain ⟨g, q⟩ := N (D, listOf us.toArray c) (List.mem_append_right _ (.head _))
  exact delItem_at g hfit (by simpa using hk) (fun h' sb o' => h h' (F.change sb q.1 q.2) (news_set N a b sb o')) (by rw [sizeLine_eq, List.size_toArray]; omega)
end

def find4 (x y : Str) (i j : Int) : Int := match Builtin.Str.occurrences x y (fromIndex x.length i) (min (fromIndex x.length j) x.length) 1 with | k :: _ => (k : Int) | [] => -1
section
open PySem.Builtin PySem.Builtin.Str
theorem gives_find4 (x y : Str) (i j : Int) (t u v r : Tok) : Gives («str.find» ⟨[.str x t, .str y u, .int i v, .int j r], []⟩) (.int (find4 x y i j)) := by
  unfold find4
  suffices all : ∀ l : List Nat, Gives (match l with | k :: _ => retInt k | [] => (do rule "str.find.not-found"; retInt (-1))) (.int (match l with | k :: _ => (k : Int) | [] => -1)) from all _
  rintro (_ | ⟨k, _⟩)
  · exact .rule (.of_eq rfl)
  · exact .of_eq rfl
end
section
variable {prog : Program} {w : World} {A : Around} {E : Value → Shared → Prop} {s : Shared} {x y : Str} {t u v r : Tok} {i j : Int} {Q : Value → Shared → Prop} {h₀ : Heap} {L : Addr} {m : Str → Option Value} {news : List (Addr × Obj)}
theorem findN (hq : Q (.int (find4 x y i j) s.toks) { s with toks := s.toks + 1 }) : wpAny (model prog w) A (call (.builtin "str.find") [.str x t, .str y u, .int i v, .int j r]) Q E s :=
  call_gives F.slot_str_find (typeIs_str _ _ _) F.entry_str_find (F.args_str_find_4 _ _ _ _) (gives_find4 x y i j t u v r) hq
theorem splN (hF : Fr h₀ L s.heap m) (hN : News h₀ L s.heap news) (hy : (y.length == 0) = false) (hx : x.length < 2 ^ 20)
    (h : ∀ D us h' k, Fr h₀ L h' m → News h₀ L h' ((D, listOf us.toArray 0) :: news) → (∀ p ∈ news, p.1 < D) → StrsAre us (Txt.split x y) → Q (.ref D) { s with heap := h', toks := k }) :
    wpAny (model prog w) A (call (.builtin "str.split") [.str x t, .str y u]) Q E s :=
  splitN1 hF hN hy (fun l h' k e F' N' => h _ (strValues l) h' k F' N' (fun p hp => Heap.lt_size (hN p hp).1) (e ▸ strsAre_of_values l)) (by rw [sizeLine_eq]; omega)
theorem truS {Q : Bool → Shared → Prop} (hx : x.length < 2 ^ 20) (h : Q (decide (x.length ≠ 0)) { s with toks := s.toks + 1 + 1 }) : wpAny (model prog w) A (truthy (.str x t)) Q E s := by
  refine SBL.truthy (by omega) ?_
  have e : ((x.length : Int) != 0) = decide (x.length ≠ 0) := by
    by_cases q : x.length = 0 <;> simp [q]
  rw [e]; exact h
end

end
section
theorem fresh_lev : True := by
  w_top off
  k_with_none
  k_with "mine:enter" => (
  (case k1 => assumption)
  (case k2 => exact Top.nolimit (by assumption))
  (case k3 => k_is)
  (case k4 => k_is)
  (case k5 => ktr_room)
  (case k0 => exact rfl)
  (case k6 => exact BindsTo.of_eq rfl)
  (case k7 => exact locs rfl)
  (case c2 => exact rfl)
  (case c3 => exact rfl)
  (case c4 => exact rfl)
  (case c5 => decide))
  k_with "mine:steps" => repeat' (first | (k_unfold; (try dsimp only)) | walk1 | (dsimp only; walk1) | fail "no step")
  k_with "mine:rest" => (
  (intro zw9 z1w9 z2w9 z3w9);
  (simp only [List.forall_mem_cons, List.not_mem_nil, false_implies, implies_true, and_true, ne_eq] at z2w9);
  (simp only [List.contains_cons, List.contains_nil, Bool.or_false, Bool.or_eq_false_iff, beq_eq_false_iff_ne, ne_eq] at z3w9);
  (simp [kstB, z1w9, z2w9, z3w9]))
  k_with "mine:mm" => first | with_reducible exact mem_h | with_reducible assumption | ((with_reducible refine mem_t ?_); k_extra "mine:mm")
  k_with "mine:md" => first | exact mem_h | assumption | (refine mem_t ?_; k_extra "mine:md")
  k_with "mine:sub" => first | with_reducible exact sub_nil | with_reducible assumption | with_reducible exact sub_refl | ((with_reducible refine sub_cons ?_ ?_); (first | k_extra "mine:mm" | k_extra "mine:md"); k_extra "mine:sub") | ((with_reducible refine sub_app ?_ ?_); k_extra "mine:sub"; k_extra "mine:sub") | ((with_reducible refine sub_tail ?_); k_extra "mine:sub") | ((with_reducible refine sub_left ?_); k_extra "mine:sub") | ((with_reducible refine sub_right ?_); k_extra "mine:sub")
  k_with "mine:subs" => ((try dsimp only [List.cons_append, List.nil_append]); k_extra "mine:sub")
  k_with "mine:ad" => first | with_reducible assumption | ((with_reducible refine ad_ss ?_); k_extra "mine:ad") | with_reducible first | exact ad_1 | exact ad_2 | exact ad_3 | exact ad_4 | exact ad_5 | exact ad_6 | exact ad_7 | exact ad_1.symm | exact ad_2.symm | exact ad_3.symm | exact ad_4.symm | exact ad_5.symm | exact ad_6.symm | exact ad_7.symm
  k_with "mine:off" => first | with_reducible exact off_nil | with_reducible assumption | ((with_reducible refine off_cons ?_ ?_); (first | k_extra "mine:ad" | (refine Ne.symm ?_; k_extra "mine:ad") | k_ne); k_extra "mine:off") | ((with_reducible refine off_app ?_ ?_); k_extra "mine:off"; k_extra "mine:off") | exact off_sym (by with_reducible assumption) | exact off_of (by assumption) (by k_extra "mine:mm")
  k_with "mine:offs" => ((try dsimp only [List.cons_append, List.nil_append]); k_extra "mine:off")
  trivial
/-! what omega would show, as small terms (an omega in a long context leaves some 700 to 5,000 nodes) -/
section
variable {i j k m n x y : Nat}
theorem om_a (h : n ≤ 4) : (n : Int) < 9223372036854775808 := by omega
theorem om_b (h : i < n) (g : n ≤ 4) : (i : Int) < 9223372036854775808 := by omega
theorem om_c (h : i < n) (g : n ≤ 4) : (i : Int) < 2 ^ 63 := by omega
theorem om_d (h : i < n) (g : n ≤ 4) : (i : Int) < 2 ^ 64 := by omega
theorem om_e (h : x = n - j) (g : n ≤ 4) : (x : Int) < 9223372036854775808 := by omega
theorem om_f (g : n ≤ 4) : n < 2 ^ 20 := by omega
theorem om_g (h : (n : Int) ≥ 2 ^ 63) (g : n ≤ 4) : False := by omega
theorem om_h (g : n ≤ 4) : (n : Int) - (m : Int) < 2 ^ 64 := by omega
theorem om_i (h : x = n - j) (g : (x : Int) ≠ 0) : -(n : Int) ≤ -(j : Int) - 1 := by omega
theorem om_j (h : -(j : Int) = 0) (g : ¬ j = 0) : False := by omega
theorem om_k (h : 40 < (n : Int)) (g : n ≤ 4) : False := by omega
theorem om_l (h : (y : Int) = 0) (g : (x : Int) ≠ 0) (e1 : y = m - j) (e2 : x = n - j) (e3 : n = m) : False := by omega
theorem om_m : -(j : Int) - 1 < (n : Int) := by omega
theorem om_n : -(j : Int) - 1 < 9223372036854775808 := by omega
theorem om_o (h : j ≤ n) (g : n ≤ 4) : -9223372036854775808 < -(j : Int) - 1 := by omega
theorem om_p (h : j ≤ n) (g : n = m) : j ≤ m := g ▸ h
theorem om_q (h : x = n - j) (g : (x : Int) ≠ 0) : j < n := by omega
theorem om_r (h : x = m - j) (g : (x : Int) ≠ 0) (e : n = m) : j < n := by omega
theorem om_s (h : (n : Int) = 0) (g : (n : Int) ≠ 0) : False := g h
theorem om_t (h : j < n) : (0 : Int) ≤ (j : Int) := Int.natCast_nonneg _
theorem om_u (h : i < n) : (i : Int) < (n : Int) := Int.ofNat_lt.mpr h
theorem om_v (h : j < n) : n - (j + 1) < n - j := by omega
end
local macro_rules | `(tactic| omega) => `(tactic| first | k_extra "mine:om" | omega +splitDisjunctions)
theorem word_lev_0 : True := by
  k_with "mine:om" => first
  | with_reducible assumption
  | with_reducible exact om_a (by assumption)
  | with_reducible exact om_b (by assumption) (by assumption)
  | with_reducible exact om_c (by assumption) (by assumption)
  | with_reducible exact om_d (by assumption) (by assumption)
  | with_reducible exact om_e (by assumption) (by assumption)
  | with_reducible exact om_f (by assumption)
  | with_reducible exact om_g (by assumption) (by assumption)
  | with_reducible exact om_h (by assumption)
  | with_reducible exact om_i (by assumption) (by assumption)
  | with_reducible exact om_j (by assumption) (by assumption)
  | with_reducible exact om_k (by assumption) (by assumption)
  | with_reducible exact om_m
  | with_reducible exact om_n
  | with_reducible exact om_o (by assumption) (by assumption)
  | with_reducible exact om_p (by assumption) (by assumption)
  | with_reducible exact om_q (by assumption) (by assumption)
  | with_reducible exact om_u (by assumption)
  | with_reducible exact om_l (by assumption) (by assumption) (by assumption) (by assumption) (by assumption)
  k_with "subscriptTail Name Slice str ref" => (first
  | ((refine sl_nn (s := ⟨_, _, _, _, _⟩) (by with_reducible assumption) (by with_reducible assumption) (by omega) ?_); intro _ _ _ _ _; (try dsimp only))
  | ((refine sl_ns (s := ⟨_, _, _, _, _⟩) (by with_reducible assumption) (by with_reducible assumption) (by omega) (by omega) (by omega) ?_); intro _ _ _ _ _ _; (try dsimp only))
  | ((refine sl_sn (s := ⟨_, _, _, _, _⟩) (by with_reducible assumption) (by with_reducible assumption) (by omega) (by omega) ?_); intro _ _ _ _ _ _; (try dsimp only)))
  k_with "call type:range" => ((refine' rg3 ?zF ?zN ?zn ?_); (case zF => assumption); (case zN => assumption); (case zn => omega); intro _ _ _ _ _ _ _ _; (try dsimp only))
  k_with "call type:list" => ((refine' ls3 ?zh ?zF ?zN ?zr ?zn ?_); (case zh => assumption); (case zF => assumption); (case zN => assumption); (case zr => assumption); (case zn => omega); intro _ _ _ _ _ _ _ _ _; (try dsimp only))
  k_with "pyIter ref" => refine Halt.mk ?_
  k_with "call ref" => ((refine' sub_ok ?zl1 ?zl2 ?zd ?zu ?zX ?zT ?_); (case zl1 => omega); (case zl2 => omega); (case zd => ktr_room); (case zu => ktr_units); (case zX => exact Frag.In.keeps (by assumption) (Fr.keep (by assumption))); (case zT => exact Top.keeps (by assumption) (Fr.keep (by assumption))); intro t9w9 h9w9 tk9w9 st9w9 le9w9; (have Fqw9 := frUp (by assumption) st9w9); (have Nqw9 := newsUp (by assumption) st9w9); (try dsimp only))
  k_with "call builtin:min" => ((refine min_two_N (by assumption) (by assumption) (by assumption) ?_); intro _ _ _ _; (try dsimp only))
  k_with "setItem ref int" => ((refine' ksa_set ?zF ?zN ?zU ?zi ?z0 ?z1 ?z2 ?_); (case zF => assumption); (case zN => assumption); (case zU => exact Upd.head (by assumption)); (case zi => assumption); (case z0 => omega); (case z1 => omega); (case z2 => omega); intro h9w9 Fqw9 Nqw9 hi9w9 hl9w9 hs9w9; (try dsimp only))
  k_with "exec While BoolOp cons nil" => refine Halt.mk ?_
  trivial
def preGo (a b : Str) : Nat → Nat → Nat
  | 0, i => i
  | n + 1, i => if i < a.length ∧ i < b.length ∧ (Txt.item a i == Txt.item b i) = true then preGo a b n (i + 1) else i
theorem preGo_step {a b : Str} {k : Nat} (h1 : k < a.length) (h2 : k < b.length) (h3 : (Txt.item a k == Txt.item b k) = true) : preGo a b (a.length - k) k = preGo a b (a.length - (k + 1)) (k + 1) := by
  rw [show a.length - k = (a.length - (k + 1)) + 1 by omega, preGo, if_pos ⟨h1, h2, h3⟩]
theorem preGo_stop {a b : Str} {n k : Nat} (h : ¬ (k < a.length ∧ k < b.length ∧ (Txt.item a k == Txt.item b k) = true)) : preGo a b n k = k := by
  cases n with
  | zero => rfl
  | succ n => rw [preGo, if_neg h]
def postGo (a b : Str) : Nat → Nat → Nat
  | 0, j => j
  | n + 1, j => if j < a.length ∧ j < b.length ∧ (Txt.item a (-(j : Int) - 1) == Txt.item b (-(j : Int) - 1)) = true then postGo a b n (j + 1) else j
theorem postGo_step {a b : Str} {k : Nat} (h1 : k < a.length) (h2 : k < b.length) (h3 : (Txt.item a (-(k : Int) - 1) == Txt.item b (-(k : Int) - 1)) = true) : postGo a b (a.length - k) k = postGo a b (a.length - (k + 1)) (k + 1) := by
  rw [show a.length - k = (a.length - (k + 1)) + 1 by omega, postGo, if_pos ⟨h1, h2, h3⟩]
theorem postGo_stop {a b : Str} {n k : Nat} (h : ¬ (k < a.length ∧ k < b.length ∧ (Txt.item a (-(k : Int) - 1) == Txt.item b (-(k : Int) - 1)) = true)) : postGo a b n k = k := by
  cases n with
  | zero => rfl
  | succ n => rw [postGo, if_neg h]

def trimP (x : Str) (j : Nat) : Str := if j = 0 then x else Txt.slice x none (some (-(j : Int)))
theorem trimP_zero (x : Str) : trimP x 0 = x := rfl
theorem trimP_pos {x : Str} {j : Nat} (h : j ≠ 0) : trimP x j = Txt.slice x none (some (-(j : Int))) := if_neg h
theorem trimP_len {x : Str} {j : Nat} (h : j ≤ x.length) : (trimP x j).length = x.length - j := by
  by_cases h0 : j = 0
  · subst h0; rfl
  · rw [trimP_pos h0]; exact slNS h0 h
structure InSt where
  d : Int
  r : Int
  mn : Int
  row : List Int
def mn2 (a b : Int) : Int := if b < a then b else a
def inStep (a bc : Str) (c : InSt) (i : Nat) : InSt :=
  let r' := mn2 (mn2 c.r (c.row.getD i 0) + 2) (c.d + subF bc (Txt.item a i))
  ⟨c.row.getD i 0, r', if r' < c.mn then r' else c.mn, c.row.set i r'⟩
def inAt (a bc : Str) (c : InSt) : Nat → InSt
  | 0 => c
  | n + 1 => inStep a bc (inAt a bc c n) n
structure OutSt where
  r : Int
  mn : Int
  row : List Int
def outStep (a b : Str) (c : OutSt) (k : Nat) : OutSt :=
  let e := inAt a (Txt.item b k) ⟨(k : Int) * 2, (k : Int) * 2, 9223372036854775807, c.row⟩ a.length
  ⟨e.r, e.mn, e.row⟩
def outAt (a b : Str) : Nat → OutSt
  | 0 => ⟨0, 0, stepKs 2 2 a.length⟩
  | n + 1 => outStep a b (outAt a b n) n
def dpF (a b : Str) (mc : Int) : Int := if (List.range b.length).any (fun k => decide ((outAt a b (k + 1)).mn > mc)) then mc + 1 else (outAt a b b.length).r
def lev3 (a b : Str) (mc : Int) : Int :=
  if a.length = 0 ∨ b.length = 0 then 2 * ((a.length : Int) + b.length) else if mc < ((b.length : Int) - a.length) * 2 then mc + 1 else dpF a b mc
def lev2 (a b : Str) (mc : Int) : Int := lev3 (trimP a (postGo a b a.length 0)) (trimP b (postGo a b a.length 0)) mc
def levF (a b : Str) (mc : Int) : Int :=
  if a == b then 0 else lev2 (Txt.slice a (some ((preGo a b a.length 0 : Nat) : Int)) none) (Txt.slice b (some ((preGo a b a.length 0 : Nat) : Int)) none) mc
theorem in_pos {a bc : Str} {c : InSt} {i : Nat} {r' : Int} (e : r' = mn2 (mn2 c.r (c.row.getD i 0) + 2) (c.d + subF bc (Txt.item a i))) (h : r' < c.mn) : inStep a bc c i = ⟨c.row.getD i 0, r', r', c.row.set i r'⟩ := by
  subst e
  unfold inStep
  dsimp only
  rw [if_pos h]
theorem in_neg {a bc : Str} {c : InSt} {i : Nat} {r' : Int} (e : r' = mn2 (mn2 c.r (c.row.getD i 0) + 2) (c.d + subF bc (Txt.item a i))) (h : ¬ r' < c.mn) : inStep a bc c i = ⟨c.row.getD i 0, r', c.mn, c.row.set i r'⟩ := by
  subst e
  unfold inStep
  dsimp only
  rw [if_neg h]
theorem memA {a : Addr × Obj} {l₁ l₂ : List (Addr × Obj)} : ∀ p ∈ a :: l₁, p ∈ a :: (l₁ ++ l₂) := fun p hp => by
  rcases List.mem_cons.mp hp with rfl | h
  · exact List.Mem.head _
  · exact List.Mem.tail _ (List.mem_append_left _ h)
theorem memB {a : Addr × Obj} {l₁ l₂ : List (Addr × Obj)} : ∀ p ∈ l₂, p ∈ a :: (l₁ ++ l₂) := fun p hp => List.Mem.tail _ (List.mem_append_right _ hp)
theorem memA' {a : Addr × Obj} {l₂ : List (Addr × Obj)} : ∀ p ∈ [a], p ∈ a :: l₂ := fun p hp => by
  rcases List.mem_cons.mp hp with rfl | h
  · exact List.Mem.head _
  · cases h
theorem memB' {a : Addr × Obj} {l₂ : List (Addr × Obj)} : ∀ p ∈ l₂, p ∈ a :: l₂ := fun p hp => List.Mem.tail _ hp
theorem inAt_len (a bc : Str) (c : InSt) (n : Nat) : (inAt a bc c n).row.length = c.row.length := by
  induction n with
  | zero => rfl
  | succ n ih => show (List.set _ _ _).length = _; rw [List.length_set, ih]
theorem outAt_len (a b : Str) (n : Nat) : (outAt a b n).row.length = a.length := by
  induction n with
  | zero => simp [outAt, stepKs]
  | succ n ih => show (inAt _ _ _ _).row.length = _; rw [inAt_len]; exact ih
theorem lev3_empty {a b : Str} {mc : Int} (h : a.length = 0 ∨ b.length = 0) : lev3 a b mc = 2 * ((a.length : Int) + b.length) := if_pos h
theorem lev3_far {a b : Str} {mc : Int} (h0 : ¬ (a.length = 0 ∨ b.length = 0)) (h : mc < ((b.length : Int) - a.length) * 2) : lev3 a b mc = mc + 1 := by
  unfold lev3
  rw [if_neg h0, if_pos h]
theorem lev3_dp {a b : Str} {mc : Int} (h0 : ¬ (a.length = 0 ∨ b.length = 0)) (h : ¬ mc < ((b.length : Int) - a.length) * 2) : lev3 a b mc = dpF a b mc := by
  unfold lev3
  rw [if_neg h0, if_neg h]
theorem dpF_exit {a b : Str} {mc : Int} {k : Nat} (hk : k < b.length) (h : (outAt a b (k + 1)).mn > mc) : dpF a b mc = mc + 1 := by
  unfold dpF
  rw [if_pos]
  exact List.any_eq_true.mpr ⟨k, List.mem_range.mpr hk, decide_eq_true h⟩
theorem dpF_end {a b : Str} {mc : Int} (h : ∀ i < b.length, ¬ (outAt a b (i + 1)).mn > mc) : dpF a b mc = (outAt a b b.length).r := by
  unfold dpF
  rw [if_neg]
  intro e
  obtain ⟨k, hk, hd⟩ := List.any_eq_true.mp e
  exact h k (List.mem_range.mp hk) (of_decide_eq_true hd)
theorem out_next {a b : Str} {k : Nat} {e : InSt} {row : List Int} (h : row = (outAt a b k).row) (q : e = inAt a (Txt.item b k) ⟨(k : Int) * 2, (k : Int) * 2, 9223372036854775807, row⟩ a.length) : outAt a b (k + 1) = ⟨e.r, e.mn, e.row⟩ := by
  show outStep a b (outAt a b k) k = _
  unfold outStep
  rw [q, h]
structure OSt where
  r : Int
  t : Tok
  row : List Int
  vs : List Value
  nn : Nat
structure ISt where
  d : Int
  td : Tok
  r : Int
  tr : Tok
  mn : Int
  tm : Tok
  row : List Int
  vs : List Value
  nn : Nat
theorem lev_ok {w : World} {A : Around} {s : Shared} {Q E : Value → Shared → Prop} {mean : ExcName → Option Value} {mg mb : Str → Option Value} {a b : Str} {ta tb : Tok} {mc : Int} {tc : Tok} (la : a.length ≤ 4) (lb : b.length ≤ 4) (lab : a.length = b.length)
   (hh : A.handled = none) (hd : A.depth + 2 < recursionLimit) (hu : A.units + 16 < cLine) (X : (tp.heap_39 w.params).In s.heap) (T : Top tp.view_39 (looseW tp.view_39 []) mean mg mb s.heap)
   (hQ : ∀ t h' tk', s.heap.StaysIn h' → s.toks ≤ tk' → Q (.int (levF a b mc) t) { s with heap := h', toks := tk' }) :
   wpAny (model PySem.Challenge.rw_sw0025_01.row.prog w) A (call (.ref 28) [.str a ta, .str b tb, .int mc tc]) Q E s := by
  revert X; k_fill; intro X
  refine wpAny_with_toks (Nat.le_refl _) ?_
  refine' enter [(Str.ofString "max_cost", .int mc tc), (Str.ofString "b", .str b tb), (Str.ofString "a", .str a ta)] ?k0 ?k1 ?k2 ?k3 ?k4 ?k5 ?k6 ?k7 ?k8 ?c2 ?c3 ?c4 ?c5
  k_extra "mine:enter"
  intro LL h1 F1 N1
  try dsimp only
  try k_fold
  try dsimp only
  k_extra "mine:steps"
  · refine toI (y := levF a b mc) (if_pos (by assumption)).symm (hQ _ _ _ (Fr.keep (by assumption)) (by assumption))
  unfold Halt
  refine' while_q (x := Str.ofString "pre") (fun c => (c : Int))
      (fun c => c ≤ a.length ∧ preGo a b (a.length - c) c = preGo a b a.length 0) (fun c => c ≤ a.length ∧ c = preGo a b a.length 0) (fun c => a.length - c) ?zF ?zN ?zv ?zP ?zturn ?zdone ?zE
  case zF => assumption
  case zN => assumption
  case zv => rfl
  case zE => passes_own
  case zP => exact ⟨Nat.zero_le _, rfl⟩
  case zturn =>
    rintro i ti h9 tk9 ⟨ji1, jp1⟩ F9 N9 QS QX hQS hQX
    try dsimp only
    k_extra "mine:steps"
    · have hi1 : i < a.length := by omega
      have hi2 : i < b.length := lab ▸ hi1
      refine' hQS _ _ (nstep (i + 1) ?yF ?yN rfl ?yp ?ym)
      case yF => assumption
      case yN => assumption
      case yp => refine ⟨hi1, ?_⟩; rw [← jp1]; exact (preGo_step hi1 hi2 (by assumption)).symm
      case ym => exact om_v hi1
    all_goals
      refine hQX _ (nexit i (by assumption) (by assumption) ⟨ji1, ?_⟩)
      rw [← jp1]; refine (preGo_stop ?_).symm
      rintro ⟨q1, q2, q3⟩
      first | omega | exact absurd (q3.symm.trans (by assumption : (Txt.item a (i : Int) == Txt.item b (i : Int)) = false)) (by decide)
  case zdone =>
    rintro i ti h9 tk9 ⟨ji1, jp1⟩ F9 N9
    try dsimp only
    k_extra "mine:steps"
    unfold Halt
    obtain ⟨tA, tB, tP, F8⟩ : ∃ tA tB tP, Fr s.heap LL _ (fun y => if y = Str.ofString "post" then some (.int 0 tP) else if y = Str.ofString "b" then some (.str (Txt.slice b (some (i : Int)) none) tB) else if y = Str.ofString "a" then some (.str (Txt.slice a (some (i : Int)) none) tA) else if y = Str.ofString "pre" then some (.int (i : Int) ti) else List.lookup y [(Str.ofString "max_cost", .int mc tc), (Str.ofString "b", .str b tb), (Str.ofString "a", .str a ta)]) := ⟨_, _, _, by assumption⟩
    have la1 : (Txt.slice a (some (i : Int)) none).length = a.length - i := by assumption
    have lb1 : (Txt.slice b (some (i : Int)) none).length = b.length - i := by assumption
    have hne : (a == b) = false := by assumption
    generalize ha1 : Txt.slice a (some (i : Int)) none = a1 at *
    generalize hb1 : Txt.slice b (some (i : Int)) none = b1 at *
    have la2 : a1.length ≤ 4 := by omega
    have lb2 : b1.length ≤ 4 := by omega
    have lab1 : a1.length = b1.length := by omega
    refine' while_q (x := Str.ofString "post") (fun c => -(c : Int))
      (fun c => c ≤ a1.length ∧ postGo a1 b1 (a1.length - c) c = postGo a1 b1 a1.length 0) (fun c => c ≤ a1.length ∧ c = postGo a1 b1 a1.length 0) (fun c => a1.length - c) F8 ?zN ?zv ?zP ?zturn ?zdone ?zE
    case zN => assumption
    case zv => rfl
    case zE => passes_own
    case zP => exact ⟨Nat.zero_le _, rfl⟩
    case zturn =>
      rintro j tj h9 tk9 ⟨ji2, jp2⟩ F9 N9 QS QX hQS hQX
      clear F8
      by_cases j0 : j = 0
      · subst j0
        have F9' : Fr s.heap LL h9 (fun y => if y = Str.ofString "post" then some (.int 0 tj) else if y = Str.ofString "b" then some (.str b1 tB) else if y = Str.ofString "a" then some (.str a1 tA) else if y = Str.ofString "pre" then some (.int (i : Int) ti) else List.lookup y [(Str.ofString "max_cost", .int mc tc), (Str.ofString "b", .str b tb), (Str.ofString "a", .str a ta)]) := F9
        clear F9
        try dsimp only
        k_extra "mine:steps"
        · refine' hQS _ _ (nstep 1 ?yF ?yN rfl ?yp ?ym)
          case yF => assumption
          case yN => assumption
          case yp => refine ⟨by omega, ?_⟩; rw [← jp2]; exact (postGo_step (k := 0) (by omega) (by omega) (by assumption)).symm
          case ym => omega
        all_goals
          refine hQX _ (nexit 0 (by assumption) (by assumption) ⟨ji2, ?_⟩)
          rw [← jp2]; refine (postGo_stop ?_).symm
          rintro ⟨q1, q2, q3⟩
          first | omega | exact absurd (q3.symm.trans (by assumption : (Txt.item a1 (0 - 1) == Txt.item b1 (0 - 1)) = false)) (by decide)
      · try dsimp only
        k_extra "mine:steps"
        all_goals first
          | (exfalso; omega)
          | (have hj1 : j < a1.length := by omega
             have hj2 : j < b1.length := lab1 ▸ hj1
             refine' hQS _ _ (nstep (j + 1) ?yF ?yN ?yv ?yp ?ym)
             case yF => assumption
             case yN => assumption
             case yv => omega
             case yp => refine ⟨hj1, ?_⟩; rw [← jp2]; exact (postGo_step hj1 hj2 (by assumption)).symm
             case ym => exact om_v hj1)
          | (refine' hQX _ (nexit j ?yF ?yN ?yr)
             case yF => assumption
             case yN => assumption
             case yr =>
               refine ⟨ji2, ?_⟩
               rw [← jp2]; refine (postGo_stop ?_).symm
               rintro ⟨q1, q2, q3⟩
               first | omega | exact absurd (q3.symm.trans (by assumption : (Txt.item a1 (-(j : Int) - 1) == Txt.item b1 (-(j : Int) - 1)) = false)) (by decide))
    case zdone =>
      rintro j tj h9 tk9 ⟨ji2, jp2⟩ F9 N9
      dsimp only
      refine cut2 (fun s' => ∃ ta' tb' h' tk', s' = { s with heap := h', toks := tk' } ∧ Fr s.heap LL h' (fun y => if y = Str.ofString "b" then some (.str (trimP b1 j) tb') else if y = Str.ofString "a" then some (.str (trimP a1 j) ta') else if y = Str.ofString "post" then some (.int (-(j : Int)) tj) else if y = Str.ofString "b" then some (.str b1 tB) else if y = Str.ofString "a" then some (.str a1 tA) else if y = Str.ofString "pre" then some (.int (i : Int) ti) else List.lookup y [(Str.ofString "max_cost", .int mc tc), (Str.ofString "b", .str b tb), (Str.ofString "a", .str a ta)])) ?zc ?zd
      case zc =>
        intro Qc hQc
        by_cases j0 : j = 0
        · subst j0
          try dsimp only
          k_extra "mine:steps"
          exact hQc _ ⟨_, _, _, _, rfl, by assumption⟩
        · have tp1 : trimP a1 j = _ := trimP_pos j0
          have tp2 : trimP b1 j = _ := trimP_pos j0
          rw [tp1, tp2] at hQc
          try dsimp only
          k_extra "mine:steps"
          all_goals first | (exfalso; omega) | exact hQc _ ⟨_, _, _, _, rfl, by assumption⟩
      case zd =>
        rintro s' ⟨ta', tb', h', tk', rfl, F7⟩
        have N7 : News s.heap LL h' [] := News.nil
        have hlev : levF a b mc = lev3 (trimP a1 j) (trimP b1 j) mc := by
          unfold levF lev2
          rw [hne, if_neg Bool.false_ne_true, ← jp1, ha1, hb1, ← jp2]
        clear F8 F9 N9
        have la3 := trimP_len ji2
        have lb3 := trimP_len (x := b1) (j := j) (by omega)
        generalize ha2 : trimP a1 j = a2 at *
        generalize hb2 : trimP b1 j = b2 at *
        have la4 : a2.length ≤ 4 := by omega
        have lb4 : b2.length ≤ 4 := by omega
        try dsimp only
        k_extra "mine:steps"
        · refine toI (y := levF a b mc) ?_ (hQ _ _ _ (Fr.keep (by assumption)) (by assumption))
          rw [hlev, lev3_far (by omega) (by assumption)]
        · unfold Halt
          dsimp only
          have hne2 : ¬ (a2.length = 0 ∨ b2.length = 0) := by omega
          obtain ⟨D, us, c, tR, F6, N6, HI⟩ : ∃ D us c tR, Fr s.heap LL _ (fun y => if y = Str.ofString "result" then some (.int 0 tR) else if y = Str.ofString "row" then some (.ref D) else if y = Str.ofString "b" then some (.str b2 tb') else if y = Str.ofString "a" then some (.str a2 ta') else if y = Str.ofString "post" then some (.int (-(j : Int)) tj) else if y = Str.ofString "b" then some (.str b1 tB) else if y = Str.ofString "a" then some (.str a1 tA) else if y = Str.ofString "pre" then some (.int (i : Int) ti) else List.lookup y [(Str.ofString "max_cost", .int mc tc), (Str.ofString "b", .str b tb), (Str.ofString "a", .str a ta)]) ∧ News s.heap LL _ [(D, listOf us.toArray c)] ∧ IntsAre us (stepKs 2 2 a2.length) := ⟨_, _, _, _, by assumption, by assumption, by assumption⟩
          refine' for_rng (σ := OSt) (n := b2.length) (fun e => [(D, listOf e.vs.toArray e.nn)]) (fun e => [(Str.ofString "result", .int e.r e.t)]) (fun e => IntsAre e.vs e.row)
            [Str.ofString "bchar", Str.ofString "distance", Str.ofString "result", Str.ofString "minimum", Str.ofString "index", Str.ofString "substitute", Str.ofString "insert_delete"]
            (fun k e => e.r = (outAt a2 b2 k).r ∧ e.row = (outAt a2 b2 k).row ∧ ∀ i < k, ¬ (outAt a2 b2 (i + 1)).mn > mc) ⟨0, tR, stepKs 2 2 a2.length, us, c⟩ ?zh ?zr ?zn F6 N6 HI ?zk ?zp ?zt ?zdn
          case zh => assumption
          case zr => assumption
          case zn => omega
          case zk => intro p hp; cases hp with | head => rfl | tail _ h => cases h
          case zp => exact ⟨rfl, rfl, fun i h => absurd h (Nat.not_lt_zero _)⟩
          case zt =>
            rintro ⟨er, et, erow, evs, enn⟩ k tk1 u h8 tk8 own hlt hoff hfc ⟨p1, p2, p3⟩ F5 N5
            refine gen_Q fun QF hQzt => ?_
            dsimp only at p1 p2 p3 hfc F5 N5 ⊢
            dsimp only [List.cons_append, List.nil_append] at N5
            k_extra "mine:steps"
            unfold Halt
            dsimp only
            have p4 : erow.length = a2.length := by rw [p2]; exact outAt_len _ _ _
            refine' for_rng (σ := ISt) (n := a2.length) (fun e => (D, listOf e.vs.toArray e.nn) :: own) (fun e => [(Str.ofString "distance", .int e.d e.td), (Str.ofString "result", .int e.r e.tr), (Str.ofString "minimum", .int e.mn e.tm)]) (fun e => IntsAre e.vs e.row)
              [Str.ofString "distance", Str.ofString "result", Str.ofString "minimum", Str.ofString "substitute", Str.ofString "insert_delete"]
              (fun i e => InSt.mk e.d e.r e.mn e.row = inAt a2 (Txt.item b2 k) ⟨(k : Int) * 2, (k : Int) * 2, 9223372036854775807, erow⟩ i) ⟨(k : Int) * 2, _, (k : Int) * 2, _, 9223372036854775807, _, erow, evs, enn⟩ ?yh ?yr ?yn ?yF ?yN hfc ?yk rfl ?yt ?ydn
            case yF => assumption
            case yN => assumption
            case yk =>
              intro p hp
              cases hp with
              | head => rfl
              | tail _ hp => cases hp with
                | head => rfl
                | tail _ hp => cases hp with
                  | head => rfl
                  | tail _ h => cases h
            case yh => assumption
            case yr => assumption
            case yn => omega
            case yt =>
              rintro ⟨ed, etd, er2, etr, emn, etm, erow2, evs2, enn2⟩ i2 tk2 u2 h7 tk7 own2 hlt2 hoff2 hfc2 q1 F4 N4
              refine gen_Q fun QF hQyt => ?_
              dsimp only at q1 hfc2 F4 N4 ⊢
              dsimp only [List.cons_append, List.nil_append] at N4
              have hne : ∀ p ∈ own ++ own2, p.1 ≠ D := fun p hp => (List.mem_append.mp hp).elim (fun h => hoff p h D (List.Mem.head _)) fun h => hoff2 p h D (List.Mem.head _)
              have q2 : erow2.length = a2.length := by have := congrArg (fun e => e.row.length) q1; dsimp only at this; rw [this, inAt_len]; exact p4
              k_extra "mine:steps"
              · refine' hQyt _ _ (rpost_next (σ := ISt) ⟨erow2.getD i2 0, _, mn2 (mn2 er2 (erow2.getD i2 0) + 2) (ed + subF (Txt.item b2 k) (Txt.item a2 i2)), _, mn2 (mn2 er2 (erow2.getD i2 0) + 2) (ed + subF (Txt.item b2 k) (Txt.item a2 i2)), _, erow2.set i2 (mn2 (mn2 er2 (erow2.getD i2 0) + 2) (ed + subF (Txt.item b2 k) (Txt.item a2 i2))), _, enn2⟩ ?xF ?xN ?xn memB rfl ?xf ?xk ?xr ?xp)
                case xF => assumption
                case xN => assumption
                case xn => exact memA
                case xf => assumption
                case xk =>
                  intro p hp
                  cases hp with
                  | head => rfl
                  | tail _ hp => cases hp with
                    | head => rfl
                    | tail _ hp => cases hp with
                      | head => rfl
                      | tail _ h => cases h
                case xr =>
                  intro z z1 z2 z3
                  simp only [List.forall_mem_cons, List.not_mem_nil, false_implies, implies_true, and_true, ne_eq] at z2
                  simp only [List.contains_cons, List.contains_nil, Bool.or_false, Bool.or_eq_false_iff, beq_eq_false_iff_ne, ne_eq] at z3
                  simp [kstB, z1, z2, z3]
                case xp =>
                  show _ = inStep _ _ _ _
                  rw [← q1]
                  refine (in_pos (a := a2) (bc := Txt.item b2 k) (c := ⟨ed, er2, emn, erow2⟩) (i := i2) rfl ?_).symm
                  assumption
              · refine' hQyt _ _ (rpost_next (σ := ISt) ⟨erow2.getD i2 0, _, mn2 (mn2 er2 (erow2.getD i2 0) + 2) (ed + subF (Txt.item b2 k) (Txt.item a2 i2)), _, emn, _, erow2.set i2 (mn2 (mn2 er2 (erow2.getD i2 0) + 2) (ed + subF (Txt.item b2 k) (Txt.item a2 i2))), _, enn2⟩ ?xF ?xN ?xn memB rfl ?xf ?xk ?xr ?xp)
                case xF => assumption
                case xN => assumption
                case xn => exact memA
                case xf => assumption
                case xk =>
                  intro p hp
                  cases hp with
                  | head => rfl
                  | tail _ hp => cases hp with
                    | head => rfl
                    | tail _ hp => cases hp with
                      | head => rfl
                      | tail _ h => cases h
                case xr =>
                  intro z z1 z2 z3
                  simp only [List.forall_mem_cons, List.not_mem_nil, false_implies, implies_true, and_true, ne_eq] at z2
                  simp only [List.contains_cons, List.contains_nil, Bool.or_false, Bool.or_eq_false_iff, beq_eq_false_iff_ne, ne_eq] at z3
                  simp [kstB, z1, z2, z3]
                case xp =>
                  show _ = inStep _ _ _ _
                  rw [← q1]
                  refine (in_neg (a := a2) (bc := Txt.item b2 k) (c := ⟨ed, er2, emn, erow2⟩) (i := i2) rfl ?_).symm
                  assumption
            case ydn =>
              rintro ⟨ed, etd, er2, etr, emn, etm, erow2, evs2, enn2⟩ u2 h7 tk7 hfc2 q1 F4 N4
              dsimp only at q1 hfc2 F4 N4 ⊢
              have q3 := out_next p2 q1
              dsimp only at q3
              k_extra "mine:steps"
              · dsimp only
                refine hQzt _ _ (rpost_ret ?_)
                show s.toks ≤ _ → Q _ _
                intro le
                refine toI (y := levF a b mc) ?_ (hQ _ _ _ (Fr.keep (by assumption)) le)
                rw [hlev, lev3_dp hne2 (by assumption), dpF_exit hlt]
                rw [q3]
                assumption
              · refine' hQzt _ _ (rpost_next (σ := OSt) ⟨er2, etr, erow2, evs2, enn2⟩ ?xF ?xN ?xn memB' rfl ?xf ?xk ?xr ?xp)
                case xF => assumption
                case xN => assumption
                case xn => exact memA'
                case xf => assumption
                case xk =>
                  intro p hp
                  cases hp with
                  | head => rfl
                  | tail _ h => cases h
                case xr =>
                  intro z z1 z2 z3
                  simp only [List.forall_mem_cons, List.not_mem_nil, false_implies, implies_true, and_true, ne_eq] at z2
                  simp only [List.contains_cons, List.contains_nil, Bool.or_false, Bool.or_eq_false_iff, beq_eq_false_iff_ne, ne_eq] at z3
                  simp [kstB, z1, z2, z3]
                case xp =>
                  rw [q3]
                  refine ⟨rfl, rfl, fun i hi => ?_⟩
                  rcases Nat.lt_succ_iff_lt_or_eq.mp hi with h | rfl
                  · exact p3 i h
                  · rw [q3]; assumption
          case zdn =>
            rintro ⟨er, et, erow, evs, enn⟩ u h8 tk8 hfc ⟨p1, p2, p3⟩ F5 N5
            dsimp only at p1 p2 p3 hfc F5 N5 ⊢
            k_extra "mine:steps"
            refine toI (y := levF a b mc) ?_ (hQ _ _ _ (Fr.keep (by assumption)) (by assumption))
            rw [hlev, lev3_dp hne2 (by assumption), dpF_end p3]
            exact p1
        · refine toI (y := levF a b mc) ?_ (hQ _ _ _ (Fr.keep (by assumption)) (by assumption))
          rw [hlev, lev3_empty (by omega)]
        · refine toI (y := levF a b mc) ?_ (hQ _ _ _ (Fr.keep (by assumption)) (by assumption))
          rw [hlev, lev3_empty (by omega)]

end
section
theorem fresh_ell : True := by
  w_top off
  k_with_none
  k_with "mine:enter" => (
  (case k1 => assumption)
  (case k2 => exact Top.nolimit (by assumption))
  (case k3 => k_is)
  (case k4 => k_is)
  (case k5 => ktr_room)
  (case k0 => exact rfl)
  (case k6 => exact BindsTo.of_eq rfl)
  (case k7 => exact locs rfl)
  (case c2 => exact rfl)
  (case c3 => exact rfl)
  (case c4 => exact rfl)
  (case c5 => decide))
  k_with "mine:steps" => repeat' (first | (k_unfold; (try dsimp only)) | walk1 | (dsimp only; walk1) | fail "no step")
  k_with "mine:rest" => (
  (intro zw9 z1w9 z2w9 z3w9);
  (simp only [List.forall_mem_cons, List.not_mem_nil, false_implies, implies_true, and_true, ne_eq] at z2w9);
  (simp only [List.contains_cons, List.contains_nil, Bool.or_false, Bool.or_eq_false_iff, beq_eq_false_iff_ne, ne_eq] at z3w9);
  (simp [kstB, z1w9, z2w9, z3w9]))
  k_with "mine:mm" => first | with_reducible exact mem_h | with_reducible assumption | ((with_reducible refine mem_t ?_); k_extra "mine:mm")
  k_with "mine:md" => first | exact mem_h | assumption | (refine mem_t ?_; k_extra "mine:md")
  k_with "mine:sub" => first | with_reducible exact sub_nil | with_reducible assumption | with_reducible exact sub_refl | ((with_reducible refine sub_cons ?_ ?_); (first | k_extra "mine:mm" | k_extra "mine:md"); k_extra "mine:sub") | ((with_reducible refine sub_app ?_ ?_); k_extra "mine:sub"; k_extra "mine:sub") | ((with_reducible refine sub_tail ?_); k_extra "mine:sub") | ((with_reducible refine sub_left ?_); k_extra "mine:sub") | ((with_reducible refine sub_right ?_); k_extra "mine:sub")
  k_with "mine:subs" => ((try dsimp only [List.cons_append, List.nil_append]); k_extra "mine:sub")
  k_with "mine:ad" => first | with_reducible assumption | ((with_reducible refine ad_ss ?_); k_extra "mine:ad") | with_reducible first | exact ad_1 | exact ad_2 | exact ad_3 | exact ad_4 | exact ad_5 | exact ad_6 | exact ad_7 | exact ad_1.symm | exact ad_2.symm | exact ad_3.symm | exact ad_4.symm | exact ad_5.symm | exact ad_6.symm | exact ad_7.symm
  k_with "mine:off" => first | with_reducible exact off_nil | with_reducible assumption | ((with_reducible refine off_cons ?_ ?_); (first | k_extra "mine:ad" | (refine Ne.symm ?_; k_extra "mine:ad") | k_ne); k_extra "mine:off") | ((with_reducible refine off_app ?_ ?_); k_extra "mine:off"; k_extra "mine:off") | exact off_sym (by with_reducible assumption) | exact off_of (by assumption) (by k_extra "mine:mm")
  k_with "mine:offs" => ((try dsimp only [List.cons_append, List.nil_append]); k_extra "mine:off")
  trivial
theorem lastA {α : Type} {l : List α} {a : α} : (l ++ [a]).getLast? = some a := by simp
theorem lastB {α : Type} {l : List α} {a b : α} : (b :: (l ++ [a])).getLast? = some a := by simp [List.getLast?_cons]
section
variable {prog : Program} {w : World} {A : Around} {E : Value → Shared → Prop} {s : Shared} {h₀ : Heap} {L D : Addr} {m : Str → Option Value} {p₁ : Addr × Obj} {us : List Value} {v : Value} {c : Nat} {u : Tok}
theorem del0 {Q : Unit → Shared → Prop} (F : Fr h₀ L s.heap m) (N : News h₀ L s.heap [p₁, (D, listOf (v :: us).toArray c)]) (hp : p₁.1 ≠ D) (hl : us.length < 1000)
    (h : ∀ h', Fr h₀ L h' m → News h₀ L h' [p₁, (D, listOf us.toArray (c + 1))] → Q () { s with heap := h' }) :
    wpAny (model prog w) A (delItem (.ref D) (.int 0 u)) Q E s :=
  delN (k := 0) F N (.tail hp (.head fun _ h => nomatch h)) (seqIndex?_zero (by simp)) (by decide) (by simp; omega) h
theorem delL {Q : Unit → Shared → Prop} (F : Fr h₀ L s.heap m) (N : News h₀ L s.heap [p₁, (D, listOf us.toArray c)]) (hp : p₁.1 ≠ D) (h0 : 0 < us.length) (hl : us.length < 1000)
    (h : ∀ h', Fr h₀ L h' m → News h₀ L h' [p₁, (D, listOf us.dropLast.toArray (c + 1))] → Q () { s with heap := h' }) :
    wpAny (model prog w) A (delItem (.ref D) (.int (-1) u)) Q E s :=
  delN (k := us.length - 1) F N (.tail hp (.head fun _ h => nomatch h)) (seqIndex?_neg_one h0) (by decide) (by omega) (by rw [List.eraseIdx_length_sub_one]; exact h)
end
theorem word_ell_0 : True := by
  k_with "delItem ref int" => k_dflt (first
  | ((with_reducible show wpAny _ _ (delItem (Value.ref _) (Value.int 0 _)) _ _ _); (refine' del0 ?zF ?zN ?zp ?zl ?_); (case zF => assumption); (case zN => assumption); (case zp => k_ne); (case zl => (simp only [List.length_cons, List.length_append, List.length_nil]; omega)); intro h9w9 Fqw9 Nqw9; (try dsimp only))
  | ((with_reducible show wpAny _ _ (delItem (Value.ref _) (Value.int (-1) _)) _ _ _); (refine' delL ?zF ?zN ?zp ?zo ?zl ?_); (case zF => assumption); (case zN => assumption); (case zp => k_ne); (case zo => (simp only [List.length_cons, List.length_append, List.length_nil]; omega)); (case zl => (simp only [List.length_cons, List.length_append, List.length_nil]; omega)); intro h9w9 Fqw9 Nqw9; (try dsimp only)))
  k_with "pyIter ref" => refine Halt.mk ?_
  k_with "call builtin:str.split" => ((refine splN (by assumption) (by assumption) (by decide) (by omega) ?_); intro D9w9 us9w9 h9w9 k9w9 Fqw9 Nqw9 o9w9 S9w9; (try dsimp only); refine Halt.mk ?_)
  k_with "truthy str" => ((refine truS (by omega) ?_); (try dsimp only))
  k_with "mine:mem" => first | exact List.Mem.head _ | exact List.Mem.tail _ (List.Mem.head _)
  k_with "call builtin:len" => ((refine lenN (by assumption) (by k_extra "mine:mem") (by (simp only [List.length_cons, List.length_append, List.length_nil]; omega)) ?_); (try dsimp only))
  k_with "subscriptTail Name Constant ref int" => ((refine itemN (by assumption) (by k_extra "mine:mem") (by decide) (by decide) rfl ?_); (try dsimp only))
  k_with "subscriptTail Name UnaryOp ref int" => ((refine itemL (by assumption) (by k_extra "mine:mem") (by first | exact lastA | exact lastB) ?_); (try dsimp only))
  k_with "call builtin:str.find" => ((refine findN ?_); (try dsimp only))
  trivial
theorem strsLast {b : Str} : ∀ {mid : List Str} {us : List Value}, StrsAre us (mid ++ [b]) → ∃ um tl, us = um ++ [.str b tl] ∧ StrsAre um mid
  | [], _, h => by
    cases h with
    | cons _ tl h => cases h; exact ⟨[], tl, rfl, .nil⟩
  | c :: r, _, h => by
    cases h with
    | cons _ t h =>
      obtain ⟨um, tl, rfl, h'⟩ := strsLast h
      exact ⟨.str c t :: um, tl, rfl, .cons _ _ h'⟩
theorem strsEnds {us : List Value} {a b : Str} {mid : List Str} (h : StrsAre us (a :: (mid ++ [b]))) : ∃ t0 um tl, us = .str a t0 :: (um ++ [.str b tl]) ∧ StrsAre um mid := by
  cases h with
  | cons _ t0 h =>
    obtain ⟨um, tl, rfl, h'⟩ := strsLast h
    exact ⟨t0, um, tl, rfl, h'⟩
def dots : Str := Str.ofString "..."
def ellD (got : Str) (ep : Int) : List Str → Int → Bool
  | [], _ => true
  | w :: r, sp => if find4 got w sp ep < 0 then false else ellD got ep r (find4 got w sp ep + (w.length : Int))
def ellC (got : Str) (ws : List Str) (sp ep : Int) : Bool := if sp > ep then false else ellD got ep ws sp
def ellB (got : Str) (ws : List Str) (sp : Int) : Bool :=
  let w := ws.getLast?.getD Str.empty
  if w.length ≠ 0 then (if Txt.endswith got w = true then ellC got ws.dropLast sp ((got.length : Int) - w.length) else false) else ellC got ws sp got.length
def ellA (got : Str) (ws : List Str) : Bool :=
  let w := ws.head?.getD Str.empty
  if w.length ≠ 0 then (if Txt.startswith got w = true then ellB got ws.tail w.length else false) else ellB got ws 0
def ellF (want got : Str) : Bool :=
  if (Builtin.Str.occurrences want (Str.ofString "...") 0 want.length 1).isEmpty = true then want == got else ellA got (Txt.split want (Str.ofString "..."))
theorem strsAt : ∀ {us : List Value} {ws : List Str} {k : Nat} {v : Value}, StrsAre us ws → us[k]? = some v → ∃ w t, v = .str w t ∧ ws.drop k = w :: ws.drop (k + 1) ∧ w ∈ ws
  | _, _, _, _, .nil, h => by simp at h
  | _, _, 0, _, .cons y t _, h => ⟨y, t, by simpa using h.symm, rfl, List.Mem.head _⟩
  | _, _, k + 1, _, .cons y t r, h => by
    obtain ⟨w, t', e, d, hm⟩ := strsAt (k := k) r (by simpa using h)
    exact ⟨w, t', e, by simpa using d, List.Mem.tail _ hm⟩
theorem strsSnoc {um : List Value} {mid : List Str} {b : Str} {tl : Tok} (h : StrsAre um mid) : StrsAre (um ++ [.str b tl]) (mid ++ [b]) := by
  induction h with
  | nil => exact .cons _ _ .nil
  | cons y t _ ih => exact .cons y t ih
theorem ellD_cons (got : Str) (ep : Int) (w : Str) (r : List Str) (sp : Int) : ellD got ep (w :: r) sp = if find4 got w sp ep < 0 then false else ellD got ep r (find4 got w sp ep + (w.length : Int)) := rfl
theorem newsNe {h₀ h : Heap} {L D : Addr} {o : Obj} {news : List (Addr × Obj)} (N : News h₀ L h news) (hm : (D, o) ∈ news) : D ≠ L := (N _ hm).2.1
theorem two_ends {α : Type} : ∀ {l : List α}, 2 ≤ l.length → ∃ a mid b, l = a :: (mid ++ [b])
  | [], h => by simp at h
  | [a], h => by simp at h
  | a :: b :: r, _ => ⟨a, (b :: r).dropLast, (b :: r).getLast (by simp), by rw [List.dropLast_concat_getLast]⟩
theorem ell_ok {w : World} {dp un : Nat} {fr : Option (List Env)} {gd : Option (List Code)} {s : Shared} {Q E : Value → Shared → Prop} {mean : ExcName → Option Value} {mg mb : Str → Option Value} {a b : Str} {ta tb : Tok} (la : a.length ≤ 16) (lb : b.length ≤ 4)
   (hw : (Builtin.Str.occurrences a (Str.ofString "...") 0 a.length 1).isEmpty = true ∨ 2 ≤ (Txt.split a (Str.ofString "...")).length)
   (hd : dp + 1 < recursionLimit) (hu : un + 16 < cLine) (X : (tp.heap_39 w.params).In s.heap) (T : Top tp.view_39 (looseW tp.view_39 []) mean mg mb s.heap)
   (hQ : ∀ h' tk', s.heap.StaysIn h' → s.toks ≤ tk' → Q (.bool (ellF a b)) { s with heap := h', toks := tk' }) :
   wpAny (model PySem.Challenge.rw_sw0025_01.row.prog w) ⟨none, dp, fr, gd, un⟩ (call (.ref 35) [.str a ta, .str b tb]) Q E s := by
  revert X; k_fill; intro X
  refine wpAny_with_toks (Nat.le_refl _) ?_
  refine' enter [(Str.ofString "got", .str b tb), (Str.ofString "want", .str a ta)] ?k0 ?k1 ?k2 ?k3 ?k4 ?k5 ?k6 ?k7 ?k8 ?c2 ?c3 ?c4 ?c5
  k_extra "mine:enter"
  intro LL h1 F1 N1
  try dsimp only
  try k_fold
  k_extra "mine:steps"
  · refine toB (y := ellF a b) (if_pos (by assumption)).symm (hQ _ _ (Fr.keep (by assumption)) (by assumption))
  unfold Halt
  rename_i hocc
  revert D9w9 us9w9 h9w9 k9w9 Fqw9 Nqw9 o9w9 S9w9
  intro D us h2 k2 F2 N2 O2 S2
  have hw2 : 2 ≤ (Txt.split a (Str.ofString "...")).length := hw.elim (fun h => absurd (h.symm.trans hocc) (by decide)) id
  have hle : (Txt.split a (Str.ofString "...")).length ≤ a.length + 2 := split_le _ _
  have hsh : ∀ x ∈ Txt.split a (Str.ofString "..."), x.length ≤ a.length := fun x hx => part_short hx
  have hF : ellF a b = ellA b (Txt.split a (Str.ofString "...")) := if_neg (by rw [hocc]; decide)
  obtain ⟨w0, mid, wl, hws⟩ := two_ends hw2
  rw [hws] at S2 hle hsh hF
  obtain ⟨t0, um, tl, rfl, Sm⟩ := strsEnds S2
  have hl0 : w0.length ≤ a.length := hsh _ (by simp)
  have hll : wl.length ≤ a.length := hsh _ (by simp)
  have hml : um.length = mid.length := Sm.length
  simp only [List.length_cons, List.length_append, List.length_nil] at hle
  have hdl : (w0 :: (mid ++ [wl])).dropLast = w0 :: mid := by rw [← List.cons_append, List.dropLast_concat]
  clear S2
  try dsimp only
  k_extra "mine:steps"
  · refine toB (y := ellF a b) ?_ (hQ _ _ (Fr.keep (by assumption)) (by assumption))
    rw [hF]
    simp [ellA, ellB, ellC, List.getLast?_cons, *]
  · unfold Halt
    have hE : ellF a b = ellD b ((b.length : Int) - wl.length) (mid) ((w0.length : Int)) := by
      rw [hF]
      simp [ellA, ellB, ellC, List.getLast?_cons, *]
    have hS : StrsAre (um) (mid) := Sm
    have hsh2 : ∀ x ∈ (mid), x.length ≤ a.length := fun x hx => hsh x (by simp only [List.mem_cons, List.mem_append, List.mem_singleton, List.not_mem_nil, or_false] at hx ⊢; first | exact hx | exact .inr (.inl hx) | exact .inr hx | exact hx.elim .inl fun h => .inr (.inl h))
    have hI := isList_news (D := D) (by assumption) (List.Mem.tail _ (List.Mem.head _))
    rw [List.dropLast_concat] at hI
    try dsimp only
    refine' for_vals (σ := Int × Tok) (vs := um) (fun _ => []) (fun c => [(Str.ofString "startpos", .int c.1 c.2)]) (fun _ => True) [Str.ofString "startpos"]
      (fun k c => ellD b ((b.length : Int) - wl.length) (mid) ((w0.length : Int)) = ellD b ((b.length : Int) - wl.length) ((mid).drop k) c.1) ((w0.length : Int), _) rfl hI ?yL (fun _ h => nomatch h) ?yF News.nil trivial ?yk rfl ?yt ?yd
    case yF => assumption
    case yL => exact newsNe (by assumption) (List.Mem.tail _ (List.Mem.head _))
    case yk => intro p hp; cases hp with | head => rfl | tail _ h => cases h
    case yt =>
      rintro ⟨sp2, ts2⟩ k v u h8 tk8 own hv hoff _ hP F5 N5
      refine gen_Q fun QF hQyt => ?_
      dsimp only at hP F5 N5 ⊢
      dsimp only [List.nil_append] at N5
      obtain ⟨x, tx, rfl, hdr, hmem⟩ := strsAt hS hv
      have hxl := hsh2 x hmem
      rw [hdr, ellD_cons b _ x] at hP
      k_extra "mine:steps"
      · refine hQyt _ _ (rpost_ret ?_)
        show s.toks ≤ _ → Q _ _
        intro le
        refine toB (y := ellF a b) ?_ (hQ _ _ (Fr.keep (by assumption)) le)
        rw [hE, hP, if_pos (by assumption)]
      · rw [if_neg (by omega)] at hP
        refine' hQyt _ _ (rpost_next (σ := Int × Tok) (find4 b x sp2 ((b.length : Int) - wl.length) + (x.length : Int), _) ?xF ?xN (fun _ h => nomatch h) (fun p hp => hp) rfl trivial ?xk ?xr hP)
        case xF => assumption
        case xN => assumption
        case xk => intro p hp; cases hp with | head => rfl | tail _ h => cases h
        case xr =>
          intro z z1 z2 z3
          simp only [List.forall_mem_cons, List.not_mem_nil, false_implies, implies_true, and_true, ne_eq] at z2
          simp only [List.contains_cons, List.contains_nil, Bool.or_false, Bool.or_eq_false_iff, beq_eq_false_iff_ne, ne_eq] at z3
          simp [kstB, z1, z2, z3]
    case yd =>
      rintro ⟨sp2, ts2⟩ u h8 tk8 _ hP F5 N5
      dsimp only at hP F5 N5 ⊢
      rw [hS.length, List.drop_length, ellD] at hP
      k_extra "mine:steps"
      exact toB (y := ellF a b) (hE.trans hP).symm (hQ _ _ (Fr.keep (by assumption)) (by assumption))
  · refine toB (y := ellF a b) ?_ (hQ _ _ (Fr.keep (by assumption)) (by assumption))
    rw [hF]
    simp [ellA, ellB, ellC, List.getLast?_cons, *]
  · refine toB (y := ellF a b) ?_ (hQ _ _ (Fr.keep (by assumption)) (by assumption))
    rw [hF]
    simp [ellA, ellB, ellC, List.getLast?_cons, *]
  · unfold Halt
    have hE : ellF a b = ellD b ((b.length : Int)) (mid ++ [wl]) ((w0.length : Int)) := by
      rw [hF]
      simp [ellA, ellB, ellC, List.getLast?_cons, *]
    have hS : StrsAre (um ++ [Value.str wl tl]) (mid ++ [wl]) := strsSnoc Sm
    have hsh2 : ∀ x ∈ (mid ++ [wl]), x.length ≤ a.length := fun x hx => hsh x (by simp only [List.mem_cons, List.mem_append, List.mem_singleton, List.not_mem_nil, or_false] at hx ⊢; first | exact hx | exact .inr (.inl hx) | exact .inr hx | exact hx.elim .inl fun h => .inr (.inl h))
    have hI := isList_news (D := D) (by assumption) (List.Mem.tail _ (List.Mem.head _))
    try dsimp only
    refine' for_vals (σ := Int × Tok) (vs := um ++ [Value.str wl tl]) (fun _ => []) (fun c => [(Str.ofString "startpos", .int c.1 c.2)]) (fun _ => True) [Str.ofString "startpos"]
      (fun k c => ellD b ((b.length : Int)) (mid ++ [wl]) ((w0.length : Int)) = ellD b ((b.length : Int)) ((mid ++ [wl]).drop k) c.1) ((w0.length : Int), _) rfl hI ?yL (fun _ h => nomatch h) ?yF News.nil trivial ?yk rfl ?yt ?yd
    case yF => assumption
    case yL => exact newsNe (by assumption) (List.Mem.tail _ (List.Mem.head _))
    case yk => intro p hp; cases hp with | head => rfl | tail _ h => cases h
    case yt =>
      rintro ⟨sp2, ts2⟩ k v u h8 tk8 own hv hoff _ hP F5 N5
      refine gen_Q fun QF hQyt => ?_
      dsimp only at hP F5 N5 ⊢
      dsimp only [List.nil_append] at N5
      obtain ⟨x, tx, rfl, hdr, hmem⟩ := strsAt hS hv
      have hxl := hsh2 x hmem
      rw [hdr, ellD_cons b _ x] at hP
      k_extra "mine:steps"
      · refine hQyt _ _ (rpost_ret ?_)
        show s.toks ≤ _ → Q _ _
        intro le
        refine toB (y := ellF a b) ?_ (hQ _ _ (Fr.keep (by assumption)) le)
        rw [hE, hP, if_pos (by assumption)]
      · rw [if_neg (by omega)] at hP
        refine' hQyt _ _ (rpost_next (σ := Int × Tok) (find4 b x sp2 ((b.length : Int)) + (x.length : Int), _) ?xF ?xN (fun _ h => nomatch h) (fun p hp => hp) rfl trivial ?xk ?xr hP)
        case xF => assumption
        case xN => assumption
        case xk => intro p hp; cases hp with | head => rfl | tail _ h => cases h
        case xr =>
          intro z z1 z2 z3
          simp only [List.forall_mem_cons, List.not_mem_nil, false_implies, implies_true, and_true, ne_eq] at z2
          simp only [List.contains_cons, List.contains_nil, Bool.or_false, Bool.or_eq_false_iff, beq_eq_false_iff_ne, ne_eq] at z3
          simp [kstB, z1, z2, z3]
    case yd =>
      rintro ⟨sp2, ts2⟩ u h8 tk8 _ hP F5 N5
      dsimp only at hP F5 N5 ⊢
      rw [hS.length, List.drop_length, ellD] at hP
      k_extra "mine:steps"
      exact toB (y := ellF a b) (hE.trans hP).symm (hQ _ _ (Fr.keep (by assumption)) (by assumption))
  · refine toB (y := ellF a b) ?_ (hQ _ _ (Fr.keep (by assumption)) (by assumption))
    rw [hF]
    simp [ellA, ellB, ellC, List.getLast?_cons, *]
  · refine toB (y := ellF a b) ?_ (hQ _ _ (Fr.keep (by assumption)) (by assumption))
    rw [hF]
    simp [ellA, ellB, ellC, List.getLast?_cons, *]
  · unfold Halt
    have hE : ellF a b = ellD b ((b.length : Int) - wl.length) (w0 :: mid) (0) := by
      rw [hF]
      simp [ellA, ellB, ellC, List.getLast?_cons, *]
    have hS : StrsAre (Value.str w0 t0 :: um) (w0 :: mid) := .cons _ _ Sm
    have hsh2 : ∀ x ∈ (w0 :: mid), x.length ≤ a.length := fun x hx => hsh x (by simp only [List.mem_cons, List.mem_append, List.mem_singleton, List.not_mem_nil, or_false] at hx ⊢; first | exact hx | exact .inr (.inl hx) | exact .inr hx | exact hx.elim .inl fun h => .inr (.inl h))
    have hI := isList_news (D := D) (by assumption) (List.Mem.tail _ (List.Mem.head _))
    rw [← List.cons_append, List.dropLast_concat] at hI
    try dsimp only
    refine' for_vals (σ := Int × Tok) (vs := Value.str w0 t0 :: um) (fun _ => []) (fun c => [(Str.ofString "startpos", .int c.1 c.2)]) (fun _ => True) [Str.ofString "startpos"]
      (fun k c => ellD b ((b.length : Int) - wl.length) (w0 :: mid) (0) = ellD b ((b.length : Int) - wl.length) ((w0 :: mid).drop k) c.1) (0, _) rfl hI ?yL (fun _ h => nomatch h) ?yF News.nil trivial ?yk rfl ?yt ?yd
    case yF => assumption
    case yL => exact newsNe (by assumption) (List.Mem.tail _ (List.Mem.head _))
    case yk => intro p hp; cases hp with | head => rfl | tail _ h => cases h
    case yt =>
      rintro ⟨sp2, ts2⟩ k v u h8 tk8 own hv hoff _ hP F5 N5
      refine gen_Q fun QF hQyt => ?_
      dsimp only at hP F5 N5 ⊢
      dsimp only [List.nil_append] at N5
      obtain ⟨x, tx, rfl, hdr, hmem⟩ := strsAt hS hv
      have hxl := hsh2 x hmem
      rw [hdr, ellD_cons b _ x] at hP
      k_extra "mine:steps"
      · refine hQyt _ _ (rpost_ret ?_)
        show s.toks ≤ _ → Q _ _
        intro le
        refine toB (y := ellF a b) ?_ (hQ _ _ (Fr.keep (by assumption)) le)
        rw [hE, hP, if_pos (by assumption)]
      · rw [if_neg (by omega)] at hP
        refine' hQyt _ _ (rpost_next (σ := Int × Tok) (find4 b x sp2 ((b.length : Int) - wl.length) + (x.length : Int), _) ?xF ?xN (fun _ h => nomatch h) (fun p hp => hp) rfl trivial ?xk ?xr hP)
        case xF => assumption
        case xN => assumption
        case xk => intro p hp; cases hp with | head => rfl | tail _ h => cases h
        case xr =>
          intro z z1 z2 z3
          simp only [List.forall_mem_cons, List.not_mem_nil, false_implies, implies_true, and_true, ne_eq] at z2
          simp only [List.contains_cons, List.contains_nil, Bool.or_false, Bool.or_eq_false_iff, beq_eq_false_iff_ne, ne_eq] at z3
          simp [kstB, z1, z2, z3]
    case yd =>
      rintro ⟨sp2, ts2⟩ u h8 tk8 _ hP F5 N5
      dsimp only at hP F5 N5 ⊢
      rw [hS.length, List.drop_length, ellD] at hP
      k_extra "mine:steps"
      exact toB (y := ellF a b) (hE.trans hP).symm (hQ _ _ (Fr.keep (by assumption)) (by assumption))
  · refine toB (y := ellF a b) ?_ (hQ _ _ (Fr.keep (by assumption)) (by assumption))
    rw [hF]
    simp [ellA, ellB, ellC, List.getLast?_cons, *]
  · unfold Halt
    have hE : ellF a b = ellD b ((b.length : Int)) (w0 :: (mid ++ [wl])) (0) := by
      rw [hF]
      simp [ellA, ellB, ellC, List.getLast?_cons, *]
    have hS : StrsAre (Value.str w0 t0 :: (um ++ [Value.str wl tl])) (w0 :: (mid ++ [wl])) := .cons _ _ (strsSnoc Sm)
    have hsh2 : ∀ x ∈ (w0 :: (mid ++ [wl])), x.length ≤ a.length := fun x hx => hsh x (by simp only [List.mem_cons, List.mem_append, List.mem_singleton, List.not_mem_nil, or_false] at hx ⊢; first | exact hx | exact .inr (.inl hx) | exact .inr hx | exact hx.elim .inl fun h => .inr (.inl h))
    have hI := isList_news (D := D) (by assumption) (List.Mem.tail _ (List.Mem.head _))
    try dsimp only
    refine' for_vals (σ := Int × Tok) (vs := Value.str w0 t0 :: (um ++ [Value.str wl tl])) (fun _ => []) (fun c => [(Str.ofString "startpos", .int c.1 c.2)]) (fun _ => True) [Str.ofString "startpos"]
      (fun k c => ellD b ((b.length : Int)) (w0 :: (mid ++ [wl])) (0) = ellD b ((b.length : Int)) ((w0 :: (mid ++ [wl])).drop k) c.1) (0, _) rfl hI ?yL (fun _ h => nomatch h) ?yF News.nil trivial ?yk rfl ?yt ?yd
    case yF => assumption
    case yL => exact newsNe (by assumption) (List.Mem.tail _ (List.Mem.head _))
    case yk => intro p hp; cases hp with | head => rfl | tail _ h => cases h
    case yt =>
      rintro ⟨sp2, ts2⟩ k v u h8 tk8 own hv hoff _ hP F5 N5
      refine gen_Q fun QF hQyt => ?_
      dsimp only at hP F5 N5 ⊢
      dsimp only [List.nil_append] at N5
      obtain ⟨x, tx, rfl, hdr, hmem⟩ := strsAt hS hv
      have hxl := hsh2 x hmem
      rw [hdr, ellD_cons b _ x] at hP
      k_extra "mine:steps"
      · refine hQyt _ _ (rpost_ret ?_)
        show s.toks ≤ _ → Q _ _
        intro le
        refine toB (y := ellF a b) ?_ (hQ _ _ (Fr.keep (by assumption)) le)
        rw [hE, hP, if_pos (by assumption)]
      · rw [if_neg (by omega)] at hP
        refine' hQyt _ _ (rpost_next (σ := Int × Tok) (find4 b x sp2 ((b.length : Int)) + (x.length : Int), _) ?xF ?xN (fun _ h => nomatch h) (fun p hp => hp) rfl trivial ?xk ?xr hP)
        case xF => assumption
        case xN => assumption
        case xk => intro p hp; cases hp with | head => rfl | tail _ h => cases h
        case xr =>
          intro z z1 z2 z3
          simp only [List.forall_mem_cons, List.not_mem_nil, false_implies, implies_true, and_true, ne_eq] at z2
          simp only [List.contains_cons, List.contains_nil, Bool.or_false, Bool.or_eq_false_iff, beq_eq_false_iff_ne, ne_eq] at z3
          simp [kstB, z1, z2, z3]
    case yd =>
      rintro ⟨sp2, ts2⟩ u h8 tk8 _ hP F5 N5
      dsimp only at hP F5 N5 ⊢
      rw [hS.length, List.drop_length, ellD] at hP
      k_extra "mine:steps"
      exact toB (y := ellF a b) (hE.trans hP).symm (hQ _ _ (Fr.keep (by assumption)) (by assumption))
  · exfalso
    rename_i hlen _ _ _
    simp only [List.length_cons, List.length_append, List.length_nil] at hlen
    omega

end
section
theorem fresh_count : True := by
  w_top off
  k_with_none
  k_with "mine:enter" => (
  (case k1 => assumption)
  (case k2 => exact Top.nolimit (by assumption))
  (case k3 => k_is)
  (case k4 => k_is)
  (case k5 => ktr_room)
  (case k0 => exact rfl)
  (case k6 => exact BindsTo.of_eq rfl)
  (case k7 => exact locs rfl)
  (case c2 => exact rfl)
  (case c3 => exact rfl)
  (case c4 => exact rfl)
  (case c5 => decide))
  k_with "mine:steps" => repeat' (first | (k_unfold; (try dsimp only)) | walk1 | (dsimp only; walk1) | fail "no step")
  k_with "mine:rest" => (
  (intro zw9 z1w9 z2w9 z3w9);
  (simp only [List.forall_mem_cons, List.not_mem_nil, false_implies, implies_true, and_true, ne_eq] at z2w9);
  (simp only [List.contains_cons, List.contains_nil, Bool.or_false, Bool.or_eq_false_iff, beq_eq_false_iff_ne, ne_eq] at z3w9);
  (simp [kstB, z1w9, z2w9, z3w9]))
  k_with "mine:mm" => first | with_reducible exact mem_h | with_reducible assumption | ((with_reducible refine mem_t ?_); k_extra "mine:mm")
  k_with "mine:md" => first | exact mem_h | assumption | (refine mem_t ?_; k_extra "mine:md")
  k_with "mine:sub" => first | with_reducible exact sub_nil | with_reducible assumption | with_reducible exact sub_refl | ((with_reducible refine sub_cons ?_ ?_); (first | k_extra "mine:mm" | k_extra "mine:md"); k_extra "mine:sub") | ((with_reducible refine sub_app ?_ ?_); k_extra "mine:sub"; k_extra "mine:sub") | ((with_reducible refine sub_tail ?_); k_extra "mine:sub") | ((with_reducible refine sub_left ?_); k_extra "mine:sub") | ((with_reducible refine sub_right ?_); k_extra "mine:sub")
  k_with "mine:subs" => ((try dsimp only [List.cons_append, List.nil_append]); k_extra "mine:sub")
  k_with "mine:ad" => first | with_reducible assumption | ((with_reducible refine ad_ss ?_); k_extra "mine:ad") | with_reducible first | exact ad_1 | exact ad_2 | exact ad_3 | exact ad_4 | exact ad_5 | exact ad_6 | exact ad_7 | exact ad_1.symm | exact ad_2.symm | exact ad_3.symm | exact ad_4.symm | exact ad_5.symm | exact ad_6.symm | exact ad_7.symm
  k_with "mine:off" => first | with_reducible exact off_nil | with_reducible assumption | ((with_reducible refine off_cons ?_ ?_); (first | k_extra "mine:ad" | (refine Ne.symm ?_; k_extra "mine:ad") | k_ne); k_extra "mine:off") | ((with_reducible refine off_app ?_ ?_); k_extra "mine:off"; k_extra "mine:off") | exact off_sym (by with_reducible assumption) | exact off_of (by assumption) (by k_extra "mine:mm")
  k_with "mine:offs" => ((try dsimp only [List.cons_append, List.nil_append]); k_extra "mine:off")
  trivial
theorem word_count_0 : True := by
  k_with "pyIter ref" => refine Halt.mk ?_
  k_with "exec For Name Name cons nil" => ((with_reducible show wpAny _ _ (exec (Stmt.For _ _ _ [] _) _) _ _ _); (rename Fr _ _ _ _ => lFqw9); (with_unfolding_all refine' For_invVF lFqw9 ?k1 ?k2 ?_; (case k1 => exact rfl); (case k2 => exact rfl)))
  trivial
def countR (b : Int) : List Int → Int
  | [] => 0
  | x :: r => (if x = b then 1 else 0) + countR b r
def countB : List Bool → Int
  | [] => 0
  | x :: r => (if x = true then 1 else 0) + countB r
theorem isInt {M : Model} {A : Around} {E : Value → Shared → Prop} {s : Shared} {Q : Value → Shared → Prop} {x b : Int} {t tb : Tok} (ht : t ≠ 0) (hb : tb ≠ 0) (hs : smallInt b = true) (ha : x ≠ b → t ≠ tb) (h : Q (.bool (decide (x = b))) s) :
    wpAny M A (compareOp .Is (.int x t) (.int b tb)) Q E s := by
  show wpAny M A (isSame (.int x t) (.int b tb) >>= fun b => pure (Value.bool b)) Q E s
  refine wpAny_bind ?_
  have h0 : (t == 0 || tb == 0) = false := by simp [ht, hb]
  unfold isSame
  dsimp only
  by_cases e : x = b
  · subst e
    rw [hs, if_pos (by simp)]
    unfold isSame.cachedInt
    rw [if_neg (by rw [h0]; decide)]
    exact wpAny_bind (wpAny_rule (wpAny_pure (wpAny_pure (by simpa using h))))
  · rw [if_neg (by simp [e])]
    unfold isSame.created
    refine wpAny_ite ?_
    rw [if_neg (by rw [h0]; decide)]
    refine wpAny_ite ?_
    rw [if_neg (by simpa using ha e)]
    refine wpAny_ite ?_
    rw [if_pos (by simp [e])]
    exact wpAny_pure (wpAny_pure (by simpa [e] using h))

theorem word_count_1 : True := by
  k_with "compareOp Is int int" => ((refine isInt (by assumption) (by assumption) (by assumption) (by assumption) ?_); (try dsimp only))
  trivial
theorem count_ok {w : World} {dp un : Nat} {fr : Option (List Env)} {gd : Option (List Code)} {s : Shared} {Q E : Value → Shared → Prop} {mean : ExcName → Option Value} {mg mb : Str → Option Value} {l : Addr} {vs : List Value} {ns : List Int} {b : Int} {tb : Tok}
   (hl : s.heap.IsList l vs.toArray) (hlen : vs.length = ns.length) (hb : smallInt b = true) (htb : tb ≠ 0)
   (hit : ∀ k v, vs[k]? = some v → ∃ x t, v = Value.int x t ∧ ns.drop k = x :: ns.drop (k + 1) ∧ t ≠ 0 ∧ (x ≠ b → t ≠ tb)) (hn : ns.length < 2 ^ 20)
   (hd : dp + 1 < recursionLimit) (hu : un + 16 < cLine) (X : (tp.heap_39 w.params).In s.heap) (T : Top tp.view_39 (looseW tp.view_39 []) mean mg mb s.heap)
   (hQ : ∀ t h' tk', s.heap.StaysIn h' → s.toks ≤ tk' → Q (.int (countR b ns) t) { s with heap := h', toks := tk' }) :
   wpAny (model PySem.Challenge.rw_sw0025_01.row.prog w) ⟨none, dp, fr, gd, un⟩ (call (.ref 63) [.ref l, .int b tb]) Q E s := by
  revert X; k_fill; intro X
  refine wpAny_with_toks (Nat.le_refl _) ?_
  refine' enter [(Str.ofString "b", .int b tb), (Str.ofString "a", .ref l)] ?k0 ?k1 ?k2 ?k3 ?k4 ?k5 ?k6 ?k7 ?k8 ?c2 ?c3 ?c4 ?c5
  k_extra "mine:enter"
  intro LL h1 F1 N1
  try dsimp only
  try k_fold
  k_extra "mine:steps"
  unfold Halt
  try dsimp only
  rename Fr _ _ _ _ => F2
  rename News _ _ _ _ => N2
  have hlL : l ≠ LL := by
    intro e
    obtain ⟨o, ho, _⟩ := hl
    have h1 := Heap.lt_size ho
    have h2 := F2.above
    exact Nat.lt_irrefl _ (Nat.lt_of_lt_of_le (e ▸ h1) h2)
  have hl2 := hl.at (h' := _) fun o e => F2.keep l o e
  refine' for_vals (σ := Int × Tok) (vs := vs) (fun _ => []) (fun c => [(Str.ofString "count", .int c.1 c.2)]) (fun _ => True) [Str.ofString "count"]
    (fun k c => countR b ns = c.1 + countR b (ns.drop k) ∧ 0 ≤ c.1 ∧ c.1 ≤ k) (0, _) rfl ?yI ?yL (fun _ h => nomatch h) ?yF News.nil trivial ?yk ?yp ?yt ?yd
  case yF => assumption
  case yI => exact hl2
  case yL => exact hlL
  case yk => intro p hp; cases hp with | head => rfl | tail _ h => cases h
  case yp => simp
  case yt =>
    rintro ⟨sp2, ts2⟩ k v u h8 tk8 own hv hoff _ ⟨hP, hc0, hc1⟩ F5 N5
    refine gen_Q fun QF hQyt => ?_
    dsimp only at hP hc0 hc1 F5 N5 ⊢
    dsimp only [List.nil_append] at N5
    obtain ⟨x, tx, rfl, hdr, ht0, htn⟩ := hit k v hv
    rw [hdr] at hP
    have hk : k < ns.length := by rw [← hlen]; exact (List.getElem?_eq_some_iff.mp hv).1
    k_extra "mine:steps"
    all_goals (try dsimp only)
    · refine' hQyt _ _ (rpost_next (σ := Int × Tok) (sp2 + 1, _) ?xF ?xN (fun _ h => nomatch h) (fun p hp => hp) rfl trivial ?xk ?xr ?xp)
      case xF => assumption
      case xN => assumption
      case xk => intro p hp; cases hp with | head => rfl | tail _ h => cases h
      case xr => k_extra "mine:rest"
      case xp =>
        refine ⟨?_, ?_, ?_⟩
        · rw [hP, countR, if_pos (by assumption)]; dsimp only; omega
        · dsimp only; omega
        · dsimp only; omega
    · contradiction
    · refine' hQyt _ _ (rpost_next (σ := Int × Tok) (sp2, _) ?xF ?xN (fun _ h => nomatch h) (fun p hp => hp) rfl trivial ?xk ?xr ?xp)
      case xF => assumption
      case xN => assumption
      case xk => intro p hp; cases hp with | head => rfl | tail _ h => cases h
      case xr => k_extra "mine:rest"
      case xp =>
        refine ⟨?_, ?_, ?_⟩
        · rw [hP, countR, if_neg (by assumption)]; dsimp only; omega
        · dsimp only; omega
        · dsimp only; omega
  case yd =>
    rintro ⟨sp2, ts2⟩ u h8 tk8 _ ⟨hP, hc0, hc1⟩ F5 N5
    dsimp only at hP F5 N5 ⊢
    rw [hlen, List.drop_length] at hP
    k_extra "mine:steps"
    exact toI (y := countR b ns) (by rw [hP, countR]; omega) (hQ _ _ _ (Fr.keep (by assumption)) (by assumption))
theorem countB_ok {w : World} {dp un : Nat} {fr : Option (List Env)} {gd : Option (List Code)} {s : Shared} {Q E : Value → Shared → Prop} {mean : ExcName → Option Value} {mg mb : Str → Option Value} {l : Addr} {vs : List Value} {ns : List Bool}
   (hl : s.heap.IsList l vs.toArray) (hlen : vs.length = ns.length) 
   (hit : ∀ k v, vs[k]? = some v → ∃ x, v = Value.bool x ∧ ns.drop k = x :: ns.drop (k + 1)) (hn : ns.length < 2 ^ 20)
   (hd : dp + 1 < recursionLimit) (hu : un + 16 < cLine) (X : (tp.heap_39 w.params).In s.heap) (T : Top tp.view_39 (looseW tp.view_39 []) mean mg mb s.heap)
   (hQ : ∀ t h' tk', s.heap.StaysIn h' → s.toks ≤ tk' → Q (.int (countB ns) t) { s with heap := h', toks := tk' }) :
   wpAny (model PySem.Challenge.rw_sw0025_01.row.prog w) ⟨none, dp, fr, gd, un⟩ (call (.ref 63) [.ref l, .bool true]) Q E s := by
  revert X; k_fill; intro X
  refine wpAny_with_toks (Nat.le_refl _) ?_
  refine' enter [(Str.ofString "b", .bool true), (Str.ofString "a", .ref l)] ?k0 ?k1 ?k2 ?k3 ?k4 ?k5 ?k6 ?k7 ?k8 ?c2 ?c3 ?c4 ?c5
  k_extra "mine:enter"
  intro LL h1 F1 N1
  try dsimp only
  try k_fold
  k_extra "mine:steps"
  unfold Halt
  try dsimp only
  rename Fr _ _ _ _ => F2
  rename News _ _ _ _ => N2
  have hlL : l ≠ LL := by
    intro e
    obtain ⟨o, ho, _⟩ := hl
    have h1 := Heap.lt_size ho
    have h2 := F2.above
    exact Nat.lt_irrefl _ (Nat.lt_of_lt_of_le (e ▸ h1) h2)
  have hl2 := hl.at (h' := _) fun o e => F2.keep l o e
  refine' for_vals (σ := Int × Tok) (vs := vs) (fun _ => []) (fun c => [(Str.ofString "count", .int c.1 c.2)]) (fun _ => True) [Str.ofString "count"]
    (fun k c => countB ns = c.1 + countB (ns.drop k) ∧ 0 ≤ c.1 ∧ c.1 ≤ k) (0, _) rfl ?yI ?yL (fun _ h => nomatch h) ?yF News.nil trivial ?yk ?yp ?yt ?yd
  case yF => assumption
  case yI => exact hl2
  case yL => exact hlL
  case yk => intro p hp; cases hp with | head => rfl | tail _ h => cases h
  case yp => simp
  case yt =>
    rintro ⟨sp2, ts2⟩ k v u h8 tk8 own hv hoff _ ⟨hP, hc0, hc1⟩ F5 N5
    refine gen_Q fun QF hQyt => ?_
    dsimp only at hP hc0 hc1 F5 N5 ⊢
    dsimp only [List.nil_append] at N5
    obtain ⟨x, rfl, hdr⟩ := hit k v hv
    rw [hdr] at hP
    have hk : k < ns.length := by rw [← hlen]; exact (List.getElem?_eq_some_iff.mp hv).1
    k_extra "mine:steps"
    all_goals (try dsimp only)
    · refine' hQyt _ _ (rpost_next (σ := Int × Tok) (sp2 + 1, _) ?xF ?xN (fun _ h => nomatch h) (fun p hp => hp) rfl trivial ?xk ?xr ?xp)
      case xF => assumption
      case xN => assumption
      case xk => intro p hp; cases hp with | head => rfl | tail _ h => cases h
      case xr => k_extra "mine:rest"
      case xp =>
        have e : x = true := by simp_all
        refine ⟨?_, ?_, ?_⟩
        · rw [hP, countB, if_pos e]; dsimp only; omega
        · dsimp only; omega
        · dsimp only; omega
    · refine' hQyt _ _ (rpost_next (σ := Int × Tok) (sp2, _) ?xF ?xN (fun _ h => nomatch h) (fun p hp => hp) rfl trivial ?xk ?xr ?xp)
      case xF => assumption
      case xN => assumption
      case xk => intro p hp; cases hp with | head => rfl | tail _ h => cases h
      case xr => k_extra "mine:rest"
      case xp =>
        have e : ¬ x = true := by simp_all
        refine ⟨?_, ?_, ?_⟩
        · rw [hP, countB, if_neg e]; dsimp only; omega
        · dsimp only; omega
        · dsimp only; omega
  case yd =>
    rintro ⟨sp2, ts2⟩ u h8 tk8 _ ⟨hP, hc0, hc1⟩ F5 N5
    dsimp only at hP F5 N5 ⊢
    rw [hlen, List.drop_length] at hP
    k_extra "mine:steps"
    exact toI (y := countB ns) (by rw [hP, countB]; omega) (hQ _ _ _ (Fr.keep (by assumption)) (by assumption))

end
section
theorem fresh_code : True := by
  w_top off
  k_with_none
  k_with "mine:enter" => (
  (case k1 => assumption)
  (case k2 => exact Top.nolimit (by assumption))
  (case k3 => k_is)
  (case k4 => k_is)
  (case k5 => ktr_room)
  (case k0 => exact rfl)
  (case k6 => exact BindsTo.of_eq rfl)
  (case k7 => exact locs rfl)
  (case c2 => exact rfl)
  (case c3 => exact rfl)
  (case c4 => exact rfl)
  (case c5 => decide))
  k_with "mine:steps" => repeat' (first | (k_unfold; (try dsimp only)) | walk1 | (dsimp only; walk1) | fail "no step")
  k_with "mine:rest" => (
  (intro zw9 z1w9 z2w9 z3w9);
  (simp only [List.forall_mem_cons, List.not_mem_nil, false_implies, implies_true, and_true, ne_eq] at z2w9);
  (simp only [List.contains_cons, List.contains_nil, Bool.or_false, Bool.or_eq_false_iff, beq_eq_false_iff_ne, ne_eq] at z3w9);
  (simp [kstB, z1w9, z2w9, z3w9]))
  k_with "mine:mm" => first | with_reducible exact mem_h | with_reducible assumption | ((with_reducible refine mem_t ?_); k_extra "mine:mm")
  k_with "mine:md" => first | exact mem_h | assumption | (refine mem_t ?_; k_extra "mine:md")
  k_with "mine:sub" => first | with_reducible exact sub_nil | with_reducible assumption | with_reducible exact sub_refl | ((with_reducible refine sub_cons ?_ ?_); (first | k_extra "mine:mm" | k_extra "mine:md"); k_extra "mine:sub") | ((with_reducible refine sub_app ?_ ?_); k_extra "mine:sub"; k_extra "mine:sub") | ((with_reducible refine sub_tail ?_); k_extra "mine:sub") | ((with_reducible refine sub_left ?_); k_extra "mine:sub") | ((with_reducible refine sub_right ?_); k_extra "mine:sub")
  k_with "mine:subs" => ((try dsimp only [List.cons_append, List.nil_append]); k_extra "mine:sub")
  k_with "mine:ad" => first | with_reducible assumption | ((with_reducible refine ad_ss ?_); k_extra "mine:ad") | with_reducible first | exact ad_1 | exact ad_2 | exact ad_3 | exact ad_4 | exact ad_5 | exact ad_6 | exact ad_7 | exact ad_1.symm | exact ad_2.symm | exact ad_3.symm | exact ad_4.symm | exact ad_5.symm | exact ad_6.symm | exact ad_7.symm
  k_with "mine:off" => first | with_reducible exact off_nil | with_reducible assumption | ((with_reducible refine off_cons ?_ ?_); (first | k_extra "mine:ad" | (refine Ne.symm ?_; k_extra "mine:ad") | k_ne); k_extra "mine:off") | ((with_reducible refine off_app ?_ ?_); k_extra "mine:off"; k_extra "mine:off") | exact off_sym (by with_reducible assumption) | exact off_of (by assumption) (by k_extra "mine:mm")
  k_with "mine:offs" => ((try dsimp only [List.cons_append, List.nil_append]); k_extra "mine:off")
  trivial
theorem word_code_0 : True := by
  k_with "pyIter ref" => refine Halt.mk ?_
  k_with "call type:range" => ((refine' rg3 ?zF ?zN ?zn ?_); (case zF => assumption); (case zN => assumption); (case zn => omega); intro _ _ _ _ _ _ _ _; (try dsimp only))
  k_with "call ref" => ((refine' or_ok ?zd ?zu ?zX ?zT ?_); (case zd => ktr_room); (case zu => ktr_units); (case zX => exact Frag.In.keeps (by assumption) (Fr.keep (by assumption))); (case zT => exact Top.keeps (by assumption) (Fr.keep (by assumption))); intro t9w9 h9w9 tk9w9 st9w9 le9w9; (have Fqw9 := frUp (by assumption) st9w9); (have Nqw9 := newsUp (by assumption) st9w9); (try dsimp only))
  trivial
def codeK (a : Str) : Nat → Int
  | 0 => 0
  | k + 1 => if (Builtin.Str.occurrences (Str.ofString "ABCD") (Txt.item a (k : Int)) 0 (Str.ofString "ABCD").length 1).isEmpty = true then codeK a k else Builtin.bitOr (codeK a k) (2 ^ k)
def codeF (a : Str) : Int := codeK a a.length
theorem code_ok {w : World} {dp un : Nat} {fr : Option (List Env)} {gd : Option (List Code)} {s : Shared} {Q E : Value → Shared → Prop} {mean : ExcName → Option Value} {mg mb : Str → Option Value} {a : Str} {ta : Tok} (la : a.length ≤ 4)
   (hd : dp + 2 < recursionLimit) (hu : un + 24 < cLine) (X : (tp.heap_39 w.params).In s.heap) (T : Top tp.view_39 (looseW tp.view_39 []) mean mg mb s.heap)
   (hQ : ∀ t h' tk', s.heap.StaysIn h' → s.toks ≤ tk' → Q (.int (codeF a) t) { s with heap := h', toks := tk' }) :
   wpAny (model PySem.Challenge.rw_sw0025_01.row.prog w) ⟨none, dp, fr, gd, un⟩ (call (.ref 80) [.str a ta]) Q E s := by
  revert X; k_fill; intro X
  refine wpAny_with_toks (Nat.le_refl _) ?_
  refine' enter [(Str.ofString "word", .str a ta)] ?k0 ?k1 ?k2 ?k3 ?k4 ?k5 ?k6 ?k7 ?k8 ?c2 ?c3 ?c4 ?c5
  k_extra "mine:enter"
  intro LL h1 F1 N1
  try dsimp only
  try k_fold
  try dsimp only
  k_extra "mine:steps"
  unfold Halt
  try dsimp only
  refine' for_rng (σ := Int × Tok) (n := a.length) (fun _ => []) (fun c => [(Str.ofString "code", .int c.1 c.2)]) (fun _ => True) [Str.ofString "code"]
    (fun k c => c.1 = codeK a k) (0, _) rfl ?yr ?yn ?yF News.nil trivial ?yk rfl ?yt ?yd
  case yr => assumption
  case yn => omega
  case yF => assumption
  case yk => intro p hp; cases hp with | head => rfl | tail _ h => cases h
  case yt =>
    rintro ⟨cc, tc⟩ k tk1 u h8 tk8 own hlt hoff _ p1 F5 N5
    refine gen_Q fun QF hQyt => ?_
    dsimp only at p1 F5 N5 ⊢
    dsimp only [List.nil_append] at N5
    k_extra "mine:steps"
    all_goals (try dsimp only)
    · refine' hQyt _ _ (rpost_next (σ := Int × Tok) (cc, _) ?xF ?xN (fun _ h => nomatch h) (fun p hp => hp) rfl trivial ?xk ?xr ?xp)
      case xF => assumption
      case xN => assumption
      case xk => intro p hp; cases hp with | head => rfl | tail _ h => cases h
      case xr => k_extra "mine:rest"
      case xp =>
        show cc = _
        rw [codeK, if_pos (by assumption)]; exact p1
    · refine' hQyt _ _ (rpost_next (σ := Int × Tok) (Builtin.bitOr cc (2 ^ k), _) ?xF ?xN (fun _ h => nomatch h) (fun p hp => hp) rfl trivial ?xk ?xr ?xp)
      case xF => assumption
      case xN => assumption
      case xk => intro p hp; cases hp with | head => rfl | tail _ h => cases h
      case xr => k_extra "mine:rest"
      case xp =>
        have e : ¬ (Builtin.Str.occurrences (Str.ofString "ABCD") (Txt.item a (k : Int)) 0 (Str.ofString "ABCD").length 1).isEmpty = true := by simp_all
        show _ = _
        rw [codeK, if_neg e, p1]
  case yd =>
    rintro ⟨cc, tc⟩ u h8 tk8 _ p1 F5 N5
    dsimp only at p1 F5 N5 ⊢
    k_extra "mine:steps"
    exact toI (y := codeF a) p1 (hQ _ _ _ (Fr.keep (by assumption)) (by assumption))

end
section
theorem fresh_mid : True := by
  w_top off
  k_with_none
  k_with "mine:enter" => (
  (case k1 => assumption)
  (case k2 => exact Top.nolimit (by assumption))
  (case k3 => k_is)
  (case k4 => k_is)
  (case k5 => ktr_room)
  (case k0 => exact rfl)
  (case k6 => exact BindsTo.of_eq rfl)
  (case k7 => exact locs rfl)
  (case c2 => exact rfl)
  (case c3 => exact rfl)
  (case c4 => exact rfl)
  (case c5 => decide))
  k_with "mine:steps" => repeat' (first | (k_unfold; (try dsimp only)) | walk1 | (dsimp only; walk1) | fail "no step")
  k_with "mine:rest" => (
  (intro zw9 z1w9 z2w9 z3w9);
  (simp only [List.forall_mem_cons, List.not_mem_nil, false_implies, implies_true, and_true, ne_eq] at z2w9);
  (simp only [List.contains_cons, List.contains_nil, Bool.or_false, Bool.or_eq_false_iff, beq_eq_false_iff_ne, ne_eq] at z3w9);
  (simp [kstB, z1w9, z2w9, z3w9]))
  k_with "mine:mm" => first | with_reducible exact mem_h | with_reducible assumption | ((with_reducible refine mem_t ?_); k_extra "mine:mm")
  k_with "mine:md" => first | exact mem_h | assumption | (refine mem_t ?_; k_extra "mine:md")
  k_with "mine:sub" => first | with_reducible exact sub_nil | with_reducible assumption | with_reducible exact sub_refl | ((with_reducible refine sub_cons ?_ ?_); (first | k_extra "mine:mm" | k_extra "mine:md"); k_extra "mine:sub") | ((with_reducible refine sub_app ?_ ?_); k_extra "mine:sub"; k_extra "mine:sub") | ((with_reducible refine sub_tail ?_); k_extra "mine:sub") | ((with_reducible refine sub_left ?_); k_extra "mine:sub") | ((with_reducible refine sub_right ?_); k_extra "mine:sub")
  k_with "mine:subs" => ((try dsimp only [List.cons_append, List.nil_append]); k_extra "mine:sub")
  k_with "mine:ad" => first | with_reducible assumption | ((with_reducible refine ad_ss ?_); k_extra "mine:ad") | with_reducible first | exact ad_1 | exact ad_2 | exact ad_3 | exact ad_4 | exact ad_5 | exact ad_6 | exact ad_7 | exact ad_1.symm | exact ad_2.symm | exact ad_3.symm | exact ad_4.symm | exact ad_5.symm | exact ad_6.symm | exact ad_7.symm
  k_with "mine:off" => first | with_reducible exact off_nil | with_reducible assumption | ((with_reducible refine off_cons ?_ ?_); (first | k_extra "mine:ad" | (refine Ne.symm ?_; k_extra "mine:ad") | k_ne); k_extra "mine:off") | ((with_reducible refine off_app ?_ ?_); k_extra "mine:off"; k_extra "mine:off") | exact off_sym (by with_reducible assumption) | exact off_of (by assumption) (by k_extra "mine:mm")
  k_with "mine:offs" => ((try dsimp only [List.cons_append, List.nil_append]); k_extra "mine:off")
  trivial
theorem word_mid_0 : True := by
  k_with "pyIter ref" => refine Halt.mk ?_
  k_with "call type:range" => ((refine' rg3 ?zF ?zN ?zn ?_); (case zF => assumption); (case zN => assumption); (case zn => omega); intro _ _ _ _ _ _ _ _; (try dsimp only))
  k_with "call ref" => ((with_reducible show wpAny _ _ (call (Value.ref 49) _) _ _ _); (refine' or_ok ?zd ?zu ?zX ?zT ?_); (case zd => ktr_room); (case zu => ktr_units); (case zX => exact Frag.In.keeps (by assumption) (Fr.keep (by assumption))); (case zT => exact Top.keeps (by assumption) (Fr.keep (by assumption))); intro t9w9 h9w9 tk9w9 st9w9 le9w9; (have Fqw9 := frUp (by assumption) st9w9); (have Nqw9 := newsUp (by assumption) st9w9); (try dsimp only))
  k_with "call ref" => ((with_reducible show wpAny _ _ (call (Value.ref 42) _) _ _ _); (refine' and_ok ?zd ?zu ?zX ?zT ?_); (case zd => ktr_room); (case zu => ktr_units); (case zX => exact Frag.In.keeps (by assumption) (Fr.keep (by assumption))); (case zT => exact Top.keeps (by assumption) (Fr.keep (by assumption))); intro t9w9 h9w9 tk9w9 st9w9 le9w9; (have Fqw9 := frUp (by assumption) st9w9); (have Nqw9 := newsUp (by assumption) st9w9); (try dsimp only))
  k_with "call ref" => ((with_reducible show wpAny _ _ (call (Value.ref 56) _) _ _ _); (refine' contains_ok ?zd ?zu ?zX ?zT ?zl ?zi ?zn ?_); (case zd => ktr_room); (case zu => ktr_units); (case zX => exact Frag.In.keeps (by assumption) (Fr.keep (by assumption))); (case zT => exact Top.keeps (by assumption) (Fr.keep (by assumption))); (case zl => is_list); (case zi => assumption); (case zn => omega); intro h9w9 tk9w9 st9w9 le9w9; (have Fqw9 := frUp (by assumption) st9w9); (have Nqw9 := newsUp (by assumption) st9w9); (try dsimp only))
  trivial
def mid3 (ns : List Int) (i j k : Nat) : Bool :=
  ns.any fun x => x == Builtin.bitOr (Builtin.bitAnd (ns.getD i 0) (ns.getD j 0)) (Builtin.bitAnd (Builtin.bitOr (ns.getD i 0) (ns.getD j 0)) (ns.getD k 0))
def midF (ns : List Int) : Bool := (List.range ns.length).all fun i => (List.range i).all fun j => (List.range j).all fun k => mid3 ns i j k
theorem mid_no {ns : List Int} {i j k : Nat} (hi : i < ns.length) (hj : j < i) (hk : k < j) (h : mid3 ns i j k = false) : false = midF ns := by
  refine (Bool.eq_false_iff.mpr ?_).symm
  intro e
  simp only [midF, List.all_eq_true, List.mem_range] at e
  have := e i hi j hj k hk
  rw [h] at this; exact Bool.noConfusion this
theorem mid_yes {ns : List Int} (h : ∀ i < ns.length, ∀ j < i, ∀ k < j, mid3 ns i j k = true) : true = midF ns := by
  symm; simp only [midF, List.all_eq_true, List.mem_range]; exact h
theorem mid_ok {w : World} {dp un : Nat} {fr : Option (List Env)} {gd : Option (List Code)} {s : Shared} {Q E : Value → Shared → Prop} {mean : ExcName → Option Value} {mg mb : Str → Option Value} {l : Addr} {vs : List Value} {ns : List Int}
   (hl : s.heap.IsList l vs.toArray) (hi : IntsAre vs ns) (hn : ns.length < 2 ^ 20)
   (hd : dp + 2 < recursionLimit) (hu : un + 24 < cLine) (X : (tp.heap_39 w.params).In s.heap) (T : Top tp.view_39 (looseW tp.view_39 []) mean mg mb s.heap)
   (hQ : ∀ h' tk', s.heap.StaysIn h' → s.toks ≤ tk' → Q (.bool (midF ns)) { s with heap := h', toks := tk' }) :
   wpAny (model PySem.Challenge.rw_sw0025_01.row.prog w) ⟨none, dp, fr, gd, un⟩ (call (.ref 87) [.ref l]) Q E s := by
  revert X; k_fill; intro X
  refine wpAny_with_toks (Nat.le_refl _) ?_
  refine' enter [(Str.ofString "codes", .ref l)] ?k0 ?k1 ?k2 ?k3 ?k4 ?k5 ?k6 ?k7 ?k8 ?c2 ?c3 ?c4 ?c5
  k_extra "mine:enter"
  intro LL h1 F1 N1
  try dsimp only
  try k_fold
  try dsimp only
  k_extra "mine:steps"
  unfold Halt
  try dsimp only
  refine' for_rng (σ := Unit) (n := ns.length) (fun _ => []) (fun _ => []) (fun _ => True) [Str.ofString "j", Str.ofString "both", Str.ofString "either", Str.ofString "k"]
    (fun i _ => ∀ i' < i, ∀ j < i', ∀ k < j, mid3 ns i' j k = true) () rfl ?yr ?yn ?yF News.nil trivial ?yk ?yp ?yt ?yd
  case yr => first | assumption
  case yn => omega
  case yF => assumption
  case yk => exact fun _ h => nomatch h
  case yp => exact fun i h => absurd h (Nat.not_lt_zero _)
  case yt =>
    rintro ⟨⟩ i ti u h8 tk8 own hlt hoff _ p1 F5 N5
    refine gen_Q fun QF hQyt => ?_
    dsimp only at p1 F5 N5 ⊢
    dsimp only [List.nil_append] at N5
    k_extra "mine:steps"
    unfold Halt
    try dsimp only
    refine' for_rng (σ := Unit) (n := i) (fun _ => own) (fun _ => []) (fun _ => True) [Str.ofString "both", Str.ofString "either", Str.ofString "k"]
      (fun j' _ => ∀ j < j', ∀ k < j, mid3 ns i j k = true) () rfl ?xr ?xn ?xF ?xN trivial ?xk ?xp ?xt ?xd
    case xr => first | assumption
    case xn => omega
    case xF => assumption
    case xN => assumption
    case xk => exact fun _ h => nomatch h
    case xp => exact fun i h => absurd h (Nat.not_lt_zero _)
    case xt =>
      rintro ⟨⟩ j tj u2 h7 tk7 own2 hlt2 hoff2 _ p2 F6 N6
      refine gen_Q fun QF hQxt => ?_
      dsimp only at p2 F6 N6 ⊢
      k_extra "mine:steps"
      unfold Halt
      try dsimp only
      refine' for_rng (σ := Unit) (n := j) (fun _ => own ++ own2) (fun _ => []) (fun _ => True) []
        (fun k' _ => ∀ k < k', mid3 ns i j k = true) () rfl ?wr ?wn ?wF ?wN trivial ?wk ?wp ?wt ?wd
      case wr => assumption
      case wn => omega
      case wF => assumption
      case wN => assumption
      case wk => exact fun _ h => nomatch h
      case wp => exact fun i h => absurd h (Nat.not_lt_zero _)
      case wt =>
        rintro ⟨⟩ k tk3 u3 h6 tk6 own3 hlt3 hoff3 _ p3 F7 N7
        refine gen_Q fun QF hQwt => ?_
        dsimp only at p3 F7 N7 ⊢
        k_extra "mine:steps"
        · try dsimp only
          refine' hQwt _ _ (rpost_next (σ := Unit) () ?vF ?vN ?vn ?vo rfl trivial ?vk ?vr ?vp)
          case vF => assumption
          case vN => assumption
          case vn => exact fun p hp => List.mem_append_left _ hp
          case vo => exact fun p hp => List.mem_append_right _ hp
          case vk => exact fun _ h => nomatch h
          case vr => k_extra "mine:rest"
          case vp =>
            intro k' hk'
            by_cases e : k' = k
            · subst e; assumption
            · exact p3 k' (by omega)
        · try dsimp only
          refine hQwt _ _ (rpost_ret ?_)
          try dsimp only
          refine hQxt _ _ (rpost_ret ?_)
          try dsimp only
          refine hQyt _ _ (rpost_ret ?_)
          show s.toks ≤ _ → Q _ _
          intro le
          exact toB (y := midF ns) (mid_no hlt hlt2 hlt3 (by assumption)) (hQ _ _ (Fr.keep (by assumption)) le)
      case wd =>
        rintro ⟨⟩ u3 h6 tk6 _ p3 F7 N7
        dsimp only at p3 F7 N7 ⊢
        k_extra "mine:steps"
        refine' hQxt _ _ (rpost_next (σ := Unit) () ?vF ?vN ?vn ?vo rfl trivial ?vk ?vr ?vp)
        case vF => assumption
        case vN => assumption
        case vn => exact fun p hp => List.mem_append_left _ hp
        case vo => exact fun p hp => List.mem_append_right _ hp
        case vk => exact fun _ h => nomatch h
        case vr => k_extra "mine:rest"
        case vp =>
          intro j' hj'
          by_cases e : j' = j
          · subst e; exact p3
          · exact p2 j' (by omega)
    case xd =>
      rintro ⟨⟩ u2 h7 tk7 _ p2 F6 N6
      dsimp only at p2 F6 N6 ⊢
      k_extra "mine:steps"
      refine' hQyt _ _ (rpost_next (σ := Unit) () ?vF ?vN ?vn ?vo rfl trivial ?vk ?vr ?vp)
      case vF => assumption
      case vN => assumption
      case vn => exact fun _ h => nomatch h
      case vo => exact fun p hp => hp
      case vk => exact fun _ h => nomatch h
      case vr => k_extra "mine:rest"
      case vp =>
        intro i' hi'
        by_cases e : i' = i
        · subst e; exact p2
        · exact p1 i' (by omega)
  case yd =>
    rintro ⟨⟩ u h8 tk8 _ p1 F5 N5
    dsimp only at p1 F5 N5 ⊢
    k_extra "mine:steps"
    exact toB (y := midF ns) (mid_yes p1) (hQ _ _ (Fr.keep (by assumption)) (by assumption))

end
section
theorem fresh_comp : True := by
  w_top off
  k_with_none
  k_with "mine:enter" => (
  (case k1 => assumption)
  (case k2 => exact Top.nolimit (by assumption))
  (case k3 => k_is)
  (case k4 => k_is)
  (case k5 => ktr_room)
  (case k0 => exact rfl)
  (case k6 => exact BindsTo.of_eq rfl)
  (case k7 => exact locs rfl)
  (case c2 => exact rfl)
  (case c3 => exact rfl)
  (case c4 => exact rfl)
  (case c5 => decide))
  k_with "mine:steps" => repeat' (first | (k_unfold; (try dsimp only)) | walk1 | (dsimp only; walk1) | fail "no step")
  k_with "mine:rest" => (
  (intro zw9 z1w9 z2w9 z3w9);
  (simp only [List.forall_mem_cons, List.not_mem_nil, false_implies, implies_true, and_true, ne_eq] at z2w9);
  (simp only [List.contains_cons, List.contains_nil, Bool.or_false, Bool.or_eq_false_iff, beq_eq_false_iff_ne, ne_eq] at z3w9);
  (simp [kstB, z1w9, z2w9, z3w9]))
  k_with "mine:mm" => first | with_reducible exact mem_h | with_reducible assumption | ((with_reducible refine mem_t ?_); k_extra "mine:mm")
  k_with "mine:md" => first | exact mem_h | assumption | (refine mem_t ?_; k_extra "mine:md")
  k_with "mine:sub" => first | with_reducible exact sub_nil | with_reducible assumption | with_reducible exact sub_refl | ((with_reducible refine sub_cons ?_ ?_); (first | k_extra "mine:mm" | k_extra "mine:md"); k_extra "mine:sub") | ((with_reducible refine sub_app ?_ ?_); k_extra "mine:sub"; k_extra "mine:sub") | ((with_reducible refine sub_tail ?_); k_extra "mine:sub") | ((with_reducible refine sub_left ?_); k_extra "mine:sub") | ((with_reducible refine sub_right ?_); k_extra "mine:sub")
  k_with "mine:subs" => ((try dsimp only [List.cons_append, List.nil_append]); k_extra "mine:sub")
  k_with "mine:ad" => first | with_reducible assumption | ((with_reducible refine ad_ss ?_); k_extra "mine:ad") | with_reducible first | exact ad_1 | exact ad_2 | exact ad_3 | exact ad_4 | exact ad_5 | exact ad_6 | exact ad_7 | exact ad_1.symm | exact ad_2.symm | exact ad_3.symm | exact ad_4.symm | exact ad_5.symm | exact ad_6.symm | exact ad_7.symm
  k_with "mine:off" => first | with_reducible exact off_nil | with_reducible assumption | ((with_reducible refine off_cons ?_ ?_); (first | k_extra "mine:ad" | (refine Ne.symm ?_; k_extra "mine:ad") | k_ne); k_extra "mine:off") | ((with_reducible refine off_app ?_ ?_); k_extra "mine:off"; k_extra "mine:off") | exact off_sym (by with_reducible assumption) | exact off_of (by assumption) (by k_extra "mine:mm")
  k_with "mine:offs" => ((try dsimp only [List.cons_append, List.nil_append]); k_extra "mine:off")
  trivial
section
variable {prog : Program} {w : World} {A : Around} {E : Value → Shared → Prop} {s : Shared}
/-- an iterator together with the comprehension's target: what the target's assignment shows may speak of the heap too (a captured target lies in a cell) -/
structure Pulls (prog : Program) (w : World) (A : Around) (tgt : PySem.Expr) (ce : Env) (I : Addr) (fp wr : List Addr) (n : Nat) (B : Nat → Heap → (Str → Option Value) → Prop) (St : Nat → Heap → Prop) (T0 : Nat) : Prop where
  sub : ∀ b ∈ wr, b ∈ fp
  frame : ∀ i h h', St i h → (∀ b ∈ fp, ∀ o, h.get? b = some o → h'.get? b = some o) → St i h'
  item : ∀ i (s : Shared) m (Q : Unit → Shared → Prop) (Rn : Shared → Prop) (E : Value → Shared → Prop), T0 ≤ s.toks → i < n → St i s.heap → s.heap.Ns ce.locals m →
    (∀ h' tk m', s.toks ≤ tk → B i h' m' → St (i + 1) h' → h'.Ns ce.locals m' → (∀ b o, b ≠ ce.locals → b ∉ wr → s.heap.get? b = some o → h'.get? b = some o) → Q () { s with heap := h', toks := tk }) →
    wpAny (model prog w) A (pyNext (.ref I)) (fun r s₁ => match r with
      | none => Rn s₁
      | some v => wpAny (model prog w) A (letOwnedTupleGo tgt (.ref I) v) (fun _ s₂ => wpAny (model prog w) A (assign tgt ce v) Q E s₂) E s₁) E s
  done : ∀ (s : Shared) (Q : Option Value → Shared → Prop) (E : Value → Shared → Prop), St n s.heap →
    (∀ h' tk, s.toks ≤ tk → (∀ b o, b ∉ wr → s.heap.get? b = some o → h'.get? b = some o) → Q none { s with heap := h', toks := tk }) → wpAny (model prog w) A (pyNext (.ref I)) Q E s
  self : ∀ i (s : Shared) (Q : Value → Shared → Prop) (E : Value → Shared → Prop), St i s.heap → Q (.ref I) s → wpAny (model prog w) A (pyIter (.ref I)) Q E s

theorem pulls_name {T0 : Nat} {x : Str} {px : Pos} {ce : Env} {I : Addr} {fp wr : List Addr} {n : Nat} {P : Nat → Value → Prop} {St : Nat → Heap → Prop} (W : Walks prog w A I fp wr n P St)
    (hx : ce.kindOf x = some .local) (hp : (ce.scope.kind == .class || (ce.scope.kind == .module && ce.locals != ce.globals)) = false) (hC : ce.locals ∉ fp) :
    Pulls prog w A (.Name x px) ce I fp wr n (fun i _ m' => ∃ v, P i v ∧ m' x = some v) St T0 where
  sub := W.sub
  frame := W.frame
  item := fun i s m Q Rn E _ hi st hn h => by
    have off : ∀ b ∈ fp, b ≠ ce.locals := fun b hb q => hC (q ▸ hb)
    refine wpAny_with_toks (Nat.le_refl s.toks) (W.item i s _ _ hi st fun v h₁ tk px st₁ up le => wpAny_of_eq (a := ()) rfl ?_)
    refine wpAny_assign_Name (wpAny_storeName_local hx (hn.at' fun o => up _ o fun q => off _ (W.sub _ q) rfl) (fun h₂ hn₂ sb => ?_) hp)
    exact h h₂ _ _ (Nat.le_succ_of_le le) ⟨v, px, if_pos rfl⟩ (W.frame _ _ _ st₁ fun b hb o => sb.extBut b o (off b hb)) hn₂ fun b o c1 c2 e => sb.extBut b o c1 (up b o c2 e)
  done := fun s Q E st h => wpAny_with_toks (Nat.le_refl s.toks) (W.done s _ _ st fun h' tk up le => h h' tk le up)
  self := W.self

/-- a target that lies in a cell (an inner block captures it) -/
theorem pulls_cell {T0 : Nat} {x : Str} {px : Pos} {ce : Env} {I c : Addr} {fp wr : List Addr} {n : Nat} {P : Nat → Value → Prop} {St : Nat → Heap → Prop} (W : Walks prog w A I fp wr n P St)
    (hk : ce.scope.kind = .function) (hx : ce.kindOf x = some .cell) (hc : ce.cells.lookup x = some c) (hC : ce.locals ∉ fp) (cf : c ∉ fp) (cC : c ≠ ce.locals) :
    Pulls prog w A (.Name x px) ce I (c :: fp) (c :: wr) n (fun i h _ => ∃ v o, P i v ∧ h.get? c = some o ∧ o.data = .cell (some v)) (fun i h => St i h ∧ ∃ v, h.IsCell c v) T0 where
  sub := fun b hb => by
    cases hb with
    | head => exact .head _
    | tail _ q => exact .tail _ (W.sub _ q)
  frame := fun i h h' st up => ⟨W.frame _ _ _ st.1 fun b hb => up b (.tail _ hb), let ⟨v, o, g, d⟩ := st.2; ⟨v, o, up c (.head _) o g, d⟩⟩
  item := fun i s m Q Rn E _ hi st hn h => by
    refine wpAny_with_toks (Nat.le_refl s.toks) (W.item i s _ _ hi st.1 fun v h₁ tk px st₁ up le => wpAny_of_eq (a := ()) rfl ?_)
    obtain ⟨v₀, o₀, g₀, d₀⟩ := st.2
    refine wpAny_assign_Name (wpAny_storeName_cell hk hx hc ⟨o₀, up c o₀ (fun q => cf (W.sub _ q)) g₀, d₀⟩ fun h₂ v₂ sb => ?_)
    obtain ⟨o, g, d⟩ := v₂
    exact h h₂ _ m le ⟨v, o, px, g, d⟩ ⟨W.frame _ _ _ st₁ fun b hb o => sb.extBut b o fun q => cf (q ▸ hb), _, o, g, d⟩ ((hn.at' fun o => up _ o fun q => hC (W.sub _ q)).sameBut sb (Ne.symm cC))
      fun b o _ c2 e => sb.extBut b o (fun q => c2 (q ▸ .head _)) (up b o (fun q => c2 (.tail _ q)) e)
  done := fun s Q E st h => wpAny_with_toks (Nat.le_refl s.toks) (W.done s _ _ st.1 fun h' tk up le => h h' tk le fun b o q => up b o fun r => q (.tail _ r))
  self := fun i s Q E st => W.self i s Q E st.1
theorem pulls_pair {T0 : Nat} {x y : Str} {px py tp : Pos} {kk : Nat} {ce : Env} {I : Addr} {fp wr : List Addr} {n : Nat} {P : Nat → Array Value → Prop} {St : Nat → Heap → Prop} {Mid : Nat → Addr → Heap → Prop} (W : WalksT prog w A I fp wr n P St Mid)
    (hh : A.handled = none) (hP2 : ∀ i vs, P i vs → ∃ a b, vs = #[a, b]) (hxy : x ≠ y)
    (hx : ce.kindOf x = some .local) (hy : ce.kindOf y = some .local) (hp : (ce.scope.kind == .class || (ce.scope.kind == .module && ce.locals != ce.globals)) = false) (hC : ce.locals ∉ fp) :
    Pulls prog w A (.Tuple [.Name x px, .Name y py] kk tp) ce I fp wr n (fun i _ m' => ∃ a b, P i #[a, b] ∧ m' x = some a ∧ m' y = some b) St T0 where
  sub := W.sub
  frame := W.frame
  item := fun i s m Q Rn E _ hi st hn h => by
    have off : ∀ b ∈ fp, b ≠ ce.locals := fun b hb q => hC (q ▸ hb)
    have offL : ce.locals ∉ wr := fun q => off _ (W.sub _ q) rfl
    refine wpAny_with_toks (Nat.le_refl s.toks) (W.item i s _ _ hi st fun T vals h₁ tk pv _ gT mid up₁ le => ?_)
    obtain ⟨a, b, rfl⟩ := hP2 _ _ pv
    refine W.go _ _ _ i T _ _ _ mid fun h₂ st₂ up₂ => assign_Tuple_tuple hh (gT.at fun o => up₂ _ o (W.apart _ _ _ mid)) rfl rfl fun h₃ up₃ => ?_
    have all : ∀ c o, c ∉ wr → s.heap.get? c = some o → h₃.get? c = some o := fun c o hc e => have q := up₂ c o hc (up₁ c o hc e); up₃ c o (Nat.ne_of_lt (Heap.lt_size q)) q
    refine assignInOrder_cons (wpAny_assign_Name (wpAny_storeName_local hx (hn.at' fun o => all _ o offL) (fun h₄ n₄ s₄ => ?_) hp))
    refine assignInOrder_cons (wpAny_assign_Name (wpAny_storeName_local hy n₄ (fun h₅ n₅ s₅ => assignInOrder_nil ?_) hp))
    have last : ∀ c o, c ≠ ce.locals → h₃.get? c = some o → h₅.get? c = some o := fun c o hc e => s₅.extBut c o hc (s₄.extBut c o hc e)
    refine h h₅ _ _ (Nat.le_succ_of_le (Nat.le_succ_of_le le)) ⟨a, b, pv, (if_neg hxy).trans (if_pos rfl), if_pos rfl⟩ (W.frame _ _ _ st₂ fun c hc o e => last c o (off c hc) (up₃ c o (Nat.ne_of_lt (Heap.lt_size e)) e)) n₅ fun c o c1 c2 e => last c o c1 (all c o c2 e)
  done := fun s Q E st h => wpAny_with_toks (Nat.le_refl s.toks) (W.done s _ _ st fun h' tk up le => h h' tk le up)
  self := W.self
end

section
variable {prog : Program} {w : World} {A : Around} {E : Value → Shared → Prop} {s : Shared} {ifs : List PySem.Expr} {elt : PySem.Expr} {ce : Env}
/-- a turn's own part: at most one test, then the element -/
def Turn (prog : Program) (w : World) (A : Around) (ifs : List PySem.Expr) (elt : PySem.Expr) (ce : Env) (yes : Value → Shared → Prop) (no : Shared → Prop) (E : Value → Shared → Prop) (s : Shared) : Prop :=
  match ifs with
  | [] => wpAny (model prog w) A (eval elt ce) yes E s
  | [c] => wpAny (model prog w) A (isTrue c ce (eval c ce)) (fun ok s₃ => if ok = true then wpAny (model prog w) A (eval elt ce) yes E s₃ else no s₃) E s
  | _ => False
theorem Turn.use {yes yes' : Value → Shared → Prop} {no no' : Shared → Prop} (t : Turn prog w A ifs elt ce yes no E s) (hy : ∀ y s₄, s.toks ≤ s₄.toks → yes y s₄ → yes' y s₄) (hn : ∀ s₃, s.toks ≤ s₃.toks → no s₃ → no' s₃) :
    Turn prog w A ifs elt ce yes' no' E s := by
  match ifs, t with
  | [], t => exact wpAny_with_toks (Nat.le_refl _) (wpAny_mono t (fun y s₄ q le => hy y s₄ le q) fun _ _ e _ => e)
  | [_], t =>
    refine wpAny_with_toks (Nat.le_refl _) (wpAny_mono t (fun ok s₃ q le => ?_) fun _ _ e _ => e)
    cases ok
    · exact hn s₃ le q
    · exact wpAny_with_toks le (wpAny_mono q (fun y s₄ r le₄ => hy y s₄ le₄ r) fun _ _ e _ => e)
theorem turn_loop {tgt iter : PySem.Expr} {scope : Scope} {pos : Pos} {it acc : Value} {R : Result → Shared → Prop} (I : Nat → Shared → Prop) (hifs : ifs.length ≤ 1)
    (turn : ∀ n s, I n s → wpAny (model prog w) A (pyNext it) (fun r s₁ => match r with
      | none => R (.ok .next) s₁
      | some v => wpAny (model prog w) A (letOwnedTupleGo tgt it v) (fun _ s₀ => wpAny (model prog w) A (assign tgt ce v) (fun _ s₂ =>
          Turn prog w A ifs elt ce (fun y s₄ => wpAny (model prog w) A (call (.builtin "list.append") [acc, y]) (fun _ s₅ => ∃ m, m < n ∧ I m s₅) (notedBy (model prog w) A ce fun e s' => R (.error e) s') s₄)
            (fun s₃ => ∃ m, m < n ∧ I m s₃) (notedBy (model prog w) A ce fun e s' => R (.error e) s') s₂)
          (notedBy (model prog w) A ce fun e s' => R (.error e) s') s₀) (notedBy (model prog w) A ce fun e s' => R (.error e) s') s₁) (notedBy (model prog w) A ce fun e s' => R (.error e) s') s)
    (n : Nat) (h : I n s) : codeAny (model prog w) A (.compLoop (.ListComp elt [⟨tgt, iter, ifs, 0⟩] scope pos) 0 it acc ce) R s := by
  match ifs, hifs, turn with
  | [], _, turn => exact kcp_loop I turn n h
  | [_], _, turn => exact kct_loop I turn n h
  | _ :: _ :: _, q, _ => exact absurd q (Nat.not_le.mpr (Nat.succ_lt_succ (Nat.succ_pos _)))
end

/-- what the element (or the test that says no) of a turn leaves -/
structure CEnd (h₀ : Heap) (L : Addr) (m : Str → Option Value) (s : Shared) (must : List (Addr × Obj)) (Pn : List (Addr × Obj) → Nat → Prop) (s₄ : Shared) : Prop where
  out : ∃ h' tk' all own, s₄ = { s with heap := h', toks := tk' } ∧ Fr h₀ L h' m ∧ News h₀ L h' all ∧ (∀ p ∈ must, p ∈ all) ∧ (∀ p ∈ own, p ∈ all ∧ s.heap.get? p.1 = none) ∧ (s.toks ≤ tk' → Pn own tk')
theorem cend {h₀ : Heap} {L : Addr} {m : Str → Option Value} {s : Shared} {must all : List (Addr × Obj)} {Pn : List (Addr × Obj) → Nat → Prop} {h' : Heap} {tk' : Nat}
    (F : Fr h₀ L h' m) (N : News h₀ L h' all) (hm : ∀ p ∈ must, p ∈ all) (hP : s.toks ≤ tk' → Pn [] tk') : CEnd h₀ L m s must Pn { s with heap := h', toks := tk' } :=
  ⟨h', tk', all, [], rfl, F, N, hm, fun _ h => (nomatch h), hP⟩
theorem CEnd.less {h₀ : Heap} {L : Addr} {m : Str → Option Value} {s s₄ : Shared} {must must' : List (Addr × Obj)} {Pn : List (Addr × Obj) → Nat → Prop} (c : CEnd h₀ L m s must' Pn s₄) (q : ∀ p ∈ must, p ∈ must') : CEnd h₀ L m s must Pn s₄ :=
  let ⟨h', tk', all, own, e, F, N, k, r⟩ := c.out
  ⟨h', tk', all, own, e, F, N, fun p hp => k p (q p hp), r⟩

/-- the objects of a footprint, as a ledger -/
theorem its_of {h h₀ : Heap} {L : Addr} (fp : List Addr) (live : ∀ b ∈ fp, ∃ o, h.get? b = some o) :
    ∃ its : List (Addr × Obj), (∀ b ∈ fp, h₀.get? b = none → b ≠ L → ∃ o, (b, o) ∈ its) ∧ News h₀ L h its := by
  induction fp with
  | nil => exact ⟨[], fun _ h => (nomatch h), News.nil⟩
  | cons b fp ih =>
    obtain ⟨its, cov, N⟩ := ih fun c hc => live c (.tail _ hc)
    obtain ⟨o, ho⟩ := live b (.head _)
    by_cases q : h₀.get? b = none ∧ b ≠ L
    · refine ⟨(b, o) :: its, fun c hc e1 e2 => ?_, List.forall_mem_cons.mpr ⟨⟨ho, q.2, q.1⟩, N⟩⟩
      cases hc with
      | head => exact ⟨o, .head _⟩
      | tail _ hc => exact let ⟨o', g⟩ := cov c hc e1 e2; ⟨o', .tail _ g⟩
    · refine ⟨its, fun c hc e1 e2 => ?_, N⟩
      cases hc with
      | head => exact absurd ⟨e1, e2⟩ q
      | tail _ hc => exact cov c hc e1 e2

section
variable {prog : Program} {w : World} {A : Around} {E : Value → Shared → Prop} {s : Shared} {h₀ : Heap} {L : Addr} {m : Str → Option Value} {env : Env}
/-- the state between two turns -/
inductive BInv (s₂ : Shared) (h₀ : Heap) (L : Addr) (m : Str → Option Value) (news : List (Addr × Obj)) (n : Nat) (wr : List Addr) (C D : Addr) (St : Nat → Heap → Prop) (P : Nat → List Value → List (Addr × Obj) → Nat → Prop) : Nat → Shared → Prop
  | mk (h' : Heap) (tk i : Nat) (ys : List Value) (nws : List (Addr × Obj)) (m' : Str → Option Value) (hi : i ≤ n) (hyl : ys.length ≤ i) (hle : s₂.toks ≤ tk) (hst : St i h') (F : Fr h₀ L h' m) (hn : h'.Ns C m')
      (N : News h₀ L h' ((D, LCg.lst ys) :: (news ++ nws))) (off : ∀ p ∈ news ++ nws, p.1 ≠ C ∧ p.1 ≠ D ∧ p.1 ∉ wr) (dis : ∀ p ∈ nws, ∀ q ∈ news, p.1 ≠ q.1) (hP : P i ys nws tk) :
      BInv s₂ h₀ L m news n wr C D St P (n + 1 - i) { s₂ with heap := h', toks := tk }
/-- the state at a turn's end -/
inductive BEnds (s₂ : Shared) (h₀ : Heap) (L : Addr) (m : Str → Option Value) (news nws : List (Addr × Obj)) (wr : List Addr) (C D : Addr) (oC : Obj) (ys ys' : List Value) (i : Nat) (St : Nat → Heap → Prop) (P : Nat → List Value → List (Addr × Obj) → Nat → Prop) : Shared → Prop
  | mk (h₄ : Heap) (tk₄ : Nat) (own : List (Addr × Obj)) (F : Fr h₀ L h₄ m) (le : s₂.toks ≤ tk₄) (st : St (i + 1) h₄) (gC : h₄.get? C = some oC) (gD : h₄.get? D = some (LCg.lst ys)) (N : News h₀ L h₄ (news ++ (nws ++ own)))
      (off : ∀ p ∈ news ++ (nws ++ own), p.1 ≠ C ∧ p.1 ≠ D ∧ p.1 ∉ wr) (dis : ∀ p ∈ nws ++ own, ∀ q ∈ news, p.1 ≠ q.1) (hP : P (i + 1) ys' (nws ++ own) tk₄) :
      BEnds s₂ h₀ L m news nws wr C D oC ys ys' i St P { s₂ with heap := h₄, toks := tk₄ }
theorem inA {α : Type} {a : α} {x y z : List α} (h : a ∈ x) : a ∈ x ++ (y ++ z) := List.mem_append_left _ h
theorem inB {α : Type} {a : α} {x y z : List α} (h : a ∈ y) : a ∈ x ++ (y ++ z) := List.mem_append_right _ (List.mem_append_left _ h)
theorem inC {α : Type} {a : α} {x y z : List α} (h : a ∈ z) : a ∈ x ++ (y ++ z) := List.mem_append_right _ (List.mem_append_right _ h)
theorem in3 {α : Type} {a : α} {x y z : List α} (h : a ∈ x ++ (y ++ z)) : a ∈ x ++ y ∨ a ∈ z := by
  rw [← List.append_assoc] at h
  exact List.mem_append.mp h
open LCg in
/-- what a turn leaves, as the loop wants it -/
theorem turn_ends {fp wr : List Addr} {C D : Addr} {oC : Obj} {St : Nat → Heap → Prop} {P : Nat → List Value → List (Addr × Obj) → Nat → Prop} {s₂ s₄ : Shared} {news nws its : List (Addr × Obj)} {ys ys' : List Value} {i tk : Nat} {h : Heap}
    (sub : ∀ b ∈ wr, b ∈ fp) (frame : ∀ h', (∀ b ∈ fp, ∀ o, h.get? b = some o → h'.get? b = some o) → St (i + 1) h') (hL : L ∉ fp) (live : ∀ b ∈ fp, ∃ o, h.get? b = some o) (cov : ∀ b ∈ fp, h₀.get? b = none → b ≠ L → ∃ o, (b, o) ∈ its)
    (F : Fr h₀ L h m) (N : News h₀ L h ((C, oC) :: (D, lst ys) :: (news ++ (nws ++ its)))) (off : ∀ p ∈ news ++ nws, p.1 ≠ C ∧ p.1 ≠ D ∧ p.1 ∉ wr) (dis : ∀ p ∈ nws, ∀ q ∈ news, p.1 ≠ q.1) (le : s₂.toks ≤ tk) (le₄ : tk ≤ s₄.toks)
    (ce : CEnd h₀ L m { s₂ with heap := h, toks := tk } ((C, oC) :: (D, lst ys) :: (news ++ (nws ++ its))) (fun own tk' => P (i + 1) ys' (nws ++ own) tk') s₄) :
    BEnds s₂ h₀ L m news nws wr C D oC ys ys' i St P s₄ := by
  obtain ⟨h₄, tk₄, all, own, rfl, F₄, N₄, must, mine, last⟩ := ce.out
  have up : ∀ p ∈ (C, oC) :: (D, lst ys) :: (news ++ (nws ++ its)), h₄.get? p.1 = some p.2 ∧ p.1 ≠ L ∧ h₀.get? p.1 = none := fun p hp => N₄ p (must p hp)
  have inL : ∀ p ∈ news ++ (nws ++ its), p ∈ (C, oC) :: (D, lst ys) :: (news ++ (nws ++ its)) := fun p hp => .tail _ (.tail _ hp)
  have void : ∀ p ∈ own, h.get? p.1 = none := fun p hp => (mine p hp).2
  refine .mk h₄ tk₄ own F₄ (Nat.le_trans le le₄) (frame h₄ fun b hb o e => ?_) (up (C, oC) (.head _)).1 (up (D, lst ys) (.tail _ (.head _))).1 (fun p hp => ?_) (fun p hp => ?_) (fun p hp q hq e => ?_) (last le₄)
  · by_cases z : h₀.get? b = none
    · obtain ⟨o', g⟩ := cov b hb z fun q => hL (q ▸ hb)
      rw [← Option.some.inj ((N (b, o') (inL _ (inC g))).1.symm.trans e)]
      exact (up (b, o') (inL _ (inC g))).1
    · obtain ⟨o', g⟩ := Option.ne_none_iff_exists'.mp z
      rw [← Option.some.inj ((F.keep b o' g).symm.trans e)]
      exact F₄.keep b o' g
  · rcases in3 hp with q | q
    · rcases List.mem_append.mp q with q | q
      · exact up p (inL p (inA q))
      · exact up p (inL p (inB q))
    · exact N₄ p (mine p q).1
  · rcases in3 hp with q | q
    · exact off p q
    · refine ⟨fun r => ?_, fun r => ?_, fun r => ?_⟩
      · exact voidNe (r ▸ void p q) (N (C, oC) (.head _)).1 rfl
      · exact voidNe (r ▸ void p q) (N (D, lst ys) (.tail _ (.head _))).1 rfl
      · exact voidIn (void p q) live (sub _ r)
  · rcases List.mem_append.mp hp with r | r
    · exact dis p r q hq e
    · exact voidNe (void p r) (N q (inL q (inA hq))).1 e.symm
open LCg in
/-- what a turn shows, in the comprehension's own block -/
abbrev ETurn (prog : Program) (w : World) (A : Around) (h₀ : Heap) (L : Addr) (m : Str → Option Value) (elt : PySem.Expr) (ifs : List PySem.Expr) (ce : Env) (s : Shared) (P : Nat → List Value → List (Addr × Obj) → Nat → Prop)
    (i : Nat) (ys : List Value) (nws must : List (Addr × Obj)) (h : Heap) (tk : Nat) (E' : Value → Shared → Prop) : Prop :=
  Turn prog w A ifs elt ce (fun y s₄ => CEnd h₀ L m { s with heap := h, toks := tk } must (fun own tk' => P (i + 1) (ys ++ [y]) (nws ++ own) tk') s₄)
    (fun s₃ => CEnd h₀ L m { s with heap := h, toks := tk } must (fun own tk' => P (i + 1) ys (nws ++ own) tk') s₃) E' { s with heap := h, toks := tk }
open LCg in
/-- the loop of a comprehension, from where its list D and its names' dict stand -/
theorem own_loop {elt iter tgt : PySem.Expr} {ifs : List PySem.Expr} {scope : Scope} {pos : Pos} {ce : Env} {s₂ : Shared} {I D : Addr} {fp wr : List Addr} {n tk₁ : Nat} {B : Nat → Heap → (Str → Option Value) → Prop} {St : Nat → Heap → Prop} {news : List (Addr × Obj)} {R : Result → Shared → Prop} {h₁ : Heap} {m₁ : Str → Option Value}
    (P : Nat → List Value → List (Addr × Obj) → Nat → Prop) (W : Pulls prog w A tgt ce I fp wr n B St s₂.toks) (hifs : ifs.length ≤ 1) (hsz : n ≤ sizeLine) (live : ∀ i h, St i h → ∀ b ∈ fp, ∃ o, h.get? b = some o)
    (hwr : ∀ b ∈ wr, h₀.get? b = none ∧ b ≠ L ∧ ∀ p ∈ news, p.1 ≠ b) (hL : L ∉ fp) (hst : St 0 h₁) (hn : h₁.Ns ce.locals m₁) (hD : h₁.get? D = some (lst [])) (Cfp : ce.locals ∉ fp) (Dfp : D ∉ fp) (DC : D ≠ ce.locals)
    (vC : h₀.get? ce.locals = none ∧ ce.locals ≠ L) (vD : h₀.get? D = none ∧ D ≠ L) (offC : ∀ p ∈ news, p.1 ≠ ce.locals) (offD : ∀ p ∈ news, p.1 ≠ D)
    (F : Fr h₀ L h₁ m) (N : News h₀ L h₁ news) (hmono : ∀ i ys nws tk tk', P i ys nws tk → tk ≤ tk' → P i ys nws tk') (h0 : P 0 [] [] s₂.toks) (le₁ : s₂.toks ≤ tk₁)
    (turn : ∀ i ys nws its h tk oC m₂ E', i < n → s₂.toks ≤ tk → P i ys nws tk → B i h m₂ → NsObj oC m₂ → Fr h₀ L h m → News h₀ L h ((ce.locals, oC) :: (D, lst ys) :: (news ++ (nws ++ its))) →
      ETurn prog w A h₀ L m elt ifs ce s₂ P i ys nws ((ce.locals, oC) :: (D, lst ys) :: (news ++ (nws ++ its))) h tk E')
    (fin : ∀ h tk m' ys nws, s₂.toks ≤ tk → P n ys nws tk → Fr h₀ L h m → News h₀ L h ((D, lst ys) :: (news ++ nws)) → (∀ p ∈ news ++ nws, p.1 ≠ D ∧ p.1 ≠ ce.locals) → (∀ p ∈ nws, ∀ q ∈ news, p.1 ≠ q.1) → h.Ns ce.locals m' → R (.ok .next) { s₂ with heap := h, toks := tk }) :
    codeAny (model prog w) A (.compStart (.ListComp elt [⟨tgt, iter, ifs, 0⟩] scope pos) 0 (.ref I) (.ref D) ce) R { s₂ with heap := h₁, toks := tk₁ } := by
  have loop : codeAny (model prog w) A (.compLoop (.ListComp elt [⟨tgt, iter, ifs, 0⟩] scope pos) 0 (.ref I) (.ref D) ce) R { s₂ with heap := h₁, toks := tk₁ } := by
    refine turn_loop (BInv s₂ h₀ L m news n wr ce.locals D St P) hifs ?_ (n + 1) (.mk h₁ tk₁ 0 [] [] m₁ (Nat.zero_le _) (Nat.le_refl _) le₁ hst F hn ?_ ?_ (fun _ h => nomatch h) (hmono _ _ _ _ _ h0 le₁))
    · rintro k s' ⟨h', tk, i, ys, nws, m', hi, hyl, hle, hst', F', hn', N', off', dis', hP'⟩
      have upF : ∀ h'', (∀ b o, b ≠ ce.locals → b ∉ wr → h'.get? b = some o → h''.get? b = some o) → Fr h₀ L h'' m := fun h'' up =>
        ⟨F'.ns.at' fun o => up L o (Ne.symm vC.2) fun q => (hwr L q).2.1 rfl, fun b o e => up b o (voidNe vC.1 e) (fun q => voidNe (hwr b q).1 e rfl) (F'.keep b o e), F'.above⟩
      by_cases hlt : i < n
      · refine W.item i _ _ _ _ _ hle hlt hst' hn' fun h₂ tk₂ m₂ le₂ b₂ st₂ n₂ up => ?_
        obtain ⟨oC, gC, rC⟩ := ns_obj n₂
        obtain ⟨its, cov, NI⟩ := its_of (h₀ := h₀) (L := L) fp (live _ _ st₂)
        have N₂ : News h₀ L h₂ ((ce.locals, oC) :: (D, lst ys) :: (news ++ (nws ++ its))) := by
          refine List.forall_mem_cons.mpr ⟨⟨gC, vC.2, vC.1⟩, List.forall_mem_cons.mpr ⟨⟨up _ _ DC (fun q => Dfp (W.sub _ q)) (N' (D, lst ys) (.head _)).1, vD.2, vD.1⟩, fun p hp => ?_⟩⟩
          rcases in3 hp with q | q
          · exact ⟨up _ _ (off' p q).1 (off' p q).2.2 (N' p (.tail _ q)).1, (N' p (.tail _ q)).2⟩
          · exact NI p q
        have le := Nat.le_trans hle le₂
        have ends := fun ys' s₄ => turn_ends (ys' := ys') (s₄ := s₄) (P := P) W.sub (fun h' k => W.frame _ _ h' st₂ k) hL (live _ _ st₂) cov (upF h₂ up) N₂ off' dis' le
        refine (turn i ys nws its h₂ tk₂ oC m₂ _ hlt le (hmono _ _ _ _ _ hP' le₂) b₂ rC (upF h₂ up) N₂).use (fun y s₄ le₄ q => ?_) fun s₃ le₃ q => ?_
        · obtain ⟨h₅, tk₅, own, F₅, le₅, st₅, gC₅, gD, N₅, off₅, dis₅, P₅⟩ := ends _ s₄ le₄ q
          refine append_at (hsz := by rw [List.size_toArray]; exact Nat.le_trans (Nat.le_trans hyl hi) hsz) gD fun h₆ sb gD₆ => ?_
          refine ⟨n + 1 - (i + 1), by omega, .mk h₆ tk₅ (i + 1) (ys ++ [y]) (nws ++ own) m₂ hlt (by simpa using hyl) le₅ (W.frame _ _ _ st₅ fun b hb o => sb.extBut b o fun q => Dfp (q ▸ hb)) (F₅.change sb vD.2 vD.1) ((rC.ns gC₅).sameBut sb (Ne.symm DC)) ?_ off₅ dis₅ P₅⟩
          exact List.forall_mem_cons.mpr ⟨⟨gD₆.trans (congrArg some (lst_snoc ys y)), vD.2, vD.1⟩, fun p hp => ⟨sb.extBut _ _ (off₅ p hp).2.1 (N₅ p hp).1, (N₅ p hp).2⟩⟩
        · obtain ⟨h₅, tk₅, own, F₅, le₅, st₅, gC₅, gD, N₅, off₅, dis₅, P₅⟩ := ends _ s₃ le₃ q
          exact ⟨n + 1 - (i + 1), by omega, .mk h₅ tk₅ (i + 1) ys (nws ++ own) m₂ hlt (Nat.le_succ_of_le hyl) le₅ st₅ F₅ (rC.ns gC₅) (List.forall_mem_cons.mpr ⟨⟨gD, vD.2, vD.1⟩, N₅⟩) off₅ dis₅ P₅⟩
      · obtain rfl : i = n := Nat.le_antisymm hi (Nat.not_lt.mp hlt)
        refine W.done _ _ _ hst' fun h₂ tk₂ le₂ up => ?_
        refine fin h₂ tk₂ m' ys nws (Nat.le_trans hle le₂) (hmono _ _ _ _ _ hP' le₂) (upF h₂ fun b o _ => up b o) ?_ (fun p hp => ⟨(off' p hp).2.1, (off' p hp).1⟩) dis' (hn'.at' fun o => up _ o fun q => Cfp (W.sub _ q))
        exact List.forall_mem_cons.mpr ⟨⟨up _ _ (fun q => Dfp (W.sub _ q)) (N' (D, lst ys) (.head _)).1, vD.2, vD.1⟩, fun p hp => ⟨up _ _ (off' p hp).2.2 (N' p (.tail _ hp)).1, (N' p (.tail _ hp)).2⟩⟩
    · rw [List.append_nil]; exact List.forall_mem_cons.mpr ⟨⟨hD, vD.2, vD.1⟩, N⟩
    · rw [List.append_nil]; exact fun p hp => ⟨offC p hp, offD p hp, fun q => (hwr _ q).2.2 p hp rfl⟩
  exact codeAny_compStart_list loop (W.self 0 _ _ _ hst loop)

abbrev cblock (prog : Program) (w : World) (A : Around) (E : Value → Shared → Prop) (env : Env) (elt tgt iter : PySem.Expr) (ifs : List PySem.Expr) (scope : Scope) (cl : List (Str × Addr)) (pos : Pos) (RR : Value → Addr → Result → Shared → Prop) (it : Value) (s₂ : Shared) : Prop :=
  wpAny (model prog w) A (newList []) (fun acc s₃ => wpAny (model prog w) A (newFunctionEnv scope env.globals cl [] env.qual none .none (some env)) (fun cenv s₄ =>
      codeAny (model prog w) A (.compStart (.ListComp elt [⟨tgt, iter, ifs, 0⟩] scope pos) 0 it acc { cenv with scope := relabel scope env }) (RR acc cenv.locals) s₄) E s₃) E s₂
/-- the list and the names' dict of a comprehension, where nothing stood -/
structure Laid (h h₁ : Heap) (D C : Addr) : Prop where
  up : ∀ b o, h.get? b = some o → h₁.get? b = some o
  atD : h₁.get? D = some (LCg.lst [])
  atC : ∃ m, h₁.Ns C m
  noD : h.get? D = none
  noC : h.get? C = none
  DC : D ≠ C
theorem lay_comp {elt iter tgt : PySem.Expr} {ifs : List PySem.Expr} {scope : Scope} {cl : List (Str × Addr)} {pos : Pos} {it : Value} {RR : Value → Addr → Result → Shared → Prop} (hcell : ∀ y ∈ scope.names, y.2 ≠ .cell) (hkind : scope.kind = .function)
    (go : ∀ D C h₁, Laid s.heap h₁ D C → codeAny (model prog w) A (.compStart (.ListComp elt [⟨tgt, iter, ifs, 0⟩] scope pos) 0 it (.ref D) (compEnvC scope cl C env)) (RR (.ref D) C) { s with heap := h₁ }) :
    cblock prog w A E env elt tgt iter ifs scope cl pos RR it s := by
  refine wpAny_newObj_type (wpAny_newFunctionEnv hcell (fun _ hy => nomatch hy) (fun h₁ ns sb => go s.heap.objs.size _ h₁ ?_) hkind)
  have keep : ∀ b o, (s.heap.push { cls := .type "list", dict := none, data := .seq ([] : List Value).toArray }).get? b = some o → h₁.get? b = some o := fun b o e =>
    sb.extBut b o (voidNe (Heap.get?_none_of_le (Nat.le_refl _)) e) (Heap.get?_push_of_some _ e)
  exact ⟨fun b o e => keep b o (Heap.get?_push_of_some _ e), keep _ _ (Heap.get?_push_size _ rfl), ⟨_, ns⟩, Heap.get?_none_of_le (Nat.le_refl _), Heap.get?_none_of_le (by rw [Heap.size_push]; exact Nat.le_succ _),
    voidNe (Heap.get?_none_of_le (Nat.le_refl _)) (Heap.get?_push_size _ rfl)⟩

open LCg in
/-- what a turn shows -/
abbrev CTurn (prog : Program) (w : World) (A : Around) (h₀ : Heap) (L : Addr) (m : Str → Option Value) (env : Env) (elt : PySem.Expr) (ifs : List PySem.Expr) (scope : Scope) (cl : List (Str × Addr)) (s : Shared) (P : Nat → List Value → List (Addr × Obj) → Nat → Prop)
    (i : Nat) (ys : List Value) (nws : List (Addr × Obj)) (must : List (Addr × Obj)) (h : Heap) (tk : Nat) (C : Addr) (E' : Value → Shared → Prop) : Prop :=
  ETurn prog w A h₀ L m elt ifs (compEnvC scope cl C env) s P i ys nws must h tk E'
open LCg in
theorem block_own {elt iter tgt : PySem.Expr} {ifs : List PySem.Expr} {scope : Scope} {cl : List (Str × Addr)} {pos : Pos} {s₂ : Shared} {I : Addr} {fp wr : List Addr} {n : Nat} {B : Nat → Heap → (Str → Option Value) → Prop} {St : Nat → Heap → Prop} {news : List (Addr × Obj)}
    {RR : Value → Addr → Result → Shared → Prop} (P : Nat → List Value → List (Addr × Obj) → Nat → Prop)
    (W : ∀ C, C ∉ fp → Pulls prog w A tgt (compEnvC scope cl C env) I fp wr n B St s₂.toks) (hifs : ifs.length ≤ 1) (hsz : n ≤ sizeLine) (hlive : ∀ i h, St i h → ∀ b ∈ fp, ∃ o, h.get? b = some o)
    (hwr : ∀ b ∈ wr, h₀.get? b = none ∧ b ≠ L ∧ ∀ p ∈ news, p.1 ≠ b) (hL : L ∉ fp) (hst : St 0 s₂.heap) (hcell : ∀ y ∈ scope.names, y.2 ≠ .cell) (hkind : scope.kind = .function)
    (F : Fr h₀ L s₂.heap m) (N : News h₀ L s₂.heap news) (hmono : ∀ i ys nws tk tk', P i ys nws tk → tk ≤ tk' → P i ys nws tk') (h0 : P 0 [] [] s₂.toks)
    (turn : ∀ i ys nws its h tk C D oC m₂ (E' : Value → Shared → Prop), i < n → s₂.toks ≤ tk → P i ys nws tk → B i h m₂ → NsObj oC m₂ → Fr h₀ L h m → News h₀ L h ((C, oC) :: (D, lst ys) :: (news ++ (nws ++ its))) →
      CTurn prog w A h₀ L m env elt ifs scope cl s₂ P i ys nws ((C, oC) :: (D, lst ys) :: (news ++ (nws ++ its))) h tk C E')
    (hRR : ∀ D C h tk m' ys nws, s₂.toks ≤ tk → P n ys nws tk → Fr h₀ L h m → News h₀ L h ((D, lst ys) :: (news ++ nws)) → (∀ p ∈ news ++ nws, p.1 ≠ D ∧ p.1 ≠ C) → (∀ p ∈ nws, ∀ q ∈ news, p.1 ≠ q.1) → h.Ns C m' → s₂.heap.get? D = none → h₀.get? C = none → C ≠ L → C ≠ D → RR (.ref D) C (.ok .next) { s₂ with heap := h, toks := tk }) :
    cblock prog w A E env elt tgt iter ifs scope cl pos RR (.ref I) s₂ := by
  refine lay_comp hcell hkind fun D C h₁ X => ?_
  obtain ⟨m₁, n₁⟩ := X.atC
  have Cfp := voidIn X.noC (hlive _ _ hst)
  have vC := voidFr F X.noC
  exact own_loop P (W C Cfp) hifs hsz hlive hwr hL ((W C Cfp).frame _ _ _ hst fun b _ => X.up b) n₁ X.atD Cfp (voidIn X.noD (hlive _ _ hst)) X.DC vC (voidFr F X.noD) (voidNews N X.noC) (voidNews N X.noD) (F.keeps X.up) (N.grown X.up) hmono h0 (Nat.le_refl _)
    (fun i ys nws its h tk oC m₂ E' hi le hP hB hC F' N' => turn i ys nws its h tk C D oC m₂ E' hi le hP hB hC F' N')
    fun h tk m' ys nws le hP F' N' off dis hn => hRR D C h tk m' ys nws le hP F' N' off dis hn X.noD vC.1 vC.2 (Ne.symm X.DC)

theorem comp_E {elt iter tgt : PySem.Expr} {ifs : List PySem.Expr} {scope : Scope} {cl : List (Str × Addr)} {pos : Pos} {Q : Value → Shared → Prop}
    (hclos : closureFor scope env = pure cl) (hkind : scope.kind = .function) (hnames : ∀ y ∈ scope.names, y.2 = .local → scope.names.lookup y.1 = some .local)
    (h : wpAny (model prog w) A (eval iter env) (fun xv s₁ => Halt (wpAny (model prog w) A (pyIter xv) (cblock prog w A E env elt tgt iter ifs scope cl pos (compPost (model prog w) A E none Q)) E s₁)) E s)
    (hs : ∀ x, foldedSetIterable iter env x = pure x := by intro _; rfl) :
    wpAny (model prog w) A (eval (.ListComp elt [⟨tgt, iter, ifs, 0⟩] scope pos) env) Q E s :=
  eval_ListComp .. ▸ wpAny_comprehension_free (use := none) rfl hs hclos hkind hnames h
theorem comp_A {elt iter tgt : PySem.Expr} {ifs : List PySem.Expr} {y : Str} {py : Pos} {scope : Scope} {cl : List (Str × Addr)} {pos spos : Pos} {Q : Flow → Shared → Prop}
    (hsw : swapsWith (.ListComp elt [⟨tgt, iter, ifs, 0⟩] scope pos) (some (.Name y py)) spos.line env = pure true)
    (hclos : closureFor scope env = pure cl) (hkind : scope.kind = .function) (hnames : ∀ y ∈ scope.names, y.2 = .local → scope.names.lookup y.1 = some .local)
    (h : wpAny (model prog w) A (eval iter env) (fun xv s₁ => Halt (wpAny (model prog w) A (pyIter xv) (cblock prog w A E env elt tgt iter ifs scope cl pos (compPost (model prog w) A E (some (assign (.Name y py) env)) (fun _ s' => Q .next s'))) E s₁)) E s)
    (hs : ∀ x, foldedSetIterable iter env x = pure x := by intro _; rfl) :
    wpAny (model prog w) A (exec (.Assign [.Name y py] (.ListComp elt [⟨tgt, iter, ifs, 0⟩] scope pos) spos) env) Q E s := by
  have c := fun p => wpAny_comprehension_free (pos := p) (newAcc := newList []) (e := .ListComp elt [⟨tgt, iter, ifs, 0⟩] scope pos) rfl hs hclos hkind hnames h
  rw [exec_Assign_Name_used (hs := hsw)]
  exact wpAny_bind (wpAny_standAt (wpAny_bind (wpAny_bind (wpAny_mono (c _) (fun _ _ q => wpAny_pure (wpAny_pure q)) fun _ _ e => e))))

/-- the names' dict is let go: all else stands -/
theorem gone {C : Addr} {h h' : Heap} {led : List (Addr × Obj)} (sb : Heap.SameBut C h h') (vC : h₀.get? C = none) (CL : C ≠ L) (F : Fr h₀ L h m) (N : News h₀ L h led) (off : ∀ p ∈ led, p.1 ≠ C) : Fr h₀ L h' m ∧ News h₀ L h' led :=
  ⟨F.change sb CL vC, fun p hp => ⟨sb.extBut _ _ (off p hp) (N p hp).1, (N p hp).2⟩⟩
open LCg in
/-- what the user shows at the end, by what follows the comprehension -/
theorem post_E {s : Shared} {n : Nat} {P : Nat → List Value → List (Addr × Obj) → Nat → Prop} {news : List (Addr × Obj)} {Q : Value → Shared → Prop}
    (h : ∀ D ys nws h tk, s.toks ≤ tk → P n ys nws tk → Fr h₀ L h m → News h₀ L h ((D, lst ys) :: (news ++ nws)) → s.heap.get? D = none → Q (.ref D) { s with heap := h, toks := tk }) :
    ∀ D C h tk m' ys nws, s.toks ≤ tk → P n ys nws tk → Fr h₀ L h m → News h₀ L h ((D, lst ys) :: (news ++ nws)) → (∀ p ∈ news ++ nws, p.1 ≠ D ∧ p.1 ≠ C) → (∀ p ∈ nws, ∀ q ∈ news, p.1 ≠ q.1) → h.Ns C m' → s.heap.get? D = none → h₀.get? C = none → C ≠ L → C ≠ D →
      compPost (model prog w) A E none Q (.ref D) C (.ok .next) { s with heap := h, toks := tk } := fun D C _ tk m' ys nws le hP F N off _ hn hD vC CL CD =>
  ⟨m', hn, fun h'' sb =>
    have G := gone sb vC CL F N (List.forall_mem_cons.mpr ⟨Ne.symm CD, fun p hp => (off p hp).2⟩)
    h D ys nws h'' tk le hP G.1 G.2 hD⟩
open LCg in
theorem post_A {s : Shared} {n : Nat} {P : Nat → List Value → List (Addr × Obj) → Nat → Prop} {news : List (Addr × Obj)} {y : Str} {py : Pos} {Q : Shared → Prop} (hLe : env.locals = L) (hy : env.kindOf y = some .local)
    (hp : (env.scope.kind == .class || (env.scope.kind == .module && env.locals != env.globals)) = false)
    (h : ∀ D ys nws h tk, s.toks ≤ tk → P n ys nws tk → Fr h₀ L h (fun z => if z = y then some (.ref D) else m z) → News h₀ L h ((D, lst ys) :: (news ++ nws)) → s.heap.get? D = none → Q { s with heap := h, toks := tk })
    (hmono : ∀ i ys nws tk tk', P i ys nws tk → tk ≤ tk' → P i ys nws tk') :
    ∀ D C h tk m' ys nws, s.toks ≤ tk → P n ys nws tk → Fr h₀ L h m → News h₀ L h ((D, lst ys) :: (news ++ nws)) → (∀ p ∈ news ++ nws, p.1 ≠ D ∧ p.1 ≠ C) → (∀ p ∈ nws, ∀ q ∈ news, p.1 ≠ q.1) → h.Ns C m' → s.heap.get? D = none → h₀.get? C = none → C ≠ L → C ≠ D →
      compPost (model prog w) A E (some (assign (.Name y py) env)) (fun _ s' => Q s') (.ref D) C (.ok .next) { s with heap := h, toks := tk } := by
  subst hLe
  intro D C h' tk m' ys nws le hP F N off _ hn hD vC CL CD
  refine wpAny_assign_Name (wpAny_storeName_local hy F.ns (fun h₂ n₂ s₂ => ⟨m', hn.sameBut s₂ CL, fun h'' sb => ?_⟩) hp)
  have G := gone sb vC CL (F.set n₂ s₂) (N.set s₂) (List.forall_mem_cons.mpr ⟨Ne.symm CD, fun p hp => (off p hp).2⟩)
  exact h D ys nws h'' _ (Nat.le_succ_of_le le) (hmono _ _ _ _ _ hP (Nat.le_succ _)) G.1 G.2 hD
open LCg in
theorem post_C {s : Shared} {n : Nat} {P : Nat → List Value → List (Addr × Obj) → Nat → Prop} {news : List (Addr × Obj)} {g : Obj → List (Addr × Obj)} {c : Addr} {o : Obj} {v₀ : Option Value} {y : Str} {py : Pos} {Q : Shared → Prop} (hk : env.scope.kind = .function) (hy : env.kindOf y = some .cell)
    (hc : env.cells.lookup y = some c) (U : UpdF c o news g) (hd : o.data = .cell v₀)
    (h : ∀ D ys nws h tk o', s.toks ≤ tk → P n ys nws tk → Fr h₀ L h m → o'.data = .cell (some (.ref D)) → News h₀ L h ((D, lst ys) :: (g o' ++ nws)) → s.heap.get? D = none → Q { s with heap := h, toks := tk }) :
    ∀ D C h tk m' ys nws, s.toks ≤ tk → P n ys nws tk → Fr h₀ L h m → News h₀ L h ((D, lst ys) :: (news ++ nws)) → (∀ p ∈ news ++ nws, p.1 ≠ D ∧ p.1 ≠ C) → (∀ p ∈ nws, ∀ q ∈ news, p.1 ≠ q.1) → h.Ns C m' → s.heap.get? D = none → h₀.get? C = none → C ≠ L → C ≠ D →
      compPost (model prog w) A E (some (assign (.Name y py) env)) (fun _ s' => Q s') (.ref D) C (.ok .next) { s with heap := h, toks := tk } := by
  intro D C h' tk m' ys nws le hP F N off dis hn hD vC CL CD
  obtain ⟨pre, post, rfl, hg, h1, h2⟩ := U.split
  have shape : ∀ o, (D, lst ys) :: ((pre ++ (c, o) :: post) ++ nws) = ((D, lst ys) :: pre) ++ (c, o) :: (post ++ nws) := fun o => by simp only [List.cons_append, List.append_assoc]
  have inN : (c, o) ∈ pre ++ (c, o) :: post := List.mem_append_right _ (.head _)
  have oc := off (c, o) (List.mem_append_left _ inN)
  have zc := N (c, o) (.tail _ (List.mem_append_left _ inN))
  refine wpAny_assign_Name (wpAny_storeName_cell hk hy hc ⟨o, zc.1, hd⟩ fun h₂ v₂ s₂ => ?_)
  obtain ⟨o', g', d'⟩ := v₂
  refine ⟨m', hn.sameBut s₂ (Ne.symm oc.2), fun h'' sb => ?_⟩
  have N₂ : News h₀ L h₂ ((D, lst ys) :: ((pre ++ (c, o') :: post) ++ nws)) := by
    rw [shape] at N ⊢
    refine N.setAt (List.forall_mem_cons.mpr ⟨Ne.symm oc.1, h1⟩) (fun p hp => ?_) s₂ g'
    rcases List.mem_append.mp hp with q | q
    · exact h2 p q
    · exact dis p q _ inN
  have G := gone sb vC CL (F.change s₂ zc.2.1 zc.2.2) N₂ (List.forall_mem_cons.mpr ⟨Ne.symm CD, fun p hp => ?_⟩)
  · exact h D ys nws h'' tk o' le hP G.1 d' (hg o' ▸ G.2) hD
  · rcases List.mem_append.mp hp with q | q
    · rcases List.mem_append.mp q with q | q
      · exact (off p (List.mem_append_left _ (List.mem_append_left _ q))).2
      · rcases List.mem_cons.mp q with rfl | q
        · exact oc.2
        · exact (off p (List.mem_append_left _ (List.mem_append_right _ (.tail _ q)))).2
    · exact (off p (List.mem_append_right _ q)).2

theorem cturn0 {elt : PySem.Expr} {scope : Scope} {cl : List (Str × Addr)} {P : Nat → List Value → List (Addr × Obj) → Nat → Prop} {i : Nat} {ys : List Value} {nws must : List (Addr × Obj)} {h : Heap} {tk : Nat} {C : Addr} {E' : Value → Shared → Prop}
    (ht : wpAny (model prog w) A (eval elt (compEnvC scope cl C env)) (fun y s₄ => CEnd h₀ L m { s with heap := h, toks := tk } must (fun own tk' => P (i + 1) (ys ++ [y]) (nws ++ own) tk') s₄) E' { s with heap := h, toks := tk }) :
    CTurn prog w A h₀ L m env elt [] scope cl s P i ys nws must h tk C E' := ht
theorem cturn1 {elt c : PySem.Expr} {scope : Scope} {cl : List (Str × Addr)} {P : Nat → List Value → List (Addr × Obj) → Nat → Prop} {i : Nat} {ys : List Value} {nws must : List (Addr × Obj)} {h : Heap} {tk : Nat} {C : Addr} {E' : Value → Shared → Prop}
    (ht : wpAny (model prog w) A (isTrue c (compEnvC scope cl C env) (eval c (compEnvC scope cl C env))) (fun ok s₃ =>
      if ok = true then wpAny (model prog w) A (eval elt (compEnvC scope cl C env)) (fun y s₄ => CEnd h₀ L m { s with heap := h, toks := tk } must (fun own tk' => P (i + 1) (ys ++ [y]) (nws ++ own) tk') s₄) E' s₃
      else CEnd h₀ L m { s with heap := h, toks := tk } must (fun own tk' => P (i + 1) ys (nws ++ own) tk') s₃) E' { s with heap := h, toks := tk }) :
    CTurn prog w A h₀ L m env elt [c] scope cl s P i ys nws must h tk C E' := ht
theorem cturn1q {elt c : PySem.Expr} {scope : Scope} {cl : List (Str × Addr)} {P : Nat → List Value → List (Addr × Obj) → Nat → Prop} {i : Nat} {ys : List Value} {nws must : List (Addr × Obj)} {h : Heap} {tk : Nat} {C : Addr} {E' : Value → Shared → Prop}
    (ht : ∀ (QC : Value → Shared → Prop) (QD : Shared → Prop), (∀ y s₄, CEnd h₀ L m { s with heap := h, toks := tk } must (fun own tk' => P (i + 1) (ys ++ [y]) (nws ++ own) tk') s₄ → QC y s₄) →
      (∀ s₃, CEnd h₀ L m { s with heap := h, toks := tk } must (fun own tk' => P (i + 1) ys (nws ++ own) tk') s₃ → QD s₃) →
      wpAny (model prog w) A (isTrue c (compEnvC scope cl C env) (eval c (compEnvC scope cl C env))) (fun ok s₃ => if ok = true then wpAny (model prog w) A (eval elt (compEnvC scope cl C env)) QC E' s₃ else QD s₃) E' { s with heap := h, toks := tk }) :
    CTurn prog w A h₀ L m env elt [c] scope cl s P i ys nws must h tk C E' := cturn1 (ht _ _ (fun _ _ x => x) fun _ x => x)
end
section
variable {prog : Program} {w : World} {A : Around} {E : Value → Shared → Prop} {s : Shared} {h₀ : Heap} {L : Addr} {m : Str → Option Value} {env : Env}
theorem lookL {scope : Scope} {cl : List (Str × Addr)} {C : Addr} {x : Str} (hx : scope.names.lookup x = some .local) : (compEnvC scope cl C env).kindOf x = some .local := lookup_relabel_local hx
theorem kindF {scope : Scope} {cl : List (Str × Addr)} {C : Addr} (hk : scope.kind = .function) : ((compEnvC scope cl C env).scope.kind == .class || ((compEnvC scope cl C env).scope.kind == .module && (compEnvC scope cl C env).locals != (compEnvC scope cl C env).globals)) = false := by
  simp [compEnvC, relabel, hk]
open LCg in
theorem src_list {elt iter : PySem.Expr} {x : Str} {px : Pos} {ifs : List PySem.Expr} {scope : Scope} {cl : List (Str × Addr)} {pos : Pos} {ax : Addr} {its : Array Value} {news : List (Addr × Obj)} {RR : Value → Addr → Result → Shared → Prop}
    (P : Nat → List Value → List (Addr × Obj) → Nat → Prop) (hh : A.handled = none) (hl : s.heap.IsList ax its) (hsz : its.size ≤ sizeLine) (hx : scope.names.lookup x = some .local) (hcell : ∀ y ∈ scope.names, y.2 ≠ .cell) (hkind : scope.kind = .function)
    (F : Fr h₀ L s.heap m) (N : News h₀ L s.heap news) (haL : ax ≠ L) (hmono : ∀ i ys nws tk tk', P i ys nws tk → tk ≤ tk' → P i ys nws tk') (h0 : P 0 [] [] s.toks)
    (turn : ∀ i v ys nws its' h tk C D oC m₂ E', s.toks ≤ tk → P i ys nws tk → its[i]? = some v → m₂ x = some v → NsObj oC m₂ → Fr h₀ L h m → News h₀ L h ((C, oC) :: (D, lst ys) :: (news ++ (nws ++ its'))) →
      CTurn prog w A h₀ L m env elt ifs scope cl s P i ys nws ((C, oC) :: (D, lst ys) :: (news ++ (nws ++ its'))) h tk C E')
    (hRR : ∀ D C h tk m' ys nws, s.toks ≤ tk → P its.size ys nws tk → Fr h₀ L h m → News h₀ L h ((D, lst ys) :: (news ++ nws)) → (∀ p ∈ news ++ nws, p.1 ≠ D ∧ p.1 ≠ C) → (∀ p ∈ nws, ∀ q ∈ news, p.1 ≠ q.1) → h.Ns C m' → s.heap.get? D = none → h₀.get? C = none → C ≠ L → C ≠ D → RR (.ref D) C (.ok .next) { s with heap := h, toks := tk })
    (hifs : ifs.length ≤ 1 := by decide) :
    wpAny (model prog w) A (pyIter (.ref ax)) (cblock prog w A E env elt (.Name x px) iter ifs scope cl pos RR) E s := by
  have up : ∀ b o, s.heap.get? b = some o → (s.heap.push { cls := .type "list_iterator", data := .fields #[.ref ax, .int 0 0] }).get? b = some o := fun _ _ => Heap.get?_push_of_some _
  have no : s.heap.get? s.heap.objs.size = none := Heap.get?_none_of_le (Nat.le_refl _)
  have ne : ax ≠ s.heap.objs.size := let ⟨_, e, _⟩ := hl; voidNe no e
  refine wpAny_pyIter_list hl ?_
  refine block_own (I := s.heap.objs.size) (fp := [s.heap.objs.size, ax]) (wr := [s.heap.objs.size]) P (fun C hC => pulls_name (Walks.list hh s.heap.objs.size ax ne its) (lookL hx) (kindF hkind) hC) hifs hsz
    (fun i h st => List.forall_mem_cons.mpr ⟨let ⟨o, e, _⟩ := st.1; ⟨o, e⟩, List.forall_mem_cons.mpr ⟨let ⟨o, e, _⟩ := st.2; ⟨o, e⟩, fun _ q => nomatch q⟩⟩)
    (List.forall_mem_cons.mpr ⟨⟨(voidFr F no).1, (voidFr F no).2, voidNews N no⟩, fun _ q => nomatch q⟩) (fun q => ?_) ⟨⟨_, Heap.get?_push_size _ rfl, rfl, rfl⟩, hl.push _⟩ hcell hkind (F.keeps up) (N.grown up) hmono h0
    (fun i ys nws its' h tk C D oC m₂ E' _ le hP hB hC F' N' => let ⟨v, hv, hm⟩ := hB; turn i v ys nws its' h tk C D oC m₂ E' le hP hv hm hC F' N')
    fun D C h tk m' ys nws le hP F' N' off dis hn hD => hRR D C h tk m' ys nws le hP F' N' off dis hn (voidUp up hD)
  rcases List.mem_cons.mp q with q | q
  · exact (voidFr F no).2 q.symm
  · exact haL (List.mem_singleton.mp q).symm
theorem pulls_range {T0 : Nat} {x : Str} {px : Pos} {ce : Env} {I : Addr} {n : Nat} (hh : A.handled = none)
    (hx : ce.kindOf x = some .local) (hp : (ce.scope.kind == .class || (ce.scope.kind == .module && ce.locals != ce.globals)) = false) (hC : ce.locals ∉ [I]) :
    Pulls prog w A (.Name x px) ce I [I] [I] n (fun i _ m' => ∃ t, T0 ≤ t ∧ m' x = some (.int (i : Int) t)) (fun i h => IsRangeIter h I (0 + (i : Nat) * 1) ((n : Int) - (i : Nat)) 1) T0 where
  sub := fun _ h => h
  frame := (LCg.range_walks (prog := prog) (w := w) (A := A) hh 0 n).frame
  item := fun i s m Q Rn E hT hi st hn h => by
    have CI : ce.locals ≠ I := fun e => hC (e ▸ .head _)
    refine wpAny_pyNext_range_item st (by omega) fun h₁ it₁ sb₁ => wpAny_of_eq (a := ()) rfl (wpAny_assign_Name (wpAny_storeName_local hx (hn.sameBut sb₁ CI) (fun h₂ n₂ sb₂ => ?_) hp))
    have it₂ := sb₂.extBut _ _ (Ne.symm CI) it₁
    rw [show (0 : Int) + (i : Nat) * 1 + 1 = 0 + ((i + 1 : Nat) : Int) * 1 by omega, show (n : Int) - (i : Nat) - 1 = (n : Int) - ((i + 1 : Nat) : Int) by omega] at it₂
    exact h h₂ _ _ (Nat.le_succ_of_le (Nat.le_succ _)) ⟨s.toks, hT, (if_pos rfl).trans (by rw [Int.mul_one, Int.zero_add])⟩ it₂ n₂ fun b o c1 c2 e => sb₂.extBut b o c1 (sb₁.extBut b o (fun q => c2 (q ▸ .head _)) e)
  done := fun s Q E st h => wpAny_with_toks (Nat.le_refl s.toks) ((LCg.range_walks hh 0 n).done s _ _ st fun h' tk up le => h h' tk le up)
  self := (LCg.range_walks hh 0 n).self
open LCg in
theorem src_range {elt iter : PySem.Expr} {x : Str} {px : Pos} {ifs : List PySem.Expr} {scope : Scope} {cl : List (Str × Addr)} {pos : Pos} {r : Addr} {t₀ u₀ v₀ : Tok} {n : Nat} {news : List (Addr × Obj)} {RR : Value → Addr → Result → Shared → Prop}
    (P : Nat → List Value → List (Addr × Obj) → Nat → Prop) (hh : A.handled = none) (hr : IsRange s.heap r 0 (n : Int) 1 t₀ u₀ v₀) (hn : n < 2 ^ 20) (hx : scope.names.lookup x = some .local) (hcell : ∀ y ∈ scope.names, y.2 ≠ .cell) (hkind : scope.kind = .function)
    (F : Fr h₀ L s.heap m) (N : News h₀ L s.heap news) (hmono : ∀ i ys nws tk tk', P i ys nws tk → tk ≤ tk' → P i ys nws tk') (h0 : P 0 [] [] s.toks)
    (turn : ∀ (i : Nat) t ys nws its' h tk C D oC m₂ E', i < n → s.toks ≤ tk → s.toks ≤ t → P i ys nws tk → m₂ x = some (.int (i : Int) t) → NsObj oC m₂ → Fr h₀ L h m → News h₀ L h ((C, oC) :: (D, lst ys) :: (news ++ (nws ++ its'))) →
      CTurn prog w A h₀ L m env elt ifs scope cl s P i ys nws ((C, oC) :: (D, lst ys) :: (news ++ (nws ++ its'))) h tk C E')
    (hRR : ∀ D C h tk m' ys nws, s.toks ≤ tk → P n ys nws tk → Fr h₀ L h m → News h₀ L h ((D, lst ys) :: (news ++ nws)) → (∀ p ∈ news ++ nws, p.1 ≠ D ∧ p.1 ≠ C) → (∀ p ∈ nws, ∀ q ∈ news, p.1 ≠ q.1) → h.Ns C m' → s.heap.get? D = none → h₀.get? C = none → C ≠ L → C ≠ D → RR (.ref D) C (.ok .next) { s with heap := h, toks := tk })
    (hifs : ifs.length ≤ 1 := by decide) :
    wpAny (model prog w) A (pyIter (.ref r)) (cblock prog w A E env elt (.Name x px) iter ifs scope cl pos RR) E s := by
  have no : s.heap.get? s.heap.objs.size = none := Heap.get?_none_of_le (Nat.le_refl _)
  refine wpAny_pyIter_range hr (small_one (by omega) (by omega) (by omega) (by omega)) ?_
  rw [show Builtin.Range.rangeSize 0 (n : Int) 1 = (n : Int) by rw [rangeSize_one]; split <;> omega]
  have up : ∀ b o, s.heap.get? b = some o → (s.heap.push { cls := .type "range_iterator", data := .fields #[rawInt 0, rawInt (n : Int), rawInt 1] }).get? b = some o := fun _ _ => Heap.get?_push_of_some _
  exact block_own (I := s.heap.objs.size) (fp := [s.heap.objs.size]) (wr := [s.heap.objs.size]) (n := n) P (fun C hC => pulls_range hh (lookL hx) (kindF hkind) hC) hifs (by rw [sizeLine_eq]; omega)
    (fun i h st => List.forall_mem_cons.mpr ⟨⟨_, st⟩, fun _ q => nomatch q⟩) (List.forall_mem_cons.mpr ⟨⟨(voidFr F no).1, (voidFr F no).2, voidNews N no⟩, fun _ q => nomatch q⟩) (fun q => (voidFr F no).2 (List.mem_singleton.mp q).symm)
    (by simpa using (Heap.get?_push_size _ rfl : (s.heap.push { cls := .type "range_iterator", data := .fields #[rawInt 0, rawInt (n : Int), rawInt 1] }).get? s.heap.objs.size = _)) hcell hkind (F.keeps up) (N.grown up) hmono h0
    (fun i ys nws its' h tk C D oC m₂ E' hi le hP hB hC F' N' => let ⟨t, ht, hm⟩ := hB; turn i t ys nws its' h tk C D oC m₂ E' hi le ht hP hm hC F' N')
    fun D C h tk m' ys nws le hP F' N' off dis hn hD => hRR D C h tk m' ys nws le hP F' N' off dis hn (voidUp up hD)
/-- an iterator that is there already -/
theorem src_pair {T0 : Nat} {elt iter tgt : PySem.Expr} {ifs : List PySem.Expr} {scope : Scope} {cl : List (Str × Addr)} {pos : Pos} {I : Addr} {fp wr : List Addr} {n : Nat} {B : Nat → Heap → (Str → Option Value) → Prop} {St : Nat → Heap → Prop} {RR : Value → Addr → Result → Shared → Prop}
    (W : ∀ C, C ∉ fp → Pulls prog w A tgt (compEnvC scope cl C env) I fp wr n B St T0) (hL : L ∉ fp) (hst : St 0 s.heap) (h : cblock prog w A E env elt tgt iter ifs scope cl pos RR (.ref I) s) :
    wpAny (model prog w) A (pyIter (.ref I)) (cblock prog w A E env elt tgt iter ifs scope cl pos RR) E s := (W L hL).self 0 s _ _ hst h
end

end
section
theorem fresh_zip : True := by
  w_top off
  k_with_none
  k_with "mine:enter" => (
  (case k1 => assumption)
  (case k2 => exact Top.nolimit (by assumption))
  (case k3 => k_is)
  (case k4 => k_is)
  (case k5 => ktr_room)
  (case k0 => exact rfl)
  (case k6 => exact BindsTo.of_eq rfl)
  (case k7 => exact locs rfl)
  (case c2 => exact rfl)
  (case c3 => exact rfl)
  (case c4 => exact rfl)
  (case c5 => decide))
  k_with "mine:steps" => repeat' (first | (k_unfold; (try dsimp only)) | walk1 | (dsimp only; walk1) | fail "no step")
  k_with "mine:rest" => (
  (intro zw9 z1w9 z2w9 z3w9);
  (simp only [List.forall_mem_cons, List.not_mem_nil, false_implies, implies_true, and_true, ne_eq] at z2w9);
  (simp only [List.contains_cons, List.contains_nil, Bool.or_false, Bool.or_eq_false_iff, beq_eq_false_iff_ne, ne_eq] at z3w9);
  (simp [kstB, z1w9, z2w9, z3w9]))
  k_with "mine:mm" => first | with_reducible exact mem_h | with_reducible assumption | ((with_reducible refine mem_t ?_); k_extra "mine:mm")
  k_with "mine:md" => first | exact mem_h | assumption | (refine mem_t ?_; k_extra "mine:md")
  k_with "mine:sub" => first | with_reducible exact sub_nil | with_reducible assumption | with_reducible exact sub_refl | ((with_reducible refine sub_cons ?_ ?_); (first | k_extra "mine:mm" | k_extra "mine:md"); k_extra "mine:sub") | ((with_reducible refine sub_app ?_ ?_); k_extra "mine:sub"; k_extra "mine:sub") | ((with_reducible refine sub_tail ?_); k_extra "mine:sub") | ((with_reducible refine sub_left ?_); k_extra "mine:sub") | ((with_reducible refine sub_right ?_); k_extra "mine:sub")
  k_with "mine:subs" => ((try dsimp only [List.cons_append, List.nil_append]); k_extra "mine:sub")
  k_with "mine:ad" => first | with_reducible assumption | ((with_reducible refine ad_ss ?_); k_extra "mine:ad") | with_reducible first | exact ad_1 | exact ad_2 | exact ad_3 | exact ad_4 | exact ad_5 | exact ad_6 | exact ad_7 | exact ad_1.symm | exact ad_2.symm | exact ad_3.symm | exact ad_4.symm | exact ad_5.symm | exact ad_6.symm | exact ad_7.symm
  k_with "mine:off" => first | with_reducible exact off_nil | with_reducible assumption | ((with_reducible refine off_cons ?_ ?_); (first | k_extra "mine:ad" | (refine Ne.symm ?_; k_extra "mine:ad") | k_ne); k_extra "mine:off") | ((with_reducible refine off_app ?_ ?_); k_extra "mine:off"; k_extra "mine:off") | exact off_sym (by with_reducible assumption) | exact off_of (by assumption) (by k_extra "mine:mm")
  k_with "mine:offs" => ((try dsimp only [List.cons_append, List.nil_append]); k_extra "mine:off")
  trivial
section
variable {prog : Program} {w : World} {A : Around} {E : Value → Shared → Prop} {s : Shared}
theorem draw_here {M : Model} {A : Around} {it : Value} {Q : Value → Shared → Prop} {E : Value → Shared → Prop} {s : Shared} (h : Halt (wpAny M A (Builtin.SmallTypes.nextOf it) Q E s)) : wpAny M A (Builtin.SmallTypes.nextOf it) Q E s := h
theorem inst_here {M : Model} {A : Around} {v T : Value} {Q : Bool → Shared → Prop} {E : Value → Shared → Prop} {s : Shared} (h : Halt (wpAny M A (isInstance v T) Q E s)) : wpAny M A (isInstance v T) Q E s := h
/-- the zip z, its pair of iterators TI, the pair TO that it keeps for itself; f0 is its first field -/
structure ZipAt (z TI TO i1 i2 : Addr) (S1 S2 : Nat → Heap → Prop) (f0 : Value) (i : Nat) (h : Heap) : Prop where
  zip : IsZip h z TI TO f0
  its : IsPair h TI (.ref i1) (.ref i2)
  own : ∃ a b, IsPair h TO a b
  s1 : S1 i h
  s2 : S2 i h
/-- nothing of it stands in its iterators' places, and these stand apart -/
structure ZipOff (z TI TO i1 i2 : Addr) (fp1 fp2 : List Addr) : Prop where
  m1 : i1 ∈ fp1
  m2 : i2 ∈ fp2
  zI : z ≠ TI
  zO : z ≠ TO
  OI : TO ≠ TI
  z1 : ∀ c ∈ fp1, z ≠ c
  z2 : ∀ c ∈ fp2, z ≠ c
  o1 : ∀ c ∈ fp1, TO ≠ c
  o2 : ∀ c ∈ fp2, TO ≠ c
  t1 : ∀ c ∈ fp1, TI ≠ c
  t2 : ∀ c ∈ fp2, TI ≠ c
  ap : ∀ c ∈ fp1, ∀ d ∈ fp2, c ≠ d
/-- one turn of a zip over any two iterators of one length; what is read from the tree is read by wp_walk -/
theorem zip_next {z TI TO i1 i2 : Addr} {fp1 fp2 : List Addr} {n i : Nat} {P1 P2 : Nat → Value → Prop} {S1 S2 : Nat → Heap → Prop} {Q : Option Value → Shared → Prop}
    (D1 : Draws prog w A.in1 i1 fp1 n P1 S1) (D2 : Draws prog w A.in1 i2 fp2 n P2 S2) (O : ZipOff z TI TO i1 i2 fp1 fp2) (Z : ZipAt z TI TO i1 i2 S1 S2 .none i s.heap)
    (more : i < n → ∀ x y T h' tk, P1 i x → P2 i y → s.heap.objs.size ≤ T → IsPair h' T x y → ZipAt z TI TO i1 i2 S1 S2 (rawInt T) (i + 1) h' →
      (∀ c o, c ∉ [z, TO, i1, i2] → s.heap.get? c = some o → h'.get? c = some o) → Q (some (.ref T)) { s with heap := h', toks := tk })
    (stop : i = n → ∀ h', (∀ c o, c ∉ [z, TO, i1, i2] → s.heap.get? c = some o → h'.get? c = some o) → Q none { s with heap := h' }) (hi : i ≤ n) :
    wpAny (model prog w) A (pyNext (.ref z)) Q E s := by
  obtain ⟨hz, hTI, ⟨a, b, hTO⟩, h1, h2⟩ := Z
  have ty : s.TypeIs (.ref z) "zip" := ⟨_, hz, rfl⟩
  unfold pyNext
  refine wpAny_bind (wpAny_attempt (wpAny_callSpecial?_slot (name := Str.ofString "__next__") ty F.slot_zip_next (wpAny_call_entry F.slot_zip_next ty F.entry_zip_next ?_ (F.args_zip_next_1 _))))
  obtain ⟨h, g, d, t, os⟩ := s
  have outs : ∀ c, c ∉ [z, TO, i1, i2] → z ≠ c ∧ TO ≠ c ∧ i1 ≠ c ∧ i2 ≠ c := fun c hc => by
    simp only [List.mem_cons, List.not_mem_nil, or_false, not_or] at hc
    exact ⟨Ne.symm hc.1, Ne.symm hc.2.1, Ne.symm hc.2.2.1, Ne.symm hc.2.2.2⟩
  have zO := O.zO
  wp_walk using draw_here, wpAny_onRaise
  refine Halt.mk ?_
  by_cases hlt : i < n
  · refine D1.item i _ _ _ hlt (D1.frame _ _ _ h1 fun c hc o e => Heap.get?_update_of_ne _ (O.z1 c hc) e) fun x h₁ t₁ px st₁ sb₁ => ?_
    have z₁ := sb₁.extBut z _ (O.z1 i1 O.m1) (Heap.get?_update_self _ hz rfl)
    have o₁ := sb₁.extBut TO _ (O.o1 i1 O.m1) (Heap.get?_update_of_ne _ O.zO hTO)
    have q2 : S2 i h₁ := D2.frame _ _ h₁ h2 fun c hc o e => sb₁.extBut c o (Ne.symm (O.ap i1 O.m1 c hc)) (Heap.get?_update_of_ne _ (O.z2 c hc) e)
    wp_walk using draw_here, wpAny_onRaise
    refine Halt.mk ?_
    refine D2.item i _ _ _ hlt (D2.frame _ _ _ q2 fun c hc o e => Heap.get?_update_of_ne _ (O.o2 c hc) e) fun y h₂ t₂ py st₂ sb₂ => ?_
    have z₂ := sb₂.extBut z _ (O.z2 i2 O.m2) (Heap.get?_update_of_ne _ (Ne.symm O.zO) z₁)
    have o₂ := sb₂.extBut TO _ (O.o2 i2 O.m2) (Heap.get?_update_self _ o₁ rfl)
    have r1 : S1 (i + 1) h₂ := D1.frame _ _ _ st₁ fun c hc o e => sb₂.extBut c o (O.ap c hc i2 O.m2) (Heap.get?_update_of_ne _ (O.o1 c hc) e)
    have old : ∀ c o, c ∉ [z, TO, i1, i2] → h.get? c = some o → h₂.get? c = some o := fun c o hc e => by
      obtain ⟨a1, a2, a3, a4⟩ := outs c hc
      exact sb₂.extBut c o (Ne.symm a4) (Heap.get?_update_of_ne _ a2 (sb₁.extBut c o (Ne.symm a3) (Heap.get?_update_of_ne _ a1 e)))
    have zlt : z < h₂.objs.size := Heap.lt_size z₂
    have len : h.objs.size = h₂.objs.size := by
      rw [sb₂.1]
      show _ = (h₁.update _ _).objs.size
      rw [Heap.size_after_update, sb₁.1]
      exact (Heap.size_after_update ..).symm
    wp_walk using draw_here, wpAny_onRaise
    refine ⟨_, rfl, ?_⟩
    refine wpAny_pure ?_
    refine more hlt x y _ _ t₂ px py ?_ ?_ ⟨?_, ?_, ⟨x, y, ?_⟩, ?_, ?_⟩ fun c o hc e => ?_
    · rw [Heap.size_after_update]; exact Nat.le_of_eq len
    · have ne : z ≠ (h₂.update TO (Obj.mapSeq fun x => x.setIfInBounds (0 + 1) y)).objs.size := by rw [Heap.size_after_update]; exact Nat.ne_of_lt zlt
      exact Heap.get?_update_of_ne _ ne (Heap.get?_update_of_ne _ ne (Heap.get?_push_size _ rfl))
    · exact Heap.get?_update_self _ (Heap.get?_update_self _ (Heap.get?_push_of_some _ (Heap.get?_update_of_ne _ (Ne.symm O.zO) z₂)) rfl) rfl
    · refine Heap.get?_update_of_ne _ O.zI (Heap.get?_update_of_ne _ O.zI (Heap.get?_push_of_some _ (Heap.get?_update_of_ne _ O.OI ?_)))
      exact sb₂.extBut TI _ (O.t2 i2 O.m2) (Heap.get?_update_of_ne _ O.OI (sb₁.extBut TI _ (O.t1 i1 O.m1) (Heap.get?_update_of_ne _ O.zI hTI)))
    · exact Heap.get?_update_of_ne _ O.zO (Heap.get?_update_of_ne _ O.zO (Heap.get?_push_of_some _ (Heap.get?_update_self _ o₂ rfl)))
    · exact D1.frame _ _ _ r1 fun c hc o e => Heap.get?_update_of_ne _ (O.z1 c hc) (Heap.get?_update_of_ne _ (O.z1 c hc) (Heap.get?_push_of_some _ (Heap.get?_update_of_ne _ (O.o1 c hc) e)))
    · exact D2.frame _ _ _ st₂ fun c hc o e => Heap.get?_update_of_ne _ (O.z2 c hc) (Heap.get?_update_of_ne _ (O.z2 c hc) (Heap.get?_push_of_some _ (Heap.get?_update_of_ne _ (O.o2 c hc) e)))
    · obtain ⟨a1, a2, _, _⟩ := outs c hc
      exact Heap.get?_update_of_ne _ a1 (Heap.get?_update_of_ne _ a1 (Heap.get?_push_of_some _ (Heap.get?_update_of_ne _ a2 (old c o hc e))))
  · have e : i = n := Nat.le_antisymm hi (Nat.not_lt.mp hlt)
    subst e
    refine D1.done _ _ _ (D1.frame _ _ _ h1 fun c hc o e => Heap.get?_update_of_ne _ (O.z1 c hc) e) fun h₁ x xb xo => ?_
    obtain ⟨ox, gx, cx⟩ := xo
    have z₁ := xb z _ (O.z1 i1 O.m1) (Heap.get?_update_self _ hz rfl)
    have zx : z ≠ x := fun q => by
      rw [Option.some.inj (gx.symm.trans (q ▸ z₁))] at cx
      exact absurd (Value.type.inj cx) (by decide)
    dsimp only
    wp_walk using inst_here
    refine Halt.mk (wpAny_isInstance (T := "StopIteration") (b := true) ⟨ox, Heap.get?_update_of_ne _ zx gx, cx⟩ isSubtype_stop ?_)
    wp_walk
    refine stop rfl _ fun c o hc q => ?_
    obtain ⟨a1, _, a3, _⟩ := outs c hc
    exact Heap.get?_update_of_ne _ a1 (xb c o (Ne.symm a3) (Heap.get?_update_of_ne _ a1 q))
end
theorem zip_walks {prog : Program} {w : World} {A : Around} {z TI TO i1 i2 : Addr} {fp1 fp2 : List Addr} {n : Nat} {P1 P2 : Nat → Value → Prop} {S1 S2 : Nat → Heap → Prop}
    (D1 : Draws prog w A.in1 i1 fp1 n P1 S1) (D2 : Draws prog w A.in1 i2 fp2 n P2 S2) (O : ZipOff z TI TO i1 i2 fp1 fp2) :
    WalksT prog w A z (z :: TI :: TO :: (fp1 ++ fp2)) [z, TO, i1, i2] n (fun i vals => ∃ x y, P1 i x ∧ P2 i y ∧ vals = #[x, y]) (ZipAt z TI TO i1 i2 S1 S2 .none)
      (fun i T h => ZipAt z TI TO i1 i2 S1 S2 (rawInt T) (i + 1) h ∧ T ∉ [z, TO, i1, i2]) := by
  have in1 : ∀ b ∈ fp1, b ∈ z :: TI :: TO :: (fp1 ++ fp2) := fun b hb => .tail _ (.tail _ (.tail _ (List.mem_append_left _ hb)))
  have in2 : ∀ b ∈ fp2, b ∈ z :: TI :: TO :: (fp1 ++ fp2) := fun b hb => .tail _ (.tail _ (.tail _ (List.mem_append_right _ hb)))
  have wr : ∀ b ∈ [z, TO, i1, i2], b = z ∨ b = TO ∨ b = i1 ∨ b = i2 := fun b hb => by simpa only [List.mem_cons, List.not_mem_nil, or_false] using hb
  refine { sub := ?_, frame := ?_, item := ?_, go := ?_, apart := ?_, done := ?_, self := ?_ }
  · intro b hb
    rcases wr b hb with rfl | rfl | rfl | rfl
    · exact .head _
    · exact .tail _ (.tail _ (.head _))
    · exact in1 _ O.m1
    · exact in2 _ O.m2
  · rintro i h h' ⟨hz, hI, ⟨a, b, hO⟩, h1, h2⟩ up
    exact ⟨up z (.head _) _ hz, up TI (.tail _ (.head _)) _ hI, ⟨a, b, up TO (.tail _ (.tail _ (.head _))) _ hO⟩, D1.frame _ _ _ h1 fun c hc => up c (in1 c hc), D2.frame _ _ _ h2 fun c hc => up c (in2 c hc)⟩
  · intro i s Q E hi Z hQ
    refine zip_next D1 D2 O Z (fun _ x y T h' tk px py le hT Z' up => ?_) (fun q => absurd hi (q ▸ Nat.lt_irrefl _)) (Nat.le_of_lt hi)
    refine hQ T #[x, y] h' tk ⟨x, y, px, py, rfl⟩ le ⟨_, hT, rfl, _, rfl⟩ ⟨Z', fun hb => ?_⟩ up
    have live : ∀ c o, s.heap.get? c = some o → T ≠ c := fun c o q => Nat.ne_of_gt (Nat.lt_of_lt_of_le (Heap.lt_size q) le)
    obtain ⟨hz, _, ⟨_, _, hO⟩, h1, h2⟩ := Z
    obtain ⟨_, g1⟩ := D1.live _ _ h1
    obtain ⟨_, g2⟩ := D2.live _ _ h2
    rcases wr T hb with q | q | q | q
    · exact live _ _ hz q
    · exact live _ _ hO q
    · exact live _ _ g1 q
    · exact live _ _ g2 q
  · rintro elts k pos i T s Q E ⟨⟨hz, hI, ⟨a, b, hO⟩, h1, h2⟩, _⟩ hQ
    refine wpAny_letOwnedTupleGo_zip hz fun h' hz' sb => ?_
    have up : ∀ c o, z ≠ c → s.heap.get? c = some o → h'.get? c = some o := fun c o hc => sb.extBut c o (Ne.symm hc)
    exact hQ h' ⟨hz', up _ _ O.zI hI, ⟨a, b, up _ _ O.zO hO⟩, D1.frame _ _ _ h1 fun c hc o => up c o (O.z1 c hc), D2.frame _ _ _ h2 fun c hc o => up c o (O.z2 c hc)⟩
      fun c o hc => up c o fun q => hc (q ▸ .head _)
  · exact fun i T h hm => hm.2
  · exact fun s Q E Z hQ => zip_next D1 D2 O Z (fun q => absurd q (Nat.lt_irrefl _)) (fun _ h' up => hQ h' s.toks up) (Nat.le_refl _)
  · exact fun i s Q E Z hQ => wpAny_pyIter_zip Z.zip hQ

/-- several objects pushed at once -/
def pushAll : Heap → List Obj → Heap
  | h, [] => h
  | h, o :: os => pushAll (h.push o) os
theorem pushAll_keep {c : Addr} {o : Obj} (os : List Obj) : ∀ h : Heap, h.get? c = some o → (pushAll h os).get? c = some o := by
  induction os with
  | nil => intro h e; rw [pushAll]; exact e
  | cons p os ih => intro h e; rw [pushAll]; exact ih _ (Heap.get?_push_of_some p e)
theorem pushAll_at {o : Obj} (f : o.isFreed = false) (os : List Obj) : ∀ (k : Nat) (h : Heap), os[k]? = some o → (pushAll h os).get? (h.objs.size + k) = some o := by
  induction os with
  | nil => intro k h e; cases e
  | cons p os ih =>
    intro k h e
    rw [pushAll]
    cases k with
    | zero =>
      rw [List.getElem?_cons_zero] at e
      rw [Option.some.inj e]
      exact pushAll_keep os _ (Heap.get?_push_size _ f)
    | succ k =>
      rw [List.getElem?_cons_succ] at e
      have := ih k (h.push p) e
      rw [Heap.size_push, Nat.add_assoc, Nat.add_comm 1 k] at this
      exact this
abbrev itO (x : Str) (t : Tok) : Obj := { cls := .type "str_ascii_iterator", data := .fields #[.str x t, .int 0 0] }
/-- what zip(x, y) makes, in the heap's order -/
abbrev zipOs (n : Nat) (x : Str) (t : Tok) (y : Str) (u : Tok) : List Obj :=
  [itO x t, itO y u, { cls := .type "tuple", data := .seq #[.ref n, .ref (n + 1)] }, { cls := .type "tuple", data := .seq #[.none, .none] },
    { cls := .type "zip", dict := none, data := .fields #[.none, .bool false, .bool false, .ref (n + 1 + 1), .ref (n + 1 + 1 + 1)] }]
theorem meets_zs (x y : Str) (t u : Tok) (hx : x.cps.all (· < 128) = true) (hy : y.cps.all (· < 128) = true) :
    Meets (Builtin.«zip.__new__» ⟨[.type "zip", .str x t, .str y u], []⟩) (fun _ R s => R (.ok (.ret (.ref (s.heap.objs.size + 1 + 1 + 1 + 1)))) { s with heap := pushAll s.heap (zipOs s.heap.objs.size x t y u) }) :=
  .of_wp fun prog w A R s h => by
    obtain ⟨hp, g, d, tk, os⟩ := s
    have hsub := sub_zip
    wp_walk using wpAny_pyIter_ascii hx, wpAny_pyIter_ascii hy
    refine ⟨_, rfl, ?_⟩
    simp only [pushAll] at h
    simp only [Heap.size_push]
    exact h
theorem call_zs {prog : Program} {w : World} {A : Around} {E : Value → Shared → Prop} {s : Shared} {x y : Str} {t u : Tok} {Q : Value → Shared → Prop} (hx : x.cps.all (· < 128) = true) (hy : y.cps.all (· < 128) = true)
    (h : ∀ h' z TI TO i1 i2, ZipOff z TI TO i1 i2 [i1] [i2] → ZipAt z TI TO i1 i2 (fun i h => h.IsStrIter i1 "str_ascii_iterator" x t i) (fun i h => h.IsStrIter i2 "str_ascii_iterator" y u i) .none 0 h' → (∀ b ∈ [z, TI, TO, i1, i2], s.heap.get? b = none) →
      (∀ c o, s.heap.get? c = some o → h'.get? c = some o) → Q (.ref z) { s with heap := h' }) :
    wpAny (model prog w) A (call (.type "zip") [.str x t, .str y u]) Q E s := by
  refine callType_new F.called_zip (by decide) (F.typeCall_zip_2 _ _) (F.newCall_zip_2 _ _) (fun obj => F.args_object_init_3 obj _ _) F.entry_zip_new (meets_zs x y t u hx hy) ?_
  have far : ∀ {a b : Nat}, a < b → s.heap.objs.size + a ≠ s.heap.objs.size + b := fun q => Nat.ne_of_lt (Nat.add_lt_add_left q _)
  have one : ∀ {a b c : Addr}, a ≠ b → c ∈ [b] → a ≠ c := fun q hc => List.mem_singleton.mp hc ▸ q
  have g : ∀ k o, (zipOs s.heap.objs.size x t y u)[k]? = some o → o.isFreed = false → (pushAll s.heap (zipOs s.heap.objs.size x t y u)).get? (s.heap.objs.size + k) = some o := fun k o e f => pushAll_at f _ k _ e
  refine ⟨⟨_, g 4 _ rfl rfl, rfl⟩, h _ (s.heap.objs.size + 4) (s.heap.objs.size + 2) (s.heap.objs.size + 3) (s.heap.objs.size + 0) (s.heap.objs.size + 1)
    ⟨.head _, .head _, (far (by decide)).symm, (far (by decide)).symm, (far (by decide)).symm, fun c => one (far (by decide)).symm, fun c => one (far (by decide)).symm, fun c => one (far (by decide)).symm, fun c => one (far (by decide)).symm,
      fun c => one (far (by decide)).symm, fun c => one (far (by decide)).symm, fun c hc d hd => by rw [List.mem_singleton.mp hc, List.mem_singleton.mp hd]; exact far (by decide)⟩
    ⟨g 4 _ rfl rfl, g 2 _ rfl rfl, ⟨_, _, g 3 _ rfl rfl⟩, ⟨_, g 0 _ rfl rfl, rfl, rfl⟩, ⟨_, g 1 _ rfl rfl, rfl, rfl⟩⟩ (fun b hb => Heap.get?_none_of_le ?_) fun c o => pushAll_keep _ _⟩
  simp only [List.mem_cons, List.not_mem_nil, or_false] at hb
  rcases hb with rfl | rfl | rfl | rfl | rfl <;> exact Nat.le_add_right _ _
section
variable {prog : Program} {w : World} {A : Around} {E : Value → Shared → Prop} {s : Shared} {h₀ : Heap} {L : Addr} {m : Str → Option Value} {env : Env}
open LCg in
theorem src_zipS {elt iter : PySem.Expr} {x y : Str} {px py tp : Pos} {kk : Nat} {ifs : List PySem.Expr} {scope : Scope} {cl : List (Str × Addr)} {pos : Pos} {a b : Str} {ta tb : Tok} {n : Nat} {news : List (Addr × Obj)} {RR : Value → Addr → Result → Shared → Prop}
    (P : Nat → List Value → List (Addr × Obj) → Nat → Prop) (hh : A.handled = none) (la : a.cps.size = n) (lb : b.cps.size = n) (hsz : n ≤ sizeLine) (aa : a.cps.all (· < 128) = true) (ab : b.cps.all (· < 128) = true)
    (hx : scope.names.lookup x = some .local) (hy : scope.names.lookup y = some .local) (hxy : x ≠ y) (hcell : ∀ y ∈ scope.names, y.2 ≠ .cell) (hkind : scope.kind = .function)
    (F : Fr h₀ L s.heap m) (N : News h₀ L s.heap news) (hmono : ∀ i ys nws tk tk', P i ys nws tk → tk ≤ tk' → P i ys nws tk') (h0 : P 0 [] [] s.toks)
    (turn : ∀ i c d t u ys nws its' h tk C D oC m₂ E', a.cps[i]? = some c → b.cps[i]? = some d → s.toks ≤ tk → P i ys nws tk → m₂ x = some (.str ⟨#[c]⟩ t) → m₂ y = some (.str ⟨#[d]⟩ u) → NsObj oC m₂ → Fr h₀ L h m → News h₀ L h ((C, oC) :: (D, lst ys) :: (news ++ (nws ++ its'))) →
      CTurn prog w A h₀ L m env elt ifs scope cl s P i ys nws ((C, oC) :: (D, lst ys) :: (news ++ (nws ++ its'))) h tk C E')
    (hRR : ∀ D C h tk m' ys nws, s.toks ≤ tk → P n ys nws tk → Fr h₀ L h m → News h₀ L h ((D, lst ys) :: (news ++ nws)) → (∀ p ∈ news ++ nws, p.1 ≠ D ∧ p.1 ≠ C) → (∀ p ∈ nws, ∀ q ∈ news, p.1 ≠ q.1) → h.Ns C m' → s.heap.get? D = none → h₀.get? C = none → C ≠ L → C ≠ D → RR (.ref D) C (.ok .next) { s with heap := h, toks := tk })
    (hifs : ifs.length ≤ 1 := by decide) :
    wpAny (model prog w) A (call (.type "zip") [.str a ta, .str b tb]) (fun xv s₁ => Halt (wpAny (model prog w) A (pyIter xv) (cblock prog w A E env elt (.Tuple [.Name x px, .Name y py] kk tp) iter ifs scope cl pos RR) E s₁)) E s := by
  refine call_zs aa ab fun h' z TI TO i1 i2 D st fr up => ?_
  have F' : Fr h₀ L h' m := F.keeps up
  have N' : News h₀ L h' news := N.grown up
  have fresh : ∀ b ∈ [z, TI, TO, i1, i2], h₀.get? b = none ∧ b ≠ L ∧ ∀ p ∈ news, p.1 ≠ b := fun b hb => ⟨(voidFr F (fr b hb)).1, (voidFr F (fr b hb)).2, voidNews N (fr b hb)⟩
  have hL : L ∉ [z, TI, TO, i1, i2] := fun hb => (fresh L hb).2.1 rfl
  have W : ∀ C, C ∉ [z, TI, TO, i1, i2] → Pulls prog w A (.Tuple [.Name x px, .Name y py] kk tp) (compEnvC scope cl C env) z [z, TI, TO, i1, i2] [z, TO, i1, i2] n _ _ s.toks := fun C hC =>
    pulls_pair (zip_walks (la ▸ Draws.strAscii (A := A.in1) hh i1 a ta) (lb ▸ Draws.strAscii (A := A.in1) hh i2 b tb) D) hh (fun i vs h => by obtain ⟨u, v, _, _, e⟩ := h; exact ⟨u, v, e⟩) hxy (lookL hx) (lookL hy) (kindF hkind) hC
  refine src_pair W hL st ?_
  refine block_own P W hifs hsz (fun i h st b hb => ?_) (fun b hb => fresh b ?_) hL st hcell hkind F' N' hmono h0 (fun i ys nws its' h tk C D oC m₂ E' hi le hP hB hC F' N' => ?_)
    (fun D C h tk m' ys nws le hP F' N' off dis hn hD hC hCL hCD => hRR D C h tk m' ys nws le hP F' N' off dis hn ?_ hC hCL hCD)
  · obtain ⟨g1, g2, ⟨_, _, g3⟩, ⟨_, g4, _⟩, ⟨_, g5, _⟩⟩ := st
    simp only [List.mem_cons, List.not_mem_nil, or_false] at hb
    rcases hb with rfl | rfl | rfl | rfl | rfl
    · exact ⟨_, g1⟩
    · exact ⟨_, g2⟩
    · exact ⟨_, g3⟩
    · exact ⟨_, g4⟩
    · exact ⟨_, g5⟩
  · simp only [List.mem_cons, List.not_mem_nil, or_false] at hb ⊢
    rcases hb with rfl | rfl | rfl | rfl <;> simp
  · obtain ⟨va, vb, ⟨_, _, ⟨c, t', ec, rfl⟩, ⟨d, u', ed, rfl⟩, e⟩, m1, m2⟩ := hB
    obtain ⟨rfl, rfl⟩ : va = .str ⟨#[c]⟩ t' ∧ vb = .str ⟨#[d]⟩ u' := by simpa using e
    exact turn i c d t' u' ys nws its' h tk C D oC m₂ E' ec ed le hP m1 m2 hC F' N'
  · exact voidUp up hD
end

end
section
theorem fresh_zipl : True := by
  w_top off
  k_with_none
  k_with "mine:enter" => (
  (case k1 => assumption)
  (case k2 => exact Top.nolimit (by assumption))
  (case k3 => k_is)
  (case k4 => k_is)
  (case k5 => ktr_room)
  (case k0 => exact rfl)
  (case k6 => exact BindsTo.of_eq rfl)
  (case k7 => exact locs rfl)
  (case c2 => exact rfl)
  (case c3 => exact rfl)
  (case c4 => exact rfl)
  (case c5 => decide))
  k_with "mine:steps" => repeat' (first | (k_unfold; (try dsimp only)) | walk1 | (dsimp only; walk1) | fail "no step")
  k_with "mine:rest" => (
  (intro zw9 z1w9 z2w9 z3w9);
  (simp only [List.forall_mem_cons, List.not_mem_nil, false_implies, implies_true, and_true, ne_eq] at z2w9);
  (simp only [List.contains_cons, List.contains_nil, Bool.or_false, Bool.or_eq_false_iff, beq_eq_false_iff_ne, ne_eq] at z3w9);
  (simp [kstB, z1w9, z2w9, z3w9]))
  k_with "mine:mm" => first | with_reducible exact mem_h | with_reducible assumption | ((with_reducible refine mem_t ?_); k_extra "mine:mm")
  k_with "mine:md" => first | exact mem_h | assumption | (refine mem_t ?_; k_extra "mine:md")
  k_with "mine:sub" => first | with_reducible exact sub_nil | with_reducible assumption | with_reducible exact sub_refl | ((with_reducible refine sub_cons ?_ ?_); (first | k_extra "mine:mm" | k_extra "mine:md"); k_extra "mine:sub") | ((with_reducible refine sub_app ?_ ?_); k_extra "mine:sub"; k_extra "mine:sub") | ((with_reducible refine sub_tail ?_); k_extra "mine:sub") | ((with_reducible refine sub_left ?_); k_extra "mine:sub") | ((with_reducible refine sub_right ?_); k_extra "mine:sub")
  k_with "mine:subs" => ((try dsimp only [List.cons_append, List.nil_append]); k_extra "mine:sub")
  k_with "mine:ad" => first | with_reducible assumption | ((with_reducible refine ad_ss ?_); k_extra "mine:ad") | with_reducible first | exact ad_1 | exact ad_2 | exact ad_3 | exact ad_4 | exact ad_5 | exact ad_6 | exact ad_7 | exact ad_1.symm | exact ad_2.symm | exact ad_3.symm | exact ad_4.symm | exact ad_5.symm | exact ad_6.symm | exact ad_7.symm
  k_with "mine:off" => first | with_reducible exact off_nil | with_reducible assumption | ((with_reducible refine off_cons ?_ ?_); (first | k_extra "mine:ad" | (refine Ne.symm ?_; k_extra "mine:ad") | k_ne); k_extra "mine:off") | ((with_reducible refine off_app ?_ ?_); k_extra "mine:off"; k_extra "mine:off") | exact off_sym (by with_reducible assumption) | exact off_of (by assumption) (by k_extra "mine:mm")
  k_with "mine:offs" => ((try dsimp only [List.cons_append, List.nil_append]); k_extra "mine:off")
  trivial
section
variable {prog : Program} {w : World} {A : Around} {E : Value → Shared → Prop} {s : Shared} {h₀ : Heap} {L : Addr} {m : Str → Option Value} {env : Env}
open LCg in
theorem src_zipL {elt iter : PySem.Expr} {x y : Str} {px py tp : Pos} {kk : Nat} {ifs : List PySem.Expr} {scope : Scope} {cl : List (Str × Addr)} {pos : Pos} {l1 l2 : Addr} {xs zs : Array Value} {news : List (Addr × Obj)} {RR : Value → Addr → Result → Shared → Prop}
    (P : Nat → List Value → List (Addr × Obj) → Nat → Prop) (hh : A.handled = none) (hl1 : s.heap.IsList l1 xs) (hl2 : s.heap.IsList l2 zs) (hsz : min xs.size zs.size ≤ sizeLine) (h1L : l1 ≠ L) (h2L : l2 ≠ L)
    (hx : scope.names.lookup x = some .local) (hy : scope.names.lookup y = some .local) (hxy : x ≠ y) (hcell : ∀ y ∈ scope.names, y.2 ≠ .cell) (hkind : scope.kind = .function)
    (F : Fr h₀ L s.heap m) (N : News h₀ L s.heap news) (hmono : ∀ i ys nws tk tk', P i ys nws tk → tk ≤ tk' → P i ys nws tk') (h0 : P 0 [] [] s.toks)
    (turn : ∀ i a b ys nws its' h tk C D oC m₂ E', xs[i]? = some a → zs[i]? = some b → s.toks ≤ tk → P i ys nws tk → m₂ x = some a → m₂ y = some b → NsObj oC m₂ → Fr h₀ L h m → News h₀ L h ((C, oC) :: (D, lst ys) :: (news ++ (nws ++ its'))) →
      CTurn prog w A h₀ L m env elt ifs scope cl s P i ys nws ((C, oC) :: (D, lst ys) :: (news ++ (nws ++ its'))) h tk C E')
    (hRR : ∀ D C h tk m' ys nws, s.toks ≤ tk → P (min xs.size zs.size) ys nws tk → Fr h₀ L h m → News h₀ L h ((D, lst ys) :: (news ++ nws)) → (∀ p ∈ news ++ nws, p.1 ≠ D ∧ p.1 ≠ C) → (∀ p ∈ nws, ∀ q ∈ news, p.1 ≠ q.1) → h.Ns C m' → s.heap.get? D = none → h₀.get? C = none → C ≠ L → C ≠ D → RR (.ref D) C (.ok .next) { s with heap := h, toks := tk })
    (hifs : ifs.length ≤ 1 := by decide) :
    wpAny (model prog w) A (call (.type "zip") [.ref l1, .ref l2]) (fun xv s₁ => Halt (wpAny (model prog w) A (pyIter xv) (cblock prog w A E env elt (.Tuple [.Name x px, .Name y py] kk tp) iter ifs scope cl pos RR) E s₁)) E s := by
  refine call_zip_2 hl1 hl2 fun h' hz hTI hTO h1 h2 hs' up => ?_
  have F' : Fr h₀ L h' m := F.keeps up
  have N' : News h₀ L h' news := N.grown up
  have q1 : l1 < s.heap.objs.size := by obtain ⟨_, e, _⟩ := hl1; exact Heap.lt_size e
  have q2 : l2 < s.heap.objs.size := by obtain ⟨_, e, _⟩ := hl2; exact Heap.lt_size e
  have hl1' : h'.IsList l1 xs := hl1.at fun o e => up _ _ e
  have hl2' : h'.IsList l2 zs := hl2.at fun o e => up _ _ e
  have ne : ∀ a b : Nat, a ≠ b → s.heap.objs.size + a ≠ s.heap.objs.size + b := fun a b h => by omega
  have nl1 : ∀ a : Nat, l1 ≠ s.heap.objs.size + a := fun a => Nat.ne_of_lt (Nat.lt_of_lt_of_le q1 (Nat.le_add_right _ _))
  have nl2 : ∀ a : Nat, l2 ≠ s.heap.objs.size + a := fun a => Nat.ne_of_lt (Nat.lt_of_lt_of_le q2 (Nat.le_add_right _ _))
  have D : ZipApart (s.heap.objs.size + 4) (s.heap.objs.size + 2) (s.heap.objs.size + 3) s.heap.objs.size (s.heap.objs.size + 1) l1 l2 :=
    ⟨ne 2 4 (by decide), ne 3 4 (by decide), ne 0 4 (by decide), ne 1 4 (by decide), ne 2 3 (by decide), ne 2 0 (by decide), ne 2 1 (by decide), ne 3 0 (by decide), ne 3 1 (by decide), ne 0 1 (by decide),
      nl1 4, nl1 3, nl1 0, nl1 1, nl2 4, nl2 3, nl2 0, nl2 1⟩
  have frs : ∀ b ∈ [s.heap.objs.size + 4, s.heap.objs.size + 3, s.heap.objs.size, s.heap.objs.size + 1, s.heap.objs.size + 2], s.heap.objs.size ≤ b := fun b hb => by
    simp only [List.mem_cons, List.not_mem_nil, or_false] at hb
    rcases hb with rfl | rfl | rfl | rfl | rfl
    all_goals first | exact Nat.le_refl _ | exact Nat.le_add_right _ _
  have fresh : ∀ b ∈ [s.heap.objs.size + 4, s.heap.objs.size + 3, s.heap.objs.size, s.heap.objs.size + 1, s.heap.objs.size + 2], h₀.get? b = none ∧ b ≠ L ∧ ∀ p ∈ news, p.1 ≠ b := fun b hb => by
    have e : s.heap.get? b = none := Heap.get?_none_of_le (frs b hb)
    exact ⟨(voidFr F e).1, (voidFr F e).2, voidNews N e⟩
  generalize hzg : s.heap.objs.size + 4 = z at *
  generalize hTOg : s.heap.objs.size + 3 = TO at *
  generalize hTIg : s.heap.objs.size + 2 = TI at *
  generalize hi2g : s.heap.objs.size + 1 = i2 at *
  generalize hi1g : s.heap.objs.size = i1 at *
  have hL : L ∉ [z, TI, TO, i1, i2, l1, l2] := fun hb => by
    simp only [List.mem_cons, List.not_mem_nil, or_false] at hb
    rcases hb with rfl | rfl | rfl | rfl | rfl | rfl | rfl
    · exact (fresh _ (by simp)).2.1 rfl
    · exact (fresh _ (by simp)).2.1 rfl
    · exact (fresh _ (by simp)).2.1 rfl
    · exact (fresh _ (by simp)).2.1 rfl
    · exact (fresh _ (by simp)).2.1 rfl
    · exact h1L rfl
    · exact h2L rfl
  have W : ∀ C, C ∉ [z, TI, TO, i1, i2, l1, l2] → Pulls prog w A (.Tuple [.Name x px, .Name y py] kk tp) (compEnvC scope cl C env) z [z, TI, TO, i1, i2, l1, l2] [z, TO, i1, i2] (min xs.size zs.size) _ _ s.toks := fun C hC =>
    pulls_pair (WalksT.zip2 hh z TI TO i1 i2 l1 l2 D xs zs) hh (fun i vs h => by obtain ⟨a, b, _, _, e⟩ := h; exact ⟨_, _, e⟩) hxy (lookL hx) (lookL hy) (kindF hkind) hC
  have st : IsZip h' z TI TO .none ∧ IsPair h' TI (.ref i1) (.ref i2) ∧ (∃ a b, IsPair h' TO a b) ∧ h'.IsListIter i1 l1 0 ∧ h'.IsListIter i2 l2 0 ∧ h'.IsList l1 xs ∧ h'.IsList l2 zs := ⟨hz, hTI, ⟨_, _, hTO⟩, h1, h2, hl1', hl2'⟩
  refine src_pair W hL st ?_
  refine block_own P W hifs hsz (fun i h st b hb => ?_) (fun b hb => fresh b ?_) hL st hcell hkind F' N' hmono h0 (fun i ys nws its' h tk C D oC m₂ E' hi le hP hB hC F' N' => ?_)
    (fun D C h tk m' ys nws le hP F' N' off dis hn hD hC hCL hCD => hRR D C h tk m' ys nws le hP F' N' off dis hn ?_ hC hCL hCD)
  · obtain ⟨g1, g2, ⟨_, _, g3⟩, ⟨_, g4, _⟩, ⟨_, g5, _⟩, ⟨_, g6, _⟩, ⟨_, g7, _⟩⟩ := st
    simp only [List.mem_cons, List.not_mem_nil, or_false] at hb
    rcases hb with rfl | rfl | rfl | rfl | rfl | rfl | rfl
    · exact ⟨_, g1⟩
    · exact ⟨_, g2⟩
    · exact ⟨_, g3⟩
    · exact ⟨_, g4⟩
    · exact ⟨_, g5⟩
    · exact ⟨_, g6⟩
    · exact ⟨_, g7⟩
  · simp only [List.mem_cons, List.not_mem_nil, or_false] at hb ⊢
    rcases hb with rfl | rfl | rfl | rfl <;> simp
  · obtain ⟨va, vb, ⟨a, b, ea, eb, e⟩, m1, m2⟩ := hB
    have e1 : va = a ∧ vb = b := by simpa using e
    obtain ⟨rfl, rfl⟩ := e1
    exact turn i va vb ys nws its' h tk C D oC m₂ E' ea eb le hP m1 m2 hC F' N'
  · exact voidUp up hD
end

end
section
theorem fresh_want : True := by
  w_top off
  k_with_none
  k_with "mine:enter" => (
  (case k1 => assumption)
  (case k2 => exact Top.nolimit (by assumption))
  (case k3 => k_is)
  (case k4 => k_is)
  (case k5 => ktr_room)
  (case k0 => exact rfl)
  (case k6 => exact BindsTo.of_eq rfl)
  (case k7 => exact locs rfl)
  (case c2 => exact rfl)
  (case c3 => exact rfl)
  (case c4 => exact rfl)
  (case c5 => decide))
  k_with "mine:steps" => repeat' (first | (k_unfold; (try dsimp only)) | walk1 | (dsimp only; walk1) | fail "no step")
  k_with "mine:rest" => (
  (intro zw9 z1w9 z2w9 z3w9);
  (simp only [List.forall_mem_cons, List.not_mem_nil, false_implies, implies_true, and_true, ne_eq] at z2w9);
  (simp only [List.contains_cons, List.contains_nil, Bool.or_false, Bool.or_eq_false_iff, beq_eq_false_iff_ne, ne_eq] at z3w9);
  (simp [kstB, z1w9, z2w9, z3w9]))
  k_with "mine:mm" => first | with_reducible exact mem_h | with_reducible assumption | ((with_reducible refine mem_t ?_); k_extra "mine:mm")
  k_with "mine:md" => first | exact mem_h | assumption | (refine mem_t ?_; k_extra "mine:md")
  k_with "mine:sub" => first | with_reducible exact sub_nil | with_reducible assumption | with_reducible exact sub_refl | ((with_reducible refine sub_cons ?_ ?_); (first | k_extra "mine:mm" | k_extra "mine:md"); k_extra "mine:sub") | ((with_reducible refine sub_app ?_ ?_); k_extra "mine:sub"; k_extra "mine:sub") | ((with_reducible refine sub_tail ?_); k_extra "mine:sub") | ((with_reducible refine sub_left ?_); k_extra "mine:sub") | ((with_reducible refine sub_right ?_); k_extra "mine:sub")
  k_with "mine:subs" => ((try dsimp only [List.cons_append, List.nil_append]); k_extra "mine:sub")
  k_with "mine:ad" => first | with_reducible assumption | ((with_reducible refine ad_ss ?_); k_extra "mine:ad") | with_reducible first | exact ad_1 | exact ad_2 | exact ad_3 | exact ad_4 | exact ad_5 | exact ad_6 | exact ad_7 | exact ad_1.symm | exact ad_2.symm | exact ad_3.symm | exact ad_4.symm | exact ad_5.symm | exact ad_6.symm | exact ad_7.symm
  k_with "mine:off" => first | with_reducible exact off_nil | with_reducible assumption | ((with_reducible refine off_cons ?_ ?_); (first | k_extra "mine:ad" | (refine Ne.symm ?_; k_extra "mine:ad") | k_ne); k_extra "mine:off") | ((with_reducible refine off_app ?_ ?_); k_extra "mine:off"; k_extra "mine:off") | exact off_sym (by with_reducible assumption) | exact off_of (by assumption) (by k_extra "mine:mm")
  k_with "mine:offs" => ((try dsimp only [List.cons_append, List.nil_append]); k_extra "mine:off")
  trivial
theorem word_want_0 : True := by
  k_with "call type:zip" => refine Halt.mk ?_
  k_with "call builtin:str.join" => refine Halt.mk ?_
  k_with "eval ListComp" => ((with_reducible show wpAny _ _ (eval (PySem.Expr.ListComp _ _ _ _) _) _ _ _); k_dflt (refine comp_E (cl := []) ?c1 ?c2 ?c3 ?c4 ?c5); (case c2 => k_dflt rfl); (case c3 => k_dflt decide); (case c5 => intro _; k_dflt rfl); (case c1 => with_unfolding_all rfl))
  trivial
def wantI (a b : Str) (j : Nat) : Str := if (⟨#[a.cps.getD j 0]⟩ : Str) = ⟨#[b.cps.getD j 0]⟩ then ⟨#[a.cps.getD j 0]⟩ else Str.ofString "..."
def wantL (a b : Str) (i : Nat) : List Str := (List.range i).map (wantI a b)
theorem wantL_succ (a b : Str) (i : Nat) : wantL a b (i + 1) = wantL a b i ++ [wantI a b i] := by simp [wantL, List.range_succ]
def wantP (a b : Str) (i : Nat) (ys : List Value) (nws : List (Addr × Obj)) (_ : Nat) : Prop := nws = [] ∧ StrsAre ys (wantL a b i)
def wantF (a b : Str) : Str := Txt.join (Str.ofString "") (wantL a b a.length)
theorem getD_of {l : Array Nat} {i c : Nat} (h : l[i]? = some c) : l.getD i 0 = c := by simp [Array.getD_eq_getD_getElem?, h]
theorem wantI_le (a b : Str) (j : Nat) : (wantI a b j).length ≤ 3 := by
  unfold wantI
  split
  · exact (by decide : 1 ≤ 3)
  · exact (by decide : (Str.ofString "...").length ≤ 3)
theorem sum_le3 : ∀ l : List Str, (∀ y ∈ l, y.length ≤ 3) → (l.map (·.length)).sum ≤ 3 * l.length
  | [], _ => by simp
  | y :: l, h => by
    have := sum_le3 l fun z hz => h z (List.mem_cons_of_mem _ hz)
    have := h y List.mem_cons_self
    simp only [List.map_cons, List.sum_cons, List.length_cons]
    omega
theorem wantL_w (a b : Str) (i : Nat) (h : i ≤ 4) : ((wantL a b i).map (·.length)).sum + (wantL a b i).length ≤ 1048576 := by
  have h1 := sum_le3 (wantL a b i) (fun y hy => by
    simp only [wantL, List.mem_map] at hy
    obtain ⟨j, _, rfl⟩ := hy
    exact wantI_le a b j)
  have h2 : (wantL a b i).length = i := by simp [wantL]
  omega
theorem strsSnocW {vs : List Value} {ss : List Str} {x : Str} {t : Tok} (h : StrsAre vs ss) : StrsAre (vs ++ [.str x t]) (ss ++ [x]) := by
  induction h with
  | nil => exact .cons _ _ .nil
  | cons _ _ _ ih => exact .cons _ _ ih
theorem want_ok {w : World} {dp un : Nat} {fr : Option (List Env)} {gd : Option (List Code)} {s : Shared} {Q E : Value → Shared → Prop} {mean : ExcName → Option Value} {mg mb : Str → Option Value} {a b : Str} {ta tb : Tok} {n : Nat} (la : a.length = n) (lb : b.length = n) (ln : n ≤ 4)
   (aa : a.cps.all (· < 128) = true) (ab : b.cps.all (· < 128) = true)
   (hd : dp + 2 < recursionLimit) (hu : un + 24 < cLine) (X : (tp.heap_39 w.params).In s.heap) (T : Top tp.view_39 (looseW tp.view_39 []) mean mg mb s.heap)
   (hQ : ∀ t h' tk', s.heap.StaysIn h' → s.toks ≤ tk' → Q (.str (wantF a b) t) { s with heap := h', toks := tk' }) :
   wpAny (model PySem.Challenge.rw_sw0025_01.row.prog w) ⟨none, dp, fr, gd, un⟩ (call (.ref 68) [.str a ta, .str b tb]) Q E s := by
  revert X; k_fill; intro X
  refine wpAny_with_toks (Nat.le_refl _) ?_
  refine' enter [(Str.ofString "other", .str b tb), (Str.ofString "one", .str a ta)] ?k0 ?k1 ?k2 ?k3 ?k4 ?k5 ?k6 ?k7 ?k8 ?c2 ?c3 ?c4 ?c5
  k_extra "mine:enter"
  intro LL h1 F1 N1
  try dsimp only
  try k_fold
  try dsimp only
  iterate 8 (first | walk1 | (dsimp only; walk1))
  k_extra "mine:steps"
  unfold Halt
  try dsimp only
  refine' src_zipS (wantP a b) rfl la lb ?ln aa ab ?hx ?hy ?hxy ?hc ?hk ?F ?N ?mono ?h0 ?turn ?done
  case ln => rw [sizeLine_eq]; omega
  case hx => rfl
  case hy => rfl
  case hxy => decide
  case hc => decide
  case hk => rfl
  case F => assumption
  case N => assumption
  case mono => exact fun _ _ _ _ _ h _ => h
  case h0 => exact ⟨rfl, by constructor⟩
  case turn =>
    rintro i c d t u ys nws its' h5 tk5 C D oC m₂ E' ec ed le5 ⟨rfl, hP⟩ mx my hoC F5 N5
    refine cturn0 ?_
    refine gen_Q fun QC hQC => ?_
    dsimp only at F5 N5 ⊢
    dsimp only [List.nil_append, List.cons_append] at N5
    k_extra "mine:steps"
    · refine hQC _ _ (cend (by assumption) (by assumption) (by k_extra "mine:subs") fun _ => ⟨rfl, ?_⟩)
      rw [wantL_succ]
      have e : wantI a b i = ⟨#[c]⟩ := by unfold wantI; rw [getD_of ec, getD_of ed, if_pos (eq_of_beq (by assumption))]
      rw [e]; exact strsSnocW hP
    · refine hQC _ _ (cend (by assumption) (by assumption) (by k_extra "mine:subs") fun _ => ⟨rfl, ?_⟩)
      rw [wantL_succ]
      have e : wantI a b i = Str.ofString "..." := by unfold wantI; rw [getD_of ec, getD_of ed, if_neg (ne_of_beq_false (by assumption))]
      rw [e]; exact strsSnocW hP
  case done =>
    refine post_E ?_
    rintro D ys nws h5 tk5 le5 ⟨rfl, hP⟩ F5 N5 hD
    dsimp only at F5 N5 ⊢
    k_extra "mine:steps"
    unfold Halt
    refine join_listW (items := ys.toArray) (ys := wantL a b n) ⟨_, (N5 _ List.mem_cons_self).1, rfl, _, rfl⟩ hP (by decide) (wantL_w a b n ln) fun t' k => ?_
    k_extra "mine:steps"
    have e : wantF a b = Txt.join (Str.ofString "") (wantL a b n) := by rw [wantF, la]
    rw [← e]
    exact hQ _ _ _ (Fr.keep (by assumption)) (by assumption)

end
section
theorem fresh_unl : True := by
  w_top off
  k_with_none
  k_with "mine:enter" => (
  (case k1 => assumption)
  (case k2 => exact Top.nolimit (by assumption))
  (case k3 => k_is)
  (case k4 => k_is)
  (case k5 => ktr_room)
  (case k0 => exact rfl)
  (case k6 => exact BindsTo.of_eq rfl)
  (case k7 => exact locs rfl)
  (case c2 => exact rfl)
  (case c3 => exact rfl)
  (case c4 => exact rfl)
  (case c5 => decide))
  k_with "mine:steps" => repeat' (first | (k_unfold; (try dsimp only)) | walk1 | (dsimp only; walk1) | fail "no step")
  k_with "mine:rest" => (
  (intro zw9 z1w9 z2w9 z3w9);
  (simp only [List.forall_mem_cons, List.not_mem_nil, false_implies, implies_true, and_true, ne_eq] at z2w9);
  (simp only [List.contains_cons, List.contains_nil, Bool.or_false, Bool.or_eq_false_iff, beq_eq_false_iff_ne, ne_eq] at z3w9);
  (simp [kstB, z1w9, z2w9, z3w9]))
  k_with "mine:mm" => first | with_reducible exact mem_h | with_reducible assumption | ((with_reducible refine mem_t ?_); k_extra "mine:mm")
  k_with "mine:md" => first | exact mem_h | assumption | (refine mem_t ?_; k_extra "mine:md")
  k_with "mine:sub" => first | with_reducible exact sub_nil | with_reducible assumption | with_reducible exact sub_refl | ((with_reducible refine sub_cons ?_ ?_); (first | k_extra "mine:mm" | k_extra "mine:md"); k_extra "mine:sub") | ((with_reducible refine sub_app ?_ ?_); k_extra "mine:sub"; k_extra "mine:sub") | ((with_reducible refine sub_tail ?_); k_extra "mine:sub") | ((with_reducible refine sub_left ?_); k_extra "mine:sub") | ((with_reducible refine sub_right ?_); k_extra "mine:sub")
  k_with "mine:subs" => ((try dsimp only [List.cons_append, List.nil_append]); k_extra "mine:sub")
  k_with "mine:ad" => first | with_reducible assumption | ((with_reducible refine ad_ss ?_); k_extra "mine:ad") | with_reducible first | exact ad_1 | exact ad_2 | exact ad_3 | exact ad_4 | exact ad_5 | exact ad_6 | exact ad_7 | exact ad_1.symm | exact ad_2.symm | exact ad_3.symm | exact ad_4.symm | exact ad_5.symm | exact ad_6.symm | exact ad_7.symm
  k_with "mine:off" => first | with_reducible exact off_nil | with_reducible assumption | ((with_reducible refine off_cons ?_ ?_); (first | k_extra "mine:ad" | (refine Ne.symm ?_; k_extra "mine:ad") | k_ne); k_extra "mine:off") | ((with_reducible refine off_app ?_ ?_); k_extra "mine:off"; k_extra "mine:off") | exact off_sym (by with_reducible assumption) | exact off_of (by assumption) (by k_extra "mine:mm")
  k_with "mine:offs" => ((try dsimp only [List.cons_append, List.nil_append]); k_extra "mine:off")
  trivial
theorem word_unl_0 : True := by
  k_with "call type:zip" => refine Halt.mk ?_
  k_with "call builtin:len" => refine Halt.mk ?_
  k_with "eval ListComp" => ((with_reducible show wpAny _ _ (eval (PySem.Expr.ListComp _ _ _ _) _) _ _ _); k_dflt (refine comp_E (cl := []) ?c1 ?c2 ?c3 ?c4 ?c5); (case c2 => k_dflt rfl); (case c3 => k_dflt decide); (case c5 => intro _; k_dflt rfl); (case c1 => with_unfolding_all rfl))
  trivial
def unlD (a b : Str) (j : Nat) : Bool := (⟨#[a.cps.getD j 0]⟩ : Str) != ⟨#[b.cps.getD j 0]⟩
def unlK (a b : Str) : Nat → Nat
  | 0 => 0
  | i + 1 => if unlD a b i = true then unlK a b i + 1 else unlK a b i
def unlF (a b : Str) : Int := unlK a b a.length
theorem unlK_le (a b : Str) : ∀ i, unlK a b i ≤ i
  | 0 => Nat.le_refl _
  | i + 1 => by have := unlK_le a b i; simp only [unlK]; split <;> omega
theorem getD_of' {l : Array Nat} {i c : Nat} (h : l[i]? = some c) : l.getD i 0 = c := by simp [Array.getD_eq_getD_getElem?, h]
def unlP (a b : Str) (i : Nat) (ys : List Value) (nws : List (Addr × Obj)) (_ : Nat) : Prop := nws = [] ∧ ys.length = unlK a b i
theorem unl_ok {w : World} {dp un : Nat} {fr : Option (List Env)} {gd : Option (List Code)} {s : Shared} {Q E : Value → Shared → Prop} {mean : ExcName → Option Value} {mg mb : Str → Option Value} {a b : Str} {ta tb : Tok} {n : Nat} (la : a.length = n) (lb : b.length = n) (ln : n ≤ 4)
   (aa : a.cps.all (· < 128) = true) (ab : b.cps.all (· < 128) = true)
   (hd : dp + 2 < recursionLimit) (hu : un + 24 < cLine) (X : (tp.heap_39 w.params).In s.heap) (T : Top tp.view_39 (looseW tp.view_39 []) mean mg mb s.heap)
   (hQ : ∀ t h' tk', s.heap.StaysIn h' → s.toks ≤ tk' → t ≠ 0 → t < tk' → Q (.int (unlF a b) t) { s with heap := h', toks := tk' }) :
   wpAny (model PySem.Challenge.rw_sw0025_01.row.prog w) ⟨none, dp, fr, gd, un⟩ (call (.ref 92) [.str a ta, .str b tb]) Q E s := by
  revert X; k_fill; intro X
  refine wpAny_with_toks (Nat.le_refl _) ?_
  refine' enter [(Str.ofString "other", .str b tb), (Str.ofString "one", .str a ta)] ?k0 ?k1 ?k2 ?k3 ?k4 ?k5 ?k6 ?k7 ?k8 ?c2 ?c3 ?c4 ?c5
  k_extra "mine:enter"
  intro LL h1 F1 N1
  try dsimp only
  try k_fold
  try dsimp only
  iterate 8 (first | walk1 | (dsimp only; walk1))
  k_extra "mine:steps"
  unfold Halt
  try dsimp only
  refine' src_zipS (unlP a b) rfl la lb ?ln aa ab ?hx ?hy ?hxy ?hc ?hk ?F ?N ?mono ?h0 ?turn ?done
  case ln => rw [sizeLine_eq]; omega
  case hx => rfl
  case hy => rfl
  case hxy => decide
  case hc => decide
  case hk => rfl
  case F => assumption
  case N => assumption
  case mono => exact fun _ _ _ _ _ h _ => h
  case h0 => exact ⟨rfl, rfl⟩
  case turn =>
    rintro i c d t u ys nws its' h5 tk5 C D oC m₂ E' ec ed le5 ⟨rfl, hP⟩ mx my hoC F5 N5
    refine cturn1q fun QC QD hQC hQD => ?_
    dsimp only at F5 N5 ⊢
    dsimp only [List.nil_append] at N5
    k_extra "mine:steps"
    · refine hQC _ _ (cend (by assumption) (by assumption) (by k_extra "mine:subs") fun _ => ⟨rfl, ?_⟩)
      have e : unlD a b i = true := by unfold unlD; rw [getD_of' ec, getD_of' ed]; assumption
      rw [unlK, if_pos e, List.length_append, hP]; rfl
    · refine hQD _ (cend (by assumption) (by assumption) (by k_extra "mine:subs") fun _ => ⟨rfl, ?_⟩)
      have e : ¬ unlD a b i = true := by unfold unlD; rw [getD_of' ec, getD_of' ed]; exact Bool.eq_false_iff.mp (by assumption)
      rw [unlK, if_neg e, hP]
  case done =>
    refine post_E ?_
    rintro D ys nws h5 tk5 le5 ⟨rfl, hP⟩ F5 N5 hD
    dsimp only at F5 N5 ⊢
    k_extra "mine:steps"
    unfold Halt
    have e9 : ys.toArray.size = unlK a b n := by rw [List.size_toArray]; exact hP
    have e8 := unlK_le a b n
    refine call_len_list (items := ys.toArray) ⟨_, (N5 _ List.mem_cons_self).1, rfl, _, rfl⟩ (by rw [e9]; omega) ?_
    rw [e9]
    intro le6
    have e : unlF a b = ((unlK a b n : Nat) : Int) := by rw [unlF, la]
    exact toI e.symm (hQ _ _ _ (Fr.keep (by assumption)) le6 (Nat.succ_ne_zero _) (Nat.lt_succ_self _))

end
section
theorem fresh_forc : True := by
  w_top off
  k_with_none
  k_with "mine:enter" => (
  (case k1 => assumption)
  (case k2 => exact Top.nolimit (by assumption))
  (case k3 => k_is)
  (case k4 => k_is)
  (case k5 => ktr_room)
  (case k0 => exact rfl)
  (case k6 => exact BindsTo.of_eq rfl)
  (case k7 => exact locs rfl)
  (case c2 => exact rfl)
  (case c3 => exact rfl)
  (case c4 => exact rfl)
  (case c5 => decide))
  k_with "mine:steps" => repeat' (first | (k_unfold; (try dsimp only)) | walk1 | (dsimp only; walk1) | fail "no step")
  k_with "mine:rest" => (
  (intro zw9 z1w9 z2w9 z3w9);
  (simp only [List.forall_mem_cons, List.not_mem_nil, false_implies, implies_true, and_true, ne_eq] at z2w9);
  (simp only [List.contains_cons, List.contains_nil, Bool.or_false, Bool.or_eq_false_iff, beq_eq_false_iff_ne, ne_eq] at z3w9);
  (simp [kstB, z1w9, z2w9, z3w9]))
  k_with "mine:mm" => first | with_reducible exact mem_h | with_reducible assumption | ((with_reducible refine mem_t ?_); k_extra "mine:mm")
  k_with "mine:md" => first | exact mem_h | assumption | (refine mem_t ?_; k_extra "mine:md")
  k_with "mine:sub" => first | with_reducible exact sub_nil | with_reducible assumption | with_reducible exact sub_refl | ((with_reducible refine sub_cons ?_ ?_); (first | k_extra "mine:mm" | k_extra "mine:md"); k_extra "mine:sub") | ((with_reducible refine sub_app ?_ ?_); k_extra "mine:sub"; k_extra "mine:sub") | ((with_reducible refine sub_tail ?_); k_extra "mine:sub") | ((with_reducible refine sub_left ?_); k_extra "mine:sub") | ((with_reducible refine sub_right ?_); k_extra "mine:sub")
  k_with "mine:subs" => ((try dsimp only [List.cons_append, List.nil_append]); k_extra "mine:sub")
  k_with "mine:ad" => first | with_reducible assumption | ((with_reducible refine ad_ss ?_); k_extra "mine:ad") | with_reducible first | exact ad_1 | exact ad_2 | exact ad_3 | exact ad_4 | exact ad_5 | exact ad_6 | exact ad_7 | exact ad_1.symm | exact ad_2.symm | exact ad_3.symm | exact ad_4.symm | exact ad_5.symm | exact ad_6.symm | exact ad_7.symm
  k_with "mine:off" => first | with_reducible exact off_nil | with_reducible assumption | ((with_reducible refine off_cons ?_ ?_); (first | k_extra "mine:ad" | (refine Ne.symm ?_; k_extra "mine:ad") | k_ne); k_extra "mine:off") | ((with_reducible refine off_app ?_ ?_); k_extra "mine:off"; k_extra "mine:off") | exact off_sym (by with_reducible assumption) | exact off_of (by assumption) (by k_extra "mine:mm")
  k_with "mine:offs" => ((try dsimp only [List.cons_append, List.nil_append]); k_extra "mine:off")
  trivial
section
variable {prog : Program} {w : World} {A : Around} {E : Value → Shared → Prop} {s : Shared} {h₀ : Heap} {L : Addr} {env : Env}
/-- what a turn of a loop with a captured target leaves -/
structure FPost {σ : Type} (h₀ : Heap) (L : Addr) (c : Addr) (rest : σ → List (Addr × Obj)) (ps : σ → List (Str × Value)) (stored : List Str) (m₀ : Str → Option Value) (P : Nat → σ → Nat → Prop) (k : Nat) (own : List (Addr × Obj)) (adr : List Addr) (s₁ : Shared) (Q : Flow → Shared → Prop) (f : Flow) (s₂ : Shared) : Prop where
  out : match f with
    | .ret v => Q (.ret v) s₂
    | .brk => Q .next s₂
    | _ => ∃ (st : σ) (oc : Obj) (v : Option Value) (h' : Heap) (tk : Nat) (m' : Str → Option Value) (all : List (Addr × Obj)), s₂ = { s₁ with heap := h', toks := tk } ∧ Fr h₀ L h' m' ∧ News h₀ L h' all ∧ (c, oc) ∈ all ∧ oc.data = .cell v ∧ (∀ p ∈ rest st, p ∈ all) ∧ (∀ p ∈ own, p ∈ all) ∧
        (∀ p ∈ rest st, p.1 ∈ adr ∨ ((∀ f, p.2.data ≠ .fields f) ∧ ∀ v, p.2.data ≠ .cell v)) ∧ (∀ p ∈ ps st, m' p.1 = some p.2) ∧ (∀ z, (∀ p ∈ ps st, z ≠ p.1) → stored.contains z = false → m' z = m₀ z) ∧ (s₁.toks ≤ tk → P k st tk)
theorem fpost_next {σ : Type} {c : Addr} {rest : σ → List (Addr × Obj)} {ps : σ → List (Str × Value)} {stored : List Str} {m₀ : Str → Option Value} {P : Nat → σ → Nat → Prop} {k : Nat} {own : List (Addr × Obj)} {adr : List Addr} {s₁ : Shared} {Q : Flow → Shared → Prop} {h' : Heap} {tk : Nat} {m' : Str → Option Value} {all : List (Addr × Obj)} {oc : Obj} {v : Option Value} (st : σ)
    (F : Fr h₀ L h' m') (N : News h₀ L h' all) (hc : (c, oc) ∈ all) (hd : oc.data = .cell v) (hr : ∀ p ∈ rest st, p ∈ all) (ho : ∀ p ∈ own, p ∈ all) (ha : ∀ p ∈ rest st, p.1 ∈ adr ∨ ((∀ f, p.2.data ≠ .fields f) ∧ ∀ v, p.2.data ≠ .cell v))
    (hk : ∀ p ∈ ps st, m' p.1 = some p.2) (hz : ∀ z, (∀ p ∈ ps st, z ≠ p.1) → stored.contains z = false → m' z = m₀ z) (hP : s₁.toks ≤ tk → P k st tk) :
    FPost h₀ L c rest ps stored m₀ P k own adr s₁ Q .next { s₁ with heap := h', toks := tk } := ⟨⟨st, oc, v, h', tk, m', all, rfl, F, N, hc, hd, hr, ho, ha, hk, hz, hP⟩⟩
theorem fpost_ret {σ : Type} {c : Addr} {rest : σ → List (Addr × Obj)} {ps : σ → List (Str × Value)} {stored : List Str} {m₀ : Str → Option Value} {P : Nat → σ → Nat → Prop} {k : Nat} {own : List (Addr × Obj)} {adr : List Addr} {s₁ s₂ : Shared} {Q : Flow → Shared → Prop} {v : Value}
    (h : Q (.ret v) s₂) : FPost h₀ L c rest ps stored m₀ P k own adr s₁ Q (.ret v) s₂ := ⟨h⟩

theorem For_own {iter : PySem.Expr} {tgt : PySem.Expr} {body : List Stmt} {pos : Pos} {Q : Flow → Shared → Prop}
    (h : wpAny (model prog w) A (eval iter env) (fun xv s₁ => Halt (wpAny (model prog w) A (pyIter xv) (fun it s₂ => codeAny (model prog w) A (.forLoop tgt it body [] env) (fun r s' => match r with | .ok f => Q f s' | .error e => cameBackBy (model prog w) A env E e s') s₂) E s₁)) E s)
    (hs : ∀ x, foldedSetIterable iter env x = pure x) : wpAny (model prog w) A (exec (.For tgt iter body [] pos) env) Q E s := wpAny_For h hs

/-- the state between two turns -/
inductive FInv {σ : Type} (s : Shared) (h₀ : Heap) (L c I : Addr) (n : Nat) (rest : σ → List (Addr × Obj)) (ps : σ → List (Str × Value)) (stored : List Str) (m₀ : Str → Option Value) (P : Nat → σ → Nat → Prop) : Nat → Shared → Prop
  | mk (h' : Heap) (tk : Nat) (st : σ) (oc : Obj) (v : Option Value) (m' : Str → Option Value) (i : Nat) (hi : i ≤ n) (hle : s.toks ≤ tk) (hst : IsRangeIter h' I (0 + (i : Nat) * 1) ((n : Int) - (i : Nat)) 1) (F : Fr h₀ L h' m') (N : News h₀ L h' ((c, oc) :: rest st)) (hd : oc.data = .cell v)
      (off : ∀ p ∈ rest st, p.1 ≠ c ∧ p.1 ≠ I) (hk : ∀ p ∈ ps st, m' p.1 = some p.2) (hz : ∀ z, (∀ p ∈ ps st, z ≠ p.1) → stored.contains z = false → m' z = m₀ z) (hP : P i st tk) : FInv s h₀ L c I n rest ps stored m₀ P (n + 1 - i) { s with heap := h', toks := tk }
theorem for_cell {σ : Type} {x : Str} {px : Pos} {body : List Stmt} {Q : Flow → Shared → Prop} {r : Addr} {t₀ u₀ v₀ : Tok} {n : Nat} {m₀ : Str → Option Value} {c : Addr} {o₀ : Obj} {w₀ : Option Value} (rest : σ → List (Addr × Obj)) (ps : σ → List (Str × Value)) (stored : List Str) (P : Nat → σ → Nat → Prop) (st₀ : σ)
    (hh : A.handled = none) (hr : IsRange s.heap r 0 (n : Int) 1 t₀ u₀ v₀) (hn : n < 2 ^ 20) (hx : env.kindOf x = some .cell) (hkf : env.scope.kind = .function) (hcl : env.cells.lookup x = some c)
    (F : Fr h₀ env.locals s.heap m₀) (N : News h₀ env.locals s.heap ((c, o₀) :: rest st₀)) (hd : o₀.data = .cell w₀) (hne : ∀ p ∈ rest st₀, p.1 ≠ c) (hk : ∀ p ∈ ps st₀, m₀ p.1 = some p.2)
    (hmono : ∀ k st tk tk', P k st tk → tk ≤ tk' → P k st tk') (hp : P 0 st₀ s.toks) (hE : PassesOwn (model prog w) A env E)
    (turn : ∀ (st : σ) (k : Nat) (u : Str → Option Value) oc t h tk own, k < n → s.toks ≤ tk → P k st tk → oc.data = .cell (some (.int (k : Int) t)) → OwnOff own (c :: (rest st₀).map (·.1)) → (∀ p ∈ rest st, p.1 ≠ c) →
      Fr h₀ env.locals h (kstB (fun z => if stored.contains z then u z else m₀ z) (ps st)) → News h₀ env.locals h ((c, oc) :: (rest st ++ own)) →
      wpAny (model prog w) A (execs body env) (FPost h₀ env.locals c rest ps stored m₀ P (k + 1) own ((rest st₀).map (·.1)) { s with heap := h, toks := tk } Q) E { s with heap := h, toks := tk })
    (done : ∀ (st : σ) (u : Str → Option Value) oc v h tk, s.toks ≤ tk → P n st tk → oc.data = .cell v → Fr h₀ env.locals h (kstB (fun z => if stored.contains z then u z else m₀ z) (ps st)) → News h₀ env.locals h ((c, oc) :: rest st) → (∀ p ∈ rest st, p.1 ≠ c) → Q .next { s with heap := h, toks := tk }) :
    wpAny (model prog w) A (pyIter (.ref r)) (fun it s₂ => codeAny (model prog w) A (.forLoop (.Name x px) it body [] env) (fun r s' => match r with | .ok f => Q f s' | .error e => cameBackBy (model prog w) A env E e s') s₂) E s := by
  have hz : Builtin.Range.rangeSize 0 (n : Int) 1 = (n : Int) := by rw [rangeSize_one]; split <;> omega
  refine wpAny_pyIter_range hr (small_one (by omega) (by omega) (by omega) (by omega)) ?_
  rw [hz]
  have W := LCg.range_walks (prog := prog) (w := w) (I := s.heap.objs.size) hh 0 n
  generalize hI : s.heap.objs.size = I at W
  have up : ∀ b o, s.heap.get? b = some o → (s.heap.push { cls := .type "range_iterator", data := .fields #[rawInt 0, rawInt (n : Int), rawInt 1] }).get? b = some o := fun b o e => Heap.get?_push_of_some _ e
  have hIn : (s.heap.push { cls := .type "range_iterator", data := .fields #[rawInt 0, rawInt (n : Int), rawInt 1] }).get? I = some _ := hI ▸ Heap.get?_push_size _ rfl
  have hI₀ : h₀.get? I = none := hI ▸ next_is_new F
  have hIL : env.locals ≠ I := hI ▸ Nat.ne_of_lt F.ns.lt
  have hIold : ∀ p ∈ (c, o₀) :: rest st₀, p.1 ≠ I := fun p hp => hI ▸ Nat.ne_of_lt (Heap.lt_size (N p hp).1)
  have hcI : c ≠ I := hIold (c, o₀) List.mem_cons_self
  have hcL : c ≠ env.locals := (N _ List.mem_cons_self).2.1
  have hc₀ : h₀.get? c = none := (N _ List.mem_cons_self).2.2
  have hadrc : ∀ b ∈ (rest st₀).map (·.1), b ≠ c := fun b hb => by obtain ⟨p, hp, rfl⟩ := List.mem_map.mp hb; exact hne p hp
  have hadrI : ∀ b ∈ (rest st₀).map (·.1), b ≠ I := fun b hb => by obtain ⟨p, hp, rfl⟩ := List.mem_map.mp hb; exact hIold p (List.mem_cons_of_mem _ hp)
  refine codeAny_forLoop
    (FInv s h₀ env.locals c I n rest ps stored m₀ P) ?_ (n + 1)
    (FInv.mk _ s.toks st₀ o₀ w₀ m₀ 0 (Nat.zero_le _) (Nat.le_refl _) (by show _ = _; simpa using hIn) (F.keeps up) (N.grown up) hd (fun p hp => ⟨hne p hp, hIold p (List.mem_cons_of_mem _ hp)⟩) hk (fun _ _ _ => rfl) hp) (fun _ => rfl)
  rintro j s' ⟨h', tk, st, oc, v, m', i, hi, hle, hst', F', N', hd', off', hk', hz', hP'⟩
  have mfr : m' = kstB (fun z => if stored.contains z then m' z else m₀ z) (ps st) := by
    funext z
    exact (kstB_eq hk' fun hn => by
      show (if stored.contains z then m' z else m₀ z) = m' z
      cases hcz : stored.contains z with
      | true => simp
      | false => simp [hz' z hn hcz]).symm
  by_cases hlt : i < n
  · refine wpAny_with_toks (Nat.le_refl tk) (W.item i _ _ _ hlt hst' fun v₁ h₁ tk₁ hPv hst₁ hk₁ => ?_)
    intro le₁
    obtain ⟨t, rfl⟩ := hPv
    have hnI : ∀ b, b ≠ I → b ∉ [I] := fun b hb hm => hb (List.mem_singleton.mp hm)
    have F₁ : Fr h₀ env.locals h₁ m' := LCg.fr_but F' hk₁ hIL hI₀
    have N₁ : News h₀ env.locals h₁ ((c, oc) :: rest st) := LCg.news_but N' hk₁ fun p hp => by
      rcases List.mem_cons.mp hp with rfl | hp
      · exact hcI
      · exact (off' p hp).2
    refine wpAny_assign_Name (wpAny_storeName_cell hkf hx hcl ⟨oc, (N₁ _ List.mem_cons_self).1, hd'⟩ (fun h₂ hv₂ hs₂ => ?_))
    obtain ⟨oc₂, hoc₂, hd₂⟩ := hv₂
    have F₂ : Fr h₀ env.locals h₂ m' := F₁.change hs₂ hcL hc₀
    have hst₂ : IsRangeIter h₂ I (0 + ((i + 1 : Nat) : Int) * 1) ((n : Int) - ((i + 1 : Nat) : Int)) 1 := hs₂.extBut _ _ (Ne.symm hcI) hst₁
    have N₂ : News h₀ env.locals h₂ ((c, oc₂) :: (rest st ++ [(I, _)])) := fun p hp => by
      rcases List.mem_cons.mp hp with rfl | hp
      · exact ⟨hoc₂, hcL, hc₀⟩
      rcases List.mem_append.mp hp with hp | hp
      · have z := N₁ p (List.mem_cons_of_mem _ hp)
        exact ⟨hs₂.extBut _ _ (off' p hp).1 z.1, z.2⟩
      · rw [List.mem_singleton.mp hp]
        exact ⟨hst₂, Ne.symm hIL, hI₀⟩
    have hown : OwnOff [(I, ({ cls := .type "range_iterator", dict := none, data := .fields #[rawInt (0 + ((i + 1 : Nat) : Int) * 1), rawInt ((n : Int) - ((i + 1 : Nat) : Int)), rawInt 1], slots := #[] } : Obj))] (c :: (rest st₀).map (·.1)) := fun p hp b hb => by
      rw [List.mem_singleton.mp hp]
      rcases List.mem_cons.mp hb with rfl | hb
      · exact Ne.symm hcI
      · exact Ne.symm (hadrI b hb)
    rw [Int.zero_add] at hd₂
    have F₂' : Fr h₀ env.locals h₂ (kstB (fun z => if stored.contains z then m' z else m₀ z) (ps st)) := mfr ▸ F₂
    refine wpAny_with_toks (Nat.le_refl tk₁) (wpAny_mono (wpAny_passesOwn hE (turn st i m' oc₂ t h₂ tk₁ _ hlt (Nat.le_trans hle le₁) (hmono _ _ _ _ hP' le₁) hd₂ hown (fun p hp => (off' p hp).1) F₂' N₂)) (fun f s₃ h₃ => ?_) fun _ _ e => fun _ => e)
    intro le₃
    have fin : (∃ (st : σ) (oc : Obj) (v : Option Value) (h' : Heap) (tk : Nat) (m' : Str → Option Value) (all : List (Addr × Obj)), s₃ = { s with heap := h', toks := tk } ∧ Fr h₀ env.locals h' m' ∧ News h₀ env.locals h' all ∧ (c, oc) ∈ all ∧ oc.data = .cell v ∧ (∀ p ∈ rest st, p ∈ all) ∧ (∀ p ∈ [(I, ({ cls := .type "range_iterator", dict := none, data := .fields #[rawInt (0 + ((i + 1 : Nat) : Int) * 1), rawInt ((n : Int) - ((i + 1 : Nat) : Int)), rawInt 1], slots := #[] } : Obj))], p ∈ all) ∧
        (∀ p ∈ rest st, p.1 ∈ (rest st₀).map (·.1) ∨ ((∀ f, p.2.data ≠ .fields f) ∧ ∀ v, p.2.data ≠ .cell v)) ∧ (∀ p ∈ ps st, m' p.1 = some p.2) ∧ (∀ z, (∀ p ∈ ps st, z ≠ p.1) → stored.contains z = false → m' z = m₀ z) ∧ (tk₁ ≤ tk → P (i + 1) st tk)) →
        ∃ m, m < n + 1 - i ∧ FInv s h₀ env.locals c I n rest ps stored m₀ P m s₃ := by
      rintro ⟨st₃, oc₃, v₃, g₃, tk₃, m₃, all, e₃, F₃, N₃, hc₃, hd₃, hr₃, ho₃, ha₃, hk₃, hz₃, hP₃⟩
      subst e₃
      have zI := N₃ _ (ho₃ _ List.mem_cons_self)
      have zc := N₃ _ hc₃
      refine ⟨n + 1 - (i + 1), by omega, .mk g₃ tk₃ st₃ oc₃ v₃ m₃ (i + 1) hlt (Nat.le_trans hle (Nat.le_trans le₁ le₃)) zI.1 F₃ (fun p hp => ?_) hd₃ (fun p hp => ?_) hk₃ hz₃ (hP₃ le₃)⟩
      · rcases List.mem_cons.mp hp with rfl | hp
        · exact zc
        · exact N₃ p (hr₃ p hp)
      · rcases ha₃ p hp with ha | ⟨ha, hb⟩
        · exact ⟨hadrc _ ha, hadrI _ ha⟩
        · have zp := N₃ p (hr₃ p hp)
          refine ⟨fun q => ?_, fun q => ?_⟩
          · have := zp.1
            rw [q, zc.1] at this
            exact hb v₃ ((congrArg Obj.data (Option.some.inj this)).symm.trans hd₃)
          · have := zp.1
            rw [q, zI.1] at this
            exact ha _ (congrArg Obj.data (Option.some.inj this)).symm
    cases f with
    | ret v => exact h₃.out
    | brk => exact h₃.out
    | next => exact fin h₃.out
    | cont => exact fin h₃.out
  · obtain rfl : i = n := by omega
    refine wpAny_with_toks (Nat.le_refl tk) (W.done _ _ _ hst' fun h₁ tk₁ hk₁ => fun le₁ => wpAny_execs_nil ?_)
    have F₁ : Fr h₀ env.locals h₁ m' := LCg.fr_but F' hk₁ hIL hI₀
    rw [mfr] at F₁
    refine done st m' oc v h₁ tk₁ (Nat.le_trans hle le₁) (hmono _ _ _ _ hP' le₁) hd' F₁ (LCg.news_but N' hk₁ fun p hp => ?_) fun p hp => (off' p hp).1
    rcases List.mem_cons.mp hp with rfl | hp
    · exact hcI
    · exact (off' p hp).2
end

end
section
theorem fresh_compc : True := by
  w_top off
  k_with_none
  k_with "mine:enter" => (
  (case k1 => assumption)
  (case k2 => exact Top.nolimit (by assumption))
  (case k3 => k_is)
  (case k4 => k_is)
  (case k5 => ktr_room)
  (case k0 => exact rfl)
  (case k6 => exact BindsTo.of_eq rfl)
  (case k7 => exact locs rfl)
  (case c2 => exact rfl)
  (case c3 => exact rfl)
  (case c4 => exact rfl)
  (case c5 => decide))
  k_with "mine:steps" => repeat' (first | (k_unfold; (try dsimp only)) | walk1 | (dsimp only; walk1) | fail "no step")
  k_with "mine:rest" => (
  (intro zw9 z1w9 z2w9 z3w9);
  (simp only [List.forall_mem_cons, List.not_mem_nil, false_implies, implies_true, and_true, ne_eq] at z2w9);
  (simp only [List.contains_cons, List.contains_nil, Bool.or_false, Bool.or_eq_false_iff, beq_eq_false_iff_ne, ne_eq] at z3w9);
  (simp [kstB, z1w9, z2w9, z3w9]))
  k_with "mine:mm" => first | with_reducible exact mem_h | with_reducible assumption | ((with_reducible refine mem_t ?_); k_extra "mine:mm")
  k_with "mine:md" => first | exact mem_h | assumption | (refine mem_t ?_; k_extra "mine:md")
  k_with "mine:sub" => first | with_reducible exact sub_nil | with_reducible assumption | with_reducible exact sub_refl | ((with_reducible refine sub_cons ?_ ?_); (first | k_extra "mine:mm" | k_extra "mine:md"); k_extra "mine:sub") | ((with_reducible refine sub_app ?_ ?_); k_extra "mine:sub"; k_extra "mine:sub") | ((with_reducible refine sub_tail ?_); k_extra "mine:sub") | ((with_reducible refine sub_left ?_); k_extra "mine:sub") | ((with_reducible refine sub_right ?_); k_extra "mine:sub")
  k_with "mine:subs" => ((try dsimp only [List.cons_append, List.nil_append]); k_extra "mine:sub")
  k_with "mine:ad" => first | with_reducible assumption | ((with_reducible refine ad_ss ?_); k_extra "mine:ad") | with_reducible first | exact ad_1 | exact ad_2 | exact ad_3 | exact ad_4 | exact ad_5 | exact ad_6 | exact ad_7 | exact ad_1.symm | exact ad_2.symm | exact ad_3.symm | exact ad_4.symm | exact ad_5.symm | exact ad_6.symm | exact ad_7.symm
  k_with "mine:off" => first | with_reducible exact off_nil | with_reducible assumption | ((with_reducible refine off_cons ?_ ?_); (first | k_extra "mine:ad" | (refine Ne.symm ?_; k_extra "mine:ad") | k_ne); k_extra "mine:off") | ((with_reducible refine off_app ?_ ?_); k_extra "mine:off"; k_extra "mine:off") | exact off_sym (by with_reducible assumption) | exact off_of (by assumption) (by k_extra "mine:mm")
  k_with "mine:offs" => ((try dsimp only [List.cons_append, List.nil_append]); k_extra "mine:off")
  trivial
section
variable {prog : Program} {w : World} {A : Around} {E : Value → Shared → Prop} {s : Shared} {h₀ : Heap} {L : Addr} {m : Str → Option Value} {env : Env}
abbrev newCell : Obj := { cls := .type "cell", data := .cell none }
theorem lay_compC {elt iter tgt : PySem.Expr} {ifs : List PySem.Expr} {x : Str} {scope : Scope} {cl : List (Str × Addr)} {pos : Pos} {it : Value} {RR : Value → Addr → Result → Shared → Prop}
    (hcl : ∀ n, cellsFrom n scope.names cl = (x, n) :: cl) (hpc : ∀ h : Heap, pushCells h scope.names = h.push newCell)
    (go : ∀ D C h₁, Laid s.heap h₁ D C → h₁.get? (C + 1) = some newCell → s.heap.get? (C + 1) = none →
      codeAny (model prog w) A (.compStart (.ListComp elt [⟨tgt, iter, ifs, 0⟩] scope pos) 0 it (.ref D) (compEnvC scope ((x, C + 1) :: cl) C env)) (RR (.ref D) C) { s with heap := h₁ }) :
    cblock prog w A E env elt tgt iter ifs scope cl pos RR it s := by
  refine wpAny_newObj_type ?_
  unfold newFunctionEnv
  refine wpAny_bind (wpAny_alloc (wpAny_bind (wpAny_layCells _ (fun _ k _ => by by_cases q : (k == NameKind.cell) = true <;> simp [q]) _ _ _ _ (wpAny_bind ?_))))
  rw [List.forIn_nil]
  refine wpAny_pure (wpAny_pure ?_)
  dsimp only
  rw [hpc, hcl]
  simp only [Option.isSome_some, if_true, Heap.size_push]
  have at' : ∀ k o, [LCg.lst [], ({ cls := .type "dict", data := .dict #[] } : Obj), newCell][k]? = some o → o.isFreed = false → (pushAll s.heap [LCg.lst [], { cls := .type "dict", data := .dict #[] }, newCell]).get? (s.heap.objs.size + k) = some o := fun k o e f => pushAll_at f _ k _ e
  have void : ∀ k, s.heap.get? (s.heap.objs.size + k) = none := fun k => Heap.get?_none_of_le (Nat.le_add_right _ _)
  have ns := Heap.Ns.new (s.heap.push (LCg.lst [])) (.type "dict")
  rw [Heap.size_push] at ns
  exact go s.heap.objs.size (s.heap.objs.size + 1) (pushAll s.heap [LCg.lst [], { cls := .type "dict", data := .dict #[] }, newCell]) ⟨fun _ _ => pushAll_keep _ _, at' 0 _ rfl rfl, ⟨_, ns.at' fun _ => Heap.get?_push_of_some _⟩, void 0, void 1, Nat.ne_of_lt (Nat.lt_succ_self _)⟩ (at' 2 _ rfl rfl) (void 2)
open LCg in
/-- a comprehension over a list whose target is captured by an inner block -/
theorem src_listC {elt iter : PySem.Expr} {x : Str} {px : Pos} {scope : Scope} {cl : List (Str × Addr)} {pos : Pos} {ax : Addr} {its : Array Value} {news : List (Addr × Obj)} {RR : Value → Addr → Result → Shared → Prop}
    (P : Nat → List Value → List (Addr × Obj) → Nat → Prop) (hh : A.handled = none) (hl : s.heap.IsList ax its) (hsz : its.size ≤ sizeLine) (hx : ∀ cl' C, (compEnvC scope cl' C env).kindOf x = some .cell) (hkind : scope.kind = .function)
    (hcl : ∀ n, cellsFrom n scope.names cl = (x, n) :: cl) (hpc : ∀ h : Heap, pushCells h scope.names = h.push { cls := .type "cell", data := .cell none })
    (F : Fr h₀ L s.heap m) (N : News h₀ L s.heap news) (haL : ax ≠ L) (hmono : ∀ i ys nws tk tk', P i ys nws tk → tk ≤ tk' → P i ys nws tk') (h0 : P 0 [] [] s.toks)
    (turn : ∀ i v ys nws its' h tk C D oC oc m₂ E', s.toks ≤ tk → P i ys nws tk → its[i]? = some v → NsObj oC m₂ → oc.data = .cell (some v) → Fr h₀ L h m → News h₀ L h ((C, oC) :: (C + 1, oc) :: (D, lst ys) :: (news ++ (nws ++ its'))) →
      CTurn prog w A h₀ L m env elt [] scope ((x, C + 1) :: cl) s P i ys nws ((C, oC) :: (C + 1, oc) :: (D, lst ys) :: (news ++ (nws ++ its'))) h tk C E')
    (hRR : ∀ D C h tk m' ys nws, s.toks ≤ tk → P its.size ys nws tk → Fr h₀ L h m → News h₀ L h ((D, lst ys) :: (news ++ nws)) → (∀ p ∈ news ++ nws, p.1 ≠ D ∧ p.1 ≠ C) → (∀ p ∈ nws, ∀ q ∈ news, p.1 ≠ q.1) → h.Ns C m' → s.heap.get? D = none → h₀.get? C = none → C ≠ L → C ≠ D → RR (.ref D) C (.ok .next) { s with heap := h, toks := tk }) :
    wpAny (model prog w) A (pyIter (.ref ax)) (cblock prog w A E env elt (.Name x px) iter [] scope cl pos RR) E s := by
  have no : s.heap.get? s.heap.objs.size = none := Heap.get?_none_of_le (Nat.le_refl _)
  have ne : ax ≠ s.heap.objs.size := let ⟨_, e, _⟩ := hl; voidNe no e
  have up : ∀ b o, s.heap.get? b = some o → (s.heap.push { cls := .type "list_iterator", data := .fields #[.ref ax, .int 0 0] }).get? b = some o := fun _ _ => Heap.get?_push_of_some _
  refine wpAny_pyIter_list hl (lay_compC hcl hpc fun D C h₁ X gc nc => ?_)
  have F₂ := F.keeps up
  have N₂ := N.grown up
  have st : (s.heap.push { cls := .type "list_iterator", data := .fields #[.ref ax, .int 0 0] }).IsListIter s.heap.objs.size ax 0 ∧ (s.heap.push { cls := .type "list_iterator", data := .fields #[.ref ax, .int 0 0] }).IsList ax its := ⟨⟨_, Heap.get?_push_size _ rfl, rfl, rfl⟩, hl.push _⟩
  have old : ∀ b ∈ [s.heap.objs.size, ax], ∃ o, (s.heap.push { cls := .type "list_iterator", data := .fields #[.ref ax, .int 0 0] }).get? b = some o :=
    List.forall_mem_cons.mpr ⟨⟨_, Heap.get?_push_size _ rfl⟩, List.forall_mem_cons.mpr ⟨let ⟨o, e, _⟩ := hl; ⟨o, up _ _ e⟩, fun _ q => nomatch q⟩⟩
  have vC := voidFr F₂ X.noC
  have vD := voidFr F₂ X.noD
  have vc := voidFr F₂ nc
  have cC : C + 1 ≠ C := Nat.ne_of_gt (Nat.lt_succ_self _)
  have cD : D ≠ C + 1 := fun q => absurd (congrArg Obj.data (Option.some.inj (gc.symm.trans (q ▸ X.atD)))) (by simp)
  have out : ∀ {a : Addr}, a ≠ C + 1 → a ∉ [s.heap.objs.size, ax] → a ∉ (C + 1) :: [s.heap.objs.size, ax] := fun p q r => (List.mem_cons.mp r).elim p q
  obtain ⟨m₁, n₁⟩ := X.atC
  refine own_loop (wr := (C + 1) :: [s.heap.objs.size]) P (pulls_cell (Walks.list hh s.heap.objs.size ax ne its) (by simp [compEnvC, relabel, hkind]) (hx _ _) (by simp [compEnvC]) (voidIn X.noC old) (voidIn nc old) cC) (by decide) hsz
    (fun i h st => List.forall_mem_cons.mpr ⟨let ⟨_, o, g, _⟩ := st.2; ⟨o, g⟩, List.forall_mem_cons.mpr ⟨let ⟨o, e, _⟩ := st.1.1; ⟨o, e⟩, List.forall_mem_cons.mpr ⟨let ⟨o, e, _⟩ := st.1.2; ⟨o, e⟩, fun _ q => nomatch q⟩⟩⟩)
    (List.forall_mem_cons.mpr ⟨⟨vc.1, vc.2, voidNews N₂ nc⟩, List.forall_mem_cons.mpr ⟨⟨(voidFr F no).1, (voidFr F no).2, voidNews N no⟩, fun _ q => nomatch q⟩⟩)
    (out (Ne.symm vc.2) fun q => (List.mem_cons.mp q).elim (fun r => (voidFr F no).2 r.symm) fun r => haL (List.mem_singleton.mp r).symm)
    ⟨⟨st.1.at fun o => X.up _ o, st.2.at fun o => X.up _ o⟩, _, _, gc, rfl⟩ n₁ X.atD (out (Ne.symm cC) (voidIn X.noC old)) (out cD (voidIn X.noD old)) X.DC vC vD (voidNews N₂ X.noC) (voidNews N₂ X.noD) (F₂.keeps X.up) (N₂.grown X.up) hmono h0 (Nat.le_refl _)
    (fun i ys nws its' h tk oC m₂ E' _ le hP hB hC F' N' => ?_)
    fun h tk m' ys nws le hP F' N' off dis hn => hRR D C h tk m' ys nws le hP F' N' off dis hn (voidUp up X.noD) vC.1 vC.2 (Ne.symm X.DC)
  obtain ⟨v, o, hv, g, d⟩ := hB
  have sub : ∀ p ∈ (C, oC) :: (D, lst ys) :: (news ++ (nws ++ its')), p ∈ (C, oC) :: (C + 1, o) :: (D, lst ys) :: (news ++ (nws ++ its')) := fun p hp => (List.mem_cons.mp hp).elim (fun q => q ▸ .head _) fun q => .tail _ (.tail _ q)
  exact (turn i v ys nws its' h tk C D oC o m₂ E' le hP hv hC d F' (List.forall_mem_cons.mpr ⟨N' _ (.head _), List.forall_mem_cons.mpr ⟨⟨g, vc.2, vc.1⟩, fun p hp => N' p (.tail _ hp)⟩⟩)).use (fun _ _ _ q => q.less sub) fun _ _ q => q.less sub
end

end
section
theorem fresh_enterc : True := by
  w_top off
  k_with_none
  k_with "mine:enter" => (
  (case k1 => assumption)
  (case k2 => exact Top.nolimit (by assumption))
  (case k3 => k_is)
  (case k4 => k_is)
  (case k5 => ktr_room)
  (case k0 => exact rfl)
  (case k6 => exact BindsTo.of_eq rfl)
  (case k7 => exact locs rfl)
  (case c2 => exact rfl)
  (case c3 => exact rfl)
  (case c4 => exact rfl)
  (case c5 => decide))
  k_with "mine:steps" => repeat' (first | (k_unfold; (try dsimp only)) | walk1 | (dsimp only; walk1) | fail "no step")
  k_with "mine:rest" => (
  (intro zw9 z1w9 z2w9 z3w9);
  (simp only [List.forall_mem_cons, List.not_mem_nil, false_implies, implies_true, and_true, ne_eq] at z2w9);
  (simp only [List.contains_cons, List.contains_nil, Bool.or_false, Bool.or_eq_false_iff, beq_eq_false_iff_ne, ne_eq] at z3w9);
  (simp [kstB, z1w9, z2w9, z3w9]))
  k_with "mine:mm" => first | with_reducible exact mem_h | with_reducible assumption | ((with_reducible refine mem_t ?_); k_extra "mine:mm")
  k_with "mine:md" => first | exact mem_h | assumption | (refine mem_t ?_; k_extra "mine:md")
  k_with "mine:sub" => first | with_reducible exact sub_nil | with_reducible assumption | with_reducible exact sub_refl | ((with_reducible refine sub_cons ?_ ?_); (first | k_extra "mine:mm" | k_extra "mine:md"); k_extra "mine:sub") | ((with_reducible refine sub_app ?_ ?_); k_extra "mine:sub"; k_extra "mine:sub") | ((with_reducible refine sub_tail ?_); k_extra "mine:sub") | ((with_reducible refine sub_left ?_); k_extra "mine:sub") | ((with_reducible refine sub_right ?_); k_extra "mine:sub")
  k_with "mine:subs" => ((try dsimp only [List.cons_append, List.nil_append]); k_extra "mine:sub")
  k_with "mine:ad" => first | with_reducible assumption | ((with_reducible refine ad_ss ?_); k_extra "mine:ad") | with_reducible first | exact ad_1 | exact ad_2 | exact ad_3 | exact ad_4 | exact ad_5 | exact ad_6 | exact ad_7 | exact ad_1.symm | exact ad_2.symm | exact ad_3.symm | exact ad_4.symm | exact ad_5.symm | exact ad_6.symm | exact ad_7.symm
  k_with "mine:off" => first | with_reducible exact off_nil | with_reducible assumption | ((with_reducible refine off_cons ?_ ?_); (first | k_extra "mine:ad" | (refine Ne.symm ?_; k_extra "mine:ad") | k_ne); k_extra "mine:off") | ((with_reducible refine off_app ?_ ?_); k_extra "mine:off"; k_extra "mine:off") | exact off_sym (by with_reducible assumption) | exact off_of (by assumption) (by k_extra "mine:mm")
  k_with "mine:offs" => ((try dsimp only [List.cons_append, List.nil_append]); k_extra "mine:off")
  trivial
/-- a def with cells, by the library's rule; where its frame lies is not told -/
theorem enterC {prog : Program} {w : World} {A : Around} {s : Shared} {K : Frag} {R : Result → Shared → Prop} {qual : Str} {params : Arguments} {body : List Stmt} {scope : Scope} {doc pm cdv oc : Value} {od : Option Addr} {osl : Array (Option Value)} {f : Addr} {args : List Value} {binds : List (Str × Value)}
    (X : K.In s.heap) (hlim : s.heap.NoLimit)
    (ho : K.lookup f = some ⟨oc, od, .func (fnOf qual qual params body scope .none .none doc pm none cdv .none), osl⟩) (hcd : codeIn K cdv qual = true) (hroom : A.depth < recursionLimit)
    (hbind : bindArgs (docDef qual params body scope pm cdv doc) ⟨args, []⟩ = pure binds)
    (hkind : ∀ n, ∀ x ∈ binds, scope.names.lookup x.1 = some .local ∨ (scope.names.lookup x.1 = some .cell ∧ ((cellsFrom n scope.names []).lookup x.1).isSome = true))
    (hnd : ((cellsFrom 0 scope.names []).map (·.1)).Nodup)
    (h : ∀ L' h₁ tk cells, Fr s.heap L' h₁ (bindL (envOfC qual scope L' f cdv).kindOf binds fun _ => none) → News s.heap L' h₁ cells →
      CellsAre (bindC (envOfC qual scope L' f cdv).kindOf binds fun _ => none) (cellsFrom (L' + 1) scope.names []) cells →
      wpAny (model prog w) (A.deeper (envOfC qual scope L' f cdv)) (execs body (envOfC qual scope L' f cdv))
        (fun fl s' => R (.ok (.ret (match fl with | .ret v => v | _ => .none))) s') (fun _ _ => False) { s with heap := h₁, toks := tk })
    (hco : scope.isCoroutine = false := by rfl) (hgen : scope.isGenerator = false := by rfl) (hk : scope.kind = .function := by rfl) :
    codeAny (model prog w) A (.call (.ref f) ⟨args, []⟩) R s :=
  call_cellsN_ret hroom (X _ _ ho) rfl hlim (codeRec_of X hcd) hbind (hkind _) hnd (h _) hco hgen hk

end
section
theorem fresh_plain : True := by
  w_top off
  k_with_none
  k_with "mine:enter" => (
  (case k1 => assumption)
  (case k2 => exact Top.nolimit (by assumption))
  (case k3 => k_is)
  (case k4 => k_is)
  (case k5 => ktr_room)
  (case k0 => exact rfl)
  (case k6 => exact BindsTo.of_eq rfl)
  (case k7 => exact locs rfl)
  (case c2 => exact rfl)
  (case c3 => exact rfl)
  (case c4 => exact rfl)
  (case c5 => decide))
  k_with "mine:steps" => repeat' (first | (k_unfold; (try dsimp only)) | walk1 | (dsimp only; walk1) | fail "no step")
  k_with "mine:rest" => (
  (intro zw9 z1w9 z2w9 z3w9);
  (simp only [List.forall_mem_cons, List.not_mem_nil, false_implies, implies_true, and_true, ne_eq] at z2w9);
  (simp only [List.contains_cons, List.contains_nil, Bool.or_false, Bool.or_eq_false_iff, beq_eq_false_iff_ne, ne_eq] at z3w9);
  (simp [kstB, z1w9, z2w9, z3w9]))
  k_with "mine:mm" => first | with_reducible exact mem_h | with_reducible assumption | ((with_reducible refine mem_t ?_); k_extra "mine:mm")
  k_with "mine:md" => first | exact mem_h | assumption | (refine mem_t ?_; k_extra "mine:md")
  k_with "mine:sub" => first | with_reducible exact sub_nil | with_reducible assumption | with_reducible exact sub_refl | ((with_reducible refine sub_cons ?_ ?_); (first | k_extra "mine:mm" | k_extra "mine:md"); k_extra "mine:sub") | ((with_reducible refine sub_app ?_ ?_); k_extra "mine:sub"; k_extra "mine:sub") | ((with_reducible refine sub_tail ?_); k_extra "mine:sub") | ((with_reducible refine sub_left ?_); k_extra "mine:sub") | ((with_reducible refine sub_right ?_); k_extra "mine:sub")
  k_with "mine:subs" => ((try dsimp only [List.cons_append, List.nil_append]); k_extra "mine:sub")
  k_with "mine:ad" => first | with_reducible assumption | ((with_reducible refine ad_ss ?_); k_extra "mine:ad") | with_reducible first | exact ad_1 | exact ad_2 | exact ad_3 | exact ad_4 | exact ad_5 | exact ad_6 | exact ad_7 | exact ad_1.symm | exact ad_2.symm | exact ad_3.symm | exact ad_4.symm | exact ad_5.symm | exact ad_6.symm | exact ad_7.symm
  k_with "mine:off" => first | with_reducible exact off_nil | with_reducible assumption | ((with_reducible refine off_cons ?_ ?_); (first | k_extra "mine:ad" | (refine Ne.symm ?_; k_extra "mine:ad") | k_ne); k_extra "mine:off") | ((with_reducible refine off_app ?_ ?_); k_extra "mine:off"; k_extra "mine:off") | exact off_sym (by with_reducible assumption) | exact off_of (by assumption) (by k_extra "mine:mm")
  k_with "mine:offs" => ((try dsimp only [List.cons_append, List.nil_append]); k_extra "mine:off")
  trivial
def getS (ms : List Str) (i : Nat) : Str := ms.getD i Str.empty
def bigL (k : Nat) : Str := Txt.item (Str.ofString "BCD") (k : Int)
def smlL (k : Nat) : Str := Txt.item (Str.ofString "bcd") (k : Int)
def copiesF (ms : List Str) (i j k : Nat) : List Str := (ms.filter fun w => ellF (wantF (getS ms i) (getS ms j)) w).map fun w => w ++ bigL k
def stepG (ms : List Str) (i j k : Nat) : List Str := if ms.length < 5 then (ms.map fun w => w ++ smlL k) ++ copiesF ms i j k else ms
def ReachG : Nat → List Str → Prop
  | 0, ms => ms = [Str.ofString "a", Str.ofString "A"]
  | k + 1, ms => ∃ ms₀ i j, ReachG k ms₀ ∧ (ms₀.length < 5 → i < ms₀.length ∧ j < ms₀.length) ∧ ms = stepG ms₀ i j k
def dueF (ms : List Str) (i k : Nat) : Int := unlF (getS ms i) (getS ms k)
def codesF (ms : List Str) : List Int := ms.map codeF
def codF (ms : List Str) (i : Nat) : Int := codeF (getS ms i)
def takenF (ms : List Str) (i k : Nat) : List Bool := ms.map (ellF (wantF (getS ms i) (getS ms k)))
def betwF (ms : List Str) (i k : Nat) : List Bool := (List.range ms.length).map fun m => dueF ms i m + dueF ms m k == dueF ms i k
def oneIn (ms : List Str) (i k : Nat) : Bool := let a := Builtin.bitAnd (codF ms i) (codF ms k); a == codF ms i || a == codF ms k
def addF (ms : List Str) (i k : Nat) : List Int :=
  if dueF ms i k = 1 then [1] else if oneIn ms i k = true then (if countB (takenF ms i k) = 2 ^ (dueF ms i k).toNat then [dueF ms i k] else []) else []
def inner (ms : List Str) (i : Nat) : Nat → List Int → List Int
  | 0, acc => acc
  | k + 1, acc => inner ms i k acc ++ addF ms i k
def outer (ms : List Str) : Nat → List Int
  | 0 => ms.map fun _ => 0
  | i + 1 => inner ms i i (outer ms i)
def totalF (ns : List Int) : Int := countR 0 ns - countR 1 ns + countR 2 ns - countR 3 ns
def turnedF (ns : List Int) : Int := countR 1 ns - 2 * countR 2 ns + 3 * countR 3 ns
def goodPair (ms : List Str) (i k : Nat) : Bool :=
  levF (getS ms i) (getS ms k) (dueF ms i k) == dueF ms i k && (dueF ms i k == 1 || !oneIn ms i k || takenF ms i k == betwF ms i k)
def goodWant (a b : Str) : Bool := let w := wantF a b; ((Builtin.Str.occurrences w (Str.ofString "...") 0 w.length 1).isEmpty || decide (2 ≤ (Txt.split w (Str.ofString "...")).length)) && decide (w.length ≤ 16)
def goodFam (ms : List Str) : Bool :=
  midF (codesF ms) && (List.range ms.length).all (fun i => (List.range i).all fun k => goodPair ms i k) &&
  (totalF (outer ms ms.length) == 1 && turnedF (outer ms ms.length) == ((getS ms 0).length : Int))
def shapeFam (k : Nat) (ms : List Str) : Bool :=
  decide (2 ≤ ms.length) && decide (ms.length ≤ 8) && ms.all (fun w => w.cps.all (· < 128) && decide (w.length = (getS ms 0).length) && decide (1 ≤ w.length ∧ w.length ≤ k + 1)) && ms.all (fun a => ms.all fun b => goodWant a b)

end
section
theorem fresh_plain2 : True := by
  w_top off
  k_with_none
  k_with "mine:enter" => (
  (case k1 => assumption)
  (case k2 => exact Top.nolimit (by assumption))
  (case k3 => k_is)
  (case k4 => k_is)
  (case k5 => ktr_room)
  (case k0 => exact rfl)
  (case k6 => exact BindsTo.of_eq rfl)
  (case k7 => exact locs rfl)
  (case c2 => exact rfl)
  (case c3 => exact rfl)
  (case c4 => exact rfl)
  (case c5 => decide))
  k_with "mine:steps" => repeat' (first | (k_unfold; (try dsimp only)) | walk1 | (dsimp only; walk1) | fail "no step")
  k_with "mine:rest" => (
  (intro zw9 z1w9 z2w9 z3w9);
  (simp only [List.forall_mem_cons, List.not_mem_nil, false_implies, implies_true, and_true, ne_eq] at z2w9);
  (simp only [List.contains_cons, List.contains_nil, Bool.or_false, Bool.or_eq_false_iff, beq_eq_false_iff_ne, ne_eq] at z3w9);
  (simp [kstB, z1w9, z2w9, z3w9]))
  k_with "mine:mm" => first | with_reducible exact mem_h | with_reducible assumption | ((with_reducible refine mem_t ?_); k_extra "mine:mm")
  k_with "mine:md" => first | exact mem_h | assumption | (refine mem_t ?_; k_extra "mine:md")
  k_with "mine:sub" => first | with_reducible exact sub_nil | with_reducible assumption | with_reducible exact sub_refl | ((with_reducible refine sub_cons ?_ ?_); (first | k_extra "mine:mm" | k_extra "mine:md"); k_extra "mine:sub") | ((with_reducible refine sub_app ?_ ?_); k_extra "mine:sub"; k_extra "mine:sub") | ((with_reducible refine sub_tail ?_); k_extra "mine:sub") | ((with_reducible refine sub_left ?_); k_extra "mine:sub") | ((with_reducible refine sub_right ?_); k_extra "mine:sub")
  k_with "mine:subs" => ((try dsimp only [List.cons_append, List.nil_append]); k_extra "mine:sub")
  k_with "mine:ad" => first | with_reducible assumption | ((with_reducible refine ad_ss ?_); k_extra "mine:ad") | with_reducible first | exact ad_1 | exact ad_2 | exact ad_3 | exact ad_4 | exact ad_5 | exact ad_6 | exact ad_7 | exact ad_1.symm | exact ad_2.symm | exact ad_3.symm | exact ad_4.symm | exact ad_5.symm | exact ad_6.symm | exact ad_7.symm
  k_with "mine:off" => first | with_reducible exact off_nil | with_reducible assumption | ((with_reducible refine off_cons ?_ ?_); (first | k_extra "mine:ad" | (refine Ne.symm ?_; k_extra "mine:ad") | k_ne); k_extra "mine:off") | ((with_reducible refine off_app ?_ ?_); k_extra "mine:off"; k_extra "mine:off") | exact off_sym (by with_reducible assumption) | exact off_of (by assumption) (by k_extra "mine:mm")
  k_with "mine:offs" => ((try dsimp only [List.cons_append, List.nil_append]); k_extra "mine:off")
  trivial
/-- the word of n letters with the code c -/
def wd (n c : Nat) : Str := ⟨((List.range n).map fun j => (if c / 2 ^ j % 2 = 1 then 65 else 97) + j).toArray⟩
def agr (c d e : Nat) : Bool := ((c ^^^ e) ||| (c ^^^ d)) == (c ^^^ d)
def pop4 (x : Nat) : Nat := x % 2 + x / 2 % 2 + x / 4 % 2 + x / 8 % 2
def pop (c d : Nat) : Nat := pop4 (c ^^^ d)
def tabA (n c d : Nat) : Bool := (unlF (wd n c) (wd n d) == (pop c d : Int)) && goodWant (wd n c) (wd n d)
def tabE (n c d : Nat) : Bool := (List.range (2 ^ n)).all fun e => ellF (wantF (wd n c) (wd n d)) (wd n e) == agr c d e
def oneC (c d : Nat) : Bool := (c &&& d) == c || (c &&& d) == d
/-- of a later word c and an earlier one d: the distance; the want only where the law asks it -/
def tabB (n c d : Nat) : Bool := (levF (wd n c) (wd n d) (pop c d : Int) == (pop c d : Int)) && (pop c d == 1 || !oneC c d || tabE n c d)
def tabRow (n c : Nat) : Bool := (List.range (2 ^ n)).all (tabA n c) && (List.range c).all (tabB n c) && (Nat.ble 4 n || (List.range (2 ^ n)).all (tabE n c))
def tabCod (n : Nat) : Bool := (List.range (2 ^ n)).all fun c => codeF (wd n c) == (c : Int) && decide ((wd n c).length = n) && (wd n c).cps.all (· < 128)
def tabStp (n : Nat) : Bool := (List.range (2 ^ n)).all fun c => (wd n c ++ smlL (n - 1) == wd (n + 1) c) && (wd n c ++ bigL (n - 1) == wd (n + 1) (c + 2 ^ n))
theorem cod1 : tabCod 1 = true := by decide +kernel
theorem cod2 : tabCod 2 = true := by decide +kernel
theorem cod3 : tabCod 3 = true := by decide +kernel
theorem cod4 : tabCod 4 = true := by decide +kernel
theorem stp1 : tabStp 1 = true := by decide +kernel
theorem stp2 : tabStp 2 = true := by decide +kernel
theorem stp3 : tabStp 3 = true := by decide +kernel
theorem t1 : ∀ c < 2, tabRow 1 c = true := by decide +kernel
theorem t2 : ∀ c < 4, tabRow 2 c = true := by decide +kernel
theorem t3_0 : tabRow 3 0 = true := by decide +kernel
theorem t3_1 : tabRow 3 1 = true := by decide +kernel
theorem t3_2 : tabRow 3 2 = true := by decide +kernel
theorem t3_3 : tabRow 3 3 = true := by decide +kernel
theorem t3_4 : tabRow 3 4 = true := by decide +kernel
theorem t3_5 : tabRow 3 5 = true := by decide +kernel
theorem t3_6 : tabRow 3 6 = true := by decide +kernel
theorem t3_7 : tabRow 3 7 = true := by decide +kernel
theorem t3 : ∀ c < 8, tabRow 3 c = true
  | 0, _ => t3_0
  | 1, _ => t3_1
  | 2, _ => t3_2
  | 3, _ => t3_3
  | 4, _ => t3_4
  | 5, _ => t3_5
  | 6, _ => t3_6
  | 7, _ => t3_7
  | n + 8, h => absurd h (Nat.not_lt.mpr (Nat.le_add_left 8 n))
theorem t4_0 : tabRow 4 0 = true := by decide +kernel
theorem t4_1 : tabRow 4 1 = true := by decide +kernel
theorem t4_2 : tabRow 4 2 = true := by decide +kernel
theorem t4_3 : tabRow 4 3 = true := by decide +kernel
theorem t4_4 : tabRow 4 4 = true := by decide +kernel
theorem t4_5 : tabRow 4 5 = true := by decide +kernel
theorem t4_6 : tabRow 4 6 = true := by decide +kernel
theorem t4_7 : tabRow 4 7 = true := by decide +kernel
theorem t4_8 : tabRow 4 8 = true := by decide +kernel
theorem t4_9 : tabRow 4 9 = true := by decide +kernel
theorem t4_10 : tabRow 4 10 = true := by decide +kernel
theorem t4_11 : tabRow 4 11 = true := by decide +kernel
theorem t4_12 : tabRow 4 12 = true := by decide +kernel
theorem t4_13 : tabRow 4 13 = true := by decide +kernel
theorem t4_14 : tabRow 4 14 = true := by decide +kernel
theorem t4_15 : tabRow 4 15 = true := by decide +kernel
theorem t4 : ∀ c < 16, tabRow 4 c = true
  | 0, _ => t4_0
  | 1, _ => t4_1
  | 2, _ => t4_2
  | 3, _ => t4_3
  | 4, _ => t4_4
  | 5, _ => t4_5
  | 6, _ => t4_6
  | 7, _ => t4_7
  | 8, _ => t4_8
  | 9, _ => t4_9
  | 10, _ => t4_10
  | 11, _ => t4_11
  | 12, _ => t4_12
  | 13, _ => t4_13
  | 14, _ => t4_14
  | 15, _ => t4_15
  | n + 16, h => absurd h (Nat.not_lt.mpr (Nat.le_add_left 16 n))
theorem four {n : Nat} (h1 : 1 ≤ n) (h4 : n ≤ 4) : n = 1 ∨ n = 2 ∨ n = 3 ∨ n = 4 := by omega
theorem tabs {n : Nat} (h1 : 1 ≤ n) (h4 : n ≤ 4) {c : Nat} (hc : c < 2 ^ n) : tabRow n c = true := by
  rcases four h1 h4 with rfl | rfl | rfl | rfl
  · exact t1 c hc
  · exact t2 c hc
  · exact t3 c hc
  · exact t4 c hc
theorem cods {n : Nat} (h1 : 1 ≤ n) (h4 : n ≤ 4) {c : Nat} (hc : c < 2 ^ n) : codeF (wd n c) = (c : Int) ∧ (wd n c).length = n ∧ (wd n c).cps.all (· < 128) = true := by
  have hr : tabCod n = true := by
    rcases four h1 h4 with rfl | rfl | rfl | rfl
    · exact cod1
    · exact cod2
    · exact cod3
    · exact cod4
  have := List.all_eq_true.mp hr c (List.mem_range.mpr hc)
  simp only [Bool.and_eq_true, beq_iff_eq, decide_eq_true_eq] at this
  exact ⟨this.1.1, this.1.2, this.2⟩
theorem stps {n : Nat} (h1 : 1 ≤ n) (h4 : n ≤ 3) {c : Nat} (hc : c < 2 ^ n) : wd n c ++ smlL (n - 1) = wd (n + 1) c ∧ wd n c ++ bigL (n - 1) = wd (n + 1) (c + 2 ^ n) := by
  have hr : tabStp n = true := by
    rcases four h1 (by omega) with rfl | rfl | rfl | rfl
    · exact stp1
    · exact stp2
    · exact stp3
    · omega
  have := List.all_eq_true.mp hr c (List.mem_range.mpr hc)
  simpa only [Bool.and_eq_true, beq_iff_eq] using this
section
variable {n : Nat} (h1 : 1 ≤ n) (h4 : n ≤ 4) {c d e : Nat} (hc : c < 2 ^ n)
include h1 h4 hc
theorem tab3 : ((∀ d < 2 ^ n, tabA n c d = true) ∧ ∀ d < c, tabB n c d = true) ∧ (n ≤ 3 → ∀ d < 2 ^ n, tabE n c d = true) := by
  have := tabs h1 h4 hc
  simp only [tabRow, Bool.and_eq_true, Bool.or_eq_true, List.all_eq_true, List.mem_range, Nat.ble_eq] at this
  exact ⟨this.1, fun h => this.2.resolve_left (by omega)⟩
theorem unl_wd (hd : d < 2 ^ n) : unlF (wd n c) (wd n d) = (pop c d : Int) := eq_of_beq (Bool.and_eq_true_iff.mp ((tab3 h1 h4 hc).1.1 d hd)).1
theorem good_wd (hd : d < 2 ^ n) : goodWant (wd n c) (wd n d) = true := (Bool.and_eq_true_iff.mp ((tab3 h1 h4 hc).1.1 d hd)).2
theorem lev_wd (hd : d < c) : levF (wd n c) (wd n d) (pop c d : Int) = (pop c d : Int) := eq_of_beq (Bool.and_eq_true_iff.mp ((tab3 h1 h4 hc).1.2 d hd)).1
omit h1 h4 hc in
theorem ell_of (h : tabE n c d = true) (he : e < 2 ^ n) : ellF (wantF (wd n c) (wd n d)) (wd n e) = agr c d e := eq_of_beq (List.all_eq_true.mp h e (List.mem_range.mpr he))
theorem ell_wd (h3 : n ≤ 3) (hd : d < 2 ^ n) (he : e < 2 ^ n) : ellF (wantF (wd n c) (wd n d)) (wd n e) = agr c d e := ell_of ((tab3 h1 h4 hc).2 h3 d hd) he
theorem ell_one (hd : d < c) (hp : pop c d ≠ 1) (ho : oneC c d = true) (he : e < 2 ^ n) : ellF (wantF (wd n c) (wd n d)) (wd n e) = agr c d e := by
  have := (Bool.and_eq_true_iff.mp ((tab3 h1 h4 hc).1.2 d hd)).2
  rw [beq_eq_false_iff_ne.mpr hp, ho, Bool.not_true, Bool.or_self, Bool.false_or] at this
  exact ell_of this he
end
def gN (cs : List Nat) (i : Nat) : Nat := cs.getD i 0
def fam (n : Nat) (cs : List Nat) : List Str := cs.map (wd n)
theorem getS_fam {n : Nat} {cs : List Nat} {i : Nat} (h : i < cs.length) : getS (fam n cs) i = wd n (gN cs i) := by
  unfold getS fam gN
  rw [List.getD_eq_getElem?_getD, List.getD_eq_getElem?_getD, List.getElem?_map, List.getElem?_eq_getElem h]; rfl
theorem gN_mem {cs : List Nat} {i : Nat} (h : i < cs.length) : gN cs i ∈ cs := by
  unfold gN
  rw [List.getD_eq_getElem?_getD, List.getElem?_eq_getElem h]
  exact List.getElem_mem h
def stepN (cs : List Nat) (n i j : Nat) : List Nat := cs ++ (cs.filter (agr (gN cs i) (gN cs j))).map (· + 2 ^ n)
structure Ok (k n : Nat) (cs : List Nat) : Prop where
  n1 : 1 ≤ n
  nk : n ≤ k + 1
  l2 : 2 ≤ cs.length
  l8 : cs.length ≤ 8
  lt : ∀ c ∈ cs, c < 2 ^ n
  sm : cs.length < 5 → n = k + 1
  so : ∀ i < cs.length, ∀ j < i, gN cs j < gN cs i
def okB (k n : Nat) (cs : List Nat) : Bool := Nat.ble 1 n && Nat.ble n (k + 1) && Nat.ble 2 cs.length && Nat.ble cs.length 8 && cs.all (fun c => Nat.blt c (2 ^ n)) && (Nat.ble 5 cs.length || n == k + 1) &&
  (List.range cs.length).all fun i => (List.range i).all fun j => Nat.blt (gN cs j) (gN cs i)
theorem ok_of {k n : Nat} {cs : List Nat} (h : okB k n cs = true) : Ok k n cs := by
  simp only [okB, Bool.and_eq_true, Nat.ble_eq, Nat.blt_eq, List.all_eq_true, Bool.or_eq_true, beq_iff_eq, List.mem_range] at h
  obtain ⟨⟨⟨⟨⟨⟨h1, h2⟩, h3⟩, h4⟩, h5⟩, h6⟩, h7⟩ := h
  exact ⟨h1, h2, h3, h4, h5, fun q => h6.resolve_left (by omega), h7⟩
theorem step_fam {k n : Nat} {cs : List Nat} (o : Ok k n cs) (hk : k ≤ 2) {i j : Nat} (h5 : cs.length < 5) (hi : i < cs.length) (hj : j < cs.length) :
    stepG (fam n cs) i j k = fam (n + 1) (stepN cs n i j) := by
  have hn := o.sm h5
  have hl : (fam n cs).length = cs.length := List.length_map ..
  have hn3 : n ≤ 3 := by omega
  have hk' : k = n - 1 := by omega
  rw [stepG, if_pos (by omega), fam, stepN, fam, List.map_append, copiesF, ← fam, getS_fam hi, getS_fam hj, fam, hk']
  congr 1
  · rw [List.map_map]
    exact List.map_congr_left fun c hc => (stps o.n1 hn3 (o.lt c hc)).1
  · rw [List.filter_map, List.map_map, List.map_map]
    have e : cs.filter ((ellF (wantF (wd n (gN cs i)) (wd n (gN cs j)))) ∘ wd n) = cs.filter (agr (gN cs i) (gN cs j)) :=
      List.filter_congr fun c hc => ell_wd o.n1 (by omega) (o.lt _ (gN_mem hi)) hn3 (o.lt _ (gN_mem hj)) (o.lt c hc)
    rw [e]
    exact List.map_congr_left fun c hc => (stps o.n1 hn3 (o.lt c (List.mem_filter.mp hc).1)).2
def dueN (cs : List Nat) (i k : Nat) : Nat := pop (gN cs i) (gN cs k)
def oneN (cs : List Nat) (i k : Nat) : Bool := oneC (gN cs i) (gN cs k)
def takN (cs : List Nat) (i k : Nat) : List Bool := cs.map (agr (gN cs i) (gN cs k))
def betN (cs : List Nat) (i k : Nat) : List Bool := (List.range cs.length).map fun m => dueN cs i m + dueN cs m k == dueN cs i k
def cntN : List Bool → Nat
  | [] => 0
  | true :: r => cntN r + 1
  | false :: r => cntN r
def addN (cs : List Nat) (i k : Nat) : List Nat :=
  bif dueN cs i k == 1 then [1] else bif oneN cs i k then (bif cntN (takN cs i k) == 2 ^ dueN cs i k then [dueN cs i k] else []) else []
def innerN (cs : List Nat) (i : Nat) : Nat → List Nat → List Nat
  | 0, acc => acc
  | k + 1, acc => innerN cs i k acc ++ addN cs i k
def outerN (cs : List Nat) : Nat → List Nat
  | 0 => cs.map fun _ => 0
  | i + 1 => innerN cs i i (outerN cs i)
def hitN (b : Nat) : List Nat → Nat
  | [] => 0
  | x :: r => bif x == b then hitN b r + 1 else hitN b r
def midN (cs : List Nat) : Bool := (List.range cs.length).all fun i => (List.range i).all fun j => (List.range j).all fun k =>
  cs.any fun x => x == ((gN cs i &&& gN cs j) ||| ((gN cs i ||| gN cs j) &&& gN cs k))
def goodN (n : Nat) (cs : List Nat) : Bool :=
  midN cs && (List.range cs.length).all (fun i => (List.range i).all fun k => dueN cs i k == 1 || !oneN cs i k || takN cs i k == betN cs i k) &&
  (let o := outerN cs cs.length; hitN 0 o + hitN 2 o == 1 + hitN 1 o + hitN 3 o && hitN 1 o + 3 * hitN 3 o == n + 2 * hitN 2 o)
theorem andC (a b : Nat) : Builtin.bitAnd (a : Int) (b : Int) = ((a &&& b : Nat) : Int) := by
  have ha : decide (0 ≤ (a : Int)) = true := decide_eq_true (Int.natCast_nonneg a)
  have hb : decide (0 ≤ (b : Int)) = true := decide_eq_true (Int.natCast_nonneg b)
  unfold Builtin.bitAnd
  rw [ha, hb]
  rfl
theorem orC (a b : Nat) : Builtin.bitOr (a : Int) (b : Int) = ((a ||| b : Nat) : Int) := by
  have ha : decide (0 ≤ Builtin.bitNot (a : Int)) = false := decide_eq_false (by unfold Builtin.bitNot; omega)
  have hb : decide (0 ≤ Builtin.bitNot (b : Int)) = false := decide_eq_false (by unfold Builtin.bitNot; omega)
  have na : (Builtin.bitNot (Builtin.bitNot (a : Int))).toNat = a := by unfold Builtin.bitNot; omega
  have nb : (Builtin.bitNot (Builtin.bitNot (b : Int))).toNat = b := by unfold Builtin.bitNot; omega
  unfold Builtin.bitOr Builtin.bitAnd
  rw [ha, hb]
  show Builtin.bitNot (Builtin.bitNot _) = _
  rw [na, nb]
  unfold Builtin.bitNot; omega
theorem countR_C (b : Nat) : ∀ l : List Nat, countR (b : Int) (l.map fun x : Nat => (x : Int)) = (hitN b l : Int)
  | [] => rfl
  | x :: r => by
    rw [List.map_cons, countR, hitN, countR_C b r]
    by_cases h : x = b
    · subst h; rw [if_pos rfl, beq_self_eq_true, cond_true]; omega
    · rw [if_neg (by omega), beq_eq_false_iff_ne.mpr h, cond_false]; omega
theorem countB_C : ∀ l : List Bool, countB l = (cntN l : Int)
  | [] => rfl
  | true :: r => by rw [countB, cntN, if_pos rfl, countB_C r]; omega
  | false :: r => by rw [countB, cntN, if_neg (by decide), countB_C r]; omega
section
variable {k n : Nat} {cs : List Nat} (o : Ok k n cs) (hk : k ≤ 3)
include o hk
theorem dueC {i j : Nat} (hi : i < cs.length) (hj : j < cs.length) : dueF (fam n cs) i j = (dueN cs i j : Int) := by
  have := o.nk
  rw [dueF, getS_fam hi, getS_fam hj, unl_wd o.n1 (by omega) (o.lt _ (gN_mem hi)) (o.lt _ (gN_mem hj)), dueN]
theorem codC {i : Nat} (hi : i < cs.length) : codF (fam n cs) i = (gN cs i : Int) := by
  have := o.nk
  rw [codF, getS_fam hi]; exact (cods o.n1 (by omega) (o.lt _ (gN_mem hi))).1
theorem oneF {i j : Nat} (hi : i < cs.length) (hj : j < cs.length) : oneIn (fam n cs) i j = oneN cs i j := by
  rw [oneIn, codC o hk hi, codC o hk hj, andC, oneN, oneC]
  congr 1 <;> (rw [Bool.eq_iff_iff, beq_iff_eq, beq_iff_eq]; omega)
theorem takC {i j : Nat} (hi : i < cs.length) (hj : j < i) (hp : dueN cs i j ≠ 1) (ho : oneN cs i j = true) : takenF (fam n cs) i j = takN cs i j := by
  have := o.nk
  rw [takenF, getS_fam hi, getS_fam (Nat.lt_trans hj hi), takN, fam, List.map_map]
  exact List.map_congr_left fun c hc => ell_one o.n1 (by omega) (o.lt _ (gN_mem hi)) (o.so i hi j hj) hp ho (o.lt c hc)
theorem betC {i j : Nat} (hi : i < cs.length) (hj : j < cs.length) : betwF (fam n cs) i j = betN cs i j := by
  have hl : (fam n cs).length = cs.length := List.length_map ..
  rw [betwF, betN, hl]
  refine List.map_congr_left fun m hm => ?_
  have hm' := List.mem_range.mp hm
  rw [dueC o hk hi hm', dueC o hk hm' hj, dueC o hk hi hj, Bool.eq_iff_iff, beq_iff_eq, beq_iff_eq]
  omega
theorem addC {i j : Nat} (hi : i < cs.length) (hji : j < i) : addF (fam n cs) i j = (addN cs i j).map fun x : Nat => (x : Int) := by
  have hj := Nat.lt_trans hji hi
  rw [addF, addN, dueC o hk hi hj, oneF o hk hi hj, Int.toNat_natCast]
  by_cases h1 : dueN cs i j = 1
  · rw [if_pos (by omega), h1]; rfl
  · rw [if_neg (by omega), beq_eq_false_iff_ne.mpr h1, cond_false]
    by_cases h2 : oneN cs i j = true
    · rw [if_pos h2, h2, cond_true, takC o hk hi hji h1 h2, countB_C]
      by_cases h3 : cntN (takN cs i j) = 2 ^ dueN cs i j
      · rw [if_pos (by rw [h3]; exact Int.natCast_pow 2 _), beq_iff_eq.mpr h3]; rfl
      · rw [if_neg (fun q => h3 (by rw [show ((2 : Int) ^ dueN cs i j) = ((2 ^ dueN cs i j : Nat) : Int) from (Int.natCast_pow 2 _).symm] at q; exact Int.ofNat.inj q)), beq_eq_false_iff_ne.mpr h3]; rfl
    · rw [if_neg h2, Bool.not_eq_true _ |>.mp h2]; rfl
theorem innC {i : Nat} (hi : i < cs.length) (acc : List Nat) : ∀ j, j ≤ i → inner (fam n cs) i j (acc.map fun x : Nat => (x : Int)) = (innerN cs i j acc).map fun x : Nat => (x : Int)
  | 0, _ => rfl
  | j + 1, h => by rw [inner, innerN, innC hi acc j (by omega), addC o hk hi (by omega), List.map_append]
theorem outC : ∀ i, i ≤ cs.length → outer (fam n cs) i = (outerN cs i).map fun x : Nat => (x : Int)
  | 0, _ => by rw [outer, outerN, fam, List.map_map, List.map_map]; rfl
  | i + 1, h => by rw [outer, outerN, outC i (by omega), innC o hk (by omega) _ i (Nat.le_refl i)]
theorem codsC : codesF (fam n cs) = cs.map fun x : Nat => (x : Int) := by
  have := o.nk
  rw [codesF, fam, List.map_map]
  exact List.map_congr_left fun c hc => (cods o.n1 (by omega) (o.lt c hc)).1
omit o hk in
theorem getC {i : Nat} (hi : i < cs.length) : (cs.map fun x : Nat => (x : Int)).getD i 0 = (gN cs i : Int) := by
  unfold gN
  rw [List.getD_eq_getElem?_getD, List.getD_eq_getElem?_getD, List.getElem?_map, List.getElem?_eq_getElem hi]; rfl
omit o hk in
theorem midC (h : midN cs = true) : midF (cs.map fun x : Nat => (x : Int)) = true := by
  simp only [midN, List.all_eq_true, List.mem_range] at h
  simp only [midF, List.all_eq_true, List.mem_range, List.length_map]
  intro i hi j hj l hl
  have := h i hi j hj l hl
  rw [mid3, getC hi, getC (by omega), getC (by omega), andC, orC, andC, orC]
  rw [List.any_eq_true] at this ⊢
  obtain ⟨x, hx, e⟩ := this
  exact ⟨(x : Int), List.mem_map_of_mem hx, by rw [beq_iff_eq] at e ⊢; rw [e]⟩
theorem goodC (h : goodN n cs = true) : goodFam (fam n cs) = true := by
  have hnk := o.nk
  have hl : (fam n cs).length = cs.length := List.length_map ..
  have hl2 := o.l2
  simp only [goodN, Bool.and_eq_true, List.all_eq_true, List.mem_range, beq_iff_eq] at h
  obtain ⟨⟨h1, h2⟩, h3, h4⟩ := h
  simp only [goodFam, Bool.and_eq_true, List.all_eq_true, List.mem_range, beq_iff_eq, hl]
  refine ⟨⟨?_, fun i hi j hj => ?_⟩, ?_, ?_⟩
  · rw [codsC o hk]; exact midC h1
  · have hj' : j < cs.length := by omega
    have := h2 i hi j hj
    rw [goodPair, dueC o hk hi hj', oneF o hk hi hj', getS_fam hi, getS_fam hj', dueN,
      lev_wd o.n1 (by omega) (o.lt _ (gN_mem hi)) (o.so i hi j hj), beq_self_eq_true, Bool.true_and, ← dueN]
    by_cases p1 : dueN cs i j = 1
    · rw [p1]; rfl
    · rw [beq_eq_false_iff_ne.mpr p1, Bool.false_or] at this
      by_cases p2 : oneN cs i j = true
      · rw [p2, Bool.not_true, Bool.false_or] at this
        rw [takC o hk hi hj p1 p2, betC o hk hi hj', this, Bool.or_true]
      · rw [Bool.not_eq_true _ |>.mp p2, Bool.not_false, Bool.or_true, Bool.true_or]
  · rw [outC o hk _ (Nat.le_refl _), totalF]
    have e0 := countR_C 0 (outerN cs cs.length)
    have e1 := countR_C 1 (outerN cs cs.length)
    have e2 := countR_C 2 (outerN cs cs.length)
    have e3 := countR_C 3 (outerN cs cs.length)
    rw [show ((0 : Nat) : Int) = 0 from rfl] at e0
    rw [show ((1 : Nat) : Int) = 1 from rfl] at e1
    rw [show ((2 : Nat) : Int) = 2 from rfl] at e2
    rw [show ((3 : Nat) : Int) = 3 from rfl] at e3
    rw [e0, e1, e2, e3]; omega
  · rw [outC o hk _ (Nat.le_refl _), turnedF, getS_fam (by omega), (cods o.n1 (by omega) (o.lt _ (gN_mem (by omega)))).2.1]
    have e1 := countR_C 1 (outerN cs cs.length)
    have e2 := countR_C 2 (outerN cs cs.length)
    have e3 := countR_C 3 (outerN cs cs.length)
    rw [show ((1 : Nat) : Int) = 1 from rfl] at e1
    rw [show ((2 : Nat) : Int) = 2 from rfl] at e2
    rw [show ((3 : Nat) : Int) = 3 from rfl] at e3
    rw [e1, e2, e3]; omega
theorem shapeC : shapeFam k (fam n cs) = true := by
  have hnk := o.nk
  have hl : (fam n cs).length = cs.length := List.length_map ..
  have hl2 := o.l2
  have hl8 := o.l8
  have hlen : ∀ w ∈ fam n cs, w.length = n ∧ w.cps.all (· < 128) = true := by
    intro w hw
    obtain ⟨c, hc, rfl⟩ := List.mem_map.mp hw
    exact (cods o.n1 (by omega) (o.lt c hc)).2
  have h0 : (getS (fam n cs) 0).length = n := by
    rw [getS_fam (by omega)]; exact (cods o.n1 (by omega) (o.lt _ (gN_mem (by omega)))).2.1
  have hn1 := o.n1
  simp only [shapeFam, Bool.and_eq_true, decide_eq_true_eq, List.all_eq_true, hl, h0]
  refine ⟨⟨⟨hl2, hl8⟩, fun w hw => ⟨⟨?_, (hlen w hw).1⟩, by rw [(hlen w hw).1]; omega, by rw [(hlen w hw).1]; omega⟩⟩, fun a ha b hb => ?_⟩
  · simpa using (hlen w hw).2
  · obtain ⟨c, hc, rfl⟩ := List.mem_map.mp ha
    obtain ⟨d, hd, rfl⟩ := List.mem_map.mp hb
    exact good_wd o.n1 (by omega) (o.lt c hc) (o.lt d hd)
end
def fam0 : List (Nat × List Nat) := [(1, [0, 1])]
def fam1 : List (Nat × List Nat) := [(2, [0, 1, 2]), (2, [0, 1, 2, 3]), (2, [0, 1, 3])]
def fam2 : List (Nat × List Nat) := [(3, [0, 1, 2, 4]), (3, [0, 1, 2, 4, 5]), (3, [0, 1, 2, 4, 6]), (3, [0, 1, 2, 5]), (3, [0, 1, 2, 4, 5, 6]), (3, [0, 1, 2, 6]), (3, [0, 1, 2, 3, 4]), (3, [0, 1, 2, 3, 4, 5]), (3, [0, 1, 2, 3, 4, 6]), (3, [0, 1, 2, 3, 4, 5, 6, 7]), (3, [0, 1, 2, 3, 5]), (3, [0, 1, 2, 3, 5, 7]), (3, [0, 1, 2, 3, 6]), (3, [0, 1, 2, 3, 6, 7]), (3, [0, 1, 2, 3, 7]), (3, [0, 1, 3, 4]), (3, [0, 1, 3, 4, 5]), (3, [0, 1, 3, 4, 5, 7]), (3, [0, 1, 3, 5]), (3, [0, 1, 3, 5, 7]), (3, [0, 1, 3, 7])]
def fam3 : List (Nat × List Nat) := [(4, [0, 1, 2, 4, 8]), (4, [0, 1, 2, 4, 8, 9]), (4, [0, 1, 2, 4, 8, 10]), (4, [0, 1, 2, 4, 8, 12]), (4, [0, 1, 2, 4, 9]), (4, [0, 1, 2, 4, 8, 9, 10]), (4, [0, 1, 2, 4, 8, 9, 12]), (4, [0, 1, 2, 4, 10]), (4, [0, 1, 2, 4, 8, 10, 12]), (4, [0, 1, 2, 4, 12]), (3, [0, 1, 2, 4, 5]), (3, [0, 1, 2, 4, 6]), (4, [0, 1, 2, 5, 8]), (4, [0, 1, 2, 5, 8, 9]), (4, [0, 1, 2, 5, 8, 10]), (4, [0, 1, 2, 5, 8, 9, 13]), (4, [0, 1, 2, 5, 9]), (4, [0, 1, 2, 5, 8, 9, 10]), (4, [0, 1, 2, 5, 9, 13]), (4, [0, 1, 2, 5, 10]), (4, [0, 1, 2, 5, 8, 9, 10, 13]), (4, [0, 1, 2, 5, 13]), (3, [0, 1, 2, 4, 5, 6]), (4, [0, 1, 2, 6, 8]), (4, [0, 1, 2, 6, 8, 9]), (4, [0, 1, 2, 6, 8, 10]), (4, [0, 1, 2, 6, 8, 10, 14]), (4, [0, 1, 2, 6, 9]), (4, [0, 1, 2, 6, 8, 9, 10]), (4, [0, 1, 2, 6, 8, 9, 10, 14]), (4, [0, 1, 2, 6, 10]), (4, [0, 1, 2, 6, 10, 14]), (4, [0, 1, 2, 6, 14]), (3, [0, 1, 2, 3, 4]), (3, [0, 1, 2, 3, 4, 5]), (3, [0, 1, 2, 3, 4, 6]), (3, [0, 1, 2, 3, 4, 5, 6, 7]), (3, [0, 1, 2, 3, 5]), (3, [0, 1, 2, 3, 5, 7]), (3, [0, 1, 2, 3, 6]), (3, [0, 1, 2, 3, 6, 7]), (3, [0, 1, 2, 3, 7]), (4, [0, 1, 3, 4, 8]), (4, [0, 1, 3, 4, 8, 9]), (4, [0, 1, 3, 4, 8, 9, 11]), (4, [0, 1, 3, 4, 8, 12]), (4, [0, 1, 3, 4, 9]), (4, [0, 1, 3, 4, 9, 11]), (4, [0, 1, 3, 4, 8, 9, 12]), (4, [0, 1, 3, 4, 11]), (4, [0, 1, 3, 4, 8, 9, 11, 12]), (4, [0, 1, 3, 4, 12]), (3, [0, 1, 3, 4, 5]), (3, [0, 1, 3, 4, 5, 7]), (4, [0, 1, 3, 5, 8]), (4, [0, 1, 3, 5, 8, 9]), (4, [0, 1, 3, 5, 8, 9, 11]), (4, [0, 1, 3, 5, 8, 9, 13]), (4, [0, 1, 3, 5, 9]), (4, [0, 1, 3, 5, 9, 11]), (4, [0, 1, 3, 5, 9, 13]), (4, [0, 1, 3, 5, 11]), (4, [0, 1, 3, 5, 9, 11, 13]), (4, [0, 1, 3, 5, 13]), (3, [0, 1, 3, 5, 7]), (4, [0, 1, 3, 7, 8]), (4, [0, 1, 3, 7, 8, 9]), (4, [0, 1, 3, 7, 8, 9, 11]), (4, [0, 1, 3, 7, 8, 9, 11, 15]), (4, [0, 1, 3, 7, 9]), (4, [0, 1, 3, 7, 9, 11]), (4, [0, 1, 3, 7, 9, 11, 15]), (4, [0, 1, 3, 7, 11]), (4, [0, 1, 3, 7, 11, 15]), (4, [0, 1, 3, 7, 15])]
def inL (n : Nat) (cs : List Nat) (l : List (Nat × List Nat)) : Bool := l.any fun q => q.1 == n && q.2 == cs
theorem of_inL {n : Nat} {cs : List Nat} {l : List (Nat × List Nat)} (h : inL n cs l = true) : (n, cs) ∈ l := by
  obtain ⟨⟨a, b⟩, hq, e⟩ := List.any_eq_true.mp h
  simp only [Bool.and_eq_true, beq_iff_eq] at e
  obtain ⟨rfl, rfl⟩ := e
  exact hq
def okL (k : Nat) (l : List (Nat × List Nat)) : Bool := l.all fun p => okB k p.1 p.2
def closeL (l next : List (Nat × List Nat)) : Bool := l.all fun p =>
  bif Nat.blt p.2.length 5 then (List.range p.2.length).all fun i => (List.range p.2.length).all fun j => inL (p.1 + 1) (stepN p.2 p.1 i j) next
  else inL p.1 p.2 next
theorem okL0 : okL 0 fam0 = true := by decide +kernel
theorem okL1 : okL 1 fam1 = true := by decide +kernel
theorem okL2 : okL 2 fam2 = true := by decide +kernel
theorem okL3 : okL 3 fam3 = true := by decide +kernel
theorem close0 : closeL fam0 fam1 = true := by decide +kernel
theorem close1 : closeL fam1 fam2 = true := by decide +kernel
theorem close2 : closeL fam2 fam3 = true := by decide +kernel
theorem good3 : (fam3.all fun p => goodN p.1 p.2) = true := by decide +kernel
def FamAt (k : Nat) (l : List (Nat × List Nat)) (ms : List Str) : Prop := ∃ n cs, (n, cs) ∈ l ∧ Ok k n cs ∧ ms = fam n cs
theorem famAt_of {k : Nat} {l : List (Nat × List Nat)} (h : okL k l = true) {n : Nat} {cs : List Nat} (hm : (n, cs) ∈ l) : FamAt k l (fam n cs) :=
  ⟨n, cs, hm, ok_of (List.all_eq_true.mp h _ hm), rfl⟩
theorem famStep {k : Nat} {l next : List (Nat × List Nat)} (hk : k ≤ 2) (hn : okL (k + 1) next = true) (hc : closeL l next = true) {ms : List Str} (h : FamAt k l ms) {i j : Nat}
    (hij : ms.length < 5 → i < ms.length ∧ j < ms.length) : FamAt (k + 1) next (stepG ms i j k) := by
  obtain ⟨n, cs, hm, o, rfl⟩ := h
  have hl : (fam n cs).length = cs.length := List.length_map ..
  have hc' := List.all_eq_true.mp hc _ hm
  dsimp only at hc'
  by_cases h5 : cs.length < 5
  · obtain ⟨hi, hj⟩ := hij (by omega)
    rw [hl] at hi hj
    rw [step_fam o hk h5 hi hj]
    rw [(Nat.blt_eq ..).mpr h5, cond_true] at hc'
    exact famAt_of hn (of_inL (List.all_eq_true.mp (List.all_eq_true.mp hc' i (List.mem_range.mpr hi)) j (List.mem_range.mpr hj)))
  · rw [stepG, if_neg (by omega)]
    rw [show Nat.blt cs.length 5 = false from Bool.eq_false_iff.mpr fun q => h5 ((Nat.blt_eq ..).mp q), cond_false] at hc'
    exact famAt_of hn (of_inL hc')
theorem reach0 {ms : List Str} (h : ReachG 0 ms) : FamAt 0 fam0 ms := by
  rw [h]; exact famAt_of okL0 (n := 1) (cs := [0, 1]) (.head _)
theorem reach1 {ms : List Str} (h : ReachG 1 ms) : FamAt 1 fam1 ms := by
  obtain ⟨ms₀, i, j, h, hij, rfl⟩ := h; exact famStep (by decide) okL1 close0 (reach0 h) hij
theorem reach2 {ms : List Str} (h : ReachG 2 ms) : FamAt 2 fam2 ms := by
  obtain ⟨ms₀, i, j, h, hij, rfl⟩ := h; exact famStep (by decide) okL2 close1 (reach1 h) hij
theorem reach3 {ms : List Str} (h : ReachG 3 ms) : FamAt 3 fam3 ms := by
  obtain ⟨ms₀, i, j, h, hij, rfl⟩ := h; exact famStep (by decide) okL3 close2 (reach2 h) hij
theorem reach_shape {k : Nat} {ms : List Str} (hk : k ≤ 3) (h : ReachG k ms) : shapeFam k ms = true := by
  rcases (by omega : k = 0 ∨ k = 1 ∨ k = 2 ∨ k = 3) with rfl | rfl | rfl | rfl
  · obtain ⟨n, cs, _, o, rfl⟩ := reach0 h; exact shapeC o hk
  · obtain ⟨n, cs, _, o, rfl⟩ := reach1 h; exact shapeC o hk
  · obtain ⟨n, cs, _, o, rfl⟩ := reach2 h; exact shapeC o hk
  · obtain ⟨n, cs, _, o, rfl⟩ := reach3 h; exact shapeC o hk
theorem reach_good {ms : List Str} (h : ReachG 3 ms) : goodFam ms = true := by
  obtain ⟨n, cs, hm, o, rfl⟩ := reach3 h
  exact goodC o (Nat.le_refl 3) (List.all_eq_true.mp good3 _ hm)

end
section
theorem fresh_grown : True := by
  w_top off
  k_with_none
  k_with "mine:enter" => (
  (case k1 => assumption)
  (case k2 => exact Top.nolimit (by assumption))
  (case k3 => k_is)
  (case k4 => k_is)
  (case k5 => ktr_room)
  (case k0 => exact rfl)
  (case k6 => exact BindsTo.of_eq rfl)
  (case k7 => exact locs rfl)
  (case c2 => exact rfl)
  (case c3 => exact rfl)
  (case c4 => exact rfl)
  (case c5 => decide))
  k_with "mine:steps" => repeat' (first | (k_unfold; (try dsimp only)) | walk1 | (dsimp only; walk1) | fail "no step")
  k_with "mine:rest" => (
  (intro zw9 z1w9 z2w9 z3w9);
  (simp only [List.forall_mem_cons, List.not_mem_nil, false_implies, implies_true, and_true, ne_eq] at z2w9);
  (simp only [List.contains_cons, List.contains_nil, Bool.or_false, Bool.or_eq_false_iff, beq_eq_false_iff_ne, ne_eq] at z3w9);
  (simp [kstB, z1w9, z2w9, z3w9]))
  k_with "mine:mm" => first | with_reducible exact mem_h | with_reducible assumption | ((with_reducible refine mem_t ?_); k_extra "mine:mm")
  k_with "mine:md" => first | exact mem_h | assumption | (refine mem_t ?_; k_extra "mine:md")
  k_with "mine:sub" => first | with_reducible exact sub_nil | with_reducible assumption | with_reducible exact sub_refl | ((with_reducible refine sub_cons ?_ ?_); (first | k_extra "mine:mm" | k_extra "mine:md"); k_extra "mine:sub") | ((with_reducible refine sub_app ?_ ?_); k_extra "mine:sub"; k_extra "mine:sub") | ((with_reducible refine sub_tail ?_); k_extra "mine:sub") | ((with_reducible refine sub_left ?_); k_extra "mine:sub") | ((with_reducible refine sub_right ?_); k_extra "mine:sub")
  k_with "mine:subs" => ((try dsimp only [List.cons_append, List.nil_append]); k_extra "mine:sub")
  k_with "mine:ad" => first | with_reducible assumption | ((with_reducible refine ad_ss ?_); k_extra "mine:ad") | with_reducible first | exact ad_1 | exact ad_2 | exact ad_3 | exact ad_4 | exact ad_5 | exact ad_6 | exact ad_7 | exact ad_1.symm | exact ad_2.symm | exact ad_3.symm | exact ad_4.symm | exact ad_5.symm | exact ad_6.symm | exact ad_7.symm
  k_with "mine:off" => first | with_reducible exact off_nil | with_reducible assumption | ((with_reducible refine off_cons ?_ ?_); (first | k_extra "mine:ad" | (refine Ne.symm ?_; k_extra "mine:ad") | k_ne); k_extra "mine:off") | ((with_reducible refine off_app ?_ ?_); k_extra "mine:off"; k_extra "mine:off") | exact off_sym (by with_reducible assumption) | exact off_of (by assumption) (by k_extra "mine:mm")
  k_with "mine:offs" => ((try dsimp only [List.cons_append, List.nil_append]); k_extra "mine:off")
  trivial
theorem word_grown_0 : True := by
  k_with "exec For Name Call cons nil" => ((with_reducible show wpAny _ _ (exec (Stmt.For _ _ _ [] _) _) _ _ _); k_dflt (refine For_own ?_ ?c5); (case c5 => intro _; k_dflt rfl))
  k_with "eval ListComp" => ((with_reducible show wpAny _ _ (eval (PySem.Expr.ListComp _ _ _ _) _) _ _ _); k_dflt (refine comp_E (cl := ?_) ?_ ?_ ?_ ?_ ?_); rotate_left; (with_unfolding_all rfl); (k_dflt rfl); (k_dflt decide); rotate_left; (intro _; k_dflt rfl))
  k_with "exec Assign cons ListComp" => ((with_reducible show wpAny _ _ (exec (Stmt.Assign _ (PySem.Expr.ListComp _ _ _ _) _) _) _ _ _); k_dflt (refine comp_A (cl := ?_) ?_ ?_ ?_ ?_ ?_ ?_); rotate_left; (with_unfolding_all rfl); (with_unfolding_all rfl); (k_dflt rfl); (k_dflt decide); rotate_left; (intro _; k_dflt rfl))
  trivial
theorem newsSub {h₀ h : Heap} {L : Addr} {l all : List (Addr × Obj)} (N : News h₀ L h all) (hs : ∀ p ∈ l, p ∈ all) : News h₀ L h l := fun p hp => N p (hs p hp)
def sumP (i : Nat) (ys : List Value) (nws : List (Addr × Obj)) (_ : Nat) : Prop := nws = [] ∧ ∃ ks : List Int, IntsAre ys ks ∧ ks.length = i ∧ ∀ x ∈ ks, 0 ≤ x ∧ x < 1000000
theorem sum_nn : ∀ ks : List Int, (∀ x ∈ ks, 0 ≤ x) → 0 ≤ ks.sum
  | [], _ => by decide
  | x :: r, h => by
    have := sum_nn r fun y hy => h y (List.mem_cons_of_mem _ hy)
    have := h x List.mem_cons_self
    rw [List.sum_cons]; omega
theorem neObj {h₀ h : Heap} {L a b : Addr} {all : List (Addr × Obj)} {o1 o2 : Obj} {x : Array Value} {n : Nat} {v : Option Value} (N : News h₀ L h all) (h1 : (a, o1) ∈ all) (h2 : (b, o2) ∈ all) (d1 : o1.data = .seq x n) (d2 : o2.data = .cell v) : a ≠ b := by
  intro e
  have z1 := (N _ h1).1
  have z2 := (N _ h2).1
  dsimp only at z1 z2
  rw [e, z2] at z1
  rw [Option.some.inj z1, d1] at d2
  cases d2
structure Shape (k : Nat) (ms : List Str) : Prop where
  lo : 2 ≤ ms.length
  hi : ms.length ≤ 8
  word : ∀ w ∈ ms, w.cps.all (· < 128) = true ∧ w.length = (getS ms 0).length ∧ 1 ≤ w.length ∧ w.length ≤ k + 1
  want : ∀ a ∈ ms, ∀ b ∈ ms, goodWant a b = true
theorem shape_of {k : Nat} {ms : List Str} (h : shapeFam k ms = true) : Shape k ms := by
  simp only [shapeFam, Bool.and_eq_true, decide_eq_true_eq, List.all_eq_true] at h
  obtain ⟨⟨⟨h1, h2⟩, h3⟩, h4⟩ := h
  exact ⟨h1, h2, fun w hw => by obtain ⟨⟨a, b⟩, c, d⟩ := h3 w hw; exact ⟨by simpa using a, b, c, d⟩, fun a ha b hb => h4 a ha b hb⟩
theorem getS_mem {ms : List Str} {i : Nat} (h : i < ms.length) : getS ms i ∈ ms := by
  unfold getS
  rw [List.getD_eq_getElem?_getD, List.getElem?_eq_getElem h]
  exact List.getElem_mem h
theorem goodWant_le {a b : Str} (h : goodWant a b = true) : (wantF a b).length ≤ 16 := by
  simp only [goodWant, Bool.and_eq_true, decide_eq_true_eq] at h
  exact h.2
theorem goodWant_hw {a b : Str} (h : goodWant a b = true) : (Builtin.Str.occurrences (wantF a b) (Str.ofString "...") 0 (wantF a b).length 1).isEmpty = true ∨ 2 ≤ (Txt.split (wantF a b) (Str.ofString "...")).length := by
  simp only [goodWant, Bool.and_eq_true, Bool.or_eq_true, decide_eq_true_eq] at h
  exact h.1
section
variable {prog : Program} {w : World} {A : Around} {E : Value → Shared → Prop} {s : Shared} {h₀ : Heap} {L D : Addr} {news : List (Addr × Obj)} {us : List Value} {ms : List Str} {c : Nat} {value slice : PySem.Expr} {u : Tok}
theorem lenM {Q : Value → Shared → Prop} (N : News h₀ L s.heap news) (hm : (D, listOf us.toArray c) ∈ news) (hS : StrsAre us ms) (hfit : ms.length ≤ 8)
    (h : ∀ t k, Q (.int (ms.length : Int) t) { s with toks := k }) : wpAny (model prog w) A (call (.builtin "len") [.ref D]) Q E s := by
  have e : us.length = ms.length := StrsAre.len_eq hS
  exact lenN N hm (by omega) (by rw [e]; exact h _ _)
theorem itemM {Q : Value → Shared → Prop} {k : Int} (N : News h₀ L s.heap news) (hm : (D, listOf us.toArray c) ∈ news) (hS : StrsAre us ms) (h0 : 0 ≤ k) (h1 : k < ms.length) (hfit : ms.length ≤ 8)
    (h : ∀ t, Q (.str (getS ms k.toNat) t) s)
    (hs : subscripted slice false (.ref D) (.int k u) = operate [.ref D, .int k u] (getItem (.ref D) (.int k u)) := by with_unfolding_all rfl) :
    wpAny (model prog w) A (subscriptTail value slice (.ref D) (.int k u)) Q E s := by
  have hk : k.toNat < ms.length := by omega
  have e : us.length = ms.length := StrsAre.len_eq hS
  have hk2 : k.toNat < us.length := by omega
  obtain ⟨y, t, hv, hy⟩ := hS.item k.toNat us[k.toNat] (List.getElem?_eq_getElem hk2)
  have e2 : getS ms k.toNat = y := by unfold getS; rw [List.getD_eq_getElem?_getD, hy]; rfl
  exact itemN N hm h0 (by omega) (v := .str y t) (by rw [List.getElem?_eq_getElem hk2, hv]) (e2 ▸ h t) hs
theorem mod_ok {x : Int} {n : Nat} (hn : 2 ≤ n) : 0 ≤ x.fmod n ∧ x.fmod n < n := by
  rw [Int.fmod_eq_emod_of_nonneg _ (by omega)]
  exact ⟨Int.emod_nonneg _ (by omega), Int.emod_lt_of_pos _ (by omega)⟩
end
theorem word_grown_1 : True := by
  k_with "mine:mem" => first | exact List.Mem.head _ | exact List.Mem.tail _ (List.Mem.head _) | exact List.Mem.tail _ (List.Mem.tail _ (List.Mem.head _))
  k_with "call builtin:len" => ((refine lenM (by assumption) (by k_extra "mine:mem") (by assumption) (Shape.hi (by assumption)) ?_); (intro _ _); (try dsimp only))
  k_with "subscriptTail Name BinOp ref int" => ((refine' itemM ?z1 ?z2 ?z3 ?z4 ?z5 ?z6 ?_ ?z7); (case z1 => assumption); (case z2 => k_extra "mine:mem"); (case z3 => assumption); (case z4 => exact (mod_ok (Shape.lo (by assumption))).1); (case z5 => exact (mod_ok (Shape.lo (by assumption))).2); (case z6 => exact (Shape.hi (by assumption))); (case z7 => with_unfolding_all rfl); (intro _); (try dsimp only))
  trivial
def copP (ms : List Str) (W B : Str) (i : Nat) (ys : List Value) (nws : List (Addr × Obj)) (_ : Nat) : Prop := nws = [] ∧ StrsAre ys (((ms.take i).filter (ellF W)).map fun w => w ++ B)
def smlP (ms : List Str) (B : Str) (i : Nat) (ys : List Value) (nws : List (Addr × Obj)) (_ : Nat) : Prop := nws = [] ∧ StrsAre ys ((ms.take i).map fun w => w ++ B)
theorem word_grown_2 : True := by
  k_with "call ref" => ((with_reducible show wpAny _ _ (call (Value.ref 68) _) _ _ _); k_dflt (refine' want_ok ?la ?lb ?ln ?aa ?ab ?zd ?zu ?zX ?zT ?_); (case la => assumption); (case lb => assumption); (case ln => assumption); (case aa => assumption); (case ab => assumption); (case zd => ktr_room); (case zu => ktr_units); (case zX => exact Frag.In.keeps (by assumption) (Fr.keep (by assumption))); (case zT => exact Top.keeps (by assumption) (Fr.keep (by assumption))); intro t9w9 h9w9 tk9w9 st9w9 le9w9; (have Fqw9 := frUp (by assumption) st9w9); (have Nqw9 := newsUp (by assumption) st9w9); (try dsimp only))
  k_with "call ref" => ((with_reducible show wpAny _ _ (call (Value.ref 35) _) _ _ _); k_dflt (refine' ell_ok ?la ?lb ?hw ?zd ?zu ?zX ?zT ?_); (case la => assumption); (case lb => assumption); (case hw => assumption); (case zd => ktr_room); (case zu => ktr_units); (case zX => exact Frag.In.keeps (by assumption) (Fr.keep (by assumption))); (case zT => exact Top.keeps (by assumption) (Fr.keep (by assumption))); intro h9w9 tk9w9 st9w9 le9w9; (have Fqw9 := frUp (by assumption) st9w9); (have Nqw9 := newsUp (by assumption) st9w9); (try dsimp only))
  trivial
theorem ha3 {D a b : Addr} {us : List Value} {cap : Nat} {p1 p2 : Obj} {adr : List Addr} (ha : a ∈ adr) (hb : b ∈ adr) : ∀ p ∈ [(D, listOf us.toArray cap), (a, p1), (b, p2)], p.1 ∈ adr ∨ ((∀ f, p.2.data ≠ .fields f) ∧ ∀ v, p.2.data ≠ .cell v) := by
  intro p hp
  rcases List.mem_cons.mp hp with rfl | hp
  · exact .inr ⟨fun _ h => (nomatch h), fun _ h => (nomatch h)⟩
  rcases List.mem_cons.mp hp with rfl | hp
  · exact .inl ha
  rcases List.mem_cons.mp hp with rfl | hp
  · exact .inl hb
  · cases hp
theorem word_grown_3 : True := by
  k_with "mine:hz" => (
  (intro zw9 z2w9 z3w9);
  (simp only [List.forall_mem_cons, List.not_mem_nil, false_implies, implies_true, and_true, ne_eq] at z2w9);
  (simp only [List.contains_cons, List.contains_nil, Bool.or_false, Bool.or_eq_false_iff, beq_eq_false_iff_ne, ne_eq] at z3w9);
  (simp [kstB, z2w9, z3w9]))
  trivial
structure GSt where
  D : Addr
  us : List Value
  cap : Nat
  ms : List Str
  p1 : Obj
  p2 : Obj

theorem grown_ok {w : World} {dp un : Nat} {fr : Option (List Env)} {gd : Option (List Code)} {s : Shared} {Q E : Value → Shared → Prop} {mean : ExcName → Option Value} {mg mb : Str → Option Value} {l : Addr} {vs : List Value} {ns : List Int}
   (hl : s.heap.IsList l vs.toArray) (hi : IntsAre vs ns) (hn : ns.length ≤ 63)
   (hd : dp + 8 < recursionLimit) (hu : un + 64 < cLine) (X : (tp.heap_39 w.params).In s.heap) (T : Top tp.view_39 (looseW tp.view_39 []) mean mg mb s.heap)
   (hQ : ∀ D us cap ms h' tk', s.heap.StaysIn h' → s.toks ≤ tk' → h'.get? D = some (listOf us.toArray cap) → s.heap.get? D = none → StrsAre us ms → ReachG 3 ms → Q (.ref D) { s with heap := h', toks := tk' }) :
   wpAny (model PySem.Challenge.rw_sw0025_01.row.prog w) ⟨none, dp, fr, gd, un⟩ (call (.ref 73) [.ref l]) Q E s := by
  revert X; k_fill; intro X
  refine wpAny_with_toks (Nat.le_refl _) (wpAny_call ?_)
  refine' enterC (binds := [(Str.ofString "script", .ref l)]) ?k1 ?k2 ?k3 ?k4 ?k5 ?k6 ?k7 ?k9 ?k8 ?c2 ?c3 ?c4
  case k1 => assumption
  case k2 => exact Top.nolimit (by assumption)
  case k3 => k_is
  case k4 => k_is
  case k5 => ktr_room
  case k6 => exact rfl
  case k7 => intro n x hx; rw [List.mem_singleton.mp hx]; exact .inl rfl
  case k9 => decide
  case c2 => rfl
  case c3 => rfl
  case c4 => rfl
  intro LL h1 tk1 cells F1 N1 Y
  obtain ⟨o1, o2, o3, he, d1, d2, d3⟩ := CellsAre.three Y
  subst he
  have e1 : o1.data = .cell none := d1
  have e2 : o2.data = .cell none := d2
  have e3 : o3.data = .cell none := d3
  have F2 : Fr s.heap LL h1 (fun y => if y = Str.ofString "script" then some (.ref l) else none) := F1
  clear d1 d2 d3 F1 Y
  have hns : ∀ p ∈ [(LL + 1 + 1 + 1, o1), (LL + 1 + 1, o2)], p.1 ≠ LL + 1 := by k_extra "mine:offs"
  try dsimp only
  try k_fold
  try dsimp only
  k_extra "mine:steps"
  unfold Halt
  rename_i D0 _ lD h5 F5 N5 h6 tk6 _ _ _ R6 F6 N6 _
  refine' for_cell (σ := GSt) (n := 3) (c := LL + 1) (o₀ := o3) (fun st => [(st.D, listOf st.us.toArray st.cap), (LL + 1 + 1 + 1, st.p1), (LL + 1 + 1, st.p2)]) (fun st => [(Str.ofString "members", .ref st.D)]) [Str.ofString "number", Str.ofString "copies"]
    (fun k st tk => StrsAre st.us st.ms ∧ ReachG k st.ms ∧ (∃ v, st.p1.data = .cell v) ∧ ∃ v, st.p2.data = .cell v) ⟨D0, [.str (Str.ofString "a") tk1, .str (Str.ofString "A") (tk1 + 1)], 0, [Str.ofString "a", Str.ofString "A"], o1, o2⟩ rfl R6 (by decide) ?hx ?hkf ?hcl F6 (newsSub N6 ?hsub) e3 ?hne ?hk ?hm ?hp ?hE ?turn ?done
  case hx => rfl
  case hkf => rfl
  case hcl => rfl
  case hsub => dsimp only; k_extra "mine:subs"
  case hne => dsimp only; k_extra "mine:offs"
  case hk => intro p hp; cases hp with | head => rfl | tail _ h => cases h
  case hm => exact fun _ _ _ _ h _ => h
  case hp => exact ⟨.cons _ _ (.cons _ _ .nil), rfl, ⟨_, e1⟩, _, e2⟩
  case hE => passes_own
  case turn =>
    rintro ⟨D, us, cap, ms, p1, p2⟩ k u oc t h8 tk8 own hlt le8 ⟨hS, hR, ⟨v1, hp1⟩, v2, hp2⟩ hoc hoff hne F8 N8
    refine gen_Q fun QF hQturn => ?_
    dsimp only at hS hR hp1 hp2 hne F8 N8 ⊢
    change Fr s.heap LL h8 _ at F8
    change News s.heap LL h8 _ at N8
    dsimp only [List.cons_append, List.nil_append] at N8
    dsimp only [List.map] at hoff
    refine' cut1 (fun s' => ∃ h' tk' num t, s' = { s with heap := h', toks := tk' } ∧ Fr s.heap LL h' (fun z => if z = Str.ofString "number" then some (.int num t) else kstB (fun z => if [Str.ofString "number", Str.ofString "copies"].contains z = true then u z else if z = Str.ofString "members" then some (.ref D0) else if z = Str.ofString "script" then some (.ref l) else none) [(Str.ofString "members", .ref D)] z) ∧
      News s.heap LL h' ((LL + 1, oc) :: (D, listOf us.toArray cap) :: (LL + 1 + 1 + 1, p1) :: (LL + 1 + 1, p2) :: own) ∧ 0 ≤ num) ?cA ?cB
    case cA =>
      intro Qc hQc
      k_extra "mine:steps"
      unfold Halt
      dsimp only
      rename Fr _ _ _ _ => F9
      rename News _ _ _ _ => N9
      refine' src_list sumP rfl ⟨_, (N9 _ List.mem_cons_self).1, rfl, _, rfl⟩ ?sz ?hx ?hc ?hk F9 N9 ?hL ?mono ?h0 ?turn ?post
      case sz =>
        have q1 := slicePick_size_le vs.toArray (some (k : Int)) (some 60) (some 3)
        have q2 : vs.length = ns.length := IntsAre.length hi
        rw [List.size_toArray] at q1
        exact Nat.le_trans q1 (Nat.le_trans (Nat.le_of_eq q2) (Nat.le_trans hn (by rw [sizeLine_eq]; decide)))
      case hx => rfl
      case hc => decide
      case hk => rfl
      case hL => exact (N9 _ List.mem_cons_self).2.1
      case mono => exact fun _ _ _ _ _ h _ => h
      case h0 => exact ⟨rfl, [], .nil, rfl, fun _ h => nomatch h⟩
      case turn =>
        rintro i v ys nws its' h7 tk7 C E1 oC m₂ E' le7 ⟨rfl, ks, hks, hkl, hk0⟩ hv hm hoC F7 N7
        obtain ⟨x, tx, rfl, _⟩ := (hi.pick (some (k : Int)) (some 60) (some 3)).at i v (by simpa using hv)
        refine cturn0 ?_
        refine gen_Q fun QC hQC => ?_
        dsimp only at F7 N7 ⊢
        dsimp only [List.nil_append, List.cons_append] at N7
        k_extra "mine:steps"
        refine hQC _ _ (cend (by assumption) (by assumption) (by k_extra "mine:subs") fun _ => ⟨rfl, ks ++ [x.fmod 1000000], hks.append (.cons _ _ .nil), by rw [List.length_append, hkl]; rfl, fun y hy => ?_⟩)
        rcases List.mem_append.mp hy with hy | hy
        · exact hk0 y hy
        · rw [List.mem_singleton.mp hy, Int.fmod_eq_emod_of_nonneg _ (by decide)]; omega
      case post =>
        refine post_E ?_
        rintro E1 ys nws h7 tk7 le7 ⟨rfl, ks, hks, hkl, hk0⟩ F7 N7 hD7
        dsimp only at F7 N7 ⊢
        k_extra "mine:steps"
        refine hQc _ ⟨_, _, _, _, rfl, by assumption, newsSub (by assumption) (fun p hp => List.mem_cons_of_mem _ (List.mem_append_left _ (List.mem_cons_of_mem _ (List.mem_cons_of_mem _ hp)))), ?_⟩
        have q1 := sum_nn ks fun x hx => (hk0 x hx).1
        have q2 : 0 ≤ ([0, 0, 9] : List Int).getD (k : Int).toNat 0 := by
          have : k = 0 ∨ k = 1 ∨ k = 2 := by omega
          rcases this with rfl | rfl | rfl <;> decide
        omega
    case cB =>
      rintro s' ⟨h9, tk9, num, tn, rfl, F9, N9, hnum⟩
      have hsh := shape_of (reach_shape (by omega) hR)
      have hln := hsh.lo
      have hlh := hsh.hi
      have hD1 : D ≠ LL + 1 := neObj N9 (.tail _ (.head _)) (.head _) rfl hoc
      have hD2 : D ≠ LL + 1 + 1 := neObj N9 (.tail _ (.head _)) (.tail _ (.tail _ (.tail _ (.head _)))) rfl hp2
      have hD3 : D ≠ LL + 1 + 1 + 1 := neObj N9 (.tail _ (.head _)) (.tail _ (.tail _ (.head _))) rfl hp1
      k_extra "mine:steps"
      · unfold Halt
        dsimp only
        rename Fr _ _ _ _ => F10
        rename News _ _ _ _ => N10
        have hm0 := mod_ok (x := num) hln
        have hm1 := mod_ok (x := num.fdiv ms.length) hln
        generalize hi0 : (num.fmod (ms.length : Int)).toNat = i0 at *
        generalize hj0 : ((num.fdiv (ms.length : Int)).fmod (ms.length : Int)).toNat = j0 at *
        obtain ⟨qa, qb, ⟨tqa, hqa⟩, ⟨tqb, hqb⟩, N10⟩ : ∃ qa qb, (∃ t, qa.data = .cell (some (.str (getS ms j0) t))) ∧ (∃ t, qb.data = .cell (some (.str (getS ms i0) t))) ∧ News s.heap LL _ ((LL + 1, oc) :: (D, listOf us.toArray cap) :: (LL + 1 + 1 + 1, qa) :: (LL + 1 + 1, qb) :: own) := ⟨_, _, ⟨_, by assumption⟩, ⟨_, by assumption⟩, N10⟩
        have hi0' : i0 < ms.length := by omega
        have hj0' : j0 < ms.length := by omega
        have wi := hsh.word _ (getS_mem hi0')
        have wj := hsh.word _ (getS_mem hj0')
        have wi1 := wi.1
        have wi2 := wi.2.1
        have wj1 := wj.1
        have wj2 := wj.2.1
        have wle : (getS ms 0).length ≤ 4 := by have := wi.2.2.2; omega
        have gw := hsh.want _ (getS_mem hi0') _ (getS_mem hj0')
        have gw1 := goodWant_le gw
        have gw2 := goodWant_hw gw
        refine' src_list (copP ms (wantF (getS ms i0) (getS ms j0)) (bigL k)) rfl ⟨_, (N10 _ (.tail _ (.head _))).1, rfl, _, rfl⟩ ?sz ?hx ?hc ?hk F10 N10 ?hL ?mono ?h0 ?turn ?post
        case sz => rw [sizeLine_eq, List.size_toArray, StrsAre.len_eq hS]; omega
        case hx => rfl
        case hc => decide
        case hk => rfl
        case hL => exact (N10 _ (.tail _ (.head _))).2.1
        case mono => exact fun _ _ _ _ _ h _ => h
        case h0 => exact ⟨rfl, .nil⟩
        case turn =>
          rintro i v ys nws its' h7 tk7 C E1 oC m₂ E' le7 ⟨rfl, hks⟩ hv hm hoC F7 N7
          obtain ⟨wd, twd, rfl, hwd⟩ := hS.item i v (by simpa using hv)
          have wdm := List.mem_of_getElem? hwd
          have ww := hsh.word wd wdm
          have ww1 : wd.length ≤ 4 := by omega
          refine cturn1q fun QC QD hQC hQD => ?_
          dsimp only at F7 N7 ⊢
          dsimp only [List.nil_append, List.cons_append] at N7
          k_extra "mine:steps"
          · refine hQC _ _ (cend (by assumption) (by assumption) (by k_extra "mine:subs") fun _ => ⟨rfl, ?_⟩)
            rw [take_succ_filter _ ms i wd hwd, if_pos (by assumption), List.map_append]
            exact strsSnocW hks
          · refine hQD _ (cend (by assumption) (by assumption) (by k_extra "mine:subs") fun _ => ⟨rfl, ?_⟩)
            rw [take_succ_filter _ ms i wd hwd, if_neg (by rw [‹ellF _ wd = false›]; decide), List.append_nil]
            exact hks
        case post =>
          refine' post_A ?hLL ?hyy ?hpp ?dn2 ?mn
          case hLL => rfl
          case hyy => rfl
          case hpp => rfl
          case mn => exact fun _ _ _ _ _ h _ => h
          rintro D2 ys nws h7 tk7 le7 ⟨rfl, hks⟩ F7 N7 hD7
          dsimp only at F7 N7 ⊢
          simp only [List.append_nil] at N7
          rw [List.size_toArray, StrsAre.len_eq hS, List.take_length] at hks
          k_extra "mine:steps"
          unfold Halt
          dsimp only
          refine' src_list (smlP ms (smlL k)) rfl ⟨_, (N7 _ (.tail _ (.tail _ (.head _)))).1, rfl, _, rfl⟩ ?sz ?hx ?hc ?hk F7 N7 ?hL ?mono ?h0 ?turn ?post
          case sz => rw [sizeLine_eq, List.size_toArray, StrsAre.len_eq hS]; omega
          case hx => rfl
          case hc => decide
          case hk => rfl
          case hL => exact (N7 _ (.tail _ (.tail _ (.head _)))).2.1
          case mono => exact fun _ _ _ _ _ h _ => h
          case h0 => exact ⟨rfl, .nil⟩
          case turn =>
            rintro i v ys nws its' h7 tk7 C E1 oC m₂ E' le7 ⟨rfl, hks⟩ hv hm hoC F7 N7
            obtain ⟨wd, twd, rfl, hwd⟩ := hS.item i v (by simpa using hv)
            have wdm := List.mem_of_getElem? hwd
            have ww := hsh.word wd wdm
            have ww1 : wd.length ≤ 4 := by omega
            refine cturn0 ?_
            refine gen_Q fun QC hQC => ?_
            dsimp only at F7 N7 ⊢
            dsimp only [List.nil_append, List.cons_append] at N7
            k_extra "mine:steps"
            refine hQC _ _ (cend (by assumption) (by assumption) (by k_extra "mine:subs") fun _ => ⟨rfl, ?_⟩)
            rw [List.take_add_one, hwd, List.map_append]
            exact strsSnocW hks
          case post =>
            refine post_E ?_
            rintro D3 ys3 nws h7 tk7 le7 ⟨rfl, hks3⟩ F8 N8 hD8
            dsimp only at F8 N8 ⊢
            simp only [List.append_nil] at N8
            rw [List.size_toArray, StrsAre.len_eq hS, List.take_length] at hks3
            k_extra "mine:steps"
            refine' add_lists F8 N8 ⟨_, (N8 _ (.head _)).1, rfl, _, rfl⟩ ⟨_, (N8 _ (.tail _ (.head _))).1, rfl, _, rfl⟩ ?ad ?az
            case az =>
              have q1 := StrsAre.len_eq hks3
              have q2 := StrsAre.len_eq hks
              have q3 := List.length_filter_le (ellF (wantF (getS ms i0) (getS ms j0))) ms
              rw [List.length_map] at q1 q2
              rw [sizeLine_eq]; omega
            case ad =>
              intro h10 F10 N10
              dsimp only at F10 N10 ⊢
              generalize hD4 : h7.objs.size = D4 at *
              k_extra "mine:steps"
              refine' hQturn _ _ (fpost_next ⟨D4, ys3 ++ ys, 0, stepG ms i0 j0 k, qa, qb⟩ (by assumption) (by assumption) ?hc ?hd ?hr ?ho ?ha ?hk ?hz fun _ => ⟨?hS, ?hR, ⟨_, ?hp1⟩, _, ?hp2⟩)
              case hc => exact .tail _ (.tail _ (.tail _ (.head _)))
              case hd => exact hoc
              case hr => dsimp only; k_extra "mine:subs"
              case ho => k_extra "mine:subs"
              case ha => exact ha3 (by simp) (by simp)
              case hk => intro p hp; cases hp with | head => rfl | tail _ h => cases h
              case hz => k_extra "mine:hz"
              case hS => dsimp only; rw [stepG, if_pos (by omega)]; exact hks3.append' hks
              case hR => exact ⟨ms, i0, j0, hR, fun _ => ⟨hi0', hj0'⟩, rfl⟩
              case hp1 => exact hqa
              case hp2 => exact hqb
      · refine hQturn _ _ (fpost_next ⟨D, us, cap, ms, p1, p2⟩ F9 N9 (.head _) hoc ?hr ?ho ?ha ?hk ?hz fun _ => ⟨hS, ?hR, ⟨_, hp1⟩, _, hp2⟩)
        case hr => dsimp only; k_extra "mine:subs"
        case ho => k_extra "mine:subs"
        case ha => exact ha3 (by simp) (by simp)
        case hk => intro p hp; cases hp with | head => rfl | tail _ h => cases h
        case hz => k_extra "mine:hz"
        case hR => exact ⟨ms, 0, 0, hR, fun h => absurd h (by omega), (if_neg (by omega)).symm⟩
  case done =>
    rintro ⟨D, us, cap, ms, p1, p2⟩ u oc v h8 tk8 le8 ⟨hS, hR, _⟩ hoc F8 N8 hne
    dsimp only at hS hR hne F8 N8 ⊢
    change Fr s.heap LL h8 _ at F8
    change News s.heap LL h8 _ at N8
    k_extra "mine:steps"
    exact hQ D us cap ms _ _ (Fr.keep F8) (by assumption) (N8 _ (.tail _ (.head _))).1 (N8 _ (.tail _ (.head _))).2.2 hS hR

end
section
theorem fresh_law : True := by
  w_top off
  k_with_none
  k_with "mine:enter" => (
  (case k1 => assumption)
  (case k2 => exact Top.nolimit (by assumption))
  (case k3 => k_is)
  (case k4 => k_is)
  (case k5 => ktr_room)
  (case k0 => exact rfl)
  (case k6 => exact BindsTo.of_eq rfl)
  (case k7 => exact locs rfl)
  (case c2 => exact rfl)
  (case c3 => exact rfl)
  (case c4 => exact rfl)
  (case c5 => decide))
  k_with "mine:steps" => repeat' (first | (k_unfold; (try dsimp only)) | walk1 | (dsimp only; walk1) | fail "no step")
  k_with "mine:rest" => (
  (intro zw9 z1w9 z2w9 z3w9);
  (simp only [List.forall_mem_cons, List.not_mem_nil, false_implies, implies_true, and_true, ne_eq] at z2w9);
  (simp only [List.contains_cons, List.contains_nil, Bool.or_false, Bool.or_eq_false_iff, beq_eq_false_iff_ne, ne_eq] at z3w9);
  (simp [kstB, z1w9, z2w9, z3w9]))
  k_with "mine:mm" => first | with_reducible exact mem_h | with_reducible assumption | ((with_reducible refine mem_t ?_); k_extra "mine:mm")
  k_with "mine:md" => first | exact mem_h | assumption | (refine mem_t ?_; k_extra "mine:md")
  k_with "mine:sub" => first | with_reducible exact sub_nil | with_reducible assumption | with_reducible exact sub_refl | ((with_reducible refine sub_cons ?_ ?_); (first | k_extra "mine:mm" | k_extra "mine:md"); k_extra "mine:sub") | ((with_reducible refine sub_app ?_ ?_); k_extra "mine:sub"; k_extra "mine:sub") | ((with_reducible refine sub_tail ?_); k_extra "mine:sub") | ((with_reducible refine sub_left ?_); k_extra "mine:sub") | ((with_reducible refine sub_right ?_); k_extra "mine:sub")
  k_with "mine:subs" => ((try dsimp only [List.cons_append, List.nil_append]); k_extra "mine:sub")
  k_with "mine:ad" => first | with_reducible assumption | ((with_reducible refine ad_ss ?_); k_extra "mine:ad") | with_reducible first | exact ad_1 | exact ad_2 | exact ad_3 | exact ad_4 | exact ad_5 | exact ad_6 | exact ad_7 | exact ad_1.symm | exact ad_2.symm | exact ad_3.symm | exact ad_4.symm | exact ad_5.symm | exact ad_6.symm | exact ad_7.symm
  k_with "mine:off" => first | with_reducible exact off_nil | with_reducible assumption | ((with_reducible refine off_cons ?_ ?_); (first | k_extra "mine:ad" | (refine Ne.symm ?_; k_extra "mine:ad") | k_ne); k_extra "mine:off") | ((with_reducible refine off_app ?_ ?_); k_extra "mine:off"; k_extra "mine:off") | exact off_sym (by with_reducible assumption) | exact off_of (by assumption) (by k_extra "mine:mm")
  k_with "mine:offs" => ((try dsimp only [List.cons_append, List.nil_append]); k_extra "mine:off")
  trivial
theorem newsAdd {h₀ h h' : Heap} {L D : Addr} {m : Str → Option Value} {news : List (Addr × Obj)} {o : Obj} (F : Fr h₀ L h m) (N : News h₀ L h news) (st : h.StaysIn h') (hg : h'.get? D = some o) (hn : h.get? D = none) : News h₀ L h' ((D, o) :: news) :=
  List.forall_mem_cons.mpr ⟨⟨hg, (voidFr F hn).2, (voidFr F hn).1⟩, N.grown st⟩
theorem isL {h₀ h : Heap} {L D : Addr} {news : List (Addr × Obj)} {us : List Value} {c : Nat} (N : News h₀ L h news) (hm : (D, listOf us.toArray c) ∈ news) : h.IsList D us.toArray := N.isList hm
theorem newsFar {h₀ h : Heap} {L D : Addr} {news : List (Addr × Obj)} (N : News h₀ L h news) (hn : h.get? D = none) : ∀ p ∈ news, D ≠ p.1 := fun p hp q => by
  have := (N p hp).1
  rw [← q, hn] at this; cases this
theorem word_law_0 : True := by
  k_with "eval ListComp" => ((with_reducible show wpAny _ _ (eval (PySem.Expr.ListComp _ _ _ _) _) _ _ _); k_dflt (refine comp_E (cl := ?_) ?_ ?_ ?_ ?_ ?_); rotate_left; (with_unfolding_all rfl); (k_dflt rfl); (k_dflt decide); rotate_left; (intro _; k_dflt rfl))
  k_with "exec Assign cons ListComp" => ((with_reducible show wpAny _ _ (exec (Stmt.Assign _ (PySem.Expr.ListComp _ _ _ _) _) _) _ _ _); k_dflt (refine comp_A (cl := ?_) ?_ ?_ ?_ ?_ ?_ ?_); rotate_left; (with_unfolding_all rfl); (with_unfolding_all rfl); (k_dflt rfl); (k_dflt decide); rotate_left; (intro _; k_dflt rfl))
  k_with "exec For Name Call cons nil" => ((with_reducible show wpAny _ _ (exec (Stmt.For _ _ _ [] _) _) _ _ _); k_dflt (refine For_own ?_ ?_); rotate_left; (intro _; k_dflt rfl))
  k_with "execs nil" => ((refine wpAny_execs_nil ?_); (try dsimp only))
  k_with "execs cons" => ((with_reducible refine wpAny_execs_cons ?_); (try dsimp only))
  k_with "call ref" => ((with_reducible show wpAny _ _ (call (Value.ref 73) _) _ _ _); refine Halt.mk ?_)
  k_with "call ref" => ((with_reducible show wpAny _ _ (call (Value.ref 80) _) _ _ _); k_dflt (refine' code_ok ?za ?zd ?zu ?zX ?zT ?_); (case za => assumption); (case zd => ktr_room); (case zu => ktr_units); (case zX => exact Frag.In.keeps (by assumption) (Fr.keep (by assumption))); (case zT => exact Top.keeps (by assumption) (Fr.keep (by assumption))); intro t9w9 h9w9 tk9w9 st9w9 le9w9; (have Fqw9 := frUp (by assumption) st9w9); (have Nqw9 := newsUp (by assumption) st9w9); (try dsimp only))
  k_with "call ref" => ((with_reducible show wpAny _ _ (call (Value.ref 87) _) _ _ _); k_dflt (refine' mid_ok ?za ?zb ?zc ?zd ?zu ?zX ?zT ?_); (case za => exact isL (by assumption) (by k_extra "mine:mem")); (case zb => assumption); (case zc => assumption); (case zd => ktr_room); (case zu => ktr_units); (case zX => exact Frag.In.keeps (by assumption) (Fr.keep (by assumption))); (case zT => exact Top.keeps (by assumption) (Fr.keep (by assumption))); intro h9w9 tk9w9 st9w9 le9w9; (have Fqw9 := frUp (by assumption) st9w9); (have Nqw9 := newsUp (by assumption) st9w9); (rename midF _ = true => hmdqw9); (rw [hmdqw9]); (try dsimp only))
  k_with "mine:mem" => first | exact List.Mem.head _ | (refine List.Mem.tail _ ?_; k_extra "mine:mem")
  k_with "mine:memR" => first | assumption | (exact List.mem_append_left _ (by assumption)) | (exact List.mem_append_left _ (List.mem_append_left _ (by assumption))) | (refine List.Mem.tail _ ?_; k_extra "mine:memR")
  k_with "call builtin:len" => ((refine lenM (by assumption) (by k_extra "mine:mem") (by assumption) (Shape.hi (by assumption)) ?_); (intro _ _); (try dsimp only))
  trivial
section
variable {M : Model} {A : Around} {E : Value → Shared → Prop} {Q : Flow → Shared → Prop} {s : Shared} {env : Env}
theorem cut3 {a b c : Stmt} {rest : List Stmt} (R : Shared → Prop) (h1 : ∀ Qc : Flow → Shared → Prop, (∀ s', R s' → Qc .next s') → wpAny M A (execs [a, b, c] env) Qc E s)
    (h2 : ∀ s', R s' → wpAny M A (execs rest env) Q E s') : wpAny M A (execs (a :: b :: c :: rest) env) Q E s := cutAt (l₁ := [a, b, c]) R h1 h2
theorem cutT {a : Stmt} {rest : List Stmt} (R : Shared → Prop) (h1 : ∀ Qc : Flow → Shared → Prop, (∀ s', s.toks ≤ s'.toks → R s' → Qc .next s') → wpAny M A (execs [a] env) Qc E s)
    (h2 : ∀ s', s.toks ≤ s'.toks → R s' → wpAny M A (execs rest env) Q E s') : wpAny M A (execs (a :: rest) env) Q E s := by
  refine cutAt (l₁ := [a]) (fun s' => s.toks ≤ s'.toks ∧ R s') (fun Qc hQc => ?_) fun s' h => h2 s' h.1 h.2
  exact h1 Qc fun s' le r => hQc s' ⟨le, r⟩
end
def codP (ms : List Str) (i : Nat) (ys : List Value) (nws : List (Addr × Obj)) (_ : Nat) : Prop := nws = [] ∧ IntsAre ys ((ms.take i).map codeF)
theorem word_law_1 : True := by
  k_with "call ref" => ((with_reducible show wpAny _ _ (call (Value.ref 92) _) _ _ _); k_dflt (refine' unl_ok ?la ?lb ?ln ?aa ?ab ?zd ?zu ?zX ?zT ?_); (case la => assumption); (case lb => assumption); (case ln => assumption); (case aa => assumption); (case ab => assumption); (case zd => ktr_room); (case zu => ktr_units); (case zX => exact Frag.In.keeps (by assumption) (Fr.keep (by assumption))); (case zT => exact Top.keeps (by assumption) (Fr.keep (by assumption))); intro t9w9 h9w9 tk9w9 st9w9 le9w9 ne9w9 lt9w9; (have Fqw9 := frUp (by assumption) st9w9); (have Nqw9 := newsUp (by assumption) st9w9); (try dsimp only))
  trivial
def rowP (ms : List Str) (j : Nat) (i : Nat) (ys : List Value) (nws : List (Addr × Obj)) (tk : Nat) : Prop := nws = [] ∧ ys.length = i ∧ ∀ (m : Nat) (x : Value), ys[m]? = some x → ∃ t, x = Value.int (dueF ms j m) t ∧ t ≠ 0 ∧ t < tk
def duesP (ms : List Str) (i : Nat) (ys : List Value) (nws : List (Addr × Obj)) (tk : Nat) : Prop := ys.length = i ∧ ∀ j v, ys[j]? = some v → ∃ a vals, v = Value.ref a ∧ (a, LCg.lst vals) ∈ nws ∧ rowP ms j ms.length vals [] tk
theorem rowP_mono {ms : List Str} {j : Nat} (i : Nat) (ys : List Value) (nws : List (Addr × Obj)) (tk tk' : Nat) (h : rowP ms j i ys nws tk) (le : tk ≤ tk') : rowP ms j i ys nws tk' :=
  ⟨h.1, h.2.1, fun m x hx => by obtain ⟨t, a, b, c⟩ := h.2.2 m x hx; exact ⟨t, a, b, Nat.lt_of_lt_of_le c le⟩⟩
theorem duesP_mono {ms : List Str} (i : Nat) (ys : List Value) (nws : List (Addr × Obj)) (tk tk' : Nat) (h : duesP ms i ys nws tk) (le : tk ≤ tk') : duesP ms i ys nws tk' :=
  ⟨h.1, fun j v hv => by obtain ⟨a, vals, e, hm, hr⟩ := h.2 j v hv; exact ⟨a, vals, e, hm, rowP_mono _ _ _ _ _ hr le⟩⟩
theorem getLt {α : Type} {l : List α} {i : Nat} {x : α} (h : l[i]? = some x) : i < l.length := (List.getElem?_eq_some_iff.mp h).1
theorem rowP_snoc {ms : List Str} {j i : Nat} {ys : List Value} {tk tk' : Nat} {t : Tok} (h : rowP ms j i ys [] tk) (le : tk ≤ tk') (h0 : t ≠ 0) (h1 : t < tk') : rowP ms j (i + 1) (ys ++ [Value.int (dueF ms j i) t]) [] tk' := by
  refine ⟨rfl, by rw [List.length_append, h.2.1]; rfl, fun m x hx => ?_⟩
  by_cases e : m < ys.length
  · rw [List.getElem?_append_left e] at hx
    obtain ⟨t', a, b, c⟩ := h.2.2 m x hx
    exact ⟨t', a, b, Nat.lt_of_lt_of_le c le⟩
  · have hlt := getLt hx
    rw [List.length_append, List.length_singleton] at hlt
    have e2 : m = i := by have := h.2.1; omega
    subst e2
    rw [← h.2.1] at hx
    simp at hx
    exact ⟨t, by rw [← hx, h.2.1], h0, h1⟩
theorem duesP_snoc {ms : List Str} {i : Nat} {ys vals : List Value} {nws : List (Addr × Obj)} {tk tk' : Nat} {a : Addr} (h : duesP ms i ys nws tk) (le : tk ≤ tk') (hr : rowP ms i ms.length vals [] tk') :
    duesP ms (i + 1) (ys ++ [Value.ref a]) (nws ++ [(a, LCg.lst vals)]) tk' := by
  refine ⟨by rw [List.length_append, h.1]; rfl, fun j v hv => ?_⟩
  by_cases e : j < ys.length
  · rw [List.getElem?_append_left e] at hv
    obtain ⟨a', vals', e', hm, hr'⟩ := h.2 j v hv
    exact ⟨a', vals', e', List.mem_append_left _ hm, rowP_mono _ _ _ _ _ hr' le⟩
  · have hlt := getLt hv
    rw [List.length_append, List.length_singleton] at hlt
    have e2 : j = i := by have := h.1; omega
    subst e2
    rw [← h.1] at hv
    simp at hv
    exact ⟨a, vals, hv.symm, by simp, h.1.symm ▸ hr⟩
section
variable {prog : Program} {w : World} {A : Around} {E : Value → Shared → Prop} {h₀ : Heap} {L : Addr} {m : Str → Option Value}
theorem post_E2 {s : Shared} {n : Nat} {P : Nat → List Value → List (Addr × Obj) → Nat → Prop} {news : List (Addr × Obj)} {Q : Value → Shared → Prop}
    (h : ∀ D ys nws h tk, s.toks ≤ tk → P n ys nws tk → Fr h₀ L h m → News h₀ L h ((D, LCg.lst ys) :: (news ++ nws)) → s.heap.get? D = none → OwnOff nws (D :: news.map (·.1)) → Q (.ref D) { s with heap := h, toks := tk }) :
    ∀ D C h tk m' ys nws, s.toks ≤ tk → P n ys nws tk → Fr h₀ L h m → News h₀ L h ((D, LCg.lst ys) :: (news ++ nws)) → (∀ p ∈ news ++ nws, p.1 ≠ D ∧ p.1 ≠ C) → (∀ p ∈ nws, ∀ q ∈ news, p.1 ≠ q.1) → h.Ns C m' → s.heap.get? D = none → h₀.get? C = none → C ≠ L → C ≠ D →
      compPost (model prog w) A E none Q (.ref D) C (.ok .next) { s with heap := h, toks := tk } := by
  intro D C h' tk m' ys nws le hP F N off dis hn hD hC₀ hCL hCD
  refine ⟨m', hn, fun h'' hs'' => h D ys nws h'' tk le hP (F.change hs'' hCL hC₀) (fun p hp => ?_) hD fun p hp b hb => ?_⟩
  · refine ⟨hs''.extBut _ _ ?_ (N p hp).1, (N p hp).2⟩
    rcases List.mem_cons.mp hp with rfl | hp
    · exact Ne.symm hCD
    · exact (off p hp).2
  · rcases List.mem_cons.mp hb with rfl | hb
    · exact (off p (List.mem_append_right _ hp)).1
    · obtain ⟨q, hq, rfl⟩ := List.mem_map.mp hb
      exact dis p hp q hq
end
def sizP (i : Nat) (ys : List Value) (nws : List (Addr × Obj)) (tk : Nat) : Prop := nws = [] ∧ 0 < tk ∧ ys.length = i ∧ ∀ (m : Nat) (x : Value), ys[m]? = some x → ∃ t, x = Value.int 0 t ∧ t ≠ 0 ∧ t < tk
theorem sizP_mono (i : Nat) (ys : List Value) (nws : List (Addr × Obj)) (tk tk' : Nat) (h : sizP i ys nws tk) (le : tk ≤ tk') : sizP i ys nws tk' :=
  ⟨h.1, Nat.lt_of_lt_of_le h.2.1 le, h.2.2.1, fun m x hx => by obtain ⟨t, a, b, c⟩ := h.2.2.2 m x hx; exact ⟨t, a, b, Nat.lt_of_lt_of_le c le⟩⟩
theorem sizP_snoc {i : Nat} {ys : List Value} {tk tk' : Nat} {t : Tok} (h : sizP i ys [] tk) (le : tk ≤ tk') (h0 : t ≠ 0) (h1 : t < tk') : sizP (i + 1) (ys ++ [Value.int 0 t]) [] tk' := by
  refine ⟨rfl, Nat.lt_of_lt_of_le h.2.1 le, by rw [List.length_append, h.2.2.1]; rfl, fun m x hx => ?_⟩
  by_cases e : m < ys.length
  · rw [List.getElem?_append_left e] at hx
    obtain ⟨t', a, b, c⟩ := h.2.2.2 m x hx
    exact ⟨t', a, b, Nat.lt_of_lt_of_le c le⟩
  · have hlt := getLt hx
    rw [List.length_append, List.length_singleton] at hlt
    have e2 : m = ys.length := by omega
    subst e2
    simp at hx
    exact ⟨t, hx.symm, h0, h1⟩
theorem duesP_pos {ms : List Str} {ds : List Value} {nws : List (Addr × Obj)} {tk : Nat} (h2 : 2 ≤ ms.length) (h : duesP ms ms.length ds nws tk) : 0 < tk := by
  have h0 : 0 < ds.length := by rw [h.1]; omega
  obtain ⟨a, vals, _, _, hr⟩ := h.2 0 _ (List.getElem?_eq_getElem h0)
  have h1 : 0 < vals.length := by rw [hr.2.1]; omega
  obtain ⟨t, _, _, lt⟩ := hr.2.2 0 _ (List.getElem?_eq_getElem h1)
  exact Nat.lt_of_le_of_lt (Nat.zero_le _) lt
def SizOk (T0 : Nat) (zs : List Value) (ns : List Int) (tk : Nat) : Prop := T0 ≤ tk ∧ zs.length = ns.length ∧ ∀ (k : Nat) (v : Value), zs[k]? = some v → ∃ x t, v = Value.int x t ∧ ns[k]? = some x ∧ t ≠ 0 ∧ t < tk
theorem SizOk.mono {T0 : Nat} {zs : List Value} {ns : List Int} {tk tk' : Nat} (h : SizOk T0 zs ns tk) (le : tk ≤ tk') : SizOk T0 zs ns tk' :=
  ⟨Nat.le_trans h.1 le, h.2.1, fun k v hv => by obtain ⟨x, t, a, b, c, d⟩ := h.2.2 k v hv; exact ⟨x, t, a, b, c, Nat.lt_of_lt_of_le d le⟩⟩
theorem SizOk.snoc {T0 : Nat} {zs : List Value} {ns : List Int} {tk tk' : Nat} {x : Int} {t : Tok} (h : SizOk T0 zs ns tk) (le : tk ≤ tk') (h0 : t ≠ 0) (h1 : t < tk') : SizOk T0 (zs ++ [Value.int x t]) (ns ++ [x]) tk' := by
  refine ⟨Nat.le_trans h.1 le, by rw [List.length_append, List.length_append, h.2.1]; rfl, fun k v hv => ?_⟩
  by_cases e : k < zs.length
  · rw [List.getElem?_append_left e] at hv
    obtain ⟨y, u, a, b, c, d⟩ := h.2.2 k v hv
    exact ⟨y, u, a, by rw [List.getElem?_append_left (h.2.1 ▸ e)]; exact b, c, Nat.lt_of_lt_of_le d le⟩
  · have hlt := getLt hv
    rw [List.length_append, List.length_singleton] at hlt
    have e2 : k = zs.length := by omega
    subst e2
    simp at hv
    exact ⟨x, t, hv.symm, by rw [h.2.1]; simp, h0, h1⟩
theorem sizOk_of {ms : List Str} {ss : List Value} {tk T0 : Nat} (hT : T0 ≤ tk) (h : sizP ms.length ss [] tk) : SizOk T0 ss (ms.map fun _ => 0) tk :=
  ⟨hT, by rw [List.length_map]; exact h.2.2.1, fun k v hv => by
    obtain ⟨t, a, b, c⟩ := h.2.2.2 k v hv
    have hlt := getLt hv
    rw [h.2.2.1] at hlt
    exact ⟨0, t, a, by rw [List.getElem?_map, List.getElem?_eq_getElem hlt]; rfl, b, c⟩⟩
section
variable {prog : Program} {w : World} {A : Around} {E : Value → Shared → Prop} {s : Shared} {h₀ : Heap} {L : Addr} {m : Str → Option Value} {news : List (Addr × Obj)}
theorem rangeT {Q : Value → Shared → Prop} {n : Int} {t : Tok} (F : Fr h₀ L s.heap m) (N : News h₀ L s.heap news)
    (h : ∀ r h' tk t u v, s.toks ≤ tk → IsRange h' r 0 n 1 t u v → Fr h₀ L h' m → News h₀ L h' news → Q (.ref r) { s with heap := h', toks := tk }) : wpAny (model prog w) A (call (.type "range") [.int n t]) Q E s :=
  wpAny_with_toks (Nat.le_refl _) (range1_rows F N fun h' tk t u v R F' N' _ => fun le => h _ h' tk t u v le R F' N')
end
theorem word_law_2 : True := by
  k_with "call type:range" => ((with_reducible show wpAny _ _ (call _ [_]) _ _ _); k_dflt (refine' rangeT ?zF ?zN ?_); (case zF => assumption); (case zN => assumption); intro r9w9 h9w9 tk9w9 t9w9 u9w9 v9w9 le9w9 R9w9 Fqw9 Nqw9; (try dsimp only))
  trivial
structure LSt where
  zs : List Value
  cap : Nat
  p5 : Obj
  p6 : Obj
  p7 : Obj
def IsC (o : Obj) : Prop := ∃ v, o.data = .cell v
theorem getS_of {ms : List Str} {i : Nat} {w : Str} (h : ms[i]? = some w) : getS ms i = w := by unfold getS; rw [List.getD_eq_getElem?_getD, h]; rfl
section
variable {prog : Program} {w : World} {A : Around} {E : Value → Shared → Prop} {s : Shared} {h₀ : Heap} {L : Addr} {news W nwsR : List (Addr × Obj)} {value slice : PySem.Expr} {u : Tok} {ms : List Str}
theorem itemI {Q : Value → Shared → Prop} {D : Addr} {us : List Value} {c : Nat} {k : Nat} (N : News h₀ L s.heap news) (hm : (D, listOf us.toArray c) ∈ news) (hS : StrsAre us ms) (h1 : k < ms.length) (hfit : ms.length ≤ 8)
    (h : ∀ t, Q (.str (getS ms k) t) s)
    (hs : subscripted slice false (.ref D) (.int (k : Int) u) = operate [.ref D, .int (k : Int) u] (getItem (.ref D) (.int (k : Int) u)) := by with_unfolding_all rfl) :
    wpAny (model prog w) A (subscriptTail value slice (.ref D) (.int (k : Int) u)) Q E s :=
  itemM N hm hS (by omega) (by omega) hfit (fun t => by rw [Int.toNat_natCast]; exact h t) hs
theorem dueRow {Q : Value → Shared → Prop} {D : Addr} {ds : List Value} {tk0 : Nat} {k : Nat} (N : News h₀ L s.heap news) (hm : (D, LCg.lst ds) ∈ news) (hd : duesP ms ms.length ds nwsR tk0) (hW : ∀ p ∈ nwsR, p ∈ W) (h1 : k < ms.length) (hfit : ms.length ≤ 8)
    (h : ∀ a vals, (a, LCg.lst vals) ∈ W → rowP ms k ms.length vals [] tk0 → Q (.ref a) s)
    (hs : subscripted slice false (.ref D) (.int (k : Int) u) = operate [.ref D, .int (k : Int) u] (getItem (.ref D) (.int (k : Int) u)) := by with_unfolding_all rfl) :
    wpAny (model prog w) A (subscriptTail value slice (.ref D) (.int (k : Int) u)) Q E s := by
  have hk : k < ds.length := by rw [hd.1]; exact h1
  obtain ⟨a, vals, e, hm', hr⟩ := hd.2 k _ (List.getElem?_eq_getElem hk)
  exact itemN N hm (by omega) (by omega) (v := .ref a) (by rw [Int.toNat_natCast, List.getElem?_eq_getElem hk, e]) (h a vals (hW _ hm') hr) hs
theorem rowItem {Q : Value → Shared → Prop} {D : Addr} {vals : List Value} {tk0 : Nat} {j k : Nat} (N : News h₀ L s.heap news) (hm : (D, LCg.lst vals) ∈ news) (hr : rowP ms j ms.length vals [] tk0) (h1 : k < ms.length) (hfit : ms.length ≤ 8)
    (h : ∀ t, t ≠ 0 → t < tk0 → Q (.int (dueF ms j k) t) s)
    (hs : subscripted slice false (.ref D) (.int (k : Int) u) = operate [.ref D, .int (k : Int) u] (getItem (.ref D) (.int (k : Int) u)) := by with_unfolding_all rfl) :
    wpAny (model prog w) A (subscriptTail value slice (.ref D) (.int (k : Int) u)) Q E s := by
  have hk : k < vals.length := by rw [hr.2.1]; exact h1
  obtain ⟨t, e, t0, lt⟩ := hr.2.2 k _ (List.getElem?_eq_getElem hk)
  exact itemN N hm (by omega) (by omega) (v := .int (dueF ms j k) t) (by rw [Int.toNat_natCast, List.getElem?_eq_getElem hk, e]) (h t t0 lt) hs
theorem codI {Q : Value → Shared → Prop} {D : Addr} {cs : List Value} {k : Nat} (N : News h₀ L s.heap news) (hm : (D, LCg.lst cs) ∈ news) (hC : IntsAre cs (ms.map codeF)) (h1 : k < ms.length) (hfit : ms.length ≤ 8)
    (h : ∀ t, Q (.int (codF ms k) t) s)
    (hs : subscripted slice false (.ref D) (.int (k : Int) u) = operate [.ref D, .int (k : Int) u] (getItem (.ref D) (.int (k : Int) u)) := by with_unfolding_all rfl) :
    wpAny (model prog w) A (subscriptTail value slice (.ref D) (.int (k : Int) u)) Q E s := by
  have hl : cs.length = ms.length := by have := hC.length; rwa [List.length_map] at this
  have hk : k < cs.length := by rw [hl]; exact h1
  obtain ⟨x, t, e, hx⟩ := hC.at k _ (List.getElem?_eq_getElem hk)
  have e2 : x = codF ms k := by
    rw [List.getElem?_map, List.getElem?_eq_getElem h1] at hx
    unfold codF getS
    rw [List.getD_eq_getElem?_getD, List.getElem?_eq_getElem h1]
    exact (Option.some.inj hx).symm
  exact itemN N hm (by omega) (by omega) (v := .int (codF ms k) t) (by rw [Int.toNat_natCast, List.getElem?_eq_getElem hk, e, e2]) (h t) hs
end
theorem appN {prog : Program} {w : World} {A : Around} {E : Value → Shared → Prop} {s : Shared} {h₀ : Heap} {L D : Addr} {m : Str → Option Value} {news : List (Addr × Obj)} {g : Obj → List (Addr × Obj)} {zs : List Value} {c : Nat} {x : Value} {Q : Value → Shared → Prop}
    (F : Fr h₀ L s.heap m) (N : News h₀ L s.heap news) (U : UpdF D (listOf zs.toArray c) news g) (hl : zs.length ≤ 1000)
    (h : ∀ h', Fr h₀ L h' m → News h₀ L h' (g (listOf (zs ++ [x]).toArray (c + 1))) → Q .none { s with heap := h' }) : wpAny (model prog w) A (call (.builtin "list.append") [.ref D, x]) Q E s := by
  obtain ⟨pre, post, rfl, hg, h1, h2⟩ := U.split
  obtain ⟨g, q⟩ := N (D, listOf zs.toArray c) (List.mem_append_right _ (.head _))
  exact append_at (hsz := by rw [List.size_toArray, sizeLine_eq]; omega) g fun h' sb o' => h h' (F.change sb q.1 q.2) (hg _ ▸ N.setAt h1 h2 sb (o'.trans (by rw [List.push_toArray])))
theorem addF_len (ms : List Str) (i k : Nat) : (addF ms i k).length ≤ 1 := by
  unfold addF
  split
  · exact Nat.le_refl _
  · split
    · split
      · exact Nat.le_refl _
      · exact Nat.zero_le _
    · exact Nat.zero_le _
theorem inner_len (ms : List Str) (i : Nat) (acc : List Int) : ∀ k, (inner ms i k acc).length ≤ acc.length + k
  | 0 => Nat.le_refl _
  | k + 1 => by
    have := inner_len ms i acc k
    have := addF_len ms i k
    rw [inner, List.length_append]; omega
theorem outer_len (ms : List Str) : ∀ i, i ≤ 8 → (outer ms i).length ≤ ms.length + 8 * i
  | 0, _ => by simp [outer]
  | i + 1, h => by
    have := outer_len ms i (by omega)
    have := inner_len ms i (outer ms i) i
    rw [outer]; omega
theorem word_law_3 : True := by
  k_with "call builtin:list.append" => (k_dflt ((refine' appN ?z1 ?z2 ?z3 ?z4 ?_); (case z1 => assumption); (case z2 => assumption); (case z3 => k_updF); (case z4 => assumption); intro h9w9 Fqw9 Nqw9; (try dsimp only)))
  k_with "call ref" => ((with_reducible show wpAny _ _ (call (Value.ref 42) _) _ _ _); k_dflt (refine' and_ok ?zd ?zu ?zX ?zT ?_); (case zd => ktr_room); (case zu => ktr_units); (case zX => exact Frag.In.keeps (by assumption) (Fr.keep (by assumption))); (case zT => exact Top.keeps (by assumption) (Fr.keep (by assumption))); intro t9w9 h9w9 tk9w9 st9w9 le9w9; (have Fqw9 := frUp (by assumption) st9w9); (have Nqw9 := newsUp (by assumption) st9w9); (try dsimp only))
  k_with "call ref" => ((with_reducible show wpAny _ _ (call (Value.ref 68) _) _ _ _); k_dflt (refine' want_ok ?la ?lb ?ln ?aa ?ab ?zd ?zu ?zX ?zT ?_); (case la => assumption); (case lb => assumption); (case ln => assumption); (case aa => assumption); (case ab => assumption); (case zd => ktr_room); (case zu => ktr_units); (case zX => exact Frag.In.keeps (by assumption) (Fr.keep (by assumption))); (case zT => exact Top.keeps (by assumption) (Fr.keep (by assumption))); intro t9w9 h9w9 tk9w9 st9w9 le9w9; (have Fqw9 := frUp (by assumption) st9w9); (have Nqw9 := newsUp (by assumption) st9w9); (try dsimp only))
  k_with "call ref" => ((with_reducible show wpAny _ _ (call (Value.ref 35) _) _ _ _); k_dflt (refine' ell_ok ?la ?lb ?hw ?zd ?zu ?zX ?zT ?_); (case la => assumption); (case lb => assumption); (case hw => assumption); (case zd => ktr_room); (case zu => ktr_units); (case zX => exact Frag.In.keeps (by assumption) (Fr.keep (by assumption))); (case zT => exact Top.keeps (by assumption) (Fr.keep (by assumption))); intro h9w9 tk9w9 st9w9 le9w9; (have Fqw9 := frUp (by assumption) st9w9); (have Nqw9 := newsUp (by assumption) st9w9); (try dsimp only))
  k_with "subscriptTail Name Name ref int" => k_dflt (first
  | ((refine' itemI ?z1 ?z2 ?z3 ?z4 ?z5 ?_ ?z7); (case z1 => assumption); (case z2 => k_extra "mine:mem"); (case z3 => assumption); (case z4 => assumption); (case z5 => assumption); (case z7 => with_unfolding_all rfl); (intro _); (try dsimp only))
  | ((refine' dueRow ?z1 ?z2 ?z3 ?zw ?z4 ?z5 ?_ ?z7); (case z1 => assumption); (case z2 => k_extra "mine:mem"); (case z3 => assumption); (case zw => assumption); (case z4 => assumption); (case z5 => assumption); (case z7 => with_unfolding_all rfl); (intro _ _ _ _); (try dsimp only))
  | ((refine' codI ?z1 ?z2 ?z3 ?z4 ?z5 ?_ ?z7); (case z1 => assumption); (case z2 => k_extra "mine:mem"); (case z3 => assumption); (case z4 => assumption); (case z5 => assumption); (case z7 => with_unfolding_all rfl); (intro _); (try dsimp only))
  | ((refine' rowItem ?z1 ?z2 ?z3 ?z4 ?z5 ?_ ?z7); (case z1 => assumption); (case z2 => k_extra "mine:memR"); (case z3 => assumption); (case z4 => assumption); (case z5 => assumption); (case z7 => with_unfolding_all rfl); (intro _ _ _); (try dsimp only)))
  k_with "call ref" => ((with_reducible show wpAny _ _ (call (Value.ref 28) _) _ _ _); k_dflt (refine' lev_ok ?za ?zb ?zab ?zh ?zd ?zu ?zX ?zT ?_); (case za => assumption); (case zb => assumption); (case zab => assumption); (case zh => rfl); (case zd => ktr_room); (case zu => ktr_units); (case zX => exact Frag.In.keeps (by assumption) (Fr.keep (by assumption))); (case zT => exact Top.keeps (by assumption) (Fr.keep (by assumption))); intro t9w9 h9w9 tk9w9 st9w9 le9w9; (have Fqw9 := frUp (by assumption) st9w9); (have Nqw9 := newsUp (by assumption) st9w9); (rename levF _ _ _ = _ => hlvqw9); (rw [hlvqw9]); (try dsimp only))
  trivial
def zipP (_ : Nat) (ys : List Value) (nws : List (Addr × Obj)) (_ : Nat) : Prop := nws = [] ∧ ys = []
def takP (ms : List Str) (W0 : Str) (i : Nat) (ys : List Value) (nws : List (Addr × Obj)) (_ : Nat) : Prop := nws = [] ∧ ys = ((ms.take i).map (ellF W0)).map Value.bool
def betP (ms : List Str) (i k : Nat) (j : Nat) (ys : List Value) (nws : List (Addr × Obj)) (_ : Nat) : Prop := nws = [] ∧ ys = ((List.range j).map fun m => dueF ms i m + dueF ms m k == dueF ms i k).map Value.bool
theorem word_law_4 : True := by
  k_with "call type:zip" => refine Halt.mk ?_
  trivial
theorem boolsHit {ts : List Value} {l : List Bool} (e : ts = l.map Value.bool) : ∀ (k : Nat) (v : Value), ts[k]? = some v → ∃ x, v = Value.bool x ∧ l.drop k = x :: l.drop (k + 1) := by
  subst e
  intro k v h
  have hk := getLt h
  rw [List.length_map] at hk
  rw [List.getElem?_map, List.getElem?_eq_getElem hk] at h
  exact ⟨l[k], (Option.some.inj h).symm, List.drop_eq_getElem_cons hk⟩
theorem word_law_5 : True := by
  k_with "call ref" => ((with_reducible show wpAny _ _ (call (Value.ref 63) [_, Value.bool _]) _ _ _); k_dflt (refine' countB_ok ?zl ?zlen ?zh ?zn ?zd ?zu ?zX ?zT ?_); (case zl => exact isL (by assumption) (by k_extra "mine:mem")); (case zlen => assumption); (case zh => assumption); (case zn => assumption); (case zd => ktr_room); (case zu => ktr_units); (case zX => exact Frag.In.keeps (by assumption) (Fr.keep (by assumption))); (case zT => exact Top.keeps (by assumption) (Fr.keep (by assumption))); intro t9w9 h9w9 tk9w9 st9w9 le9w9; (have Fqw9 := frUp (by assumption) st9w9); (have Nqw9 := newsUp (by assumption) st9w9); (try dsimp only))
  trivial
def totV (ns : List Int) (j : Nat) : Int := (-1) ^ j * countR j ns
def turV (ns : List Int) (j : Nat) : Int := (-1) ^ (j + 1) * j * countR j ns
def totP (f : Nat → Int) (i : Nat) (ys : List Value) (nws : List (Addr × Obj)) (_ : Nat) : Prop := nws = [] ∧ IntsAre ys ((List.range i).map f)
theorem totP_snoc {f : Nat → Int} {i : Nat} {ys : List Value} {x : Int} {t : Tok} (h : IntsAre ys ((List.range i).map f)) (e : x = f i) : IntsAre (ys ++ [Value.int x t]) ((List.range (i + 1)).map f) := by
  subst e
  rw [List.range_succ, List.map_append]
  exact h.append (.cons _ _ .nil)
theorem sizHit {T0 : Nat} {zs : List Value} {ns : List Int} {tk : Nat} {b : Int} {t : Tok} (h : SizOk T0 zs ns tk) (le : tk ≤ t) :
    ∀ (k : Nat) (v : Value), zs[k]? = some v → ∃ x t', v = Value.int x t' ∧ ns.drop k = x :: ns.drop (k + 1) ∧ t' ≠ 0 ∧ (x ≠ b → t' ≠ t) := by
  intro k v hv
  obtain ⟨x, t', e, hx, h0, lt⟩ := h.2.2 k v hv
  obtain ⟨hk, e2⟩ := List.getElem?_eq_some_iff.mp hx
  exact ⟨x, t', e, by rw [← e2]; exact List.drop_eq_getElem_cons hk, h0, fun _ q => Nat.lt_irrefl _ (Nat.lt_of_lt_of_le (q ▸ lt) le)⟩
theorem small4 {i : Nat} (h : i < 4) : smallInt (i : Int) = true := by
  have : i = 0 ∨ i = 1 ∨ i = 2 ∨ i = 3 := by omega
  rcases this with rfl | rfl | rfl | rfl <;> decide
theorem tot_sum (ns : List Int) : ((List.range 4).map (totV ns)).sum = totalF ns := by
  simp [List.range_succ, totV, totalF]; omega
theorem tur_sum (ns : List Int) : ((List.range 4).map (turV ns)).sum = turnedF ns := by
  simp [List.range_succ, turV, turnedF]; omega
theorem word_law_6 : True := by
  k_with "call ref" => ((with_reducible show wpAny _ _ (call (Value.ref 63) [_, Value.int _ _]) _ _ _); k_dflt (refine' count_ok ?zl ?zlen ?zb ?zt ?zh ?zn ?zd ?zu ?zX ?zT ?_); (case zl => exact isL (by assumption) (by k_extra "mine:mem")); (case zlen => assumption); (case zb => assumption); (case zt => assumption); (case zh => assumption); (case zn => assumption); (case zd => ktr_room); (case zu => ktr_units); (case zX => exact Frag.In.keeps (by assumption) (Fr.keep (by assumption))); (case zT => exact Top.keeps (by assumption) (Fr.keep (by assumption))); intro t9w9 h9w9 tk9w9 st9w9 le9w9; (have Fqw9 := frUp (by assumption) st9w9); (have Nqw9 := newsUp (by assumption) st9w9); (try dsimp only))
  trivial
theorem mulA {i : Nat} (h : i < 4) (c : Int) : IntMulOk ((-1) ^ (i : Int).toNat) c := by
  have : i = 0 ∨ i = 1 ∨ i = 2 ∨ i = 3 := by omega
  rcases this with rfl | rfl | rfl | rfl <;> exact IntMulOk.of_left (by decide +kernel)
theorem mulB {i : Nat} (h : i < 4) (c : Int) : IntMulOk ((-1) ^ ((i : Int) + 1).toNat) c := by
  have : i = 0 ∨ i = 1 ∨ i = 2 ∨ i = 3 := by omega
  rcases this with rfl | rfl | rfl | rfl <;> exact IntMulOk.of_left (by decide +kernel)
theorem mulC {i : Nat} (h : i < 4) (c : Int) : IntMulOk ((-1) ^ ((i : Int) + 1).toNat * (i : Int)) c := by
  have : i = 0 ∨ i = 1 ∨ i = 2 ∨ i = 3 := by omega
  rcases this with rfl | rfl | rfl | rfl <;> exact IntMulOk.of_left (by decide +kernel)
theorem word_law_7 : True := by
  k_with "binaryOp Mult int int" => k_dflt (first | (refine mul_int ?_ (mulA (by assumption) _); (try dsimp only)) | (refine mul_int ?_ (mulC (by assumption) _); (try dsimp only)) | (refine mul_int ?_ (mulB (by assumption) _); (try dsimp only)))
  k_with "subscriptTail Name Constant ref int" => k_dflt ((refine' itemI (k := 0) ?z1 ?z2 ?z3 ?z4 ?z5 ?_ ?z7); (case z1 => assumption); (case z2 => k_extra "mine:mem"); (case z3 => assumption); (case z4 => assumption); (case z5 => assumption); (case z7 => with_unfolding_all rfl); (intro _); (try dsimp only))
  trivial
theorem oneIn_any (ms : List Str) (i k : Nat) : ([codF ms i, codF ms k].any fun x => x == Builtin.bitAnd (codF ms i) (codF ms k)) = oneIn ms i k := by
  simp only [List.any_cons, List.any_nil, Bool.or_false, oneIn]
  rw [Bool.eq_iff_iff]
  simp only [Bool.or_eq_true, beq_iff_eq]
  constructor
  · rintro (h | h)
    · exact .inl h.symm
    · exact .inr h.symm
  · rintro (h | h)
    · exact .inl h.symm
    · exact .inr h.symm
theorem addF_due {ms : List Str} {i k : Nat} (h : dueF ms i k ≠ 1) (h2 : oneIn ms i k = true) (h3 : countB (takenF ms i k) = 2 ^ (dueF ms i k).toNat) : addF ms i k = [dueF ms i k] := by rw [addF, if_neg h, if_pos h2, if_pos h3]
theorem addF_nodue {ms : List Str} {i k : Nat} (h : dueF ms i k ≠ 1) (h2 : oneIn ms i k = true) (h3 : countB (takenF ms i k) ≠ 2 ^ (dueF ms i k).toNat) : addF ms i k = [] := by rw [addF, if_neg h, if_pos h2, if_neg h3]
theorem dueF_nn (ms : List Str) (i k : Nat) : 0 ≤ dueF ms i k := Int.natCast_nonneg _
theorem dueF_le {ms : List Str} {i k : Nat} (h : (getS ms i).length ≤ 4) : dueF ms i k ≤ 4 := by
  have := unlK_le (getS ms i) (getS ms k) (getS ms i).length
  unfold dueF unlF
  omega
theorem addF_one {ms : List Str} {i k : Nat} (h : dueF ms i k = 1) : addF ms i k = [1] := if_pos h
theorem addF_no {ms : List Str} {i k : Nat} (h : dueF ms i k ≠ 1) (h2 : oneIn ms i k = false) : addF ms i k = [] := by rw [addF, if_neg h, if_neg (by rw [h2]; decide)]
theorem word_law_8 : True := by
  k_with "mine:hc" => k_extra "mine:mem"
  k_with "mine:hr" => (rename (∀ p ∈ _ ++ _, p ∈ _) => hwqw9; (try dsimp only); k_extra "mine:subs")
  k_with "mine:hz" => (
  (intro zw9 z2w9 z3w9);
  (simp only [List.contains_cons, List.contains_nil, Bool.or_false, Bool.or_eq_false_iff, beq_eq_false_iff_ne, ne_eq] at z3w9);
  (simp [kstB, z3w9]))
  trivial
set_option maxHeartbeats 20000000 in
theorem law_ok {w : World} {dp un : Nat} {fr : Option (List Env)} {gd : Option (List Code)} {s : Shared} {R : Result → Shared → Prop} {mean : ExcName → Option Value} {mg mb : Str → Option Value} {l : Addr} {vs : List Value} {ns : List Int}
   (hl : s.heap.IsList l vs.toArray) (hi : IntsAre vs ns) (hn : ns.length ≤ 63)
   (hd : dp + 16 < recursionLimit) (hu : un + 128 < cLine) (X : (tp.heap_39 w.params).In s.heap) (T : Top tp.view_39 (looseW tp.view_39 []) mean mg mb s.heap)
   (hQ : ∀ h' tk', s.heap.StaysIn h' → R (.ok (.ret (.bool true))) { s with heap := h', toks := tk' }) :
   codeAny (model PySem.Challenge.rw_sw0025_01.row.prog w) ⟨none, dp, fr, gd, un⟩ (.call (.ref 97) ⟨[.ref l], []⟩) R s := by
  revert X; k_fill; intro X
  refine' enterC (binds := [(Str.ofString "script", .ref l)]) ?k1 ?k2 ?k3 ?k4 ?k5 ?k6 ?k7 ?k9 ?k8 ?c2 ?c3 ?c4
  case k1 => assumption
  case k2 => exact Top.nolimit (by assumption)
  case k3 => k_is
  case k4 => k_is
  case k5 => ktr_room
  case k6 => exact rfl
  case k7 => intro n x hx; rw [List.mem_singleton.mp hx]; exact .inl rfl
  case k9 => decide
  case c2 => rfl
  case c3 => rfl
  case c4 => rfl
  intro LL h1 tk1 cells F1 N1 Y
  obtain ⟨o7, o6, o5, o4, o3, o2, o1, he, d7, d6, d5, d4, d3, d2, d1⟩ := PyProof.Rows.kc_seven Y
  subst he
  have e1 : o1.data = .cell none := d1
  have e2 : o2.data = .cell none := d2
  have e3 : o3.data = .cell none := d3
  have e4 : o4.data = .cell none := d4
  have e5 : o5.data = .cell none := d5
  have e6 : o6.data = .cell none := d6
  have e7 : o7.data = .cell none := d7
  have F2 : Fr s.heap LL h1 (fun y => if y = Str.ofString "script" then some (.ref l) else none) := F1
  clear d1 d2 d3 d4 d5 d6 d7 F1 Y
  try dsimp only
  try k_fold
  try dsimp only
  refine' cut1 (fun s' => ∃ D us cap ms oM h' tk', s' = { s with heap := h', toks := tk' } ∧ Fr s.heap LL h' (fun y => if y = Str.ofString "script" then some (.ref l) else none) ∧
    News s.heap LL h' [(D, listOf us.toArray cap), (LL + 1 + 1 + 1 + 1 + 1 + 1 + 1, o7), (LL + 1 + 1 + 1 + 1 + 1 + 1, o6), (LL + 1 + 1 + 1 + 1 + 1, o5), (LL + 1 + 1 + 1 + 1, o4), (LL + 1 + 1 + 1, o3), (LL + 1 + 1, o2), (LL + 1, oM)] ∧
    oM.data = .cell (some (.ref D)) ∧ StrsAre us ms ∧ ReachG 3 ms ∧ D ≠ LL + 1 + 1 + 1 + 1 + 1 + 1 + 1 ∧ D ≠ LL + 1 + 1 + 1 + 1 + 1 + 1 ∧ D ≠ LL + 1 + 1 + 1 + 1 + 1 ∧ D ≠ LL + 1 + 1 + 1 + 1 ∧ D ≠ LL + 1 + 1 + 1 ∧ D ≠ LL + 1 + 1 ∧ D ≠ LL + 1) ?cA ?cB
  case cA =>
    intro Qc hQc
    k_extra "mine:steps"
    unfold Halt
    refine grown_ok (F2.lst hl) hi hn ?_ ?_ (Frag.In.keeps X F2.keep) (Top.keeps T F2.keep) ?_
    · ktr_room
    · ktr_units
    intro D us cap ms h' tk' st le hg hnone hS hR
    have hfar := newsFar N1 hnone
    have f7 : D ≠ LL + 1 + 1 + 1 + 1 + 1 + 1 + 1 := far_of hfar (by k_extra "mine:mm")
    have f6 : D ≠ LL + 1 + 1 + 1 + 1 + 1 + 1 := far_of hfar (by k_extra "mine:mm")
    have f5 : D ≠ LL + 1 + 1 + 1 + 1 + 1 := far_of hfar (by k_extra "mine:mm")
    have f4 : D ≠ LL + 1 + 1 + 1 + 1 := far_of hfar (by k_extra "mine:mm")
    have f3 : D ≠ LL + 1 + 1 + 1 := far_of hfar (by k_extra "mine:mm")
    have f2 : D ≠ LL + 1 + 1 := far_of hfar (by k_extra "mine:mm")
    have f1 : D ≠ LL + 1 := far_of hfar (by k_extra "mine:mm")
    have F' := frUp F2 st
    have N' := newsAdd F2 N1 st hg hnone
    try dsimp only
    k_extra "mine:steps"
    exact hQc _ ⟨_, _, _, _, _, _, _, rfl, by assumption, by assumption, by assumption, hS, hR, f7, f6, f5, f4, f3, f2, f1⟩
  case cB =>
    rintro s' ⟨D, us, cap, ms, oM, h5, tk5, rfl, F5, N5, hoM, hS, hR, f7, f6, f5, f4, f3, f2, f1⟩
    have hsh := shape_of (reach_shape (Nat.le_refl 3) hR)
    have hgood := reach_good hR
    simp only [goodFam, Bool.and_eq_true, List.all_eq_true, List.mem_range, beq_iff_eq] at hgood
    obtain ⟨⟨hmid, hpair⟩, htot, htur⟩ := hgood
    have hlo := hsh.lo
    have hhi := hsh.hi
    clear N1 F2 e1 o1
    refine' cut3 (fun s' => ∃ Dc cs tm h' tk', s' = { s with heap := h', toks := tk' } ∧ Fr s.heap LL h' (fun y => if y = Str.ofString "many" then some (.int (ms.length : Int) tm) else if y = Str.ofString "codes" then some (.ref Dc) else if y = Str.ofString "script" then some (.ref l) else none) ∧ News s.heap LL h' [(Dc, LCg.lst cs), (D, listOf us.toArray cap), (LL + 1 + 1 + 1 + 1 + 1 + 1 + 1, o7), (LL + 1 + 1 + 1 + 1 + 1 + 1, o6), (LL + 1 + 1 + 1 + 1 + 1, o5), (LL + 1 + 1 + 1 + 1, o4), (LL + 1 + 1 + 1, o3), (LL + 1 + 1, o2), (LL + 1, oM)] ∧ IntsAre cs (ms.map codeF) ∧ ∀ p ∈ ([(D, listOf us.toArray cap), (LL + 1 + 1 + 1 + 1 + 1 + 1 + 1, o7), (LL + 1 + 1 + 1 + 1 + 1 + 1, o6), (LL + 1 + 1 + 1 + 1 + 1, o5), (LL + 1 + 1 + 1 + 1, o4), (LL + 1 + 1 + 1, o3), (LL + 1 + 1, o2), (LL + 1, oM)] : List (Addr × Obj)), Dc ≠ p.1) ?cA ?cB
    case cA =>
      intro Qc hQc
      k_extra "mine:steps"
      unfold Halt
      try dsimp only
      refine' src_list (codP ms) rfl (isL N5 (.head _)) ?sz ?hx ?hc ?hk F5 N5 ?hL ?mono ?h0 ?turn ?post
      case sz => rw [sizeLine_eq, List.size_toArray, StrsAre.len_eq hS]; omega
      case hx => rfl
      case hc => decide
      case hk => rfl
      case hL => exact (N5 _ (.head _)).2.1
      case mono => exact fun _ _ _ _ _ h _ => h
      case h0 => exact ⟨rfl, .nil⟩
      case turn =>
        rintro i v ys nws its' h7 tk7 C E1 oC m₂ E' le7 ⟨rfl, hks⟩ hv hm hoC F7 N7
        obtain ⟨wd, twd, rfl, hwd⟩ := hS.item i v (by simpa using hv)
        have wdm := List.mem_of_getElem? hwd
        have ww := hsh.word wd wdm
        have ww1 : wd.length ≤ 4 := by omega
        refine cturn0 ?_
        refine gen_Q fun QC hQC => ?_
        dsimp only at F7 N7 ⊢
        dsimp only [List.nil_append, List.cons_append] at N7
        k_extra "mine:steps"
        refine hQC _ _ (cend (by assumption) (by assumption) (by k_extra "mine:subs") fun _ => ⟨rfl, ?_⟩)
        rw [List.take_add_one, hwd, List.map_append]
        exact hks.append (.cons _ _ .nil)
      case post =>
        refine' post_A ?hLL ?hyy ?hpp ?dn2 ?mn
        case hLL => rfl
        case hyy => rfl
        case hpp => rfl
        case mn => exact fun _ _ _ _ _ h _ => h
        rintro Dc cs nws h6 tk6 le6 ⟨rfl, hcs⟩ F6 N6 hD6
        have hfar := newsFar N5 hD6
        try dsimp only at F6 N6
        try dsimp only
        simp only [List.append_nil] at N6
        rw [List.size_toArray, StrsAre.len_eq hS, List.take_length] at hcs
        have hcl : (ms.map codeF).length < 2 ^ 20 := by rw [List.length_map]; omega
        have hmid' : midF (ms.map codeF) = true := hmid
        k_extra "mine:steps"
        exact hQc _ ⟨_, _, _, _, _, rfl, by assumption, by assumption, hcs, hfar⟩
    case cB =>
      rintro s' ⟨Dc, cs, tm, h6, tk6, rfl, F7, N7, hcs, hfarC⟩
      have gD : Dc ≠ D := far_of hfarC (by k_extra "mine:mm")
      have g7 : Dc ≠ LL + 1 + 1 + 1 + 1 + 1 + 1 + 1 := far_of hfarC (by k_extra "mine:mm")
      have g6 : Dc ≠ LL + 1 + 1 + 1 + 1 + 1 + 1 := far_of hfarC (by k_extra "mine:mm")
      have g5 : Dc ≠ LL + 1 + 1 + 1 + 1 + 1 := far_of hfarC (by k_extra "mine:mm")
      have g4 : Dc ≠ LL + 1 + 1 + 1 + 1 := far_of hfarC (by k_extra "mine:mm")
      have g3 : Dc ≠ LL + 1 + 1 + 1 := far_of hfarC (by k_extra "mine:mm")
      have g2 : Dc ≠ LL + 1 + 1 := far_of hfarC (by k_extra "mine:mm")
      have g1 : Dc ≠ LL + 1 := far_of hfarC (by k_extra "mine:mm")
      clear F5 N5
      refine' cutT (fun s' => ∃ Dd ds nwsR oD h' tk', s' = { s with heap := h', toks := tk' } ∧ Fr s.heap LL h' (fun y => if y = Str.ofString "many" then some (.int (ms.length : Int) tm) else if y = Str.ofString "codes" then some (.ref Dc) else if y = Str.ofString "script" then some (.ref l) else none) ∧ News s.heap LL h' ((Dd, LCg.lst ds) :: (Dc, LCg.lst cs) :: (D, listOf us.toArray cap) :: (LL + 1 + 1 + 1 + 1 + 1 + 1 + 1, o7) :: (LL + 1 + 1 + 1 + 1 + 1 + 1, o6) :: (LL + 1 + 1 + 1 + 1 + 1, o5) :: (LL + 1 + 1 + 1 + 1, o4) :: (LL + 1 + 1 + 1, o3) :: (LL + 1 + 1, oD) :: (LL + 1, oM) :: nwsR) ∧ oD.data = .cell (some (.ref Dd)) ∧ duesP ms ms.length ds nwsR tk' ∧ (∀ p ∈ ([(Dc, LCg.lst cs), (D, listOf us.toArray cap), (LL + 1 + 1 + 1 + 1 + 1 + 1 + 1, o7), (LL + 1 + 1 + 1 + 1 + 1 + 1, o6), (LL + 1 + 1 + 1 + 1 + 1, o5), (LL + 1 + 1 + 1 + 1, o4), (LL + 1 + 1 + 1, o3), (LL + 1 + 1, o2), (LL + 1, oM)] : List (Addr × Obj)), Dd ≠ p.1) ∧ OwnOff nwsR [Dd, Dc, D, LL + 1 + 1 + 1 + 1 + 1 + 1 + 1, LL + 1 + 1 + 1 + 1 + 1 + 1, LL + 1 + 1 + 1 + 1 + 1, LL + 1 + 1 + 1 + 1, LL + 1 + 1 + 1, LL + 1 + 1, LL + 1]) ?cA ?cB
      case cA =>
        intro Qc hQc
        k_extra "mine:steps"
        unfold Halt
        try dsimp only
        refine' src_listC (duesP ms) rfl (isL N7 (.tail _ (.head _))) ?sz2 ?hx2 ?hk2 ?hcl2 ?hpc2 F7 N7 ?hL2 ?mono2 ?h02 ?turn2 ?post2
        case sz2 => rw [sizeLine_eq, List.size_toArray, StrsAre.len_eq hS]; omega
        case hx2 => intro _ _; rfl
        case hk2 => rfl
        case hcl2 => intro _; rfl
        case hpc2 => intro _; rfl
        case hL2 => exact (N7 _ (.tail _ (.head _))).2.1
        case mono2 => exact duesP_mono
        case h02 => exact ⟨rfl, fun j v h => by simp at h⟩
        case turn2 =>
          rintro i v ys nws its' h8 tk8 C E1 oC oc m₂ E' le8 hP hv hoC hoc F8 N8
          obtain ⟨wd, twd, rfl, hwd⟩ := hS.item i v (by simpa using hv)
          have wdm := List.mem_of_getElem? hwd
          have ww := hsh.word wd wdm
          have wl := ww.2.1
          have wa := ww.1
          have w0 : (getS ms 0).length ≤ 4 := by have := ww.2.2.2; omega
          refine cturn0 ?_
          refine gen_Q fun QC hQC => ?_
          try dsimp only at F8 N8
          try dsimp only
          dsimp only [List.nil_append, List.cons_append] at N8
          k_extra "mine:steps"
          unfold Halt
          try dsimp only
          refine' src_list (rowP ms i) rfl (isL N8 (.tail _ (.tail _ (.tail _ (.tail _ (.head _)))))) ?sz3 ?hx3 ?hc3 ?hk3 F8 N8 ?hL3 ?mono3 ?h03 ?turn3 ?post3
          case sz3 => rw [sizeLine_eq, List.size_toArray, StrsAre.len_eq hS]; omega
          case hx3 => rfl
          case hc3 => decide
          case hk3 => rfl
          case hL3 => exact (N8 _ (.tail _ (.tail _ (.tail _ (.tail _ (.head _)))))).2.1
          case mono3 => exact rowP_mono
          case h03 => exact ⟨rfl, rfl, fun j v h => by simp at h⟩
          case turn3 =>
            rintro m v2 ys2 nws2 its2 h9 tk9 C2 E2 oC2 m₃ E'' le9 hP2 hv2 hm2 hoC2 F9 N9
            obtain ⟨w2, tw2, rfl, hw2⟩ := hS.item m v2 (by simpa using hv2)
            have ww2 := hsh.word w2 (List.mem_of_getElem? hw2)
            have wl2 := ww2.2.1
            have wa2 := ww2.1
            obtain rfl := hP2.1
            refine cturn0 ?_
            refine gen_Q fun QC hQC => ?_
            try dsimp only at F9 N9
            try dsimp only
            dsimp only [List.nil_append, List.cons_append] at N9
            k_extra "mine:steps"
            refine hQC _ _ (cend (by assumption) (by assumption) (by k_extra "mine:subs") fun le => ?_)
            have e : unlF wd w2 = dueF ms i m := by unfold dueF; rw [getS_of hwd, getS_of hw2]
            rw [e]
            exact rowP_snoc hP2 le (by assumption) (by assumption)
          case post3 =>
            refine post_E2 ?_
            rintro D2 ys2 nws2 h9 tk9 le9 hP2 F9 N9 hD9 _
            obtain rfl := hP2.1
            rw [List.size_toArray, StrsAre.len_eq hS] at hP2
            try dsimp only at F9 N9
            try dsimp only
            refine hQC _ _ ⟨h9, tk9, _, [(D2, LCg.lst ys2)], rfl, F9, N9, fun p hp => List.mem_cons_of_mem _ (by simpa using hp), fun p hp => ?_, fun le => duesP_snoc hP le hP2⟩
            rw [List.mem_singleton.mp hp]
            exact ⟨.head _, hD9⟩
        case post2 =>
          refine post_E2 ?_
          rintro Dd ds nwsR h8 tk8 le8 hdu F8 N8 hD8 hoff
          have hfar2 := newsFar N7 hD8
          have dC : Dd ≠ Dc := far_of hfar2 (by k_extra "mine:mm")
          have dD : Dd ≠ D := far_of hfar2 (by k_extra "mine:mm")
          have d7 : Dd ≠ LL + 1 + 1 + 1 + 1 + 1 + 1 + 1 := far_of hfar2 (by k_extra "mine:mm")
          have d6 : Dd ≠ LL + 1 + 1 + 1 + 1 + 1 + 1 := far_of hfar2 (by k_extra "mine:mm")
          have d5 : Dd ≠ LL + 1 + 1 + 1 + 1 + 1 := far_of hfar2 (by k_extra "mine:mm")
          have d4 : Dd ≠ LL + 1 + 1 + 1 + 1 := far_of hfar2 (by k_extra "mine:mm")
          have d3 : Dd ≠ LL + 1 + 1 + 1 := far_of hfar2 (by k_extra "mine:mm")
          have d2 : Dd ≠ LL + 1 + 1 := far_of hfar2 (by k_extra "mine:mm")
          have d1 : Dd ≠ LL + 1 := far_of hfar2 (by k_extra "mine:mm")
          rw [List.size_toArray, StrsAre.len_eq hS] at hdu
          dsimp only [List.map] at hoff
          try dsimp only
          dsimp only [List.nil_append, List.cons_append] at N8
          refine wpAny_with_toks (n := tk8) (Nat.le_refl _) ?_
          k_extra "mine:steps"
          exact hQc _ le8 ⟨_, _, _, _, _, _, rfl, by assumption, by assumption, by assumption, hdu, hfar2, hoff⟩
      case cB =>
        rintro s' le7 ⟨Dd, ds, nwsR, oD, h8, tk8, rfl, F8, N8, hoD, hdu, hfarD, hoff⟩
        have dC : Dd ≠ Dc := far_of hfarD (by k_extra "mine:mm")
        have dD : Dd ≠ D := far_of hfarD (by k_extra "mine:mm")
        have d7 : Dd ≠ LL + 1 + 1 + 1 + 1 + 1 + 1 + 1 := far_of hfarD (by k_extra "mine:mm")
        have d6 : Dd ≠ LL + 1 + 1 + 1 + 1 + 1 + 1 := far_of hfarD (by k_extra "mine:mm")
        have d5 : Dd ≠ LL + 1 + 1 + 1 + 1 + 1 := far_of hfarD (by k_extra "mine:mm")
        have d4 : Dd ≠ LL + 1 + 1 + 1 + 1 := far_of hfarD (by k_extra "mine:mm")
        have d3 : Dd ≠ LL + 1 + 1 + 1 := far_of hfarD (by k_extra "mine:mm")
        have d2 : Dd ≠ LL + 1 + 1 := far_of hfarD (by k_extra "mine:mm")
        have d1 : Dd ≠ LL + 1 := far_of hfarD (by k_extra "mine:mm")
        clear F7 N7
        refine' cutT (fun s' => ∃ Ds ss oS h' tk', s' = { s with heap := h', toks := tk' } ∧ Fr s.heap LL h' (fun y => if y = Str.ofString "many" then some (.int (ms.length : Int) tm) else if y = Str.ofString "codes" then some (.ref Dc) else if y = Str.ofString "script" then some (.ref l) else none) ∧ News s.heap LL h' ((Ds, LCg.lst ss) :: (Dd, LCg.lst ds) :: (Dc, LCg.lst cs) :: (D, listOf us.toArray cap) :: (LL + 1 + 1 + 1 + 1 + 1 + 1 + 1, o7) :: (LL + 1 + 1 + 1 + 1 + 1 + 1, o6) :: (LL + 1 + 1 + 1 + 1 + 1, o5) :: (LL + 1 + 1 + 1 + 1, o4) :: (LL + 1 + 1 + 1, oS) :: (LL + 1 + 1, oD) :: (LL + 1, oM) :: nwsR) ∧ oS.data = .cell (some (.ref Ds)) ∧ sizP ms.length ss [] tk' ∧ (∀ p ∈ (((Dd, LCg.lst ds) :: (Dc, LCg.lst cs) :: (D, listOf us.toArray cap) :: (LL + 1 + 1 + 1 + 1 + 1 + 1 + 1, o7) :: (LL + 1 + 1 + 1 + 1 + 1 + 1, o6) :: (LL + 1 + 1 + 1 + 1 + 1, o5) :: (LL + 1 + 1 + 1 + 1, o4) :: (LL + 1 + 1 + 1, o3) :: (LL + 1 + 1, oD) :: (LL + 1, oM) :: nwsR) : List (Addr × Obj)), Ds ≠ p.1)) ?cA ?cB
        case cA =>
          intro Qc hQc
          k_extra "mine:steps"
          unfold Halt
          try dsimp only
          refine' src_list sizP rfl (isL N8 (.tail _ (.tail _ (.head _)))) ?sz4 ?hx4 ?hc4 ?hk4 F8 N8 ?hL4 ?mono4 ?h04 ?turn4 ?post4
          case sz4 => rw [sizeLine_eq, List.size_toArray, StrsAre.len_eq hS]; omega
          case hx4 => rfl
          case hc4 => decide
          case hk4 => rfl
          case hL4 => exact (N8 _ (.tail _ (.tail _ (.head _)))).2.1
          case mono4 => exact sizP_mono
          case h04 => exact ⟨rfl, duesP_pos hlo hdu, rfl, fun j v h => by simp at h⟩
          case turn4 =>
            rintro i v ys nws its' h9 tk9 C E1 oC m₂ E' le9 hP hv hm hoC F9 N9
            obtain rfl := hP.1
            refine cturn0 ?_
            refine gen_Q fun QC hQC => ?_
            try dsimp only at F9 N9
            try dsimp only
            dsimp only [List.nil_append, List.cons_append] at N9
            k_extra "mine:steps"
            refine hQC _ _ (cend (by assumption) (by assumption) (by k_extra "mine:subs") fun le => ?_)
            have q := hP.2.1
            exact sizP_snoc hP le (by show tk9 ≠ 0; omega) (Nat.lt_succ_self _)
          case post4 =>
            refine post_E2 ?_
            rintro Ds ss nws2 h9 tk9 le9 hP F9 N9 hD9 _
            obtain rfl := hP.1
            rw [List.size_toArray, StrsAre.len_eq hS] at hP
            have hfarS := newsFar N8 hD9
            have sD : Ds ≠ Dd := far_of hfarS (by k_extra "mine:mm")
            have sC : Ds ≠ Dc := far_of hfarS (by k_extra "mine:mm")
            have sM : Ds ≠ D := far_of hfarS (by k_extra "mine:mm")
            have s7 : Ds ≠ LL + 1 + 1 + 1 + 1 + 1 + 1 + 1 := far_of hfarS (by k_extra "mine:mm")
            have s6 : Ds ≠ LL + 1 + 1 + 1 + 1 + 1 + 1 := far_of hfarS (by k_extra "mine:mm")
            have s5 : Ds ≠ LL + 1 + 1 + 1 + 1 + 1 := far_of hfarS (by k_extra "mine:mm")
            have s4 : Ds ≠ LL + 1 + 1 + 1 + 1 := far_of hfarS (by k_extra "mine:mm")
            have s3 : Ds ≠ LL + 1 + 1 + 1 := far_of hfarS (by k_extra "mine:mm")
            have s2 : Ds ≠ LL + 1 + 1 := far_of hfarS (by k_extra "mine:mm")
            have s1 : Ds ≠ LL + 1 := far_of hfarS (by k_extra "mine:mm")
            have sR : ∀ p ∈ nwsR, Ds ≠ p.1 := far_sub hfarS (by k_extra "mine:sub")
            try dsimp only at F9 N9
            try dsimp only
            simp only [List.append_nil] at N9
            k_extra "mine:steps"
            exact hQc _ le9 ⟨_, _, _, _, _, rfl, by assumption, by assumption, by assumption, hP, hfarS⟩
        case cB =>
          rintro s' le8 ⟨Ds, ss, oS, h9, tk9, rfl, F9, N9, hoS, hss, hfarS⟩
          have sD : Ds ≠ Dd := far_of hfarS (by k_extra "mine:mm")
          have sC : Ds ≠ Dc := far_of hfarS (by k_extra "mine:mm")
          have sM : Ds ≠ D := far_of hfarS (by k_extra "mine:mm")
          have s7 : Ds ≠ LL + 1 + 1 + 1 + 1 + 1 + 1 + 1 := far_of hfarS (by k_extra "mine:mm")
          have s6 : Ds ≠ LL + 1 + 1 + 1 + 1 + 1 + 1 := far_of hfarS (by k_extra "mine:mm")
          have s5 : Ds ≠ LL + 1 + 1 + 1 + 1 + 1 := far_of hfarS (by k_extra "mine:mm")
          have s4 : Ds ≠ LL + 1 + 1 + 1 + 1 := far_of hfarS (by k_extra "mine:mm")
          have s3 : Ds ≠ LL + 1 + 1 + 1 := far_of hfarS (by k_extra "mine:mm")
          have s2 : Ds ≠ LL + 1 + 1 := far_of hfarS (by k_extra "mine:mm")
          have s1 : Ds ≠ LL + 1 := far_of hfarS (by k_extra "mine:mm")
          have sR : ∀ p ∈ nwsR, Ds ≠ p.1 := far_sub hfarS (by k_extra "mine:sub")
          have hso := sizOk_of (T0 := tk8) le8 hss
          clear F8 N8
          refine' cutT (fun s' => ∃ (zs : List Value) (cap2 : Nat) (q4 q5 q6 q7 : Obj) (u : Str → Option Value) (h' : Heap) (tk' : Nat), s' = { s with heap := h', toks := tk' } ∧ Fr s.heap LL h' (fun y => if [Str.ofString "road", Str.ofString "taken", Str.ofString "between"].contains y then u y else if y = Str.ofString "many" then some (.int (ms.length : Int) tm) else if y = Str.ofString "codes" then some (.ref Dc) else if y = Str.ofString "script" then some (.ref l) else none) ∧ News s.heap LL h' ((Ds, listOf zs.toArray cap2) :: (LL + 1 + 1 + 1 + 1, q4) :: (LL + 1 + 1 + 1 + 1 + 1, q5) :: (LL + 1 + 1 + 1 + 1 + 1 + 1, q6) :: (LL + 1 + 1 + 1 + 1 + 1 + 1 + 1, q7) :: (Dd, LCg.lst ds) :: (Dc, LCg.lst cs) :: (D, listOf us.toArray cap) :: (LL + 1 + 1 + 1, oS) :: (LL + 1 + 1, oD) :: (LL + 1, oM) :: nwsR) ∧ SizOk tk8 zs (outer ms ms.length) tk') ?cA ?cB
          case cA =>
            intro Qc hQc
            k_extra "mine:steps"
            unfold Halt
            try dsimp only
            rename IsRange _ _ _ _ _ _ _ _ => R10
            rename Fr _ _ _ _ => F10
            rename News _ _ _ _ => N10
            rw [show LCg.lst ss = listOf ss.toArray ss.length from rfl] at N10
            refine' for_cell (σ := LSt) (n := ms.length) (c := LL + 1 + 1 + 1 + 1) (o₀ := o4) (fun st => [(Ds, listOf st.zs.toArray st.cap), (LL + 1 + 1 + 1 + 1 + 1, st.p5), (LL + 1 + 1 + 1 + 1 + 1 + 1, st.p6), (LL + 1 + 1 + 1 + 1 + 1 + 1 + 1, st.p7), (Dd, LCg.lst ds), (Dc, LCg.lst cs), (D, listOf us.toArray cap), (LL + 1 + 1 + 1, oS), (LL + 1 + 1, oD), (LL + 1, oM)] ++ nwsR) (fun _ => []) [Str.ofString "road", Str.ofString "taken", Str.ofString "between"]
              (fun i st tk => SizOk tk8 st.zs (outer ms i) tk ∧ IsC st.p5 ∧ IsC st.p6 ∧ IsC st.p7) ⟨ss, ss.length, o5, o6, o7⟩ rfl R10 ?on ?ox ?ohk ?ocl F10 (newsSub N10 ?osub) e4 ?one ?ok ?om ?op ?oE ?oturn ?odone
            case on => omega
            case ox => rfl
            case ohk => rfl
            case ocl => rfl
            case osub => try dsimp only
                         k_extra "mine:subs"
            case one =>
              try dsimp only
              k_extra "mine:offs"
            case ok => exact fun p hp => nomatch hp
            case om => exact fun _ _ _ _ h le => ⟨h.1.mono le, h.2⟩
            case op => exact ⟨hso.mono (by assumption), ⟨_, e5⟩, ⟨_, e6⟩, ⟨_, e7⟩⟩
            case oE => passes_own
            case oturn =>
              rintro ⟨zs, cap2, p5, p6, p7⟩ i u oi ti h11 tk11 own hlt le11 ⟨hz, hp5, hp6, hp7⟩ hoi hoffo hneo F11 N11
              refine gen_Q fun QF hQoturn => ?_
              try dsimp only at hz hp5 hp6 hp7 hneo F11 N11
              change Fr s.heap LL h11 _ at F11
              change News s.heap LL h11 _ at N11
              dsimp only [List.nil_append, List.cons_append] at N11
              dsimp only [List.map] at hoffo
              k_extra "mine:steps"
              unfold Halt
              try dsimp only
              rename IsRange _ _ _ _ _ _ _ _ => R12
              rename Fr _ _ _ _ => F12
              rename News _ _ _ _ => N12
              obtain ⟨v5, e5'⟩ := hp5
              have hoffo' : ∀ p ∈ own, ∀ b ∈ [LL + 1 + 1 + 1 + 1, LL + 1 + 1 + 1 + 1 + 1, LL + 1 + 1 + 1 + 1 + 1 + 1, LL + 1 + 1 + 1 + 1 + 1 + 1 + 1, LL + 1 + 1 + 1, LL + 1 + 1, LL + 1, Ds, Dd, Dc, D], p.1 ≠ b := offs_sub hoffo (by (try dsimp only [List.cons_append, List.nil_append, List.map]); k_extra "mine:sub")
              refine' for_cell (σ := LSt) (n := i) (c := LL + 1 + 1 + 1 + 1 + 1) (o₀ := p5) (fun st => [(Ds, listOf st.zs.toArray st.cap), (LL + 1 + 1 + 1 + 1, oi), (LL + 1 + 1 + 1 + 1 + 1 + 1, st.p6), (LL + 1 + 1 + 1 + 1 + 1 + 1 + 1, st.p7), (Dd, LCg.lst ds), (Dc, LCg.lst cs), (D, listOf us.toArray cap), (LL + 1 + 1 + 1, oS), (LL + 1 + 1, oD), (LL + 1, oM)] ++ (nwsR ++ own)) (fun _ => []) [Str.ofString "road", Str.ofString "taken", Str.ofString "between"]
                (fun k st tk => SizOk tk8 st.zs (inner ms i k (outer ms i)) tk ∧ IsC st.p6 ∧ IsC st.p7) ⟨zs, cap2, p5, p6, p7⟩ rfl R12 ?xn ?xx ?xhk ?xcl F12 (newsSub N12 ?xsub) e5' ?xne ?xk ?xm ?xp ?xE ?xturn ?xdone
              case xn => omega
              case xx => rfl
              case xhk => rfl
              case xcl => rfl
              case xsub => try dsimp only
                           k_extra "mine:subs"
              case xne =>
                try dsimp only
                k_extra "mine:offs"
              case xk => exact fun p hp => nomatch hp
              case xm => exact fun _ _ _ _ h le => ⟨h.1.mono le, h.2⟩
              case xp => exact ⟨hz.mono (by assumption), hp6, hp7⟩
              case xE => passes_own
              case xturn =>
                rintro ⟨zs, cap2, _, p6, p7⟩ k u2 ok tk0 h13 tk13 own2 hlt2 le13 ⟨hz, ⟨v6, hp6⟩, ⟨v7, hp7⟩⟩ hok hoff2 hne2 F13 N13
                refine gen_Q fun QF hQxturn => ?_
                try dsimp only at hz hp6 hp7 hne2 F13 N13
                change Fr s.heap LL h13 _ at F13
                change News s.heap LL h13 _ at N13
                dsimp only [List.nil_append, List.cons_append] at N13
                have hoff2' : ∀ p ∈ own2, ∀ b ∈ [LL + 1 + 1 + 1 + 1, LL + 1 + 1 + 1 + 1 + 1, LL + 1 + 1 + 1 + 1 + 1 + 1, LL + 1 + 1 + 1 + 1 + 1 + 1 + 1, LL + 1 + 1 + 1, LL + 1 + 1, LL + 1, Ds, Dd, Dc, D], p.1 ≠ b := offs_sub hoff2 (by (try dsimp only [List.cons_append, List.nil_append, List.map]); k_extra "mine:sub")
                obtain ⟨W, hWR, hWo, hWo2, hWoff, N13⟩ : ∃ W : List (Addr × Obj), (∀ p ∈ nwsR, p ∈ W) ∧ (∀ p ∈ own, p ∈ W) ∧ (∀ p ∈ own2, p ∈ W) ∧ OwnOff W [LL + 1 + 1 + 1 + 1, LL + 1 + 1 + 1 + 1 + 1, LL + 1 + 1 + 1 + 1 + 1 + 1, LL + 1 + 1 + 1 + 1 + 1 + 1 + 1, LL + 1 + 1 + 1, LL + 1 + 1, LL + 1, Ds, Dd, Dc, D] ∧ News s.heap LL h13 ((LL + 1 + 1 + 1 + 1 + 1, ok) :: (Ds, listOf zs.toArray cap2) :: (LL + 1 + 1 + 1 + 1, oi) :: (LL + 1 + 1 + 1 + 1 + 1 + 1, p6) :: (LL + 1 + 1 + 1 + 1 + 1 + 1 + 1, p7) :: (Dd, LCg.lst ds) :: (Dc, LCg.lst cs) :: (D, listOf us.toArray cap) :: (LL + 1 + 1 + 1, oS) :: (LL + 1 + 1, oD) :: (LL + 1, oM) :: W) := by
                  refine ⟨nwsR ++ own ++ own2, sub_left (sub_left sub_refl), sub_left (sub_right sub_refl), sub_right sub_refl, offs_app (offs_app ?_ hoffo') hoff2', N13⟩
                  repeat (refine offs_cons ?_ ?_; (first | exact off_sym sR | exact off_of hoff (by k_extra "mine:mm")))
                  exact offs_nil
                have hkm : k < ms.length := Nat.lt_trans hlt2 hlt
                have hgp := hpair i hlt k hlt2
                simp only [goodPair, Bool.and_eq_true, beq_iff_eq] at hgp
                obtain ⟨hlev, hbet⟩ := hgp
                have wi := hsh.word _ (getS_mem hlt)
                have wk := hsh.word _ (getS_mem hkm)
                have wi4 : (getS ms i).length ≤ 4 := wi.2.2.2
                have wk4 : (getS ms k).length ≤ 4 := wk.2.2.2
                have wik : (getS ms i).length = (getS ms k).length := by rw [wi.2.1, wk.2.1]
                have hdu2 := hdu
                clear hne2 hneo hoff2 hoffo hfarS
                have hzl : zs.length ≤ 1000 := by
                  have q1 := hz.2.1
                  have q2 := inner_len ms i (outer ms i) k
                  have q3 := outer_len ms i (by omega)
                  omega
                have wi1 := wi.1
                have wi2 := wi.2.1
                have wk1 := wk.1
                have wk2 := wk.2.1
                have w0 : (getS ms 0).length ≤ 4 := wi2 ▸ wi4
                have gw := hsh.want _ (getS_mem hlt) _ (getS_mem hkm)
                have gw1 := goodWant_le gw
                have gw2 := goodWant_hw gw
                have s7' := Ne.symm s7; have s6' := Ne.symm s6; have s5' := Ne.symm s5; have s4' := Ne.symm s4; have s3' := Ne.symm s3; have s2' := Ne.symm s2; have s1' := Ne.symm s1; have sD' := Ne.symm sD; have sC' := Ne.symm sC; have sM' := Ne.symm sM
                have hWro : ∀ p ∈ nwsR ++ own, p ∈ W := fun p hp => (List.mem_append.mp hp).elim (hWR p) (hWo p)
                refine' cut3 (fun s' => ∃ (o6 : Obj) (tr td : Tok) (h' : Heap) (tk' : Nat), s' = { s with heap := h', toks := tk' } ∧ Fr s.heap LL h' (fun y => if y = Str.ofString "road" then some (.int (dueF ms i k) tr) else kstB (fun z => if [Str.ofString "road", Str.ofString "taken", Str.ofString "between"].contains z then u2 z else kstB (fun z => if [Str.ofString "road", Str.ofString "taken", Str.ofString "between"].contains z then u z else if z = Str.ofString "many" then some (.int (ms.length : Int) tm) else if z = Str.ofString "codes" then some (.ref Dc) else if z = Str.ofString "script" then some (.ref l) else none) [] z) [] y) ∧ News s.heap LL h' ((LL + 1 + 1 + 1 + 1 + 1, ok) :: (Ds, listOf zs.toArray cap2) :: (LL + 1 + 1 + 1 + 1, oi) :: (LL + 1 + 1 + 1 + 1 + 1 + 1, o6) :: (LL + 1 + 1 + 1 + 1 + 1 + 1 + 1, p7) :: (Dd, LCg.lst ds) :: (Dc, LCg.lst cs) :: (D, listOf us.toArray cap) :: (LL + 1 + 1 + 1, oS) :: (LL + 1 + 1, oD) :: (LL + 1, oM) :: W) ∧ o6.data = .cell (some (.int (dueF ms i k) td)) ∧ td ≠ 0 ∧ td < tk8 ∧ tk13 ≤ tk') ?cI ?cJ
                case cI =>
                  intro Qc hQc
                  refine wpAny_with_toks (n := tk13) (Nat.le_refl _) ?_
                  k_extra "mine:steps"
                  all_goals first
                    | exact absurd (by assumption : dueF ms i k ≠ dueF ms i k) (fun h => h rfl)
                    | exact hQc _ ⟨_, _, _, _, _, rfl, by assumption, by assumption, by assumption, by assumption, by assumption, by assumption⟩
                case cJ =>
                  rintro s' ⟨o6, tr, td, h14, tk14, rfl, F14, N14, ho6, htd0, htd1, le14⟩
                  k_extra "mine:steps"
                  · -- one letter apart
                    refine' hQxturn _ _ (fpost_next ⟨zs ++ [Value.int 1 (tk14 + 1)], cap2 + 1, p5, o6, p7⟩ (by assumption) (by assumption) ?qc hok ?qr ?qo ?qa (fun p hp => nomatch hp) ?qz fun le => ⟨?qh, ⟨_, ?q6⟩, ⟨_, ?q7⟩⟩)
                    case qc => k_extra "mine:mem"
                    case qr =>
                      try dsimp only
                      k_extra "mine:subs"
                    case qo => k_extra "mine:subs"
                    case qa => exact fun p hp => .inl (List.mem_map_of_mem (f := (·.1)) hp)
                    case qz => k_extra "mine:hz"
                    case q6 => exact ho6
                    case q7 => exact hp7
                    case qh => rw [inner, addF_one (by assumption)]; exact hz.snoc le (Nat.succ_ne_zero _) (Nat.lt_succ_self _)

                  · -- the want taken
                    unfold Halt
                    try dsimp only
                    rename Fr _ _ _ _ => F15
                    rename News _ _ _ _ => N15
                    obtain ⟨ow, tw, how, N15⟩ : ∃ (ow : Obj) (tw : Tok), ow.data = .cell (some (.str (wantF (getS ms i) (getS ms k)) tw)) ∧ News s.heap LL _ ((LL + 1 + 1 + 1 + 1 + 1, ok) :: (Ds, listOf zs.toArray cap2) :: (LL + 1 + 1 + 1 + 1, oi) :: (LL + 1 + 1 + 1 + 1 + 1 + 1, o6) :: (LL + 1 + 1 + 1 + 1 + 1 + 1 + 1, ow) :: (Dd, LCg.lst ds) :: (Dc, LCg.lst cs) :: (D, listOf us.toArray cap) :: (LL + 1 + 1 + 1, oS) :: (LL + 1 + 1, oD) :: (LL + 1, oM) :: W) := ⟨_, _, by assumption, newsSub N15 fun p hp => List.mem_cons_of_mem _ hp⟩
                    refine' src_list (takP ms (wantF (getS ms i) (getS ms k))) rfl (isL N15 (by k_extra "mine:mem")) ?gs ?gx ?gc ?gk F15 N15 ?gL ?gm ?g0 ?gturn ?gpost
                    case gs => rw [sizeLine_eq, List.size_toArray, StrsAre.len_eq hS]; omega
                    case gx => rfl
                    case gc => decide
                    case gk => rfl
                    case gL => exact (N15 (D, listOf us.toArray cap) (by k_extra "mine:mem")).2.1
                    case gm => exact fun _ _ _ _ _ h _ => h
                    case g0 => exact ⟨rfl, rfl⟩
                    case gturn =>
                      rintro j v ys nws its' h16 tk16 C E1 oC m₂ E' le16 ⟨rfl, hys⟩ hv hm hoC F16 N16
                      obtain ⟨wd, twd, rfl, hwd⟩ := hS.item j v (by simpa using hv)
                      have ww := hsh.word wd (List.mem_of_getElem? hwd)
                      have ww1 : wd.length ≤ 4 := ww.2.2.2
                      refine cturn0 ?_
                      refine gen_Q fun QC hQC => ?_
                      try dsimp only at F16 N16
                      try dsimp only
                      dsimp only [List.nil_append, List.cons_append] at N16
                      k_extra "mine:steps"
                      refine hQC _ _ (cend (by assumption) (by assumption) (by k_extra "mine:subs") fun _ => ⟨rfl, ?_⟩)
                      rw [List.take_add_one, hwd, hys]
                      simp
                    case gpost =>
                      refine' post_A ?gLL ?gy ?gp ?gd ?gmn
                      case gLL => rfl
                      case gy => rfl
                      case gp => rfl
                      case gmn => exact fun _ _ _ _ _ h _ => h
                      rintro Dt ts nws h16 tk16 le16 ⟨rfl, hts⟩ F16 N16 hD16
                      rw [List.size_toArray, StrsAre.len_eq hS, List.take_length] at hts
                      try dsimp only at F16 N16
                      try dsimp only
                      simp only [List.append_nil] at N16
                      k_extra "mine:steps"
                      unfold Halt
                      try dsimp only
                      rename IsRange _ _ _ _ _ _ _ _ => R17
                      rename Fr _ _ _ _ => F17
                      rename News _ _ _ _ => N17
                      refine' src_range (betP ms i k) rfl R17 ?hs ?hx ?hc ?hk F17 N17 ?hm ?h0 ?hturn ?hpost
                      case hs => omega
                      case hx => rfl
                      case hc => decide
                      case hk => rfl
                      case hm => exact fun _ _ _ _ _ h _ => h
                      case h0 => exact ⟨rfl, rfl⟩
                      case hturn =>
                        rintro j tj ys nws its' h18 tk18 C E1 oC m₂ E' hj le18 ht18 ⟨rfl, hys⟩ hm hoC F18 N18
                        refine cturn0 ?_
                        refine gen_Q fun QC hQC => ?_
                        try dsimp only at F18 N18
                        try dsimp only
                        dsimp only [List.nil_append, List.cons_append] at N18
                        k_extra "mine:steps"
                        refine hQC _ _ (cend (by assumption) (by assumption) (by k_extra "mine:subs") fun _ => ⟨rfl, ?_⟩)
                        rw [hys, List.range_succ, List.map_append, List.map_append]
                        rfl
                      case hpost =>
                        refine' post_A ?hLL ?hy ?hp ?hd ?hmn
                        case hLL => rfl
                        case hy => rfl
                        case hp => rfl
                        case hmn => exact fun _ _ _ _ _ h _ => h
                        rintro Db bs nws h18 tk18 le18 ⟨rfl, hbs⟩ F18 N18 hD18
                        try dsimp only at F18 N18
                        try dsimp only
                        simp only [List.append_nil] at N18
                        k_extra "mine:steps"
                        unfold Halt
                        try dsimp only
                        have hor : oneIn ms i k = true := (oneIn_any ms i k).symm.trans (by assumption)
                        have hd1 : dueF ms i k ≠ 1 := by assumption
                        have htb : takenF ms i k = betwF ms i k := by simpa [hor, hd1] using hbet
                        have hts' : ts = (takenF ms i k).map Value.bool := hts
                        have hbs' : bs = (takenF ms i k).map Value.bool := hbs.trans (htb ▸ rfl)
                        rename Fr _ _ _ _ => F19
                        rename News _ _ _ _ => N19
                        refine' src_zipL zipP rfl (isL N19 (by k_extra "mine:mem") : _) (isL N19 (by k_extra "mine:mem") : _) ?is ?i1 ?i2 ?ix ?iy ?ixy ?ic ?ik F19 N19 ?im ?i0 ?iturn ?ipost
                        case is =>
                          rw [hts', hbs', sizeLine_eq, List.size_toArray, Nat.min_self, List.length_map, takenF, List.length_map]; omega
                        case i1 => exact (N19 (Dt, LCg.lst ts) (by k_extra "mine:mem")).2.1
                        case i2 => exact (N19 (Db, LCg.lst bs) (by k_extra "mine:mem")).2.1
                        case ix => rfl
                        case iy => rfl
                        case ixy => decide
                        case ic => decide
                        case ik => rfl
                        case im => exact fun _ _ _ _ _ h _ => h
                        case i0 => exact ⟨rfl, rfl⟩
                        case iturn =>
                          rintro j a b ys nws its' h20 tk20 C E1 oC m₂ E' ha hb le20 ⟨rfl, rfl⟩ hma hmb hoC F20 N20
                          obtain ⟨c, rfl, rfl⟩ : ∃ c, a = Value.bool c ∧ b = Value.bool c := by
                            rw [hts'] at ha
                            rw [hbs'] at hb
                            have e : a = b := Option.some.inj (ha.symm.trans hb)
                            subst e
                            rw [List.getElem?_toArray, List.getElem?_map] at ha
                            obtain ⟨c, _, e⟩ := Option.map_eq_some_iff.mp ha
                            exact ⟨c, e.symm, e.symm⟩
                          refine cturn1q fun QC QD hQC hQD => ?_
                          try dsimp only at F20 N20
                          try dsimp only
                          dsimp only [List.nil_append, List.cons_append] at N20
                          k_extra "mine:steps"
                          all_goals first
                            | exact absurd (by assumption : (c != c) = true) (by simp)
                            | exact hQD _ (cend (by assumption) (by assumption) (by k_extra "mine:subs") fun _ => ⟨rfl, rfl⟩)
                        case ipost =>
                          refine post_E ?_
                          rintro De es nws h20 tk20 le20 ⟨rfl, rfl⟩ F20 N20 hD20
                          try dsimp only at F20 N20
                          try dsimp only
                          simp only [List.append_nil] at N20
                          have hbh := boolsHit hts'
                          have hbl : ts.length = (takenF ms i k).length := by rw [hts', List.length_map]
                          have hbn : (takenF ms i k).length < 2 ^ 20 := by rw [takenF, List.length_map]; omega
                          have hd0 := dueF_nn ms i k
                          have hd4 : dueF ms i k ≤ 4 := dueF_le wi4
                          have hDtDs : Dt ≠ Ds := newsFar N15 hD16 (Ds, listOf zs.toArray cap2) (by k_extra "mine:mem")
                          have hDbDs : Db ≠ Ds := newsFar N17 hD18 (Ds, listOf zs.toArray cap2) (by k_extra "mine:mem")
                          have hDeDs : De ≠ Ds := newsFar N19 hD20 (Ds, listOf zs.toArray cap2) (by k_extra "mine:mem")
                          k_extra "mine:steps"
                          · -- full
                            refine' hQxturn _ _ (fpost_next ⟨zs ++ [Value.int (dueF ms i k) td], cap2 + 1, p5, o6, ow⟩ (by assumption) (by assumption) ?qc hok ?qr ?qo ?qa (fun p hp => nomatch hp) ?qz fun le => ⟨?qh, ⟨_, ?q6⟩, ⟨_, ?q7⟩⟩)
                            case qc => k_extra "mine:mem"
                            case qr =>
                              try dsimp only
                              k_extra "mine:subs"
                            case qo => k_extra "mine:subs"
                            case qa => exact fun p hp => .inl (List.mem_map_of_mem (f := (·.1)) hp)
                            case qz => k_extra "mine:hz"
                            case q6 => exact ho6
                            case q7 => exact how
                            case qh => rw [inner, addF_due hd1 hor (by assumption)]; exact hz.snoc le htd0 (Nat.lt_of_lt_of_le htd1 (Nat.le_trans hz.1 le))

                          · -- not full
                            refine' hQxturn _ _ (fpost_next ⟨zs, cap2, p5, o6, ow⟩ (by assumption) (by assumption) ?qc hok ?qr ?qo ?qa (fun p hp => nomatch hp) ?qz fun le => ⟨?qh, ⟨_, ?q6⟩, ⟨_, ?q7⟩⟩)
                            case qc => k_extra "mine:mem"
                            case qr =>
                              try dsimp only
                              k_extra "mine:subs"
                            case qo => k_extra "mine:subs"
                            case qa => exact fun p hp => .inl (List.mem_map_of_mem (f := (·.1)) hp)
                            case qz => k_extra "mine:hz"
                            case q6 => exact ho6
                            case q7 => exact how
                            case qh => rw [inner, addF_nodue hd1 hor (by assumption), List.append_nil]; exact hz.mono le

                  · -- neither is the greater
                    have hno := (oneIn_any ms i k).symm.trans (by assumption)
                    refine' hQxturn _ _ (fpost_next ⟨zs, cap2, p5, o6, p7⟩ (by assumption) (by assumption) ?qc hok ?qr ?qo ?qa (fun p hp => nomatch hp) ?qz fun le => ⟨?qh, ⟨_, ?q6⟩, ⟨_, ?q7⟩⟩)
                    case qc => k_extra "mine:mem"
                    case qr =>
                      try dsimp only
                      k_extra "mine:subs"
                    case qo => k_extra "mine:subs"
                    case qa => exact fun p hp => .inl (List.mem_map_of_mem (f := (·.1)) hp)
                    case qz => k_extra "mine:hz"
                    case q6 => exact ho6
                    case q7 => exact hp7
                    case qh => rw [inner, addF_no (by assumption) hno, List.append_nil]; exact hz.mono le

              case xdone =>
                rintro ⟨zs, cap2, _, p6, p7⟩ u2 ok v h13 tk13 le13 ⟨hz, hp6, hp7⟩ hok F13 N13 _
                try dsimp only at hz F13 N13
                change Fr s.heap LL h13 _ at F13
                change News s.heap LL h13 _ at N13
                show wpAny _ _ (execs [] _) _ _ _
                refine wpAny_execs_nil ?_
                refine' hQoturn _ _ (fpost_next ⟨zs, cap2, ok, p6, p7⟩ F13 N13 ?yc hoi ?yr ?yo ?ya (fun p hp => nomatch hp) ?yz fun _ => ⟨hz, ⟨_, hok⟩, hp6, hp7⟩)
                case yc => ((try dsimp only [List.cons_append, List.nil_append]); k_extra "mine:mm")
                case yr => try dsimp only
                           k_extra "mine:subs"
                case yo => k_extra "mine:subs"
                case ya => exact fun p hp => .inl (List.mem_map_of_mem (f := (·.1)) hp)
                case yz =>
                  intro z z2 z3
                  simp only [List.contains_cons, List.contains_nil, Bool.or_false, Bool.or_eq_false_iff, beq_eq_false_iff_ne, ne_eq] at z3
                  simp [kstB, z3]
            case odone =>
              rintro ⟨zs, cap2, p5, p6, p7⟩ u oi v h11 tk11 le11 ⟨hz, _⟩ hoi F11 N11 _
              try dsimp only at hz F11 N11
              change Fr s.heap LL h11 _ at F11
              change News s.heap LL h11 _ at N11
              show wpAny _ _ (execs [] _) _ _ _
              refine wpAny_execs_nil ?_
              refine hQc _ (Nat.le_trans (by assumption) le11) ⟨zs, cap2, oi, p5, p6, p7, u, h11, tk11, rfl, F11, newsSub N11 ?_, hz⟩
              k_extra "mine:subs"
          case cB =>
            rintro s' le9 ⟨zs, cap2, q4, q5, q6, q7, u, h10, tk10, rfl, F10, N10, hso⟩
            have hzl : zs.length = (outer ms ms.length).length := hso.2.1
            have hzn : (outer ms ms.length).length < 2 ^ 20 := by have := outer_len ms ms.length hhi; omega
            refine' cutT (fun s' => ∃ (tt : Tok) (h' : Heap) (tk' : Nat), s' = { s with heap := h', toks := tk' } ∧ Fr s.heap LL h' (fun y => if y = Str.ofString "total" then some (.int 1 tt) else if [Str.ofString "road", Str.ofString "taken", Str.ofString "between"].contains y then u y else if y = Str.ofString "many" then some (.int (ms.length : Int) tm) else if y = Str.ofString "codes" then some (.ref Dc) else if y = Str.ofString "script" then some (.ref l) else none) ∧ News s.heap LL h' ((Ds, listOf zs.toArray cap2) :: (LL + 1 + 1 + 1 + 1, q4) :: (LL + 1 + 1 + 1 + 1 + 1, q5) :: (LL + 1 + 1 + 1 + 1 + 1 + 1, q6) :: (LL + 1 + 1 + 1 + 1 + 1 + 1 + 1, q7) :: (Dd, LCg.lst ds) :: (Dc, LCg.lst cs) :: (D, listOf us.toArray cap) :: (LL + 1 + 1 + 1, oS) :: (LL + 1 + 1, oD) :: (LL + 1, oM) :: nwsR)) ?cC ?cD
            case cC =>
              intro Qc hQc
              refine wpAny_with_toks (n := tk10) (Nat.le_refl _) ?_
              k_extra "mine:steps"
              unfold Halt
              try dsimp only
              rename IsRange _ _ _ _ _ _ _ _ => R11
              rename Fr _ _ _ _ => F11
              rename News _ _ _ _ => N11
              refine' src_range (totP (totV (outer ms ms.length))) (n := 4) rfl R11 ?as ?ax ?ac ?ak F11 N11 ?am ?a0 ?aturn ?apost
              case as => omega
              case ax => rfl
              case ac => decide
              case ak => rfl
              case am => exact fun _ _ _ _ _ h _ => h
              case a0 => exact ⟨rfl, .nil⟩
              case aturn =>
                rintro i t ys nws its' h12 tk12 C E1 oC m₂ E' hi le12 ht ⟨rfl, hys⟩ hm hoC F12 N12
                have hb := small4 hi
                have q3 : tk10 ≤ t := Nat.le_trans (Nat.le_trans (Nat.le_succ tk10) (by assumption)) ht
                have htb : t ≠ 0 := by
                  have q1 := hso.1
                  have q2 : 0 < tk8 := duesP_pos hlo hdu
                  exact Nat.ne_of_gt (Nat.lt_of_lt_of_le q2 (Nat.le_trans q1 q3))
                have hhit := sizHit (b := (i : Int)) (t := t) hso q3
                refine cturn0 ?_
                refine gen_Q fun QC hQC => ?_
                try dsimp only at F12 N12
                try dsimp only
                dsimp only [List.nil_append, List.cons_append] at N12
                k_extra "mine:steps"
                refine hQC _ _ (cend (by assumption) (by assumption) (by k_extra "mine:subs") fun _ => ⟨rfl, totP_snoc hys ?_⟩)
                rw [totV, Int.toNat_natCast]
              case apost =>
                refine post_E ?_
                rintro Da as nws h12 tk12 le12 ⟨rfl, has⟩ F12 N12 hD12
                try dsimp only at F12 N12
                try dsimp only
                simp only [List.append_nil] at N12
                k_extra "mine:steps"
                rename Fr _ _ _ _ => F13
                rw [tot_sum, htot] at F13
                exact hQc _ (by assumption) ⟨_, _, _, rfl, F13, newsSub (by assumption) fun p hp => List.mem_cons_of_mem _ hp⟩
            case cD =>
              rintro s' le10 ⟨tt, h11, tk11, rfl, F11, N11⟩
              have hso2 := hso.mono le10
              have h0m : 0 < ms.length := by omega
              have w04 : (getS ms 0).length ≤ 4 := (hsh.word _ (getS_mem h0m)).2.2.2
              k_extra "mine:steps"
              unfold Halt
              try dsimp only
              rename IsRange _ _ _ _ _ _ _ _ => R11
              rename Fr _ _ _ _ => F11
              rename News _ _ _ _ => N11
              refine' src_range (totP (turV (outer ms ms.length))) (n := 4) rfl R11 ?bs ?bx ?bc ?bk F11 N11 ?bm ?b0 ?bturn ?bpost
              case bs => omega
              case bx => rfl
              case bc => decide
              case bk => rfl
              case bm => exact fun _ _ _ _ _ h _ => h
              case b0 => exact ⟨rfl, .nil⟩
              case bturn =>
                rintro i t ys nws its' h12 tk12 C E1 oC m₂ E' hi le12 ht ⟨rfl, hys⟩ hm hoC F12 N12
                have hb := small4 hi
                have q3 : tk11 ≤ t := Nat.le_trans (Nat.le_trans (Nat.le_succ tk11) (by assumption)) ht
                have htb : t ≠ 0 := by
                  have q1 := hso2.1
                  have q2 : 0 < tk8 := duesP_pos hlo hdu
                  exact Nat.ne_of_gt (Nat.lt_of_lt_of_le q2 (Nat.le_trans q1 q3))
                have hhit := sizHit (b := (i : Int)) (t := t) hso2 q3
                refine cturn0 ?_
                refine gen_Q fun QC hQC => ?_
                try dsimp only at F12 N12
                try dsimp only
                dsimp only [List.nil_append, List.cons_append] at N12
                k_extra "mine:steps"
                refine hQC _ _ (cend (by assumption) (by assumption) (by k_extra "mine:subs") fun _ => ⟨rfl, totP_snoc hys ?_⟩)
                rw [turV]; rfl
              case bpost =>
                refine post_E ?_
                rintro Da as nws h12 tk12 le12 ⟨rfl, has⟩ F12 N12 hD12
                try dsimp only at F12 N12
                try dsimp only
                simp only [List.append_nil] at N12
                k_extra "mine:steps"
                have e9 : ((List.map (turV (outer ms ms.length)) (List.range 4)).sum == ((getS ms 0).length : Int)) = true := by rw [tur_sum, htur]; exact beq_self_eq_true _
                rw [e9]
                exact hQ _ _ (Fr.keep (by assumption))

end
end Mine
set_option maxHeartbeats 8000000 in
theorem PySem.Challenge.cw_sw0025_01_holds : PySem.Challenge.rw_sw0025_01.Holds := by
  refine Mine.tp ?_
  k_fill
  intro w s₀ s₁ mg mb G Y fa o pm cd doc dV kV ho hd hcd hD hmg hg args vals as hpre hlay hrd hwl hlo
  have KX := kIn_of Y
  refine Ground.open G ?_
  intro T B D TE TW
  have e97 := (mg_of KX T.g (n := Str.ofString "law") (v := .ref 97) (by kernel_rfl)).symm.trans hmg
  obtain rfl : fa = 97 := by cases e97; rfl
  clear hd hcd hmg e97 B D TE TW hD
  wrow_args hpre hlay hrd hwl hlo
  rename IntsAre _ _ => hi
  rename Heap.IsList _ _ _ => hl
  rename ¬ _ => hn
  refine wpAny_call ?_
  refine Mine.law_ok hl hi (by omega) (by decide) (by decide) KX T ?_
  intro h' tk' st
  exact ⟨.inl ⟨_, _, [], rfl, fun _ => rfl, ReadsW.bool true, by first | rfl | wrow_post, fun _ => ⟨List.nodup_nil, fun _ hm => (nomatch hm)⟩⟩, .of_keep st, rfl, .of_eq hg⟩
