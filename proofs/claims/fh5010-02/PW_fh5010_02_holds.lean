import PyProof.Rows.All
import Wide.All
import OpenK.AllK
import Wide.FinOn
import Lean
import PySem.Challenge.RW_fh5010_02

set_option Elab.async false
set_option maxRecDepth 100000
set_option linter.all false

section
open PySem PySem.W PyProof.Rows PySem.Calls PySem.Spec
set_option maxRecDepth 100000
namespace Mine

/-- a value but for its token -/
inductive VT where
  | int (i : Int)
  | str (x : Str)
  | bytes (b : Array UInt8)
  | val (v : Value)
def VT.at : VT → Tok → Value
  | .int i, t => .int i t
  | .str x, t => .str x t
  | .bytes b, t => .bytes b t
  | .val v, _ => v

/-- a map with some names laid over it -/
def ov (u : Str → Option Value) (t : Nat → Tok) : Nat → List (Str × VT) → Str → Option Value
  | _, [] => u
  | i, (x, v) :: r => fun y => if y = x then some (v.at (t i)) else ov u t (i + 1) r y
def Reads (m : Str → Option Value) : List (Str × VT) → Prop
  | [] => True
  | (x, v) :: r => (∃ t, m x = some (v.at t)) ∧ Reads m r
def tcons (a : Tok) (t : Nat → Tok) : Nat → Tok
  | 0 => a
  | n + 1 => t n
theorem ov_shift {u : Str → Option Value} {a : Tok} {t : Nat → Tok} : ∀ {ps : List (Str × VT)} {i : Nat}, ov u (tcons a t) (i + 1) ps = ov u t i ps
  | [], _ => rfl
  | (x, v) :: r, i => by
    funext y
    show (if y = x then some (v.at (t i)) else ov u (tcons a t) (i + 1 + 1) r y) = if y = x then some (v.at (t i)) else ov u t (i + 1) r y
    rw [ov_shift]
theorem Reads.ov {m : Str → Option Value} : ∀ {ps : List (Str × VT)}, Reads m ps → ∃ t, ov m t 0 ps = m
  | [], _ => ⟨fun _ => 0, rfl⟩
  | (x, v) :: r, ⟨⟨a, ha⟩, hr⟩ => by
    obtain ⟨t, ht⟩ := hr.ov
    refine ⟨tcons a t, ?_⟩
    funext y
    show (if y = x then some (v.at a) else Mine.ov m (tcons a t) (0 + 1) r y) = m y
    by_cases e : y = x
    · rw [if_pos e, e]; exact ha.symm
    · rw [if_neg e, ov_shift, ht]
theorem Fr.ov {h₀ h : Heap} {L : Addr} {m : Str → Option Value} {ps : List (Str × VT)} (F : Fr h₀ L h m) (r : Reads m ps) : ∃ t, Fr h₀ L h (ov m t 0 ps) := by
  obtain ⟨t, e⟩ := r.ov
  exact ⟨t, by rw [e]; exact F⟩

/-- what stands at the end of a block: the ledger, the names -/
def Turn {σ : Type} (h₀ : Heap) (L : Addr) (s : Shared) (led : σ → List (Addr × Obj)) (ps : σ → List (Str × VT)) (P : σ → Prop) (s₃ : Shared) : Prop :=
  ∃ c h' tk m' news', s₃ = { s with heap := h', toks := tk } ∧ Fr h₀ L h' m' ∧ News h₀ L h' news' ∧ (∀ p ∈ led c, p ∈ news') ∧ Reads m' (ps c) ∧ P c
theorem Turn.intro {σ : Type} {h₀ : Heap} {L : Addr} {s : Shared} {led : σ → List (Addr × Obj)} {ps : σ → List (Str × VT)} {P : σ → Prop} {h' : Heap} {news' : List (Addr × Obj)} {m' : Str → Option Value} {tk : Nat} (c : σ)
    (F : Fr h₀ L h' m') (N : News h₀ L h' news') (hl : ∀ p ∈ led c, p ∈ news') (hr : Reads m' (ps c)) (hP : P c) : Turn h₀ L s led ps P { s with heap := h', toks := tk } := ⟨c, h', tk, m', news', rfl, F, N, hl, hr, hP⟩

section
variable {prog : Program} {w : World} {A : Around} {E : Value → Shared → Prop} {s : Shared} {env : Env} {h₀ : Heap} {L : Addr}

/-- cut behind a statement that ends plainly -/
theorem cut_exec {st : Stmt} {Q : Flow → Shared → Prop} {σ : Type} (led : σ → List (Addr × Obj)) (ps : σ → List (Str × VT)) (P : σ → Prop)
    (h : wpAny (model prog w) A (exec st env) (fun f s' => f = .next ∧ Turn h₀ L s led ps P s') E s)
    (k : ∀ c h' tk u t, P c → Fr h₀ L h' (ov u t 0 (ps c)) → News h₀ L h' (led c) → Q .next { s with heap := h', toks := tk }) :
    wpAny (model prog w) A (exec st env) Q E s := by
  refine wpAny_mono h (fun f s' hq => ?_) fun _ _ e => e
  obtain ⟨rfl, c, h', tk, m', news', rfl, F, N, hl, hr, hP⟩ := hq
  obtain ⟨t, F⟩ := Fr.ov F hr
  exact k c h' tk m' t hP F fun p hp => N p (hl p hp)

/-- a while, by what it keeps and what falls -/
theorem while_ov {σ : Type} {test : Expr} {body : List Stmt} {pos : Pos} {Q : Flow → Shared → Prop} {m : Str → Option Value} {news : List (Addr × Obj)}
    (led : σ → List (Addr × Obj)) (ps : σ → List (Str × VT)) (P : σ → Prop) (μ : σ → Nat) (c₀ : σ)
    (F : Fr h₀ L s.heap m) (N : News h₀ L s.heap news) (hl : ∀ p ∈ led c₀, p ∈ news) (hr : Reads m (ps c₀)) (hP : P c₀)
    (turn : ∀ c u t h₁ tk₁, P c → Fr h₀ L h₁ (ov u t 0 (ps c)) → News h₀ L h₁ (led c) →
      wpAny (model prog w) A (isTrue test env (eval test env)) (fun b s₂ =>
        if b = true then wpAny (model prog w) A (execs body env) (fun f s₃ => match f with
          | .next | .cont => Turn h₀ L s led ps (fun c' => P c' ∧ μ c' < μ c) s₃
          | .brk => Q .next s₃
          | .ret v => Q (.ret v) s₃) E s₂ else Q .next s₂) E { s with heap := h₁, toks := tk₁ })
    (hE : PassesOwn (model prog w) A env E := by passes_own) :
    wpAny (model prog w) A (exec (.While test body [] pos) env) Q E s := by
  refine While_inv2 (fun n m₁ news₁ => ∃ c, P c ∧ μ c = n ∧ Reads m₁ (ps c) ∧ news₁ = led c) F (fun p hp => N p (hl p hp)) ⟨c₀, hP, rfl, hr, rfl⟩ ?_ hE
  rintro n m₁ news₁ h₁ tk₁ F₁ N₁ ⟨c, hPc, rfl, hrc, rfl⟩
  obtain ⟨t, F₁⟩ := Fr.ov F₁ hrc
  refine wpAny_mono (turn c m₁ t h₁ tk₁ hPc F₁ N₁) (fun b s₂ hb => ?_) fun _ _ e => e
  cases b with
  | false => exact hb
  | true =>
    simp only [if_true] at hb ⊢
    refine wpAny_mono hb (fun f s₃ hf => ?_) fun _ _ e => e
    have go : Turn h₀ L s led ps (fun c' => P c' ∧ μ c' < μ c) s₃ → ∃ h' tk m₂ news₂ n', s₃ = { s with heap := h', toks := tk } ∧ Fr h₀ L h' m₂ ∧ News h₀ L h' news₂ ∧ n' < μ c ∧ ∃ c, P c ∧ μ c = n' ∧ Reads m₂ (ps c) ∧ news₂ = led c := by
      rintro ⟨c', h', tk, m', news', rfl, F', N', hl', hr', hP', hμ⟩
      exact ⟨h', tk, m', led c', μ c', rfl, F', fun p hp => N' p (hl' p hp), hμ, c', hP', rfl, hr', rfl⟩
    cases f with
    | next => exact go hf
    | cont => exact go hf
    | brk => exact hf
    | ret v => exact hf
end

def bmap : List (Str × Value) → Str → Option Value
  | [] => fun _ => none
  | (x, v) :: r => fun y => if y = x then some v else bmap r y
theorem bmap_lookup : ∀ (l : List (Str × Value)) (y : Str), l.lookup y = bmap l y
  | [], _ => rfl
  | (x, v) :: r, y => by
    rw [List.lookup_cons]
    show _ = if y = x then some v else bmap r y
    rw [← bmap_lookup r y]
    by_cases e : y = x
    · subst e; simp
    · rw [if_neg e]; have : (y == x) = false := by simpa using e
      rw [this]
theorem bmap_none {y : Str} : ∀ {l : List (Str × Value)}, y ∉ l.map (·.1) → bmap l y = none
  | [], _ => rfl
  | (x, v) :: r, h => by
    show (if y = x then some v else bmap r y) = none
    rw [if_neg fun e => h (by rw [e]; exact List.mem_cons_self ..)]
    exact bmap_none fun q => h (List.mem_cons_of_mem _ q)
theorem bmap_append : ∀ (l : List (Str × Value)) (r : List (Str × Value)) (y : Str), bmap (l ++ r) y = (bmap l y).or (bmap r y)
  | [], _, _ => by simp [bmap]
  | (x, v) :: l, r, y => by
    show (if y = x then some v else bmap (l ++ r) y) = (if y = x then some v else bmap l y).or (bmap r y)
    by_cases e : y = x
    · rw [if_pos e, if_pos e]; rfl
    · rw [if_neg e, if_neg e, bmap_append]
theorem bmap_reverse : ∀ (l : List (Str × Value)), (l.map (·.1)).Nodup → ∀ y, bmap l.reverse y = bmap l y
  | [], _, _ => rfl
  | (x, v) :: r, h, y => by
    rw [List.map_cons, List.nodup_cons] at h
    rw [List.reverse_cons, bmap_append, bmap_reverse r h.2]
    show (bmap r y).or (if y = x then some v else none) = if y = x then some v else bmap r y
    by_cases e : y = x
    · rw [if_pos e, if_pos e, e, bmap_none h.1]; rfl
    · rw [if_neg e, if_neg e]; cases bmap r y <;> rfl

theorem nodup_of {l : List (Str × Value)} (h : decide ((l.map (·.1)).Nodup) = true) : (l.map (·.1)).Nodup := of_decide_eq_true h
/-- enter a def: all that stands is kept -/
theorem call_B {prog : Program} {w : World} {A₀ A : Around} {s : Shared} {base h₀ : Heap} {env : Env} {outer : List Env} {L : Addr} {m : Str → Option Value} {K : Frag}
    {p : Program} {loose : List Str} {mean : ExcName → Option Value} {mg mb : Str → Option Value}
    {R : Result → Shared → Prop} {name qual : Str} {params : Arguments} {body : List Stmt} {scope : Scope} {dV kV doc pm cdv ct oc : Value} {an od : Option Addr} {osl : Array (Option Value)} {f : Addr} {args : Args} (binds : List (Str × Value))
    (B : Below A₀ base outer h₀) (F : Fr h₀ L s.heap m) (X₀ : K.In h₀) (T : Top p loose mean mg mb h₀) (hA : A.frames = some (env :: outer)) (hf : env.frame = some L) (hke : env.scope.kind = .function)
    (ho : K.lookup f = some ⟨oc, od, .func (fnOf name qual params body scope dV kV doc pm an cdv ct), osl⟩) (hcd : codeIn K cdv qual = true) (hroom : A.depth < recursionLimit)
    (hbind : BindsTo s (fnOf name qual params body scope dV kV doc pm an cdv ct) args binds) (hloc : ∀ y ∈ binds, scope.names.lookup y.1 = some .local) (hnd : (binds.map (·.1)).Nodup)
    (h : ∀ L' h₁ tk, Fr s.heap L' h₁ (bmap binds) → News s.heap L' h₁ [] → Below A base (env :: outer) s.heap → K.In s.heap → Top p loose mean mg mb s.heap →
      wpAny (model prog w) (A.deeper (envOf qual scope L' f cdv)) (execs body (envOf qual scope L' f cdv))
        (fun fl s' => R (.ok (.ret (match fl with | .ret v => v | _ => .none))) s')
        (fun e s' => wpAny (model prog w) (A.deeper (envOf qual scope L' f cdv)) (leaving (envOf qual scope L' f cdv) e) (fun _ s'' => R (.error e) s'') (fun e' s'' => R (.error e') s'') s')
        { s with heap := h₁, toks := tk })
    (hco : scope.isCoroutine = false := by rfl) (hgen : scope.isGenerator = false := by rfl) (hk : scope.kind = .function := by rfl)
    (hcell : ∀ x ∈ scope.names, x.2 ≠ .cell := by decide) : codeAny (model prog w) A (.call (.ref f) args) R s := by
  have X : K.In s.heap := X₀.keeps F.keep
  have T' : Top p loose mean mg mb s.heap := T.keeps F.keep
  refine codeAny_call_def (fd := fnOf name qual params body scope dV kV doc pm an cdv ct) (body := body) (binds := binds) hroom (X _ _ ho) rfl T'.nolimit (codeRec_of X hcd) rfl hbind hcell hloc (fun h₁ hns hk₁ => ?_) hco hgen hk
  have e : (fun y => binds.reverse.lookup y) = bmap binds := by funext y; rw [bmap_lookup, bmap_reverse _ hnd]
  rw [e] at hns
  have hnew : base.get? L = none := by
    cases hq : base.get? L with
    | none => rfl
    | some o => exact absurd (Nat.lt_of_lt_of_le (Heap.lt_size (B.stays L o hq)) F.above) (Nat.lt_irrefl _)
  have B' : Below A base (env :: outer) s.heap :=
    ⟨hA, fun b o e => F.keep b o (B.stays b o e), .cons (by rw [hke]; decide) hf F.ns hnew (B.frames.of_keeps fun b o e _ => ⟨o, F.keep b o e, rfl⟩)⟩
  exact h _ h₁ _ ⟨hns, hk₁, Nat.le_refl _⟩ News.nil B' X T'

theorem Fr.stays {h₀ h h' : Heap} {L : Addr} {m : Str → Option Value} (F : Fr h₀ L h m) (k : h.StaysIn h') : Fr h₀ L h' m := ⟨F.ns.keeps k, fun b o e => k b o (F.keep b o e), F.above⟩
theorem News.stays {h₀ h h' : Heap} {L : Addr} {news : List (Addr × Obj)} (N : News h₀ L h news) (k : h.StaysIn h') : News h₀ L h' news := fun p hp => ⟨k _ _ (N p hp).1, (N p hp).2⟩

section
variable {prog : Program} {w : World} {A : Around} {E : Value → Shared → Prop} {s : Shared} {env : Env} {h₀ : Heap} {x : Str} {body : List Stmt} {Q : Flow → Shared → Prop}

def Step {σ : Type} (h₀ : Heap) (L : Addr) (s : Shared) (led : σ → List (Addr × Obj)) (ps : σ → List (Str × VT)) (P : σ → Prop) (Q : Flow → Shared → Prop) (f : Flow) (s₃ : Shared) : Prop :=
  match f with
  | .next | .cont => Turn h₀ L s led ps P s₃
  | .brk => Q .next s₃
  | .ret v => Q (.ret v) s₃

theorem loop_ov {σ : Type} {I : Addr} {fp wr : List Addr} {n : Nat} {PV : Nat → Value → Prop} {St : Nat → Heap → Prop} {m : Str → Option Value} {news : List (Addr × Obj)}
    (led : σ → List (Addr × Obj)) (ps : σ → List (Str × VT)) (P : Nat → σ → Prop) (c₀ : σ) (W : Walks prog w A I fp wr n PV St)
    (hLf : env.locals ∉ fp) (hwr : ∀ b ∈ wr, h₀.get? b = none) (hnw : ∀ c, ∀ p ∈ led c, p.1 ∉ wr) (hst : St 0 s.heap) (F : Fr h₀ env.locals s.heap m) (N : News h₀ env.locals s.heap news)
    (hl : ∀ p ∈ led c₀, p ∈ news) (hr : Reads m (ps c₀)) (hP : P 0 c₀)
    (turn : ∀ i v c u t h tk own, i < n → PV i v → P i c → Fr h₀ env.locals h (fun y => if y = x then some v else ov u t 0 (ps c) y) → News h₀ env.locals h (led c ++ own) →
      wpAny (model prog w) A (execs body env) (Step h₀ env.locals { s with heap := h, toks := tk } (fun c => led c ++ own) ps (P (i + 1)) Q) E { s with heap := h, toks := tk })
    (done : ∀ c u t h tk, P n c → Fr h₀ env.locals h (ov u t 0 (ps c)) → News h₀ env.locals h (led c) → Q .next { s with heap := h, toks := tk }) :
    LoopAtV prog w A h₀ env x body Q E (.ref I) s := by
  refine ⟨I, fp, wr, n, PV, St, m, led c₀, fun i m₁ news₁ => ∃ c, P i c ∧ Reads m₁ (ps c) ∧ news₁ = led c, rfl, W, hLf, hwr, hnw c₀, hst, F, fun p hp => N p (hl p hp), ⟨c₀, hP, hr, rfl⟩, ?_, ?_⟩
  · rintro i v m₁ news₁ s₁ own ⟨h, tk, rfl⟩ hi hv ⟨c, hPc, hrc, rfl⟩ _ _ _ _ _ F₁ N₁
    obtain ⟨t, et⟩ := Reads.ov hrc
    rw [← et] at F₁
    have N₂ : News h₀ env.locals h (led c ++ own) := fun p hp => N₁ p ((List.mem_append.mp hp).elim (fun h => List.mem_append.mpr (.inr h)) fun h => List.mem_append.mpr (.inl h))
    refine wpAny_mono (turn i v c m₁ t h tk own hi hv hPc F₁ N₂) (fun f s₃ hf => ?_) fun _ _ e => e
    have go : Turn h₀ env.locals { s with heap := h, toks := tk } (fun c => led c ++ own) ps (P (i + 1)) s₃ → LoopStepU h₀ env.locals wr own (fun m₁ news₁ => ∃ c, P (i + 1) c ∧ Reads m₁ (ps c) ∧ news₁ = led c) { s with heap := h, toks := tk } .next s₃ := by
      rintro ⟨c', h', tk', m', news', rfl, F', N', hl', hr', hP'⟩
      refine LoopStepU.intro (news₂ := led c') F' (fun p hp => N' p (hl' p ((List.mem_append.mp hp).elim (fun h => List.mem_append.mpr (.inr h)) fun h => List.mem_append.mpr (.inl h)))) (hnw c') ⟨c', hP', hr', rfl⟩
    cases f with
    | next => exact .next (go hf)
    | cont => exact .cont (go hf)
    | brk => exact .brk hf
    | ret v => exact .ret hf
  · rintro h' tk m' news' F' N' _ ⟨c, hPc, hrc, rfl⟩
    obtain ⟨t, et⟩ := Reads.ov hrc
    rw [← et] at F'
    exact done c m' t h' tk hPc F' N'

theorem Fr.lt {h₀ h : Heap} {L : Addr} {m : Str → Option Value} (F : Fr h₀ L h m) : L < h.objs.size := F.ns.lt
theorem News.lt {h₀ h : Heap} {L : Addr} {news : List (Addr × Obj)} (N : News h₀ L h news) {p : Addr × Obj} (hp : p ∈ news) : p.1 < h.objs.size := Heap.lt_size (N p hp).1

/-- a for over a list that stood at the frame's start -/
theorem iter_ov {σ : Type} {l : Addr} {vs : List Value} {m : Str → Option Value} {news : List (Addr × Obj)}
    (led : σ → List (Addr × Obj)) (ps : σ → List (Str × VT)) (P : Nat → σ → Prop) (c₀ : σ) (hh : A.handled = none) (hls : h₀.IsList l vs.toArray)
    (F : Fr h₀ env.locals s.heap m) (N : News h₀ env.locals s.heap news) (hl : ∀ p ∈ led c₀, p ∈ news) (hsame : ∀ c, (led c).map (·.1) = (led c₀).map (·.1)) (hr : Reads m (ps c₀)) (hP : P 0 c₀)
    (turn : ∀ i v c u t h tk own, vs[i]? = some v → P i c → Fr h₀ env.locals h (fun y => if y = x then some v else ov u t 0 (ps c) y) → News h₀ env.locals h (led c ++ own) →
      wpAny (model prog w) A (execs body env) (Step h₀ env.locals { s with heap := h, toks := tk } (fun c => led c ++ own) ps (P (i + 1)) Q) E { s with heap := h, toks := tk })
    (done : ∀ c u t h tk, P vs.length c → Fr h₀ env.locals h (ov u t 0 (ps c)) → News h₀ env.locals h (led c) → Q .next { s with heap := h, toks := tk }) :
    wpAny (model prog w) A (pyIter (.ref l)) (fun it s₂ => LoopAtV prog w A h₀ env x body Q E it s₂) E s := by
  have hl1 : s.heap.IsList l vs.toArray := hls.at fun o e => F.keep l o e
  obtain ⟨ol, hol, _⟩ := id hls
  have hlt : l < h₀.objs.size := Heap.lt_size hol
  have hlL : l < env.locals := Nat.lt_of_lt_of_le hlt F.above
  have hne : l ≠ s.heap.objs.size := Nat.ne_of_lt (Nat.lt_trans hlL (Fr.lt F))
  refine wpAny_pyIter_list hl1 ?_
  have W := Walks.list (prog := prog) (w := w) hh s.heap.objs.size l hne vs.toArray
  rw [List.size_toArray] at W
  refine loop_ov (s := { s with heap := s.heap.push _ }) led ps P c₀ W ?_ ?_ ?_ ⟨⟨_, Heap.get?_push_size _ rfl, rfl, rfl⟩, hl1.at fun o e => Heap.get?_push_of_some _ e⟩ (F.push _)
    (fun p hp => ⟨Heap.get?_push_of_some _ (N p hp).1, (N p hp).2⟩) hl hr hP (fun i v c u t h tk own hi hv => turn i v c u t h tk own (by simpa using hv)) done
  · intro hm
    rcases List.mem_cons.mp hm with e | hm
    · exact absurd (Fr.lt F) (e ▸ Nat.lt_irrefl _)
    · exact absurd hlL ((List.mem_singleton.mp hm) ▸ Nat.lt_irrefl _)
  · intro b hb
    rw [List.mem_singleton.mp hb]
    exact next_is_new F
  · intro c p hp hI
    have h1 : p.1 ∈ (led c₀).map (·.1) := by rw [← hsame c]; exact List.mem_map_of_mem hp
    obtain ⟨q, hq, e⟩ := List.mem_map.mp h1
    exact absurd (News.lt N (hl q hq)) (by rw [e, List.mem_singleton.mp hI]; exact Nat.lt_irrefl _)

/-- a for over a range by ones -/
theorem range_ov {σ : Type} {r : Addr} {a b : Int} {t₀ u₀ v₀ : Tok} {n : Nat} {m : Str → Option Value} {news : List (Addr × Obj)}
    (led : σ → List (Addr × Obj)) (ps : σ → List (Str × VT)) (P : Nat → σ → Prop) (c₀ : σ) (hh : A.handled = none) (hrg : IsRange s.heap r a b 1 t₀ u₀ v₀) (hsmall : Builtin.Range.small a b 1 = true) (hn : Builtin.Range.rangeSize a b 1 = (n : Int))
    (F : Fr h₀ env.locals s.heap m) (N : News h₀ env.locals s.heap news) (hl : ∀ p ∈ led c₀, p ∈ news) (hsame : ∀ c, (led c).map (·.1) = (led c₀).map (·.1)) (hr : Reads m (ps c₀)) (hP : P 0 c₀)
    (turn : ∀ (i : Nat) tv c u t h tk own, i < n → P i c → Fr h₀ env.locals h (fun y => if y = x then some (.int (a + i) tv) else ov u t 0 (ps c) y) → News h₀ env.locals h (led c ++ own) →
      wpAny (model prog w) A (execs body env) (Step h₀ env.locals { s with heap := h, toks := tk } (fun c => led c ++ own) ps (P (i + 1)) Q) E { s with heap := h, toks := tk })
    (done : ∀ c u t h tk, P n c → Fr h₀ env.locals h (ov u t 0 (ps c)) → News h₀ env.locals h (led c) → Q .next { s with heap := h, toks := tk }) :
    wpAny (model prog w) A (pyIter (.ref r)) (fun it s₂ => LoopAtV prog w A h₀ env x body Q E it s₂) E s := by
  refine wpAny_pyIter_range hrg hsmall ?_
  have W := Walks.range (prog := prog) (w := w) hh s.heap.objs.size a 1 n
  refine loop_ov (s := { s with heap := s.heap.push _ }) led ps P c₀ W ?_ ?_ ?_ (by show IsRangeIter _ _ _ _ _; rw [hn]; simpa using Heap.get?_push_size _ rfl) (F.push _)
    (fun p hp => ⟨Heap.get?_push_of_some _ (N p hp).1, (N p hp).2⟩) hl hr hP (fun i v c u t h tk own hi hv hPc F₁ N₁ => ?_) done
  · intro hm
    exact absurd (Fr.lt F) ((List.mem_singleton.mp hm) ▸ Nat.lt_irrefl _)
  · intro b hb
    rw [List.mem_singleton.mp hb]
    exact next_is_new F
  · intro c p hp hI
    have h1 : p.1 ∈ (led c₀).map (·.1) := by rw [← hsame c]; exact List.mem_map_of_mem hp
    obtain ⟨q, hq, e⟩ := List.mem_map.mp h1
    exact absurd (News.lt N (hl q hq)) (by rw [e, List.mem_singleton.mp hI]; exact Nat.lt_irrefl _)
  · obtain ⟨tv, rfl⟩ := hv
    rw [Int.mul_one] at F₁
    exact turn i tv c u t h tk own hi hPc F₁ N₁
end

/-- enter a def: the named objects stay one's own, all else is kept -/
theorem call_BN {prog : Program} {w : World} {A₀ A : Around} {s : Shared} {base h₀ : Heap} {env : Env} {outer : List Env} {L : Addr} {m : Str → Option Value} {K : Frag}
    {p : Program} {loose : List Str} {mean : ExcName → Option Value} {mg mb : Str → Option Value} {news : List (Addr × Obj)}
    {R : Result → Shared → Prop} {name qual : Str} {params : Arguments} {body : List Stmt} {scope : Scope} {dV kV doc pm cdv ct oc : Value} {an od : Option Addr} {osl : Array (Option Value)} {f : Addr} {args : Args} (binds : List (Str × Value))
    (B : Below A₀ base outer h₀) (F : Fr h₀ L s.heap m) (N : News h₀ L s.heap news) (X₀ : K.In h₀) (T : Top p loose mean mg mb h₀) (hA : A.frames = some (env :: outer)) (hf : env.frame = some L) (hke : env.scope.kind = .function)
    (ho : K.lookup f = some ⟨oc, od, .func (fnOf name qual params body scope dV kV doc pm an cdv ct), osl⟩) (hcd : codeIn K cdv qual = true) (hroom : A.depth < recursionLimit)
    (hbind : BindsTo s (fnOf name qual params body scope dV kV doc pm an cdv ct) args binds) (hloc : ∀ y ∈ binds, scope.names.lookup y.1 = some .local) (hnd : (binds.map (·.1)).Nodup)
    (h : ∀ g L' h₁ tk, (∀ b o, s.heap.get? b = some o → b ∉ news.map (·.1) → g.get? b = some o) → Fr g L' h₁ (bmap binds) → News g L' h₁ news → Below A base (env :: outer) g → K.In g → Top p loose mean mg mb g →
      wpAny (model prog w) (A.deeper (envOf qual scope L' f cdv)) (execs body (envOf qual scope L' f cdv))
        (fun fl s' => R (.ok (.ret (match fl with | .ret v => v | _ => .none))) s')
        (fun e s' => wpAny (model prog w) (A.deeper (envOf qual scope L' f cdv)) (leaving (envOf qual scope L' f cdv) e) (fun _ s'' => R (.error e) s'') (fun e' s'' => R (.error e') s'') s')
        { s with heap := h₁, toks := tk })
    (hco : scope.isCoroutine = false := by rfl) (hgen : scope.isGenerator = false := by rfl) (hk : scope.kind = .function := by rfl)
    (hcell : ∀ x ∈ scope.names, x.2 ≠ .cell := by decide) : codeAny (model prog w) A (.call (.ref f) args) R s := by
  have X : K.In s.heap := X₀.keeps F.keep
  have T' : Top p loose mean mg mb s.heap := T.keeps F.keep
  refine codeAny_call_def (fd := fnOf name qual params body scope dV kV doc pm an cdv ct) (body := body) (binds := binds) hroom (X _ _ ho) rfl T'.nolimit (codeRec_of X hcd) rfl hbind hcell hloc (fun h₁ hns hk₁ => ?_) hco hgen hk
  have e : (fun y => binds.reverse.lookup y) = bmap binds := by funext y; rw [bmap_lookup, bmap_reverse _ hnd]
  rw [e] at hns
  have nm : ∀ b o, h₀.get? b = some o → b ∉ news.map (·.1) := fun b o e q => by
    obtain ⟨p, hp, rfl⟩ := List.mem_map.mp q
    rw [(N p hp).2.2] at e; cases e
  have nL : L ∉ news.map (·.1) := fun q => by
    obtain ⟨p, hp, e⟩ := List.mem_map.mp q
    exact (N p hp).2.1 e
  have st : h₀.StaysIn (hideAll s.heap (news.map (·.1))) := fun b o e => hideAll_get _ (F.keep b o e) (nm b o e)
  have hnew : base.get? L = none := by
    cases hq : base.get? L with
    | none => rfl
    | some o => exact absurd (Nat.lt_of_lt_of_le (Heap.lt_size (B.stays L o hq)) F.above) (Nat.lt_irrefl _)
  obtain ⟨oL, es, ep, hL, hLd, hLk, hLf⟩ := F.ns
  have hLg := hideAll_get (news.map (·.1)) hL nL
  have B' : Below A base (env :: outer) (hideAll s.heap (news.map (·.1))) :=
    ⟨hA, fun b o e => st b o (B.stays b o e), .cons (by rw [hke]; decide) hf ⟨oL, es, ep, hLg, hLd, hLk, hLf⟩ hnew (B.frames.of_keeps fun b o e _ => ⟨o, st b o e, rfl⟩)⟩
  have X₁ : K.In (hideAll s.heap (news.map (·.1))) := X₀.keeps st
  have T₁ : Top p loose mean mg mb (hideAll s.heap (news.map (·.1))) := T.keeps st
  exact h (hideAll s.heap (news.map (·.1))) s.heap.objs.size h₁ _ (fun b o e n => hideAll_get _ e n) ⟨hns, fun b o e => hk₁ b o (of_hideAll _ e), Nat.le_of_eq (hideAll_size _ _)⟩
    (fun p hp => ⟨hk₁ _ _ (N p hp).1, Nat.ne_of_lt (Heap.lt_size (N p hp).1), hideAll_none _ (List.mem_map_of_mem hp)⟩) B' X₁ T₁

theorem make_B {prog : Program} {w : World} {A : Around} {K : Frag} {C : Addr} {R : Result → Shared → Prop} {s : Shared} {rest : List Value} {kw : List (Str × Value)} {fI : Addr} (X : K.In s.heap) (hm : makesIn K C = true)
    (hi : findIn K (.ref C) "__init__" = some (some (.ref fI))) (hf : typeIn K (.ref fI) = some (.type "function"))
    (h : codeAny (model prog w) (A.under (.builtin "type.__call__" ⟨.ref C :: rest, kw⟩)) (.call (.ref fI) ⟨.ref (s.heap.objs.size + 1) :: rest, kw⟩) (InitBack (s.heap.objs.size + 1) R)
      { s with heap := (s.heap.push emptyDict).push (instObj C s.heap.objs.size) }) :
    codeAny (model prog w) A (.call (.ref C) ⟨rest, kw⟩) R s := by
  obtain ⟨hh, g, d, t, os⟩ := s
  exact make_core (makes_of X hm) (looks_findIn X hi) (fun self => bind_fn X self hf) (.inl rfl) h

theorem InstAt.keeps {h h' : Heap} {x C : Addr} {ox : Obj} {od : Option Obj} (I : PySem.W.InstAt h x ox C od) (k : ∀ b o, h.get? b = some o → h'.get? b = some o) : PySem.W.InstAt h' x ox C od := by
  obtain ⟨a, b, c, d⟩ := I
  refine ⟨k _ _ a, b, c, ?_⟩
  cases e : ox.dict with
  | none => rw [e] at d; cases od with
    | none => trivial
    | some o => exact d.elim
  | some dx => rw [e] at d; cases od with
    | none => exact d.elim
    | some o => exact k _ _ d
theorem InstAt.mk' {h : Heap} {x dx C : Addr} {o : Obj} (h1 : h.get? x = some (instObj C dx)) (h2 : h.get? dx = some o) : PySem.W.InstAt h x (instObj C dx) C (some o) := ⟨h1, rfl, rfl, h2⟩
theorem StaysIn.trans {h h' h'' : Heap} (a : h.StaysIn h') (b : h'.StaysIn h'') : h.StaysIn h'' := fun x o e => b x o (a x o e)

theorem get_none {h : Heap} {a : Addr} (e : h.objs.size ≤ a) : h.get? a = none := by
  cases q : h.get? a with
  | none => rfl
  | some o => exact absurd (Heap.lt_size q) (Nat.not_lt.mpr e)
/-- what a maker keeps -/
theorem made_stays {s h g h' : Heap} {L' : Addr} {m' : Str → Option Value} {x : Obj} {y : Obj} {as : List Addr} (e : h = (s.push x).push y) (hg : ∀ b o, h.get? b = some o → b ∉ as → g.get? b = some o) (ha : ∀ a ∈ as, s.objs.size ≤ a) (F' : Fr g L' h' m') : s.StaysIn h' := by
  intro b o hb
  subst e
  exact F'.keep b o (hg b o (Heap.get?_push_of_some _ (Heap.get?_push_of_some _ hb)) fun hm => absurd (Heap.lt_size hb) (Nat.not_lt.mpr (ha b hm)))

theorem News.more {h₀ h h' : Heap} {L : Addr} {m : Str → Option Value} {news : List (Addr × Obj)} {a : Addr} {o : Obj} (N : News h₀ L h' news) (k : h.StaysIn h') (F : Fr h₀ L h m) (ha : h'.get? a = some o) (hn : h.get? a = none) : News h₀ L h' ((a, o) :: news) := by
  intro p hp
  rcases List.mem_cons.mp hp with rfl | hp
  · refine ⟨ha, fun e => ?_, ?_⟩
    · obtain ⟨oL, _, _, hL, _⟩ := F.ns
      dsimp only at e
      rw [e, hL] at hn; cases hn
    · cases q : h₀.get? a with
      | none => rfl
      | some o' => rw [F.keep _ _ q] at hn; cases hn
  · exact N p hp
end Mine
end

section
open PySem PySem.W PyProof.Rows PySem.Calls PySem.Spec
set_option maxRecDepth 100000
namespace Mine
/-- another object at a place of the ledger -/
def setO : Nat → Obj → List (Addr × Obj) → List (Addr × Obj)
  | _, _, [] => []
  | 0, o, (a, _) :: r => (a, o) :: r
  | n + 1, o, p :: r => p :: setO n o r
theorem setO_fst : ∀ (n : Nat) (o : Obj) (l : List (Addr × Obj)), (setO n o l).map (·.1) = l.map (·.1)
  | n, _, [] => by cases n <;> rfl
  | 0, _, _ :: _ => rfl
  | n + 1, o, p :: r => by
    show p.1 :: (setO n o r).map (·.1) = p.1 :: r.map (·.1)
    rw [setO_fst]
section
variable {prog : Program} {w : World} {A : Around} {E : Value → Shared → Prop} {s : Shared} {env : Env} {h₀ : Heap} {x : Str} {body : List Stmt} {Q : Flow → Shared → Prop}
/-- range_ov, the ledger written over what stands -/
theorem range_ovU {σ : Type} {r : Addr} {a b : Int} {t₀ u₀ v₀ : Tok} {n : Nat} {m : Str → Option Value} {L0 : List (Addr × Obj)}
    (up : σ → List (Addr × Obj) → List (Addr × Obj)) (ps : σ → List (Str × VT)) (P : Nat → σ → Prop) (c₀ : σ) (hh : A.handled = none) (hrg : IsRange s.heap r a b 1 t₀ u₀ v₀) (hsmall : Builtin.Range.small a b 1 = true) (hn : Builtin.Range.rangeSize a b 1 = (n : Int))
    (F : Fr h₀ env.locals s.heap m) (N : News h₀ env.locals s.heap L0) (hl : up c₀ L0 = L0) (hsame : ∀ c, (up c L0).map (·.1) = L0.map (·.1)) (hr : Reads m (ps c₀)) (hP : P 0 c₀)
    (turn : ∀ (i : Nat) tv c u t h tk own, i < n → P i c → Fr h₀ env.locals h (fun y => if y = x then some (.int (a + i) tv) else ov u t 0 (ps c) y) → News h₀ env.locals h (up c L0 ++ own) →
      wpAny (model prog w) A (execs body env) (Step h₀ env.locals { s with heap := h, toks := tk } (fun c => up c L0 ++ own) ps (P (i + 1)) Q) E { s with heap := h, toks := tk })
    (done : ∀ c u t h tk, P n c → Fr h₀ env.locals h (ov u t 0 (ps c)) → News h₀ env.locals h (up c L0) → Q .next { s with heap := h, toks := tk }) :
    wpAny (model prog w) A (pyIter (.ref r)) (fun it s₂ => LoopAtV prog w A h₀ env x body Q E it s₂) E s :=
  range_ov (fun c => up c L0) ps P c₀ hh hrg hsmall hn F N (by rw [hl]; exact fun _ h => h) (fun c => by rw [hsame, hsame]) hr hP turn done
theorem loop_ov2 {σ : Type} {I : Addr} {fp wr : List Addr} {n : Nat} {PV : Nat → Value → Prop} {St : Nat → Heap → Prop} {m : Str → Option Value} {news : List (Addr × Obj)}
    (led : σ → List (Addr × Obj)) (ps : σ → List (Str × VT)) (P : Nat → σ → Prop) (c₀ : σ) (W : Walks prog w A I fp wr n PV St)
    (hLf : env.locals ∉ fp) (hwr : ∀ b ∈ wr, h₀.get? b = none) (hnw : ∀ i c, P i c → ∀ p ∈ led c, p.1 ∉ wr) (hst : St 0 s.heap) (F : Fr h₀ env.locals s.heap m) (N : News h₀ env.locals s.heap news)
    (hl : ∀ p ∈ led c₀, p ∈ news) (hr : Reads m (ps c₀)) (hP : P 0 c₀)
    (turn : ∀ i v c u t h tk own, i < n → PV i v → P i c → (∀ b ∈ fp, h₀.get? b = none → ∀ o, h.get? b = some o → (b, o) ∈ own) → St (i + 1) h → Fr h₀ env.locals h (fun y => if y = x then some v else ov u t 0 (ps c) y) → News h₀ env.locals h (led c ++ own) →
      wpAny (model prog w) A (execs body env) (Step h₀ env.locals { s with heap := h, toks := tk } (fun c => led c ++ own) ps (P (i + 1)) Q) E { s with heap := h, toks := tk })
    (done : ∀ c u t h tk, P n c → Fr h₀ env.locals h (ov u t 0 (ps c)) → News h₀ env.locals h (led c) → Q .next { s with heap := h, toks := tk }) :
    LoopAtV prog w A h₀ env x body Q E (.ref I) s := by
  refine ⟨I, fp, wr, n, PV, St, m, led c₀, fun i m₁ news₁ => ∃ c, P i c ∧ Reads m₁ (ps c) ∧ news₁ = led c, rfl, W, hLf, hwr, hnw 0 c₀ hP, hst, F, fun p hp => N p (hl p hp), ⟨c₀, hP, hr, rfl⟩, ?_, ?_⟩
  · rintro i v m₁ news₁ s₁ own ⟨h, tk, rfl⟩ hi hv ⟨c, hPc, hrc, rfl⟩ _ _ _ hfo hSt F₁ N₁
    obtain ⟨t, et⟩ := Reads.ov hrc
    rw [← et] at F₁
    have N₂ : News h₀ env.locals h (led c ++ own) := fun p hp => N₁ p ((List.mem_append.mp hp).elim (fun h => List.mem_append.mpr (.inr h)) fun h => List.mem_append.mpr (.inl h))
    refine wpAny_mono (turn i v c m₁ t h tk own hi hv hPc hfo hSt F₁ N₂) (fun f s₃ hf => ?_) fun _ _ e => e
    have go : Turn h₀ env.locals { s with heap := h, toks := tk } (fun c => led c ++ own) ps (P (i + 1)) s₃ → LoopStepU h₀ env.locals wr own (fun m₁ news₁ => ∃ c, P (i + 1) c ∧ Reads m₁ (ps c) ∧ news₁ = led c) { s with heap := h, toks := tk } .next s₃ := by
      rintro ⟨c', h', tk', m', news', rfl, F', N', hl', hr', hP'⟩
      refine LoopStepU.intro (news₂ := led c') F' (fun p hp => N' p (hl' p ((List.mem_append.mp hp).elim (fun h => List.mem_append.mpr (.inr h)) fun h => List.mem_append.mpr (.inl h)))) (hnw (i + 1) c' hP') ⟨c', hP', hr', rfl⟩
    cases f with
    | next => exact .next (go hf)
    | cont => exact .cont (go hf)
    | brk => exact .brk hf
    | ret v => exact .ret hf
  · rintro h' tk m' news' F' N' _ ⟨c, hPc, hrc, rfl⟩
    obtain ⟨t, et⟩ := Reads.ov hrc
    rw [← et] at F'
    exact done c m' t h' tk hPc F' N'

/-- a for over a range by ones, the ledger may grow -/
theorem range_ov2 {σ : Type} {r : Addr} {a b : Int} {t₀ u₀ v₀ : Tok} {n : Nat} {m : Str → Option Value} {news : List (Addr × Obj)}
    (led : σ → List (Addr × Obj)) (ps : σ → List (Str × VT)) (P : Nat → σ → Prop) (c₀ : σ) (hh : A.handled = none) (hrg : IsRange s.heap r a b 1 t₀ u₀ v₀) (hsmall : Builtin.Range.small a b 1 = true) (hn : Builtin.Range.rangeSize a b 1 = (n : Int))
    (F : Fr h₀ env.locals s.heap m) (N : News h₀ env.locals s.heap news) (hl : ∀ p ∈ led c₀, p ∈ news) (hnw : ∀ i c, P i c → ∀ p ∈ led c, p.1 ≠ s.heap.objs.size) (hr : Reads m (ps c₀)) (hP : P 0 c₀)
    (turn : ∀ (i : Nat) tv c u t h tk own, i < n → P i c → (∃ o, (s.heap.objs.size, o) ∈ own ∧ o.cls = .type "range_iterator") → Fr h₀ env.locals h (fun y => if y = x then some (.int (a + i) tv) else ov u t 0 (ps c) y) → News h₀ env.locals h (led c ++ own) →
      wpAny (model prog w) A (execs body env) (Step h₀ env.locals { s with heap := h, toks := tk } (fun c => led c ++ own) ps (P (i + 1)) Q) E { s with heap := h, toks := tk })
    (done : ∀ c u t h tk, P n c → Fr h₀ env.locals h (ov u t 0 (ps c)) → News h₀ env.locals h (led c) → Q .next { s with heap := h, toks := tk }) :
    wpAny (model prog w) A (pyIter (.ref r)) (fun it s₂ => LoopAtV prog w A h₀ env x body Q E it s₂) E s := by
  refine wpAny_pyIter_range hrg hsmall ?_
  have W := Walks.range (prog := prog) (w := w) hh s.heap.objs.size a 1 n
  refine loop_ov2 (s := { s with heap := s.heap.push _ }) led ps P c₀ W ?_ ?_ ?_ (by show IsRangeIter _ _ _ _ _; rw [hn]; simpa using Heap.get?_push_size _ rfl) (F.push _)
    (fun p hp => ⟨Heap.get?_push_of_some _ (N p hp).1, (N p hp).2⟩) hl hr hP (fun i v c u t h tk own hi hv hPc hfo hSt F₁ N₁ => ?_) done
  · intro hm
    exact absurd (Fr.lt F) ((List.mem_singleton.mp hm) ▸ Nat.lt_irrefl _)
  · intro b hb
    rw [List.mem_singleton.mp hb]
    exact next_is_new F
  · intro i c hPc p hp hI
    exact hnw i c hPc p hp (List.mem_singleton.mp hI)
  · obtain ⟨tv, rfl⟩ := hv
    rw [Int.mul_one] at F₁
    exact turn i tv c u t h tk own hi hPc ⟨_, hfo _ (List.mem_singleton.mpr rfl) (next_is_new F) _ hSt, rfl⟩ F₁ N₁
theorem News.ne {L : Addr} {h : Heap} {news : List (Addr × Obj)} (N : News h₀ L h news) {a b : Addr} {o o' : Obj} (ha : (a, o) ∈ news) (hb : (b, o') ∈ news) (hc : o.cls ≠ o'.cls) : a ≠ b := by
  rintro rfl
  have h1 := (N _ ha).1
  have h2 := (N _ hb).1
  rw [h1] at h2
  exact hc (congrArg Obj.cls (Option.some.inj h2))
/-- range_ov2, the ledger written over what stands -/
theorem range_ov2U {σ : Type} {r : Addr} {a b : Int} {t₀ u₀ v₀ : Tok} {n : Nat} {m : Str → Option Value} {L0 : List (Addr × Obj)}
    (up : σ → List (Addr × Obj) → List (Addr × Obj)) (ps : σ → List (Str × VT)) (P : Nat → σ → Prop) (c₀ : σ) (hh : A.handled = none) (hrg : IsRange s.heap r a b 1 t₀ u₀ v₀) (hsmall : Builtin.Range.small a b 1 = true) (hn : Builtin.Range.rangeSize a b 1 = (n : Int))
    (F : Fr h₀ env.locals s.heap m) (N : News h₀ env.locals s.heap L0) (hl : ∀ p ∈ up c₀ L0, p ∈ L0) (hnw : ∀ i c, P i c → ∀ p ∈ up c L0, p ∈ L0 ∨ p.1 ∈ L0.map (·.1) ∨ p.1 ≠ s.heap.objs.size) (hr : Reads m (ps c₀)) (hP : P 0 c₀)
    (turn : ∀ (i : Nat) tv c u t h tk own, i < n → P i c → (∃ o, (s.heap.objs.size, o) ∈ own ∧ o.cls = .type "range_iterator") → Fr h₀ env.locals h (fun y => if y = x then some (.int (a + i) tv) else ov u t 0 (ps c) y) → News h₀ env.locals h (up c L0 ++ own) →
      wpAny (model prog w) A (execs body env) (Step h₀ env.locals { s with heap := h, toks := tk } (fun c => up c L0 ++ own) ps (P (i + 1)) Q) E { s with heap := h, toks := tk })
    (done : ∀ c u t h tk, P n c → Fr h₀ env.locals h (ov u t 0 (ps c)) → News h₀ env.locals h (up c L0) → Q .next { s with heap := h, toks := tk }) :
    wpAny (model prog w) A (pyIter (.ref r)) (fun it s₂ => LoopAtV prog w A h₀ env x body Q E it s₂) E s :=
  range_ov2 (fun c => up c L0) ps P c₀ hh hrg hsmall hn F N hl (fun i c hPc p hp => by
    rcases hnw i c hPc p hp with h | h | h
    · exact Nat.ne_of_lt (News.lt N h)
    · obtain ⟨q, hq, e⟩ := List.mem_map.mp h
      rw [← e]; exact Nat.ne_of_lt (News.lt N hq)
    · exact h) hr hP turn done
end
end Mine
end

section
open PySem PySem.W PyProof.Rows PySem.Calls PySem.Spec
set_option maxRecDepth 100000
namespace Mine
theorem ext_cps {x y : Str} (h : x.cps.toList = y.cps.toList) : x = y := by
  obtain ⟨⟨a⟩⟩ := x; obtain ⟨⟨b⟩⟩ := y; cases h; rfl
theorem app_cps (x y : Str) : (x ++ y).cps.toList = x.cps.toList ++ y.cps.toList := by
  show (x.cps ++ y.cps).toList = _
  simp
theorem empty_cps : (Str.ofString "").cps.toList = [] := by decide +kernel
theorem join_flat (xs : List Str) : (Txt.join (Str.ofString "") xs).cps.toList = (xs.map fun x => x.cps.toList).flatten := by
  have key : ∀ xs : List Str, (Str.join (Str.ofString "") xs).cps.toList = (xs.map fun x => x.cps.toList).flatten := by
    intro xs
    induction xs with
    | nil => rfl
    | cons x r ih =>
      cases r with
      | nil => show x.cps.toList = _; simp
      | cons y r =>
        show (x ++ Str.ofString "" ++ Str.join (Str.ofString "") (y :: r)).cps.toList = _
        rw [app_cps, app_cps, empty_cps, ih]; simp
  show (Builtin.Str.glued (Str.ofString "") xs).cps.toList = _
  first | rw [StrLaws.glued_eq_join, key] | rw [PySem.StrLaws.glued_eq_join, key] | rw [PySem.Builtin.Str.glued_eq_join, key] | rw [PyProof.StrLaws.glued_eq_join, key]
theorem join_signs (ns : List Int) : Txt.join (Str.ofString "") (ns.map fun a => (⟨#[a.toNat]⟩ : Str)) = ⟨(ns.map Int.toNat).toArray⟩ := by
  apply ext_cps
  rw [join_flat]
  simp only [List.map_map]
  induction ns with
  | nil => rfl
  | cons a r ih => rw [List.map_cons, List.flatten_cons, List.map_cons]; simpa using ih
end Mine
end

section
open PySem PySem.W PyProof.Rows PySem.Calls PySem.Spec
set_option maxRecDepth 100000
set_option maxHeartbeats 1000000
namespace Mine
section
variable {prog : Program} {w : World} {A : Around} {E : Value → Shared → Prop} {s : Shared} {env : Env}
/-- a comprehension over bytes whose test takes none -/
theorem comp_bytes_none {scope : Scope} {x : Str} {ifs : List Expr} {elt : Expr} {Q : Value → Shared → Prop} {b : Array UInt8} {tb : Tok} (hh : A.handled = none) (hsz : b.size ≤ sizeLine)
    (tests : ∀ C (k : Int) u s₃ m₃ E', 0 ≤ k → k < 256 → s₃.heap.Ns C m₃ → m₃ x = some (.int k u) →
      wpAny (model prog w) A (forIn ifs true fun c r => if r = true then do let ok ← isTrue c (compEnv scope C env) (eval c (compEnv scope C env)); pure (ForInStep.yield ok) else pure (ForInStep.yield r)) (fun ok s₄ => ok = false ∧ Keeps s₃ s₄) E' s₃)
    (hQ : ∀ D h' tk, s.heap.get? D = none → h'.IsList D #[] → s.heap.StaysIn h' → Q (.ref D) { s with heap := h', toks := tk }) :
    wpAny (model prog w) A (pyIter (.bytes b tb)) (CompPost prog w A env scope x ifs elt Q) E s := by
  refine KBw.pyIter_bytes ?_
  refine ⟨fun _ => false, fun _ _ => True, _, _, _, _, _, _, rfl, KBw.walks hh _ b tb, hsz, ⟨_, Heap.get?_push_size _ rfl, rfl, rfl⟩, ?_, ⟨?_, ?_⟩, ?_⟩
  · intro a ha
    rw [List.mem_singleton.mp ha]
    show _ < (s.heap.push _).objs.size
    rw [Heap.size_push]; exact Nat.lt_succ_self _
  · rintro C i v s₃ m₃ E' ⟨c, u, hc, rfl⟩ hns hx _ _
    exact tests C _ u s₃ m₃ E' (Int.natCast_nonneg _) (by have := c.toNat_lt; omega) hns hx
  · intro C i v s₃ m₃ E' _ hf
    cases hf
  · intro D h' tk ys vs hD hl _ _ _ hp hk
    have e : ys.toList = [] := by
      have : vs.filter (fun _ => false) = [] := by simp
      rw [this] at hp
      cases hq : ys.toList with
      | nil => rfl
      | cons a l => rw [hq] at hp; cases hp
    have e' : ys = #[] := Array.ext' e
    subst e'
    have h9 : ∀ a o, s.heap.get? a = some o → h'.get? a = some o := fun a o ha => hk a o (fun hm => absurd (Heap.lt_size ha) (by rw [List.mem_singleton.mp hm]; exact Nat.lt_irrefl _)) (Heap.get?_push_of_some _ ha)
    refine hQ D h' tk ?_ hl h9
    cases e9 : s.heap.get? D with
    | none => rfl
    | some o => rw [Heap.get?_push_of_some _ e9] at hD; cases hD
theorem octet_test {scope : Scope} {pos0 pos1 pos2 pos3 pos4 : Pos} {k0 k1 : Nat} (hx : scope.names.lookup (Str.ofString "x") = some .local) (hkind : scope.kind = .function) :
    ∀ C (k : Int) u s₃ m₃ E', 0 ≤ k → k < 256 → Heap.Ns (Shared.heap s₃) C m₃ → m₃ (Str.ofString "x") = some (.int k u) →
      wpAny (model prog w) A (forIn [Expr.UnaryOp .Not (.Compare (.Constant (.int 0) k0 pos0) [.LtE, .LtE] [.Name (Str.ofString "x") pos1, .Constant (.int 255) k1 pos2] pos3) pos4] true fun c r => if r = true then do let ok ← isTrue c (compEnv scope C env) (eval c (compEnv scope C env)); pure (ForInStep.yield ok) else pure (ForInStep.yield r)) (fun ok s₄ => ok = false ∧ Keeps s₃ s₄) E' s₃ := by
  intro C k u s₃ m₃ E' h0 h1 hns hm
  rw [List.forIn_cons]
  refine wpAny_bind ?_
  rw [if_pos rfl]
  refine wpAny_bind ?_
  refine isTrue_not (isTrue_chain ?_)
  walk1
  walk1
  refine wpAny_Name (wpAny_loadName_local hkind hx hns hm ?_) (by decide)
  walk1
  walk1
  rw [if_pos (decide_eq_true h0)]
  iterate 4 walk1
  exact wpAny_pure (wpAny_pure ⟨by simp; omega, _, _, rfl, fun _ _ e => e⟩)
end

theorem no_bytes_of : typeLookup (.type "bytes") "__bytes__" = pure (some (.builtin "bytes.__bytes__")) := by rw [typeLookup_type, builtinLookup_eq_fast]; kernel_rfl
section
variable {prog : Program} {w : World} {A : Around} {E : Value → Shared → Prop} {s : Shared}
theorem bytes_new_same {b : Array UInt8} {tb : Tok} {Q : Value → Shared → Prop} (hQ : Q (.bytes b tb) s) :
    codeAny (model prog w) A (.call (.builtin "bytes.__new__") ⟨[.type "bytes", .bytes b tb], []⟩) (wants Q E) s := by
  refine codeAny_of_tree ?_
  show wpAny _ A.in1 (do checkBuiltinCall "bytes.__new__" ⟨[.type "bytes", .bytes b tb], []⟩; again (.builtin "bytes.__new__" ⟨[.type "bytes", .bytes b tb], []⟩)) _ _ s
  refine wpAny_bind (wpAny_of_eq (F.bm_newCall _) (wpAny_pure ⟨plainId_quiet F.bm_plain _, codeAny_builtin F.bm_entry ?_⟩))
  rw [Around.under_plainId F.bm_plain _]
  have hT : s.TypeIs (.bytes b tb) "bytes" := PySem.W.typeIs_bytes _ _ _
  unfold Builtin.«bytes.__new__»
  refine wpAny_bind (wpAny_of_eq (a := true) rfl ?_)
  refine bm_if_false rfl ?_
  refine wpAny_bind (wpAny_of_eq F.bm_sub ?_)
  refine bm_if_false rfl ?_
  refine wpAny_bind (wpAny_of_eq (F.bm_bind _) ?_)
  refine wpAny_bind (wpAny_of_eq (a := ()) rfl ?_)
  refine wpAny_bind (wpAny_of_eq (a := ()) rfl ?_)
  refine bm_if_false rfl ?_
  refine wpAny_bind (wpAny_specialOf hT no_bytes_of ?_)
  refine wpAny_bind (wpAny_rule ?_)
  refine wpAny_bind (wpAny_of_eq (a := Value.type "bytes") rfl ?_)
  refine bm_if_true (by decide) ?_
  exact wpAny_pure hQ
theorem call_bytes_same {b : Array UInt8} {tb : Tok} {Q : Value → Shared → Prop} (hQ : Q (.bytes b tb) s) : wpAny (model prog w) A (call (.type "bytes") [.bytes b tb]) Q E s := by
  refine callType_codes (Q₁ := fun obj s₁ => s₁.TypeIs obj "bytes" ∧ Q obj s₁) F.bm_called (F.bm_typeCall _) F.entry_object_init
    (bytes_new_same ⟨PySem.W.typeIs_bytes _ _ _, hQ⟩) fun obj s₁ h₁ => ?_
  exact ⟨h₁.1, F.args_object_init_2 obj _, object_init_meets F.bm_called.init.lookup F.bm_called.made (by decide) prog w A.in1 _ s₁ ⟨h₁.1, rfl, h₁.2⟩⟩
end
end Mine
end

section
open PySem PySem.W PyProof.Rows PySem.Calls PySem.Spec
set_option maxRecDepth 100000
set_option maxHeartbeats 1000000
namespace Mine
/-- bytes out of numbers, a text out of its signs' numbers -/
@[irreducible] def bA (l : List Nat) : Array UInt8 := (l.map Nat.toUInt8).toArray
def sA (l : List Nat) : Str := ⟨l.toArray⟩
theorem sA_len (l : List Nat) : (sA l).length = l.length := by show l.toArray.size = _; simp
theorem sA_app (l r : List Nat) : sA l ++ sA r = sA (l ++ r) := by
  show Str.mk (l.toArray ++ r.toArray) = Str.mk (l ++ r).toArray
  simp
theorem bA_size (l : List Nat) : (bA l).size = l.length := by simp [bA]
theorem bA_ints {l : List Nat} (h : ∀ x ∈ l, x < 256) : KBw.bInts (bA l) = l.map (fun x : Nat => (x : Int)) := by
  unfold bA
  show (l.map Nat.toUInt8).map (fun c => (c.toNat : Int)) = _
  rw [List.map_map]
  refine List.map_congr_left fun x hx => ?_
  show ((Nat.toUInt8 x).toNat : Int) = x
  have := h x hx
  simp [Nat.toUInt8, UInt8.toNat_ofNat]
  omega
theorem sA_item (c : Nat) (l : List Nat) : Txt.item (sA (c :: l)) 0 = sA [c] := by
  have hz : (sA (c :: l)).length = l.length + 1 := by rw [sA_len]; rfl
  have : Txt.charAt (sA (c :: l)) 0 = some c := by
    unfold Txt.charAt seqIndex?
    rw [hz]
    first
      | (simp [sA]; done)
      | (rw [if_pos (by omega)]; simp [sA])
      | (simp; rfl)
  unfold Txt.item
  rw [this]; rfl
section
variable {prog : Program} {w : World} {A : Around} {E : Value → Shared → Prop} {s : Shared} {value slice : Expr} {h₀ : Heap} {L : Addr} {m : Str → Option Value} {news : List (Addr × Obj)} {Q : Value → Shared → Prop}
theorem truthy_sc {c : Nat} {l : List Nat} {t : Tok} {Q : Bool → Shared → Prop} (hl : l.length ≤ 100000) (h : Q true { s with toks := s.toks + 1 + 1 }) : wpAny (model prog w) A (truthy (.str (sA (c :: l)) t)) Q E s := by
  have hz : (sA (c :: l)).length = l.length + 1 := by rw [sA_len]; rfl
  refine P.truthy_str (by rw [hz]; omega) ?_
  have : ((((sA (c :: l)).length : Nat) : Int) != 0) = true := by rw [hz]; simp; omega
  rw [this]; exact h
theorem truthy_sn {t : Tok} {Q : Bool → Shared → Prop} (h : Q false { s with toks := s.toks + 1 + 1 }) : wpAny (model prog w) A (truthy (.str (sA []) t)) Q E s := P.truthy_str (by decide) h
theorem truthy_bc {c : Nat} {l : List Nat} {t : Tok} {Q : Bool → Shared → Prop} (hl : l.length ≤ 100000) (h : Q true { s with toks := s.toks + 1 + 1 }) : wpAny (model prog w) A (truthy (.bytes (bA (c :: l)) t)) Q E s := by
  have hz : (bA (c :: l)).size = l.length + 1 := by rw [bA_size]; rfl
  refine PySem.W.truthy_bytes (by rw [hz]; omega) ?_
  have : ((((bA (c :: l)).size : Nat) : Int) != 0) = true := by rw [hz]; simp; omega
  rw [this]; exact h
theorem truthy_bn {t : Tok} {Q : Bool → Shared → Prop} (h : Q false { s with toks := s.toks + 1 + 1 }) : wpAny (model prog w) A (truthy (.bytes (bA []) t)) Q E s := PySem.W.truthy_bytes (by rw [bA_size]; decide) (by rw [bA_size]; exact h)
theorem str_at0 {c : Nat} {l : List Nat} {t u : Tok} (h : Q (.str (sA [c]) s.toks) { s with toks := s.toks + 1 })
    (hs : subscripted slice false (.str (sA (c :: l)) t) (.int 0 u) = operate [.str (sA (c :: l)) t, .int 0 u] (getItem (.str (sA (c :: l)) t) (.int 0 u)) := by with_unfolding_all rfl)
    (ht : ∀ r, letTemporaryGo value (.str (sA (c :: l)) t) r = pure () := by intro _; with_unfolding_all rfl) :
    wpAny (model prog w) A (subscriptTail value slice (.str (sA (c :: l)) t) (.int 0 u)) Q E s := by
  have hz : (sA (c :: l)).length = l.length + 1 := by rw [sA_len]; rfl
  refine item_str (by decide) (by rw [hz]; omega) (by rw [hz]; omega) (fun _ => ?_) hs ht
  rw [sA_item]; exact h
theorem bytes_at0 {c : Nat} {l : List Nat} {t u : Tok} (hb : ∀ x ∈ c :: l, x < 256) (hl : l.length ≤ 100000) (h : ∀ t' k, Q (.int c t') { s with toks := k })
    (hs : subscripted slice false (.bytes (bA (c :: l)) t) (.int 0 u) = operate [.bytes (bA (c :: l)) t, .int 0 u] (getItem (.bytes (bA (c :: l)) t) (.int 0 u)) := by with_unfolding_all rfl)
    (ht : ∀ r, letTemporaryGo value (.bytes (bA (c :: l)) t) r = pure () := by intro _; with_unfolding_all rfl) :
    wpAny (model prog w) A (subscriptTail value slice (.bytes (bA (c :: l)) t) (.int 0 u)) Q E s :=
  KBw.item_K (bA_ints hb) (by simp; omega) (by decide) (by simp; try omega) (fun t' k _ _ => by simpa using h t' k) hs ht
theorem picked_bA (l : List Nat) (lo hi : Option Int) : KBy.picked (bA l) lo hi = bA ((l.drop (lo.elim 0 (clipAt l.length))).take (hi.elim l.length (clipAt l.length) - lo.elim 0 (clipAt l.length))) := by
  rw [KBc.picked_eq, bA_size]
  unfold bA
  simp [List.map_drop, List.map_take]
theorem bytes_cut {l : List Nat} {a b : Value} {lo hi : Option Int} {t : Tok} (hF : Fr h₀ L s.heap m) (hN : News h₀ L s.heap news) (hb : ∀ x ∈ l, x < 256) (ha : IsPart a lo) (hb' : IsPart b hi) (hl : l.length ≤ 100000)
    (h : ∀ h' t' k, Fr h₀ L h' m → News h₀ L h' news → Q (.bytes (bA ((l.drop (lo.elim 0 (clipAt l.length))).take (hi.elim l.length (clipAt l.length) - lo.elim 0 (clipAt l.length)))) t') { s with heap := h', toks := k })
    (hs : subscripted slice false (.bytes (bA l) t) (.ref s.heap.objs.size) = operate [.ref s.heap.objs.size, .bytes (bA l) t] (getItem (.bytes (bA l) t) (.ref s.heap.objs.size)) := by with_unfolding_all rfl)
    (ht : ∀ r, letTemporaryGo value (.bytes (bA l) t) r = pure () := by intro _; with_unfolding_all rfl) :
    wpAny (model prog w) A (subscriptTail value slice (.bytes (bA l) t) (.ref s.heap.objs.size)) Q E { s with heap := s.heap.push { cls := .type "slice", data := .fields #[a, b, .none] } } :=
  KBc.slice_K hF hN (bA_ints hb) ha hb' (by simp; omega) (fun h' t' k F' N' _ => by rw [picked_bA]; exact h h' t' k F' N') hs ht
end

theorem sA_from1 (c : Nat) (l : List Nat) : Txt.slice (sA (c :: l)) (some 1) none = sA l := by
  have hz : (sA (c :: l)).length = l.length + 1 := by rw [sA_len]; rfl
  have hi : Builtin.Str.strSliceIndices (some 1) none 1 (sA (c :: l)).length = (List.range l.length).map (1 + ·) := by
    rw [hz]
    have h1 := StrLaws.strSliceIndices_plain (a := 1) (b := l.length + 1) (len := l.length + 1) (by omega) (by omega)
    have h2 : Builtin.Str.strSliceIndices (some 1) none 1 (l.length + 1) = Builtin.Str.strSliceIndices (some ((1 : Nat) : Int)) (some ((l.length + 1 : Nat) : Int)) 1 (l.length + 1) := by
      unfold Builtin.Str.strSliceIndices
      have e : max (0 : Int) (min ((l.length + 1 : Nat) : Int) ((l.length + 1 : Nat) : Int)) = ((l.length + 1 : Nat) : Int) := by omega
      simp only [show ((1 : Int) > 0) = True from by simp, if_true, show ¬ (((l.length + 1 : Nat) : Int) < 0) from by omega, if_false, e]
      rfl
    rw [h2, h1]
    rfl
  unfold Txt.slice
  rw [hi]
  have hne : ((1 : Int) == 1 && ((List.range l.length).map (1 + ·)).length == (sA (c :: l)).length) = false := by
    rw [hz]; simp
  rw [if_neg (by rw [hne]; decide), pick_run]
  simp [sA]

section
variable {prog : Program} {w : World} {A : Around} {E : Value → Shared → Prop} {s : Shared} {value slice : Expr} {h₀ : Heap} {L : Addr} {m : Str → Option Value} {news : List (Addr × Obj)} {Q : Value → Shared → Prop}
theorem str_from1 {c : Nat} {l : List Nat} {t u : Tok} (hF : Fr h₀ L s.heap m) (hN : News h₀ L s.heap news) (hl : l.length ≤ 100000)
    (h : ∀ h' t' k, Fr h₀ L h' m → News h₀ L h' news → Q (.str (sA l) t') { s with heap := h', toks := k })
    (hs : subscripted slice false (.str (sA (c :: l)) t) (.ref s.heap.objs.size) = operate [.ref s.heap.objs.size, .str (sA (c :: l)) t] (getItem (.str (sA (c :: l)) t) (.ref s.heap.objs.size)) := by with_unfolding_all rfl)
    (ht : ∀ r, letTemporaryGo value (.str (sA (c :: l)) t) r = pure () := by intro _; with_unfolding_all rfl) :
    wpAny (model prog w) A (subscriptTail value slice (.str (sA (c :: l)) t) (.ref s.heap.objs.size)) Q E { s with heap := s.heap.push { cls := .type "slice", data := .fields #[.int 1 u, .none, .none] } } :=
  slice_strN_sn hF hN (fun h' t' k F' N' => by rw [sA_from1]; exact h h' t' k F' N') hs ht (by rw [sA_len, sizeLine_eq, List.length_cons]; omega)
theorem bytes_from1 {c : Nat} {l : List Nat} {t u : Tok} (hF : Fr h₀ L s.heap m) (hN : News h₀ L s.heap news) (hb : ∀ x ∈ c :: l, x < 256) (hl : l.length ≤ 99999)
    (h : ∀ h' t' k, Fr h₀ L h' m → News h₀ L h' news → Q (.bytes (bA l) t') { s with heap := h', toks := k })
    (hs : subscripted slice false (.bytes (bA (c :: l)) t) (.ref s.heap.objs.size) = operate [.ref s.heap.objs.size, .bytes (bA (c :: l)) t] (getItem (.bytes (bA (c :: l)) t) (.ref s.heap.objs.size)) := by with_unfolding_all rfl)
    (ht : ∀ r, letTemporaryGo value (.bytes (bA (c :: l)) t) r = pure () := by intro _; with_unfolding_all rfl) :
    wpAny (model prog w) A (subscriptTail value slice (.bytes (bA (c :: l)) t) (.ref s.heap.objs.size)) Q E { s with heap := s.heap.push { cls := .type "slice", data := .fields #[.int 1 u, .none, .none] } } :=
  bytes_cut (lo := some 1) (hi := none) hF hN hb (by constructor) (by constructor) (by rw [List.length_cons]; omega) (fun h' t' k F' N' => by
    have e : ((c :: l).drop ((some (1 : Int)).elim 0 (clipAt (c :: l).length))).take ((none : Option Int).elim (c :: l).length (clipAt (c :: l).length) - (some (1 : Int)).elim 0 (clipAt (c :: l).length)) = l := by
      have : clipAt (c :: l).length 1 = 1 := by rw [show (1 : Int) = ((1 : Nat) : Int) from rfl, clipAt_nat, List.length_cons]; omega
      show ((c :: l).drop (clipAt (c :: l).length 1)).take ((c :: l).length - clipAt (c :: l).length 1) = l
      rw [this]; simp
    rw [e]; exact h h' t' k F' N') hs ht
theorem bytes_take {l : List Nat} {n : Nat} {t u : Tok} (hF : Fr h₀ L s.heap m) (hN : News h₀ L s.heap news) (hb : ∀ x ∈ l, x < 256) (hl : l.length ≤ 99999)
    (h : ∀ h' t' k, Fr h₀ L h' m → News h₀ L h' news → Q (.bytes (bA (l.take n)) t') { s with heap := h', toks := k })
    (hs : subscripted slice false (.bytes (bA l) t) (.ref s.heap.objs.size) = operate [.ref s.heap.objs.size, .bytes (bA l) t] (getItem (.bytes (bA l) t) (.ref s.heap.objs.size)) := by with_unfolding_all rfl)
    (ht : ∀ r, letTemporaryGo value (.bytes (bA l) t) r = pure () := by intro _; with_unfolding_all rfl) :
    wpAny (model prog w) A (subscriptTail value slice (.bytes (bA l) t) (.ref s.heap.objs.size)) Q E { s with heap := s.heap.push { cls := .type "slice", data := .fields #[.none, .int (n : Int) u, .none] } } :=
  bytes_cut (lo := none) (hi := some (n : Int)) hF hN hb (by constructor) (by constructor) (by omega) (fun h' t' k F' N' => by
    have e : (l.drop ((none : Option Int).elim 0 (clipAt l.length))).take ((some (n : Int)).elim l.length (clipAt l.length) - (none : Option Int).elim 0 (clipAt l.length)) = l.take n := by
      show (l.drop 0).take (clipAt l.length n - 0) = l.take n
      rw [clipAt_nat, List.drop_zero, Nat.sub_zero]
      rcases Nat.le_total n l.length with q | q
      · rw [Nat.min_eq_left q]
      · rw [Nat.min_eq_right q, List.take_of_length_le (Nat.le_refl _), List.take_of_length_le q]
    rw [e]; exact h h' t' k F' N') hs ht
theorem bytes_drop {l : List Nat} {n : Nat} {t u : Tok} (hF : Fr h₀ L s.heap m) (hN : News h₀ L s.heap news) (hb : ∀ x ∈ l, x < 256) (hl : l.length ≤ 99999)
    (h : ∀ h' t' k, Fr h₀ L h' m → News h₀ L h' news → Q (.bytes (bA (l.drop n)) t') { s with heap := h', toks := k })
    (hs : subscripted slice false (.bytes (bA l) t) (.ref s.heap.objs.size) = operate [.ref s.heap.objs.size, .bytes (bA l) t] (getItem (.bytes (bA l) t) (.ref s.heap.objs.size)) := by with_unfolding_all rfl)
    (ht : ∀ r, letTemporaryGo value (.bytes (bA l) t) r = pure () := by intro _; with_unfolding_all rfl) :
    wpAny (model prog w) A (subscriptTail value slice (.bytes (bA l) t) (.ref s.heap.objs.size)) Q E { s with heap := s.heap.push { cls := .type "slice", data := .fields #[.int (n : Int) u, .none, .none] } } :=
  bytes_cut (lo := some (n : Int)) (hi := none) hF hN hb (by constructor) (by constructor) (by omega) (fun h' t' k F' N' => by
    have e : (l.drop ((some (n : Int)).elim 0 (clipAt l.length))).take ((none : Option Int).elim l.length (clipAt l.length) - (some (n : Int)).elim 0 (clipAt l.length)) = l.drop n := by
      show (l.drop (clipAt l.length n)).take (l.length - clipAt l.length n) = l.drop n
      rw [clipAt_nat]
      rcases Nat.le_total n l.length with q | q
      · rw [Nat.min_eq_left q, List.take_of_length_le (by rw [List.length_drop]; omega)]
      · rw [Nat.min_eq_right q, List.drop_of_length_le (Nat.le_refl _), List.drop_of_length_le q]; simp
    rw [e]; exact h h' t' k F' N') hs ht
end
end Mine
end

section
open PySem PySem.W PyProof.Rows PySem.Calls PySem.Spec
set_option maxRecDepth 100000
set_option maxHeartbeats 1000000
namespace Mine
structure Part where
  rep : Bool
  len : Nat
  way : Nat
structure Part.Ok (p : Part) : Prop where
  l1 : 1 ≤ p.len
  l3 : p.len ≤ 3
  w : p.way = 120 ∨ p.way = 100 ∨ p.way = 111 ∨ p.way = 97
def Part.text (p : Part) : List Nat := (if p.rep then [42] else []) ++ [48 + p.len, p.way]
def hintL : List Part → List Nat
  | [] => []
  | p :: r => p.text ++ hintL r
structure Item where
  part : Part
  pieces : List (List Nat)
structure Item.Ok (it : Item) : Prop where
  p : it.part.Ok
  cnt : it.pieces.length ≤ 3
  one : it.part.rep = false → it.pieces.length = 1
  lens : ∀ l ∈ it.pieces, l.length = it.part.len
  byte : ∀ l ∈ it.pieces, ∀ x ∈ l, x < 256
  ascii : it.part.way = 97 → ∀ l ∈ it.pieces, ∀ x ∈ l, x < 128
def Item.octs (it : Item) : List Nat := (if it.part.rep then [it.pieces.length] else []) ++ it.pieces.flatten
def octsOf : List Item → List Nat
  | [] => []
  | it :: r => it.octs ++ octsOf r
/-- the parts of the items go round -/
inductive Fol (all : List Part) : List Part → List Item → Prop
  | nil {suf : List Part} : Fol all suf []
  | cons {p : Part} {suf : List Part} {it : Item} {r : List Item} : it.part = p → Fol all (if suf = [] then all else suf) r → Fol all (p :: suf) (it :: r)

theorem hintL_cons {all : List Part} (h : all ≠ []) : ∃ c l, hintL all = c :: l := by
  cases all with
  | nil => exact absurd rfl h
  | cons p r =>
    unfold hintL Part.text
    cases p.rep <;> exact ⟨_, _, rfl⟩
theorem text_len (p : Part) : p.text.length ≤ 3 := by
  unfold Part.text
  cases p.rep <;> simp
theorem hintL_len : ∀ l : List Part, (hintL l).length ≤ 3 * l.length
  | [] => Nat.le_refl _
  | p :: r => by
    have := hintL_len r
    have := text_len p
    show (p.text ++ hintL r).length ≤ _
    rw [List.length_append, List.length_cons]; omega

theorem fol_cons {all suf : List Part} {it : Item} {r : List Item} (h : Fol all suf (it :: r)) : ∃ suf', suf = it.part :: suf' ∧ Fol all (if suf' = [] then all else suf') r := by
  cases h with
  | cons e h => subst e; exact ⟨_, rfl, h⟩
theorem octs_cons {it : Item} (h : it.Ok) (r : List Nat) : ∃ b l, it.octs ++ r = b :: l := by
  unfold Item.octs
  cases hr : it.part.rep with
  | true => exact ⟨_, _, rfl⟩
  | false =>
    have h1 := h.one hr
    rcases hp : it.pieces with _ | ⟨a, _ | ⟨b, q⟩⟩
    · rw [hp] at h1; cases h1
    · have hl := h.lens a (by rw [hp]; simp)
      have := h.p.l1
      rcases a with _ | ⟨x, a⟩
      · simp at hl; omega
      · exact ⟨x, a ++ r, by simp⟩
    · rw [hp] at h1; simp at h1
theorem octs_byte {it : Item} (h : it.Ok) : ∀ x ∈ it.octs, x < 256 := by
  intro x hx
  unfold Item.octs at hx
  rcases List.mem_append.mp hx with q | q
  · cases hr : it.part.rep with
    | true => rw [hr] at q; simp at q; have := h.cnt; omega
    | false => rw [hr] at q; simp at q
  · obtain ⟨l, hl, hxl⟩ := List.mem_flatten.mp q
    exact h.byte l hl x hxl
theorem octsOf_byte : ∀ {r : List Item}, (∀ it ∈ r, it.Ok) → ∀ x ∈ octsOf r, x < 256
  | [], _, _, hx => by cases hx
  | it :: r, h, x, hx => by
    rcases List.mem_append.mp hx with q | q
    · exact octs_byte (h it (.head _)) x q
    · exact octsOf_byte (fun i hi => h i (.tail _ hi)) x q
theorem flat_len : ∀ {ps : List (List Nat)} {n : Nat}, (∀ l ∈ ps, l.length = n) → ps.flatten.length = ps.length * n
  | [], _, _ => by simp
  | a :: r, n, h => by
    rw [List.flatten_cons, List.length_append, flat_len fun l hl => h l (.tail _ hl), h a (.head _), List.length_cons, Nat.add_mul]; omega
theorem octs_len {it : Item} (h : it.Ok) : it.octs.length ≤ 10 := by
  unfold Item.octs
  rw [List.length_append, flat_len h.lens]
  have h1 := h.cnt
  have h2 := h.p.l3
  have h3 := Nat.mul_le_mul h1 h2
  cases it.part.rep <;> simp <;> omega
theorem octsOf_len : ∀ {r : List Item}, (∀ it ∈ r, it.Ok) → (octsOf r).length ≤ 10 * r.length
  | [], _ => Nat.le_refl _
  | it :: r, h => by
    have := octs_len (h it (.head _))
    have := octsOf_len fun i hi => h i (.tail _ hi)
    show (it.octs ++ octsOf r).length ≤ _
    rw [List.length_append, List.length_cons]; omega
end Mine
end

section
open PySem PySem.W PyProof.Rows PySem.Calls PySem.Spec
set_option maxRecDepth 100000
namespace Mine
theorem all_ltI {I : Addr} {l : List (Addr × Obj)} (h : ∀ p ∈ l, p.1 < I) : AllLt I l := allLt_of h
theorem allLt_to {I : Addr} {l : List (Addr × Obj)} (h : AllLt I l) : ∀ p ∈ l, p.1 < I := by
  induction l with
  | nil => intro p hp; cases hp
  | cons q r ih =>
    obtain ⟨h1, h2⟩ := (show q.1 < I ∧ AllLt I r from h)
    intro p hp
    rcases List.mem_cons.mp hp with e | hp
    · rw [e]; exact h1
    · exact ih h2 p hp
theorem AllLt.ne {d : Addr} {l : List (Addr × Obj)} (h : AllLt d l) : ∀ p ∈ l, p.1 ≠ d := fun p hp => Nat.ne_of_lt (allLt_to h p hp)
/-- all above a -/
def Abv (a : Addr) (l : List (Addr × Obj)) : Prop := ∀ p ∈ l, a < p.1
theorem Abv.ne {a d : Addr} {l : List (Addr × Obj)} (h : Abv a l) (hd : @LE.le Nat _ d a) : ∀ p ∈ l, p.1 ≠ d := fun p hp => Nat.ne_of_gt (Nat.lt_of_le_of_lt hd (h p hp))
theorem Abv.nil {a : Addr} : Abv a [] := fun _ h => by cases h
theorem Abv.cons {a b : Addr} {o : Obj} {l : List (Addr × Obj)} (hb : a < b) (h : Abv a l) : Abv a ((b, o) :: l) := fun p hp => by
  rcases List.mem_cons.mp hp with rfl | hp
  · exact hb
  · exact h p hp
theorem Turn.mono {σ : Type} {h₀ : Heap} {L : Addr} {s : Shared} {led led' : σ → List (Addr × Obj)} {ps : σ → List (Str × VT)} {P : σ → Prop} {s₃ : Shared} (hle : ∀ c, ∀ p ∈ led' c, p ∈ led c) (T : Turn h₀ L s led ps P s₃) : Turn h₀ L s led' ps P s₃ := by
  obtain ⟨c, h', tk, m', news', e, F, N, hl, hr, hP⟩ := T
  exact ⟨c, h', tk, m', news', e, F, N, fun p hp => hl p (hle c p hp), hr, hP⟩
section
variable {prog : Program} {w : World} {A : Around} {E : Value → Shared → Prop} {s : Shared} {env : Env} {h₀ : Heap} {x : Str} {body : List Stmt} {Q : Flow → Shared → Prop}

/-- cut behind a statement that ends plainly, the ledger written over what stands -/
theorem cut_execU {st : Stmt} {Q : Flow → Shared → Prop} {L : Addr} {σ : Type} {m : Str → Option Value} {L0 : List (Addr × Obj)} (up : σ → List (Addr × Obj) → List (Addr × Obj)) (ps : σ → List (Str × VT)) (P : σ → Prop)
    (hF0 : Fr h₀ L s.heap m) (hN0 : News h₀ L s.heap L0)
    (h : wpAny (model prog w) A (exec st env) (fun f s' => f = .next ∧ Turn h₀ L s (fun c => up c L0) ps P s') E s)
    (k : ∀ c h' tk u t, P c → Fr h₀ L h' (ov u t 0 (ps c)) → News h₀ L h' (up c L0) → Q .next { s with heap := h', toks := tk }) :
    wpAny (model prog w) A (exec st env) Q E s := cut_exec (fun c => up c L0) ps P h k
/-- a for over a range by ones -/
theorem range_ov3 {σ : Type} {r : Addr} {a b : Int} {t₀ u₀ v₀ : Tok} {n : Nat} {m : Str → Option Value} {L0 : List (Addr × Obj)}
    (up : σ → List (Addr × Obj) → List (Addr × Obj)) (ps : σ → List (Str × VT)) (P : Nat → σ → Prop) (c₀ : σ) (hh : A.handled = none) (hrg : IsRange s.heap r a b 1 t₀ u₀ v₀) (hsmall : Builtin.Range.small a b 1 = true) (hn : Builtin.Range.rangeSize a b 1 = (n : Int))
    (F : Fr h₀ env.locals s.heap m) (N : News h₀ env.locals s.heap L0) (hl : ∀ p ∈ up c₀ L0, p ∈ L0) (hcls : ∀ i c, P i c → ∀ p ∈ up c L0, p.1 ∈ L0.map (·.1) ∨ p.2.cls ≠ .type "range_iterator") (hr : Reads m (ps c₀)) (hP : P 0 c₀)
    (turn : ∀ I, AllLt I L0 → ∀ (i : Nat) tv c u t h tk oI, i < n → P i c → oI.cls = .type "range_iterator" → Fr h₀ env.locals h (fun y => if y = x then some (.int (a + i) tv) else ov u t 0 (ps c) y) → News h₀ env.locals h ((I, oI) :: up c L0) →
      wpAny (model prog w) A (execs body env) (Step h₀ env.locals { s with heap := h, toks := tk } (fun c => (I, oI) :: up c L0) ps (P (i + 1)) Q) E { s with heap := h, toks := tk })
    (done : ∀ c u t h tk, P n c → Fr h₀ env.locals h (ov u t 0 (ps c)) → News h₀ env.locals h (up c L0) → Q .next { s with heap := h, toks := tk }) :
    wpAny (model prog w) A (pyIter (.ref r)) (fun it s₂ => LoopAtV prog w A h₀ env x body Q E it s₂) E s := by
  refine wpAny_pyIter_range hrg hsmall ?_
  have W := Walks.range (prog := prog) (w := w) hh s.heap.objs.size a 1 n
  have hlt : ∀ p ∈ L0, p.1 < s.heap.objs.size := fun p hp => News.lt N hp
  have hnew := next_is_new F
  refine ⟨s.heap.objs.size, _, _, n, _, _, m, up c₀ L0, fun i m₁ news₁ => ∃ c, P i c ∧ Reads m₁ (ps c) ∧ news₁ = up c L0, rfl, W, ?_, ?_, ?_, (by show IsRangeIter _ _ _ _ _; rw [hn]; simpa using Heap.get?_push_size _ rfl), F.push _, (fun p hp => ⟨Heap.get?_push_of_some _ (N p (hl p hp)).1, (N p (hl p hp)).2⟩), ⟨c₀, hP, hr, rfl⟩, ?_, ?_⟩
  · intro hm
    exact absurd (Fr.lt F) ((List.mem_singleton.mp hm) ▸ Nat.lt_irrefl _)
  · intro b hb
    rw [List.mem_singleton.mp hb]
    exact hnew
  · intro p hp hI
    exact absurd (hlt p (hl p hp)) (by rw [List.mem_singleton.mp hI]; exact Nat.lt_irrefl _)
  · rintro i v m₁ news₁ s₁ own ⟨h, tk, rfl⟩ hi hv ⟨c, hPc, hrc, rfl⟩ _ hsub hget hfo hSt F₁ N₁
    obtain ⟨tv, rfl⟩ := hv
    rw [Int.mul_one] at F₁
    obtain ⟨t, et⟩ := Reads.ov hrc
    rw [← et] at F₁
    have hoI := hfo _ (List.mem_singleton.mpr rfl) hnew _ hSt
    have hgI := hget _ hoI
    generalize ho : (itR (a + (↑(i + 1) : Int) * 1) (↑n - ↑(i + 1))) = oI at *
    have hgI' : h.get? s.heap.objs.size = some oI := by rw [← ho]; exact hSt
    have hoI' : (s.heap.objs.size, oI) ∈ own := by rw [← ho]; exact hoI
    have N₂ : News h₀ env.locals h ((s.heap.objs.size, oI) :: up c L0) := fun p hp => by
      rcases List.mem_cons.mp hp with rfl | hp
      · exact N₁ _ (List.mem_append_left _ hoI')
      · exact N₁ _ (List.mem_append_right _ hp)
    refine wpAny_mono (turn _ (all_ltI hlt) i tv c m₁ t h tk oI hi hPc (by rw [← ho]; rfl) F₁ N₂) (fun f s₃ hf => ?_) fun _ _ e => e
    have go : Turn h₀ env.locals { s with heap := h, toks := tk } (fun c => (s.heap.objs.size, oI) :: up c L0) ps (P (i + 1)) s₃ → LoopStepU h₀ env.locals [s.heap.objs.size] own (fun m₁ news₁ => ∃ c, P (i + 1) c ∧ Reads m₁ (ps c) ∧ news₁ = up c L0) { s with heap := h, toks := tk } .next s₃ := by
      rintro ⟨c', h', tk', m', news', rfl, F', N', hl', hr', hP'⟩
      refine LoopStepU.intro (news₂ := up c' L0) F' (fun p hp => ?_) (fun p hp hI => ?_) ⟨c', hP', hr', rfl⟩
      · rcases List.mem_append.mp hp with hp | hp
        · have h1 : p.1 = s.heap.objs.size := List.mem_singleton.mp (hsub p hp)
          have h2 := hget p hp
          rw [h1] at h2
          have h3 : p = (s.heap.objs.size, oI) := Prod.ext h1 (Option.some.inj (h2.symm.trans hgI'))
          rw [h3]; exact N' _ (hl' _ (List.mem_cons_self ..))
        · exact N' _ (hl' _ (List.mem_cons_of_mem _ hp))
      · have hI := List.mem_singleton.mp hI
        rcases hcls _ c' hP' p hp with q | q
        · obtain ⟨p0, hp0, e0⟩ := List.mem_map.mp q
          exact absurd (hlt p0 hp0) (by rw [e0, hI]; exact Nat.lt_irrefl _)
        · have g1 := (N' _ (hl' _ (List.mem_cons_of_mem _ hp))).1
          have g2 := (N' _ (hl' _ (List.mem_cons_self ..))).1
          rw [hI] at g1
          exact q (by rw [Option.some.inj (g1.symm.trans g2), ← ho]; rfl)
    cases f with
    | next => exact .next (go hf)
    | cont => exact .cont (go hf)
    | brk => exact .brk hf
    | ret v => exact .ret hf
  · rintro h' tk m' news' F' N' _ ⟨c, hPc, hrc, rfl⟩
    obtain ⟨t, et⟩ := Reads.ov hrc
    rw [← et] at F'
    exact done c m' t h' tk hPc F' N'

/-- a for over a list of the ledger, any target -/
theorem list_ovT {σ : Type} {target : Expr} {l : Addr} {lo : Obj} {vs : List Value} {m : Str → Option Value} {L0 : List (Addr × Obj)}
    (up : σ → List (Addr × Obj) → List (Addr × Obj)) (ps : σ → List (Str × VT)) (P : Nat → σ → Prop) (c₀ : σ) (hh : A.handled = none) (hls : s.heap.IsList l vs.toArray) (hlo : (l, lo) ∈ L0)
    (F : Fr h₀ env.locals s.heap m) (N : News h₀ env.locals s.heap L0) (hl : ∀ p ∈ up c₀ L0, p ∈ L0) (hmem : ∀ i c, P i c → (l, lo) ∈ up c L0) (hcls : ∀ i c, P i c → ∀ p ∈ up c L0, p.1 ∈ L0.map (·.1) ∨ p.2.cls ≠ .type "list_iterator") (hr : Reads m (ps c₀)) (hP : P 0 c₀)
    (turn : ∀ I, AllLt I L0 → ∀ (i : Nat) v c u t s₁ oI, vs[i]? = some v → P i c → oI.cls = .type "list_iterator" → Fr h₀ env.locals (Shared.heap s₁) (ov u t 0 (ps c)) → News h₀ env.locals (Shared.heap s₁) ((I, oI) :: up c L0) →
      wpAny (model prog w) A (assign target env v) (fun _ s₂ => wpAny (model prog w) A (execs body env) (fun f s₃ => f = .next ∧ Turn h₀ env.locals s₁ (fun c => (I, oI) :: up c L0) ps (P (i + 1)) s₃) E s₂) E s₁)
    (done : ∀ c u t h tk, P vs.length c → Fr h₀ env.locals h (ov u t 0 (ps c)) → News h₀ env.locals h (up c L0) → Q .next { s with heap := h, toks := tk }) :
    wpAny (model prog w) A (pyIter (.ref l)) (fun it s₂ => LoopAtT prog w A h₀ env target body Q E it s₂) E s := by
  have hgl := N _ hlo
  have hltl : l < s.heap.objs.size := Heap.lt_size hgl.1
  have hne : l ≠ s.heap.objs.size := Nat.ne_of_lt hltl
  have hlt : ∀ p ∈ L0, p.1 < s.heap.objs.size := fun p hp => News.lt N hp
  have hnew := next_is_new F
  refine wpAny_pyIter_list hls ?_
  have W := Walks.list (prog := prog) (w := w) hh s.heap.objs.size l hne vs.toArray
  rw [List.size_toArray] at W
  refine ⟨s.heap.objs.size, _, _, vs.length, _, _, m, up c₀ L0, fun i m₁ news₁ => ∃ c, P i c ∧ Reads m₁ (ps c) ∧ news₁ = up c L0, rfl, W, ?_, ?_, ?_, ⟨⟨_, Heap.get?_push_size _ rfl, rfl, rfl⟩, hls.at fun o e => Heap.get?_push_of_some _ e⟩, F.push _, (fun p hp => ⟨Heap.get?_push_of_some _ (N p (hl p hp)).1, (N p (hl p hp)).2⟩), (fun i s' v Q' st hQ' => letGo_listiter st.1 hQ'), ⟨c₀, hP, hr, rfl⟩, ?_, ?_⟩
  · intro hm
    rcases List.mem_cons.mp hm with e | hm
    · exact absurd (Fr.lt F) (e ▸ Nat.lt_irrefl _)
    · exact hgl.2.1 (List.mem_singleton.mp hm).symm
  · intro b hb
    rw [List.mem_singleton.mp hb]
    exact hnew
  · intro p hp hI
    exact absurd (hlt p (hl p hp)) (by rw [List.mem_singleton.mp hI]; exact Nat.lt_irrefl _)
  · rintro i v m₁ news₁ s₁ own hi hv ⟨c, hPc, hrc, rfl⟩ _ hsub hget hfo hSt F₁ N₁
    obtain ⟨t, et⟩ := Reads.ov hrc
    rw [← et] at F₁
    obtain ⟨⟨oI, hgI, hcI, _⟩, _⟩ := id hSt
    have hoI := hfo _ (List.mem_cons_self ..) hnew _ hgI
    have N₂ : News h₀ env.locals s₁.heap ((s.heap.objs.size, oI) :: up c L0) := fun p hp => by
      rcases List.mem_cons.mp hp with rfl | hp
      · exact N₁ _ (List.mem_append_left _ hoI)
      · exact N₁ _ (List.mem_append_right _ hp)
    refine wpAny_mono (turn _ (all_ltI hlt) i v c m₁ t s₁ oI (by simpa using hv) hPc hcI F₁ N₂) (fun _ s₂ h₂ => wpAny_mono h₂ (fun f s₃ hf => ?_) fun _ _ e => e) fun _ _ e => e
    obtain ⟨rfl, c', h', tk', m', news', rfl, F', N', hl', hr', hP'⟩ := hf
    refine LoopStepU.intro (news₂ := up c' L0) F' (fun p hp => ?_) (fun p hp hI => ?_) ⟨c', hP', hr', rfl⟩
    · rcases List.mem_append.mp hp with hp | hp
      · have h2 := hget p hp
        rcases List.mem_cons.mp (hsub p hp) with h1 | h1
        · rw [h1] at h2
          have h3 : p = (s.heap.objs.size, oI) := Prod.ext h1 (Option.some.inj (h2.symm.trans hgI))
          rw [h3]; exact N' _ (hl' _ (List.mem_cons_self ..))
        · have h1 := List.mem_singleton.mp h1
          rw [h1] at h2
          have h3 : p = (l, lo) := Prod.ext h1 (Option.some.inj (h2.symm.trans (N₂ _ (List.mem_cons_of_mem _ (hmem i c hPc))).1))
          rw [h3]; exact N' _ (hl' _ (List.mem_cons_of_mem _ (hmem _ c' hP')))
      · exact N' _ (hl' _ (List.mem_cons_of_mem _ hp))
    · have hI := List.mem_singleton.mp hI
      rcases hcls _ c' hP' p hp with q | q
      · obtain ⟨p0, hp0, e0⟩ := List.mem_map.mp q
        exact absurd (hlt p0 hp0) (by rw [e0, hI]; exact Nat.lt_irrefl _)
      · have g1 := (N' _ (hl' _ (List.mem_cons_of_mem _ hp))).1
        have g2 := (N' _ (hl' _ (List.mem_cons_self ..))).1
        rw [hI] at g1
        exact q (by rw [Option.some.inj (g1.symm.trans g2)]; exact hcI)
  · rintro h' tk m' news' F' N' _ ⟨c, hPc, hrc, rfl⟩
    obtain ⟨t, et⟩ := Reads.ov hrc
    rw [← et] at F'
    exact done c m' t h' tk hPc F' N'
end
end Mine
end

section
open PySem PySem.W PyProof.Rows PySem.Calls PySem.Spec
set_option maxRecDepth 100000
namespace Mine
def wayN (y : Int) : Nat := [120, 100, 111, 97].getD (y.fmod 4).toNat 0
def partOf (d : Int) : Part := ⟨decide (d.fmod 2 = 0), (1 + (d.fdiv 2).fmod 3).toNat, wayN (d.fdiv 6)⟩
theorem fmod_at (x : Int) {n : Int} (h : 0 < n) : 0 ≤ x.fmod n ∧ x.fmod n < n := ⟨Int.fmod_nonneg_of_pos _ h, Int.fmod_lt_of_pos _ h⟩
theorem wayN_ok (y : Int) : wayN y = 120 ∨ wayN y = 100 ∨ wayN y = 111 ∨ wayN y = 97 := by
  unfold wayN
  obtain ⟨h0, h1⟩ := fmod_at y (show (0 : Int) < 4 by decide)
  have : y.fmod 4 = 0 ∨ y.fmod 4 = 1 ∨ y.fmod 4 = 2 ∨ y.fmod 4 = 3 := by omega
  rcases this with h | h | h | h <;> rw [h]
  · exact .inl rfl
  · exact .inr (.inl rfl)
  · exact .inr (.inr (.inl rfl))
  · exact .inr (.inr (.inr rfl))
theorem partOf_ok (d : Int) : (partOf d).Ok := by
  obtain ⟨h0, h1⟩ := fmod_at (d.fdiv 2) (show (0 : Int) < 3 by decide)
  exact ⟨by show 1 ≤ (1 + (d.fdiv 2).fmod 3).toNat; omega, by show (1 + (d.fdiv 2).fmod 3).toNat ≤ 3; omega, wayN_ok _⟩
theorem way_item (y : Int) : Txt.item (Str.ofString "xdoa") (y.fmod 4) = sA [wayN y] := by
  obtain ⟨h0, h1⟩ := fmod_at y (show (0 : Int) < 4 by decide)
  unfold wayN
  have : y.fmod 4 = 0 ∨ y.fmod 4 = 1 ∨ y.fmod 4 = 2 ∨ y.fmod 4 = 3 := by omega
  rcases this with h | h | h | h <;> rw [h] <;> decide +kernel
def TupObj (p : Part) (o : Obj) : Prop := ∃ t1 t2 : Tok, o = { cls := .type "tuple", data := .seq #[.bool p.rep, .int (p.len : Int) t1, .str (sA [p.way]) t2] }
theorem partOf_obj {d : Int} {t1 t2 : Tok} {o : Obj} (h : o = { cls := .type "tuple", data := .seq #[.bool (d.fmod 2 == 0), .int (1 + (d.fdiv 2).fmod 3) t1, .str (sA [wayN (d.fdiv 6)]) t2] }) : TupObj (partOf d) o := by
  obtain ⟨h0, h1⟩ := fmod_at (d.fdiv 2) (show (0 : Int) < 3 by decide)
  refine ⟨t1, t2, ?_⟩
  rw [h]
  have e1 : (partOf d).rep = (d.fmod 2 == 0) := by show decide (d.fmod 2 = 0) = _; rfl
  have e2 : ((partOf d).len : Int) = 1 + (d.fdiv 2).fmod 3 := by show (((1 + (d.fdiv 2).fmod 3).toNat : Nat) : Int) = _; omega
  rw [e1, e2]; rfl
structure TupsAt (parts : List Part) (vs : List Value) (tups : List (Addr × Obj)) : Prop where
  len : vs.length = parts.length
  item : ∀ (i : Nat) (p : Part), parts[i]? = some p → ∃ (a : Addr) (o : Obj), vs[i]? = some (Value.ref a) ∧ (a, o) ∈ tups ∧ TupObj p o
  cls : ∀ q ∈ tups, q.2.cls = .type "tuple"
theorem TupsAt.nil : TupsAt [] [] [] := ⟨rfl, fun i p h => by simp at h, fun q h => by cases h⟩
theorem TupsAt.snoc {parts : List Part} {vs : List Value} {tups : List (Addr × Obj)} {p : Part} {a : Addr} {o : Obj} (T : TupsAt parts vs tups) (ho : TupObj p o) : TupsAt (parts ++ [p]) (vs ++ [Value.ref a]) ((a, o) :: tups) := by
  refine ⟨by simp [T.len], fun i q h => ?_, fun q h => ?_⟩
  · by_cases hi : i < parts.length
    · rw [List.getElem?_append_left hi] at h
      obtain ⟨b, o', h1, h2, h3⟩ := T.item i q h
      exact ⟨b, o', by rw [List.getElem?_append_left (by rw [T.len]; exact hi)]; exact h1, .tail _ h2, h3⟩
    · rw [List.getElem?_append_right (by omega)] at h
      have hi0 : i - parts.length = 0 := by
        cases e : i - parts.length with
        | zero => rfl
        | succ k => rw [e] at h; simp at h
      rw [hi0] at h
      cases h
      exact ⟨a, o, by rw [List.getElem?_append_right (by rw [T.len]; omega), T.len, hi0]; rfl, .head _, ho⟩
  · rcases List.mem_cons.mp h with rfl | h
    · obtain ⟨_, _, rfl⟩ := ho; rfl
    · exact T.cls q h
section
variable {prog : Program} {w : World} {A : Around} {E : Value → Shared → Prop} {s : Shared} {value slice : Expr} {Q : Value → Shared → Prop}
theorem way_at {y : Int} {t u : Tok} (h : Q (.str (sA [wayN y]) s.toks) { s with toks := s.toks + 1 })
    (hs : subscripted slice false (.str (Str.ofString "xdoa") t) (.int (y.fmod 4) u) = operate [.str (Str.ofString "xdoa") t, .int (y.fmod 4) u] (getItem (.str (Str.ofString "xdoa") t) (.int (y.fmod 4) u)) := by with_unfolding_all rfl)
    (ht : ∀ r, letTemporaryGo value (.str (Str.ofString "xdoa") t) r = pure () := by intro _; with_unfolding_all rfl) :
    wpAny (model prog w) A (subscriptTail value slice (.str (Str.ofString "xdoa") t) (.int (y.fmod 4) u)) Q E s := by
  obtain ⟨h0, h1⟩ := fmod_at y (show (0 : Int) < 4 by decide)
  refine item_str (by rw [fitsSsize]; simp; omega) (by show -(4 : Int) ≤ _; omega) (by show _ < (4 : Int); omega) (fun _ => ?_) hs ht
  rw [way_item]; exact h
end
end Mine
end

section
open PySem PySem.W PyProof.Rows PySem.Calls PySem.Spec LCg LCp
set_option maxRecDepth 100000
set_option maxHeartbeats 2000000
namespace Mine
def partT (p : Part) : Str := sA p.text
section
variable {prog : Program} {w : World} {A : Around} {E : Value → Shared → Prop} {s : Shared} {env : Env}
/-- a comprehension over a list of triples, its element a text that reads alone -/
theorem ListComp_3 {elt iter : Expr} {x x₂ x₃ : Str} {px px₂ px₃ tp : Pos} {tk} {scope : Scope} {cl : List (Str × Addr)} {pos : Pos} {Q : Value → Shared → Prop}
    (hh : A.handled = none) (hclos : closureFor scope env = pure cl) (hcell : ∀ y ∈ scope.names, y.2 ≠ .cell) (hkind : scope.kind = .function)
    (hnames : ∀ y ∈ scope.names, y.2 = .local → scope.names.lookup y.1 = some .local) (hx : scope.names.lookup x = some .local) (hx₂ : scope.names.lookup x₂ = some .local) (hx₃ : scope.names.lookup x₃ = some .local)
    (h12 : x ≠ x₂) (h13 : x ≠ x₃) (h23 : x₂ ≠ x₃)
    (h : wpAny (model prog w) A (eval iter env) (fun xv s₁ => ∃ (ax : Addr) (vs : List Value) (ps : List Part), xv = .ref ax ∧ s₁.heap.IsList ax vs.toArray ∧ vs.length = ps.length ∧ vs.length ≤ 1000 ∧
      (∀ (i : Nat) (p : Part), ps[i]? = some p → ∃ (a : Addr) (t1 t2 : Tok), vs[i]? = some (Value.ref a) ∧ IsTup s₁.heap a #[.bool p.rep, .int (p.len : Int) t1, .str (sA [p.way]) t2]) ∧
      (∀ C (p : Part) t1 t2 s₃ m₂ E', p ∈ ps → (Shared.heap s₃).Ns C m₂ → m₂ x = some (.bool p.rep) → m₂ x₂ = some (.int (p.len : Int) t1) → m₂ x₃ = some (.str (sA [p.way]) t2) →
        wpAny (model prog w) A (eval elt (compEnvC scope cl C env)) (fun y s₄ => (∃ t, y = .str (partT p) t) ∧ Keeps s₃ s₄) E' s₃) ∧
      (∀ D h' tk (ys : List Value), s₁.heap.get? D = none → h'.IsList D ys.toArray → StrsAre ys (ps.map partT) → s₁.heap.StaysIn h' → Q (.ref D) { s₁ with heap := h', toks := tk })) E s)
    (hs : ∀ x, foldedSetIterable iter env x = pure x := by intro _; rfl) :
    wpAny (model prog w) A (eval (.ListComp elt [⟨.Tuple [.Name x px, .Name x₂ px₂, .Name x₃ px₃] tk tp, iter, [], 0⟩] scope pos) env) Q E s := by
  rw [eval_ListComp]
  refine wpAny_comprehension_free (use := none) rfl hs hclos hkind hnames (wpAny_mono h (fun xv s₁ h₁ => ?_) fun _ _ e => e)
  obtain ⟨ax, vs, ps, rfl, hl, hlen, hsz, htup, helt, hQ⟩ := h₁
  have hlt : ax < s₁.heap.objs.size := by obtain ⟨_, e, _⟩ := hl; exact Heap.lt_size e
  refine wpAny_pyIter_list hl ?_
  have W := Walks.list (prog := prog) (w := w) (A := A) hh s₁.heap.objs.size ax (Nat.ne_of_lt hlt) vs.toArray
  rw [List.size_toArray] at W
  refine wpAny_newObj_type (wpAny_newFunctionEnv hcell (by intro y hy; simp at hy) (fun h₁ hns₁ hsb₁ => ?_) hkind)
  dsimp only at hns₁ hsb₁ ⊢
  generalize hH1 : s₁.heap.push { cls := .type "list_iterator", data := .fields #[.ref ax, .int 0 0] } = H1 at hns₁ hsb₁ ⊢
  have hD : H1.objs.size = s₁.heap.objs.size + 1 := by rw [← hH1, Heap.size_push]
  generalize hH2 : H1.push { cls := .type "list", dict := none, data := .seq ([] : List Value).toArray } = H2 at hns₁ hsb₁ ⊢
  have hC : H2.objs.size = s₁.heap.objs.size + 2 := by rw [← hH2, Heap.size_push, hD]
  have hDI : H1.objs.size ≠ s₁.heap.objs.size := by rw [hD]; exact Nat.succ_ne_self _
  have hDC : H1.objs.size ≠ H2.objs.size := by rw [hD, hC]; exact Nat.ne_of_lt (Nat.lt_succ_self _)
  have hIC : s₁.heap.objs.size ≠ H2.objs.size := by rw [hC]; exact Nat.ne_of_lt (Nat.lt_succ_of_lt (Nat.lt_succ_self _))
  have below : ∀ b, b < s₁.heap.objs.size → b ≠ H2.objs.size ∧ b ≠ s₁.heap.objs.size ∧ b ≠ H1.objs.size := fun b hb =>
    ⟨by rw [hC]; exact Nat.ne_of_lt (Nat.lt_succ_of_lt (Nat.lt_succ_of_lt hb)), Nat.ne_of_lt hb, by rw [hD]; exact Nat.ne_of_lt (Nat.lt_succ_of_lt hb)⟩
  have old : ∀ b o, s₁.heap.get? b = some o → h₁.get? b = some o := fun b o e =>
    hsb₁.extBut b o (below b (Heap.lt_size e)).1 (Heap.get?_push_of_some _ (hH2 ▸ Heap.get?_push_of_some _ (hH1 ▸ Heap.get?_push_of_some _ e)))
  have hit : h₁.IsListIter s₁.heap.objs.size ax 0 :=
    ⟨_, hsb₁.extBut _ _ hIC (Heap.get?_push_of_some _ (hH2 ▸ Heap.get?_push_of_some _ (hH1 ▸ Heap.get?_push_size _ rfl))), rfl, rfl⟩
  have hacc : h₁.get? H1.objs.size = some (lst []) := hsb₁.extBut _ _ hDC (Heap.get?_push_of_some _ (hH2 ▸ Heap.get?_push_size _ rfl))
  have hl₁ : h₁.IsList ax vs.toArray := hl.at fun o e => old _ _ e
  have hnew : s₁.heap.get? H1.objs.size = none := get_none (by rw [hD]; exact Nat.le_succ _)
  have loop : ∀ s₂ : Shared, s₂ = { s₁ with heap := h₁, toks := s₁.toks + ([] : List (Str × Value)).length } →
      codeAny (model prog w) A (.compLoop (.ListComp elt [⟨.Tuple [.Name x px, .Name x₂ px₂, .Name x₃ px₃] tk tp, iter, [], 0⟩] scope pos) 0 (.ref s₁.heap.objs.size) (.ref H1.objs.size) (compEnvC scope cl H2.objs.size env))
        (compPost (model prog w) A E none Q (.ref H1.objs.size) H2.objs.size) s₂ := by
    rintro s₂ rfl
    refine codeAny_compLoop_pair
      (fun k s' => ∃ h' tk i ys m', s' = { s₁ with heap := h', toks := tk } ∧ i ≤ vs.length ∧ k = vs.length + 1 - i ∧ ys.length = i ∧ h'.IsListIter s₁.heap.objs.size ax i ∧ h'.IsList ax vs.toArray ∧ h'.Ns H2.objs.size m' ∧ h'.get? H1.objs.size = some (lst ys) ∧
        StrsAre ys ((ps.take i).map partT) ∧ ∀ b o, s₁.heap.get? b = some o → h'.get? b = some o) ?_ (vs.length + 1)
      ⟨h₁, _, 0, [], _, rfl, Nat.zero_le _, rfl, rfl, hit, hl₁, hns₁, hacc, by simpa using StrsAre.nil, old⟩
    rintro k s' ⟨h', tk', i, ys, m', rfl, hi, rfl, hyl, hit', hl', hn', hacc', hys, hk'⟩
    by_cases hlt' : i < vs.length
    · refine W.item i _ _ _ hlt' ⟨hit', hl'⟩ fun v h₂ tk₂ hPv hst₂ hk₂ => ?_
      obtain ⟨p, hp⟩ : ∃ p, ps[i]? = some p := ⟨ps[i]'(by omega), by simp⟩
      obtain ⟨a, t1, t2, hva, hta⟩ := htup i p hp
      have hv : v = .ref a := by
        have : vs[i]? = some v := by simpa using hPv
        rw [hva] at this; exact (Option.some.inj this).symm
      subst hv
      have hk2 : ∀ b o, s₁.heap.get? b = some o → h₂.get? b = some o := fun b o e => hk₂ b o (by simpa using (below b (Heap.lt_size e)).2.1) (hk' b o e)
      refine wpAny_letOwnedTupleGo_listiter hst₂.1 ?_
      refine assign_Tuple_tuple hh (hta.keeps hk2) rfl rfl fun h₅ he => ?_
      have he' : ∀ b o, h₂.get? b = some o → h₅.get? b = some o := fun b o e => he b o (Nat.ne_of_lt (Heap.lt_size e)) e
      refine assignInOrder_cons (wpAny_assign_Name (wpAny_storeName_local (lookup_relabel_local hx) ((hn'.at' fun o e => hk₂ _ o (by simpa using Ne.symm hIC) e).at' fun o e => he' _ o e) (fun h₆ hn₆ hs₆ => ?_) (by simp [compEnvC, relabel, hkind])))
      refine assignInOrder_cons (wpAny_assign_Name (wpAny_storeName_local (lookup_relabel_local hx₂) hn₆ (fun h₇ hn₇ hs₇ => ?_) (by simp [compEnvC, relabel, hkind])))
      refine assignInOrder_cons (wpAny_assign_Name (wpAny_storeName_local (lookup_relabel_local hx₃) hn₇ (fun h₃ hn₃ hs₃ => ?_) (by simp [compEnvC, relabel, hkind])))
      refine assignInOrder_nil ?_
      have old3 : ∀ b o, b ≠ H2.objs.size → h₂.get? b = some o → h₃.get? b = some o := fun b o hb e => hs₃.extBut b o hb (hs₇.extBut b o hb (hs₆.extBut b o hb (he' b o e)))
      refine wpAny_mono (helt H2.objs.size p t1 t2 _ _ _ (List.mem_of_getElem? hp) hn₃ (by simp [h12, h13]) (by simp [h23]) (by simp)) (fun y s₄ h₄ => ?_) fun _ _ e => e
      obtain ⟨⟨ty, rfl⟩, h₄, tk₄, rfl, hk₄⟩ := h₄
      have hD2 : h₂.get? H1.objs.size = some (lst ys) := hk₂ _ _ (by simpa using hDI) hacc'
      have hD4 : h₄.get? H1.objs.size = some (lst ys) := hk₄ _ _ (old3 _ _ hDC hD2)
      refine append_at (hsz := by show ys.toArray.size ≤ sizeLine; rw [List.size_toArray, hyl, sizeLine_eq]; omega) hD4 fun h₈ hs₈ hD₈ => ?_
      refine ⟨vs.length + 1 - (i + 1), by omega, h₈, tk₄, i + 1, ys ++ [.str (partT p) ty], _, rfl, hlt', rfl, by rw [List.length_append, List.length_singleton, hyl], ?_, ?_, (hn₃.keeps hk₄).sameBut hs₈ (Ne.symm hDC), hD₈.trans (congrArg some (lst_snoc ys _)), ?_, ?_⟩
      · exact ((hst₂.1.at fun o e => old3 _ o hIC e).at fun o e => hk₄ _ o e).extBut hs₈.extBut (Ne.symm hDI)
      · exact ((hst₂.2.at fun o e => old3 _ o (below ax hlt).1 e).at fun o e => hk₄ _ o e).extBut hs₈.extBut (below ax hlt).2.2
      · rw [List.take_add_one, hp, List.map_append]
        exact StrsAre.append' hys (.cons _ ty .nil)
      · exact fun b o e => hs₈.extBut b o (below b (Heap.lt_size e)).2.2 (hk₄ b o (old3 b o (below b (Heap.lt_size e)).1 (hk2 b o e)))
    · obtain rfl : i = vs.length := Nat.le_antisymm hi (Nat.not_lt.mp hlt')
      refine W.done _ _ _ ⟨hit', hl'⟩ fun h₂ tk₂ hk₂ => ?_
      refine ⟨m', hn'.at' fun o e => hk₂ _ o (by simpa using Ne.symm hIC) e, fun h'' hs'' => hQ _ h'' tk₂ ys hnew ?_ ?_ ?_⟩
      · exact ⟨_, hs''.extBut _ _ hDC (hk₂ _ _ (by simpa using hDI) hacc'), rfl, _, rfl⟩
      · rw [hlen, List.take_length] at hys; exact hys
      · exact fun b o e => hs''.extBut b o (below b (Heap.lt_size e)).1 (hk₂ b o (by simpa using (below b (Heap.lt_size e)).2.1) (hk' b o e))
  exact codeAny_compStart_list (loop _ rfl) (W.self 0 _ _ _ ⟨hit, hl₁⟩ (loop _ rfl))
end
end Mine
end

section
open PySem PySem.W PyProof.Rows PySem.Calls PySem.Spec LCg LCp
set_option maxRecDepth 100000
set_option maxHeartbeats 2000000
namespace Mine
theorem dig123 {n : Nat} (h1 : 1 ≤ n) (h3 : n ≤ 3) : Txt.item (Str.ofString "123") ((n : Int) - 1) = sA [48 + n] := by
  have : n = 1 ∨ n = 2 ∨ n = 3 := by omega
  rcases this with rfl | rfl | rfl <;> decide +kernel
theorem tups_isTup {h₀ h : Heap} {L : Addr} {l : List (Addr × Obj)} {parts : List Part} {vs : List Value} {tups : List (Addr × Obj)} (N : News h₀ L h l) (hl : ∀ p ∈ tups, p ∈ l) (T : TupsAt parts vs tups) (i : Nat) (p : Part) (hp : parts[i]? = some p) :
    ∃ (a : Addr) (t1 t2 : Tok), vs[i]? = some (Value.ref a) ∧ IsTup h a #[.bool p.rep, .int (p.len : Int) t1, .str (sA [p.way]) t2] := by
  obtain ⟨a, o, h1, h2, t1, t2, rfl⟩ := T.item i p hp
  exact ⟨a, t1, t2, h1, _, (N _ (hl _ h2)).1, rfl, _, rfl⟩
theorem hint_join (ps : List Part) : Txt.join (Str.ofString "") (ps.map partT) = sA (hintL ps) := by
  apply ext_cps
  rw [join_flat]
  show _ = (hintL ps).toArray.toList
  rw [List.toList_toArray]
  induction ps with
  | nil => rfl
  | cons p r ih =>
    rw [List.map_cons, List.map_cons, List.flatten_cons, ih]
    show (p.text).toArray.toList ++ hintL r = p.text ++ hintL r
    rw [List.toList_toArray]
theorem hint_weight (ps : List Part) : (((ps.map partT).map (·.length)).sum + (ps.map partT).length) ≤ 4 * ps.length := by
  induction ps with
  | nil => exact Nat.le_refl _
  | cons p r ih =>
    have h1 : (partT p).length ≤ 3 := by unfold partT; rw [sA_len]; exact text_len p
    simp only [List.map_cons, List.sum_cons, List.length_cons, List.length_map] at ih ⊢
    omega
section
variable {prog : Program} {w : World} {A : Around} {E : Value → Shared → Prop} {s : Shared} {env : Env}
theorem name_C {scope : Scope} {cl : List (Str × Addr)} {C : Addr} {x : Str} {px : Pos} {v : Value} {m : Str → Option Value} {Q : Value → Shared → Prop} (hkind : scope.kind = .function) (hx : scope.names.lookup x = some .local) (hd : (x == ("__debug__" : Str)) = false)
    (hns : s.heap.Ns C m) (hm : m x = some v) (h : Q v s) : wpAny (model prog w) A (eval (.Name x px) (compEnvC scope cl C env)) Q E s :=
  wpAny_Name (wpAny_loadName_local (by simp [compEnvC, relabel, hkind]) (lookup_relabel_local hx) hns hm h) hd
theorem hint_elt {scope : Scope} {cl : List (Str × Addr)} {C : Addr} {p0 p1 p2 p3 p4 p5 p6 p7 p8 p9 p10 p11 : Pos} {k1 k2 k3 k4 : Nat} {pt : Part} {t1 t2 : Tok} {m : Str → Option Value} (hp : pt.Ok)
    (hkind : scope.kind = .function) (hr : scope.names.lookup (Str.ofString "repeated") = some .local) (hl : scope.names.lookup (Str.ofString "length") = some .local) (hw : scope.names.lookup (Str.ofString "way") = some .local)
    (hns : s.heap.Ns C m) (h1 : m (Str.ofString "repeated") = some (.bool pt.rep)) (h2 : m (Str.ofString "length") = some (.int (pt.len : Int) t1)) (h3 : m (Str.ofString "way") = some (.str (sA [pt.way]) t2)) :
    wpAny (model prog w) A (eval (Expr.BinOp (Expr.BinOp (Expr.IfExp (Expr.Name (Str.ofString "repeated") p1) (Expr.Constant (.str (Str.ofString "*")) k1 p2) (Expr.Constant (.str (Str.ofString "")) k2 p3) p4) .Add (Expr.Subscript (Expr.Constant (.str (Str.ofString "123")) k3 p5) (Expr.BinOp (Expr.Name (Str.ofString "length") p6) .Sub (Expr.Constant (.int 1) k4 p7) p8) p9) p10) .Add (Expr.Name (Str.ofString "way") p11) p0) (compEnvC scope cl C env))
      (fun y s₄ => (∃ t, y = .str (partT pt) t) ∧ Keeps s s₄) E s := by
  iterate 4 walk1
  refine name_C hkind hr (by decide) hns h1 ?_
  walk1
  have tail : ∀ (x : List Nat) (tx : Tok) (k : Nat), x.length ≤ 1 → x ++ [48 + pt.len, pt.way] = pt.text → wpAny (model prog w) A
      (eval ((Expr.Constant (Const.str (Str.ofString "123")) k3 p5).Subscript ((Expr.Name (Str.ofString "length") p6).BinOp Operator.Sub (Expr.Constant (Const.int 1) k4 p7) p8) p9) (compEnvC scope cl C env))
      (fun b s₂ => wpAny (model prog w) A (binaryOp Operator.Add (Value.str (sA x) tx) b) (fun a s₁ => wpAny (model prog w) A (eval (Expr.Name (Str.ofString "way") p11) (compEnvC scope cl C env))
        (fun b s₂ => wpAny (model prog w) A (binaryOp Operator.Add a b) (fun y s₄ => (∃ t, y = Value.str (partT pt) t) ∧ Keeps s s₄) E s₂) E s₁) E s₂) E { s with toks := k } := by
    intro x tx k hx e
    iterate 3 walk1
    refine name_C hkind hl (by decide) hns h2 ?_
    iterate 2 walk1
    dsimp only
    have q1 := hp.l1
    have q3 := hp.l3
    refine item_str (by rw [fitsSsize]; simp; omega) (by show -(3 : Int) ≤ _; omega) (by show _ < (3 : Int); omega) (fun _ => ?_)
    rw [dig123 q1 q3]
    refine SB.add (fun t5 k5 => ?_) (by rw [sizeLine_eq, sA_len, sA_len]; simp; omega)
    rw [sA_app]
    refine name_C hkind hw (by decide) hns h3 ?_
    refine SB.add (fun t6 k6 => ?_) (by rw [sizeLine_eq, sA_len, sA_len]; simp; omega)
    rw [sA_app]
    refine ⟨⟨t6, ?_⟩, _, _, rfl, fun _ _ e => e⟩
    unfold partT
    rw [← e, List.append_assoc]; rfl
  cases hrep : pt.rep with
  | true =>
    simp only [if_true]
    walk1
    exact tail [42] _ _ (by simp) (by unfold Part.text; rw [hrep]; rfl)
  | false =>
    simp only [Bool.false_eq_true, if_false]
    walk1
    exact tail [] _ _ (by simp) (by unfold Part.text; rw [hrep]; rfl)
end
end Mine
end

section
open PySem PySem.W PyProof.Rows
set_option maxHeartbeats 0
namespace Mine
open_top hd for PySem.Challenge.rw_fh5010_02
end Mine
end

section
open PySem PySem.W PyProof.Rows PySem.Calls PySem.Spec
set_option maxRecDepth 100000
set_option maxHeartbeats 0
namespace Mine
theorem fill : PySem.Challenge.rw_fh5010_02 = PySem.Challenge.rw_fh5010_02 ∧ hd.heap_39 = hd.heap_39 := by
  w_top off
  k_fill
  exact ⟨rfl, rfl⟩
local macro_rules | `(tactic| walk_at "S1") => `(tactic| first | (k_unfold; (try dsimp only)) | (k_end; wrow_close) | walk1 | (dsimp only; walk1) | (leave1; walk_say "STEP leave1"; try dsimp only) | fail "no step")

local macro_rules | `(tactic| walk_at "toWhile") => `(tactic| repeat ((fail_if_success (with_reducible show wpAny _ _ (exec (Stmt.While _ _ _ _) _) _ _ _)); walk_at "S1"))
def digit (d : Nat) : Nat := if d < 10 then 48 + d else 87 + d
/-- the figures of n ahead of told -/
def figA (b : Nat) : Nat → Nat → List Nat → List Nat
  | 0, _, told => told
  | fuel + 1, n, told => if n = 0 then told else figA b fuel (n / b) (digit (n % b) :: told)
theorem figA_fuel {b : Nat} (hb : 2 ≤ b) : ∀ (f g n : Nat) (ts : List Nat), n < f → n < g → figA b f n ts = figA b g n ts
  | 0, _, _, _, h, _ => absurd h (Nat.not_lt_zero _)
  | _, 0, _, _, _, h => absurd h (Nat.not_lt_zero _)
  | f + 1, g + 1, n, ts, hf, hg => by
    unfold figA
    by_cases h0 : n = 0
    · rw [if_pos h0, if_pos h0]
    · rw [if_neg h0, if_neg h0]
      have := Nat.div_lt_self (Nat.pos_of_ne_zero h0) (show 1 < b by omega)
      exact figA_fuel hb f g _ _ (by omega) (by omega)
theorem figA_step {b n : Nat} (hb : 2 ≤ b) (hn : 0 < n) (ts : List Nat) : figA b (n / b + 1) (n / b) (digit (n % b) :: ts) = figA b (n + 1) n ts := by
  have := Nat.div_lt_self hn (show 1 < b by omega)
  rw [figA_fuel hb _ n _ _ (Nat.lt_succ_self _) (by omega)]
  show _ = if n = 0 then ts else figA b n (n / b) (digit (n % b) :: ts)
  rw [if_neg (by omega)]
def figS (n b : Int) : Str := ⟨(figA b.toNat (n.toNat + 1) n.toNat []).toArray⟩
theorem sign_at {d : Int} (h0 : 0 ≤ d) (h1 : d < 16) : Txt.item (Str.ofString "0123456789abcdef") d = ⟨#[digit d.toNat]⟩ := by
  have : d = 0 ∨ d = 1 ∨ d = 2 ∨ d = 3 ∨ d = 4 ∨ d = 5 ∨ d = 6 ∨ d = 7 ∨ d = 8 ∨ d = 9 ∨ d = 10 ∨ d = 11 ∨ d = 12 ∨ d = 13 ∨ d = 14 ∨ d = 15 := by omega
  rcases this with rfl | rfl | rfl | rfl | rfl | rfl | rfl | rfl | rfl | rfl | rfl | rfl | rfl | rfl | rfl | rfl <;> decide +kernel
theorem divmod_nat {k b : Int} (hk : 0 ≤ k) (hb : 2 ≤ b) : 0 ≤ k.fdiv b ∧ (k.fdiv b).toNat = k.toNat / b.toNat ∧ 0 ≤ k.fmod b ∧ k.fmod b < b ∧ (k.fmod b).toNat = k.toNat % b.toNat := by
  obtain ⟨k', rfl⟩ := Int.eq_ofNat_of_zero_le hk
  obtain ⟨b', rfl⟩ := Int.eq_ofNat_of_zero_le (show 0 ≤ b by omega)
  rw [Int.fdiv_eq_ediv_of_nonneg _ (by omega), Int.fmod_eq_emod_of_nonneg _ (by omega)]
  refine ⟨Int.ediv_nonneg (by omega) (by omega), ?_, Int.emod_nonneg _ (by omega), Int.emod_lt_of_pos _ (by omega), ?_⟩
  · rw [← Int.natCast_ediv, Int.toNat_natCast, Int.toNat_natCast, Int.toNat_natCast]
  · rw [← Int.natCast_emod, Int.toNat_natCast, Int.toNat_natCast, Int.toNat_natCast]
theorem str_cons (c : Nat) (ts : List Nat) : (⟨#[c]⟩ : Str) ++ (⟨ts.toArray⟩ : Str) = ⟨(c :: ts).toArray⟩ := by
  show Str.mk (#[c] ++ ts.toArray) = _
  simp
theorem len_mk (ts : List Nat) : (⟨ts.toArray⟩ : Str).length = ts.length := by show ts.toArray.size = _; simp

section
variable {w : World} {p : Program} {loose : List Str} {mean : ExcName → Option Value} {mg mb : Str → Option Value} {dp un : Nat} {gd : Option (List Code)} {env : Env} {outer : List Env} {A₀ : Around} {base h₀ : Heap} {L : Addr} {m : Str → Option Value} {s : Shared} {Q E : Value → Shared → Prop}

theorem figs_spec (B : Below A₀ base outer h₀) (F : Fr h₀ L s.heap m) (X : (hd.heap_39 w.params).In h₀) (T : Top p loose mean mg mb h₀) (hf : env.frame = some L) (hke : env.scope.kind = .function)
    {n b : Int} {tn tb : Tok} (hn0 : 0 ≤ n) (hb2 : 2 ≤ b) (hb16 : b ≤ 16) (hn24 : n < 2 ^ 24) (hd : dp + 3 < recursionLimit) (hu : un + 30 < cLine)
    (hret : ∀ t h' tk', s.heap.StaysIn h' → Q (.str (figS n b) t) { s with heap := h', toks := tk' }) :
    wpAny (model PySem.Challenge.pw_fh5010_02 w) ⟨none, dp, some (env :: outer), gd, un⟩ (call (.ref 409) [.int n tn, .int b tb]) Q E s := by
  refine wpAny_call ?_
  refine' call_B [("number", .int n tn), ("base", .int b tb)] B F X T ?hA hf hke ?ho ?hcd ?hroom ?hbind ?hloc ?hnd ?h ?c1 ?c2 ?c3 ?c4
  case hA => exact rfl
  case ho => k_is
  case hcd => k_is
  case hroom => dsimp only; omega
  case hbind => exact BindsTo.of_eq rfl
  case hloc => exact locs rfl
  case hnd => exact nodup_of rfl
  case c1 => rfl
  case c2 => rfl
  case c3 => rfl
  case c4 => decide
  intro L' h₁ tk F' N' B' X' T'
  dsimp only [bmap] at F'
  (try dsimp only); (try k_fold)
  walk_at "toWhile"
  rename Fr _ _ _ _ => F
  rename News _ _ _ _ => N
  refine' while_ov (σ := Int × List Nat) (fun _ => []) (fun c => [("number", .int c.1), ("told", .str ⟨c.2.toArray⟩), ("base", .int b), ("signs", .str "0123456789abcdef")])
    (fun c => 0 ≤ c.1 ∧ c.1 ≤ n ∧ figA b.toNat (c.1.toNat + 1) c.1.toNat c.2 = figA b.toNat (n.toNat + 1) n.toNat [] ∧ c.2.length + c.1.toNat ≤ n.toNat) (fun c => c.1.toNat) (n, []) F N ?hl ?hr ⟨hn0, Int.le_refl _, rfl, by simp⟩ ?turn ?hE
  case hl => exact fun _ h => by cases h
  case hr => exact ⟨⟨_, rfl⟩, ⟨_, rfl⟩, ⟨_, rfl⟩, ⟨_, rfl⟩, trivial⟩
  case hE => passes_own
  clear F N
  rintro ⟨k, ts⟩ u t h₁ tk₁ ⟨hk0, hkn, hfig, hlen⟩ F N
  dsimp only [ov, VT.at] at hk0 hkn hfig hlen F N
  iterate 6 (walk_at "S1")
  · have hk1 : 0 < k := by assumption
    obtain ⟨hd0, hd1, hm0, hm1, hm2⟩ := divmod_nat hk0 hb2
    iterate 9 (walk_at "S1")
    (try dsimp only)
    refine item_str (by rw [fitsSsize]; simp; omega) (by show -(16 : Int) ≤ _; omega) (by show _ < (16 : Int); omega) (fun hl => ?_)
    rw [sign_at hm0 (by omega), hm2]
    walk_at "S1"
    refine SB.add (fun t5 tk5 => ?_) (by rw [sizeLine_eq, len_mk, len_mk]; show 1 + ts.length ≤ _; omega)
    rw [str_cons]
    iterate 10 (walk_at "S1")
    rename Fr _ _ _ _ => F₂
    rename News _ _ _ _ => N₂
    have hdlt := Nat.div_lt_self (show 0 < k.toNat by omega) (show 1 < b.toNat by omega)
    refine Turn.intro (k.fdiv b, digit (k.toNat % b.toNat) :: ts) F₂ N₂ (fun _ h => h) ⟨⟨_, rfl⟩, ⟨_, rfl⟩, ⟨_, rfl⟩, ⟨_, rfl⟩, trivial⟩ ?_
    dsimp only
    rw [hd1, ← hfig, figA_step (by omega) (by omega), List.length_cons]
    exact ⟨⟨hd0, by omega, rfl, by omega⟩, hdlt⟩
  · have hk1 : k = 0 := by omega
    subst hk1
    dsimp only
    k_steps
    have e : figS n b = ⟨ts.toArray⟩ := by unfold figS; rw [← hfig]; rfl
    rw [← e]
    exact hret _ _ _ (Fr.keep (by k_asm))
end
end Mine
end

section
open PySem PySem.W PyProof.Rows PySem.Calls PySem.Spec
set_option maxRecDepth 100000
set_option maxHeartbeats 0
namespace Mine
theorem fill2 : PySem.Challenge.rw_fh5010_02 = PySem.Challenge.rw_fh5010_02 ∧ hd.heap_39 = hd.heap_39 := by
  w_top off
  k_fill
  exact ⟨rfl, rfl⟩
local macro_rules | `(tactic| walk_at "S1") => `(tactic| first | (k_unfold; (try dsimp only)) | (k_end; wrow_close) | walk1 | (dsimp only; walk1) | (leave1; walk_say "STEP leave1"; try dsimp only) | fail "no step")

local macro_rules | `(tactic| walk_at "toFor") => `(tactic| repeat ((fail_if_success (with_reducible show wpAny _ _ (exec (Stmt.For _ _ _ _ _) _) _ _ _)); walk_at "S1"))
local macro_rules | `(tactic| walk_at "forV") => `(tactic| ((rename Fr _ _ _ _ => kF); refine' For_invV _ ?hx ?hp ?h ?hs ?hE; (case hx => rfl); (case hp => rfl); (case hs => intro _; rfl); (case hE => passes_own)))
local macro_rules | `(tactic| walk_at "toIter") => `(tactic| repeat ((fail_if_success (with_reducible show wpAny _ _ (pyIter _) _ _ _)); walk_at "S1"))
def numOf (ns : List Int) : Int := ns.foldl (fun a x => a * 256 + x) 0
def padS (least : Int) (x : Str) : Str := Txt.mul (Str.ofString "0") (least - x.length) ++ x
def toldOf (way : Str) (ns : List Int) : Str :=
  if way = "a" then ⟨(ns.map Int.toNat).toArray⟩
  else if way = "d" then (if 0 < numOf ns then figS (numOf ns) 10 else "0")
  else if way = "x" then padS 2 (figS (numOf ns) 16) else padS 3 (figS (numOf ns) 8)

theorem fold_fst {β : Type} (g : Int × β → Int → β) : ∀ (ns : List Int) (a : Int) (b : β), (List.foldl (fun (σ : Int × β) n => (σ.1 * 256 + n, g σ n)) (a, b) ns).1 = ns.foldl (fun a x => a * 256 + x) a
  | [], _, _ => rfl
  | n :: r, a, b => by rw [List.foldl_cons, List.foldl_cons]; exact fold_fst g r _ _
local macro_rules | `(tactic| walk_at "after") => `(tactic| (intro t9 h9 tk9 st9; (try dsimp only at st9); (have F9 := Fr.stays (by k_asm) st9); (have N9 := News.stays (by k_asm) st9); clear st9; (try k_sweep); (try dsimp only); (try k_fold)))
local macro_rules | `(tactic| walk_at "call ref") => `(tactic| ((with_reducible show wpAny _ _ (call (Value.ref 409) [Value.int _ _, Value.int _ _]) _ _ _); (refine' figs_spec ?B ?F ?X ?T rfl rfl ?n0 ?b2 ?b16 ?n24 ?d ?u ?_; (case B => k_asm); (case F => k_asm); (case X => k_asm); (case T => k_asm); (case n0 => assumption); (case b2 => decide); (case b16 => decide); (case n24 => assumption); (case d => dsimp only [Around.deeper]; omega); (case u => dsimp only [Around.deeper]; omega)); walk_at "after"))
local macro_rules | `(tactic| walk_at "call builtin:chr") => `(tactic| ((rename (∀ x ∈ _, 0 ≤ x ∧ x < 256) => hb9); (have h9 := hb9 _ (by assumption)); refine PyProof.Rows.chr_of_range (by omega) (by omega) ?_))
theorem numOf_lt {ns : List Int} (hn3 : ns.length ≤ 3) (hb : ∀ x ∈ ns, 0 ≤ x ∧ x < 256) : 0 ≤ numOf ns ∧ numOf ns < 2 ^ 24 := by
  rcases ns with _ | ⟨a, _ | ⟨b, _ | ⟨c, _ | ⟨d, r⟩⟩⟩⟩
  · decide
  · have := hb a (by simp); show 0 ≤ 0 * 256 + a ∧ 0 * 256 + a < 2 ^ 24; omega
  · have := hb a (by simp); have := hb b (by simp); show 0 ≤ (0 * 256 + a) * 256 + b ∧ (0 * 256 + a) * 256 + b < 2 ^ 24; omega
  · have := hb a (by simp); have := hb b (by simp); have := hb c (by simp); show 0 ≤ ((0 * 256 + a) * 256 + b) * 256 + c ∧ ((0 * 256 + a) * 256 + b) * 256 + c < 2 ^ 24; omega
  · simp at hn3

theorem figA_len {b : Nat} (hb : 2 ≤ b) : ∀ (k f n : Nat) (ts : List Nat), n < 2 ^ k → (figA b f n ts).length ≤ k + ts.length
  | k, 0, n, ts, _ => by show ts.length ≤ _; omega
  | 0, f + 1, n, ts, h => by
    have h0 : n = 0 := by simpa using h
    subst h0
    show (if 0 = 0 then ts else _).length ≤ _
    rw [if_pos rfl]; omega
  | k + 1, f + 1, n, ts, h => by
    show (if n = 0 then ts else figA b f (n / b) (digit (n % b) :: ts)).length ≤ _
    by_cases h0 : n = 0
    · rw [if_pos h0]; omega
    · rw [if_neg h0]
      have h1 : n / b < 2 ^ k := by
        have : n / b ≤ n / 2 := Nat.div_le_div_left hb (by decide)
        rw [Nat.pow_succ] at h
        omega
      have := figA_len hb k f (n / b) (digit (n % b) :: ts) h1
      rw [List.length_cons] at this
      omega
theorem figS_len {n b : Int} (h0 : 0 ≤ n) (h1 : n < 2 ^ 24) (hb : 2 ≤ b) : (figS n b).length ≤ 24 := by
  have := figA_len (b := b.toNat) (by omega) 24 (n.toNat + 1) n.toNat [] (by omega)
  unfold figS
  rw [len_mk]
  simpa using this
theorem numOf_snoc {ns : List Int} {i : Nat} {k : Int} (hk : ns[i]? = some k) : numOf (ns.take (i + 1)) = numOf (ns.take i) * 256 + k := by
  unfold numOf
  rw [List.take_add_one, hk]; simp
theorem ints_at {vs : List Value} {ns : List Int} (hi : IntsAre vs ns) {i : Nat} {v : Value} (hv : vs[i]? = some v) : ∃ k t, ns[i]? = some k ∧ v = .int k t := by
  have hlt : i < ns.length := by rw [← hi.length]; exact (List.getElem?_eq_some_iff.mp hv).1
  obtain ⟨t, hx⟩ := hi.get i ns[i] (by simp [hlt])
  rw [hx] at hv
  exact ⟨ns[i], t, by simp [hlt], (Option.some.inj hv).symm⟩
section
variable {w : World} {p : Program} {loose : List Str} {mean : ExcName → Option Value} {mg mb : Str → Option Value} {dp un : Nat} {gd : Option (List Code)} {env : Env} {outer : List Env} {A₀ : Around} {base h₀ : Heap} {L : Addr} {m : Str → Option Value} {s : Shared} {Q E : Value → Shared → Prop}

theorem told_spec (B : Below A₀ base outer h₀) (F : Fr h₀ L s.heap m) (X : (hd.heap_39 w.params).In h₀) (T : Top p loose mean mg mb h₀) (hf : env.frame = some L) (hke : env.scope.kind = .function)
    {way : Str} {l : Addr} {vs : List Value} {ns : List Int} {tw : Tok} (hl : s.heap.IsList l vs.toArray) (hi : IntsAre vs ns) (hw : way = "x" ∨ way = "d" ∨ way = "o" ∨ way = "a") (hn1 : 1 ≤ ns.length) (hn3 : ns.length ≤ 3) (hb : ∀ x ∈ ns, 0 ≤ x ∧ x < 256)
    (hd : dp + 10 < recursionLimit) (hu : un + 100 < cLine)
    (hret : ∀ t h' tk', s.heap.StaysIn h' → Q (.str (toldOf way ns) t) { s with heap := h', toks := tk' }) :
    wpAny (model PySem.Challenge.pw_fh5010_02 w) ⟨none, dp, some (env :: outer), gd, un⟩ (call (.ref 414) [.str way tw, .ref l]) Q E s := by
  refine wpAny_call ?_
  refine' call_B [("way", .str way tw), ("octets", .ref l)] B F X T ?hA hf hke ?ho ?hcd ?hroom ?hbind ?hloc ?hnd ?h ?c1 ?c2 ?c3 ?c4
  case hA => exact rfl
  case ho => k_is
  case hcd => k_is
  case hroom => dsimp only; omega
  case hbind => exact BindsTo.of_eq rfl
  case hloc => exact locs rfl
  case hnd => exact nodup_of rfl
  case c1 => rfl
  case c2 => rfl
  case c3 => rfl
  case c4 => decide
  intro L' h₁ tk F' N' B' X' T'
  dsimp only [bmap] at F'
  (try dsimp only); (try k_fold)
  obtain ⟨hnum0, hnum24⟩ := numOf_lt hn3 hb
  rcases hw with rfl | rfl | rfl | rfl
  · walk_at "toFor"
    refine' For_invV s.heap ?zx ?zp ?_ ?zs ?zE
    case zx => rfl
    case zp => rfl
    case zs => intro _; rfl
    case zE => passes_own
    walk_at "toIter"
    rename Fr _ _ _ _ => F
    rename News _ _ _ _ => N
    refine' iter_ov (σ := Int) (fun _ => []) (fun c => [("number", .int c), ("way", .str "x"), ("octets", .val (.ref l))]) (fun i c => c = numOf (ns.take i)) 0 rfl hl F N ?zl ?zsame ?zr ?zP ?zturn ?zdone
    case zl => exact fun _ h => by cases h
    case zsame => exact fun _ => rfl
    case zr => exact ⟨⟨_, rfl⟩, ⟨_, rfl⟩, ⟨0, rfl⟩, trivial⟩
    case zP => rfl
    case zturn =>
      clear F N
      intro i v c u t h tk own hv hc F N
      dsimp only [ov, VT.at, List.nil_append] at F N
      obtain ⟨k, t9, hk, rfl⟩ := ints_at hi hv
      subst hc
      k_steps
      rename Fr _ _ _ _ => F
      rename News _ _ _ _ => N
      refine Turn.intro (numOf (ns.take i) * 256 + k) F N (fun _ h => h) ⟨⟨_, rfl⟩, ⟨_, rfl⟩, ⟨0, rfl⟩, trivial⟩ (numOf_snoc hk).symm
    case zdone =>
      clear F N
      intro c u t h tk hc F N
      subst hc
      rw [hi.length, List.take_length] at *
      dsimp only [ov, VT.at] at F
      have hlen := figS_len hnum0 hnum24 (show (2 : Int) ≤ 16 by decide)
      k_steps
      exact hret _ _ _ (Fr.keep (by k_asm))
  · walk_at "toFor"
    refine' For_invV s.heap ?zx ?zp ?_ ?zs ?zE
    case zx => rfl
    case zp => rfl
    case zs => intro _; rfl
    case zE => passes_own
    walk_at "toIter"
    rename Fr _ _ _ _ => F
    rename News _ _ _ _ => N
    refine' iter_ov (σ := Int) (fun _ => []) (fun c => [("number", .int c), ("way", .str "d"), ("octets", .val (.ref l))]) (fun i c => c = numOf (ns.take i)) 0 rfl hl F N ?zl ?zsame ?zr ?zP ?zturn ?zdone
    case zl => exact fun _ h => by cases h
    case zsame => exact fun _ => rfl
    case zr => exact ⟨⟨_, rfl⟩, ⟨_, rfl⟩, ⟨0, rfl⟩, trivial⟩
    case zP => rfl
    case zturn =>
      clear F N
      intro i v c u t h tk own hv hc F N
      dsimp only [ov, VT.at, List.nil_append] at F N
      obtain ⟨k, t9, hk, rfl⟩ := ints_at hi hv
      subst hc
      k_steps
      rename Fr _ _ _ _ => F
      rename News _ _ _ _ => N
      refine Turn.intro (numOf (ns.take i) * 256 + k) F N (fun _ h => h) ⟨⟨_, rfl⟩, ⟨_, rfl⟩, ⟨0, rfl⟩, trivial⟩ (numOf_snoc hk).symm
    case zdone =>
      clear F N
      intro c u t h tk hc F N
      subst hc
      rw [hi.length, List.take_length] at *
      dsimp only [ov, VT.at] at F
      have hlen := figS_len hnum0 hnum24 (show (2 : Int) ≤ 10 by decide)
      k_steps
      · have e : toldOf "d" ns = figS (numOf ns) 10 := by rw [show toldOf "d" ns = if 0 < numOf ns then figS (numOf ns) 10 else "0" from rfl, if_pos (by assumption)]
        rw [← e]
        exact hret _ _ _ (Fr.keep (by k_asm))
      · have e : toldOf "d" ns = "0" := by rw [show toldOf "d" ns = if 0 < numOf ns then figS (numOf ns) 10 else "0" from rfl, if_neg (by assumption)]
        rw [← e]
        exact hret _ _ _ (Fr.keep (by k_asm))
  · walk_at "toFor"
    refine' For_invV s.heap ?zx ?zp ?_ ?zs ?zE
    case zx => rfl
    case zp => rfl
    case zs => intro _; rfl
    case zE => passes_own
    walk_at "toIter"
    rename Fr _ _ _ _ => F
    rename News _ _ _ _ => N
    refine' iter_ov (σ := Int) (fun _ => []) (fun c => [("number", .int c), ("way", .str "o"), ("octets", .val (.ref l))]) (fun i c => c = numOf (ns.take i)) 0 rfl hl F N ?zl ?zsame ?zr ?zP ?zturn ?zdone
    case zl => exact fun _ h => by cases h
    case zsame => exact fun _ => rfl
    case zr => exact ⟨⟨_, rfl⟩, ⟨_, rfl⟩, ⟨0, rfl⟩, trivial⟩
    case zP => rfl
    case zturn =>
      clear F N
      intro i v c u t h tk own hv hc F N
      dsimp only [ov, VT.at, List.nil_append] at F N
      obtain ⟨k, t9, hk, rfl⟩ := ints_at hi hv
      subst hc
      k_steps
      rename Fr _ _ _ _ => F
      rename News _ _ _ _ => N
      refine Turn.intro (numOf (ns.take i) * 256 + k) F N (fun _ h => h) ⟨⟨_, rfl⟩, ⟨_, rfl⟩, ⟨0, rfl⟩, trivial⟩ (numOf_snoc hk).symm
    case zdone =>
      clear F N
      intro c u t h tk hc F N
      subst hc
      rw [hi.length, List.take_length] at *
      dsimp only [ov, VT.at] at F
      have hlen := figS_len hnum0 hnum24 (show (2 : Int) ≤ 8 by decide)
      k_steps
      exact hret _ _ _ (Fr.keep (by k_asm))
  · k_steps
    rw [show List.filter (fun _ => true) ns = ns from List.filter_eq_self.mpr fun _ _ => rfl, join_signs]
    exact hret _ _ _ (Fr.keep (by k_asm))
end
end Mine
end

section
open PySem PySem.W PyProof.Rows PySem.Calls PySem.Spec
set_option maxRecDepth 100000
set_option maxHeartbeats 1000000
namespace Mine
open Builtin Builtin.Str
def digsL (b n : Nat) : List Nat := (Nat.toDigits b n).map Char.toNat
theorem digit_char : ∀ k, k < 16 → (Nat.digitChar k).toNat = digit k := by decide
theorem digit_ge : ∀ k, k < 16 → 48 ≤ digit k := by decide
theorem core_fig {b : Nat} (hb : 2 ≤ b) (hb16 : b ≤ 16) : ∀ (f n : Nat) (ds : List Char), n ≠ 0 → n < f → (Nat.toDigitsCore b f n ds).map Char.toNat = figA b f n (ds.map Char.toNat)
  | 0, n, ds, _, h => absurd h (Nat.not_lt_zero _)
  | f + 1, n, ds, h0, h => by
    have hm : n % b < 16 := Nat.lt_of_lt_of_le (Nat.mod_lt _ (by omega)) hb16
    have hdv : n / b < n := Nat.div_lt_self (by omega) (by omega)
    unfold Nat.toDigitsCore figA
    rw [if_neg h0]
    dsimp only
    by_cases hq : n / b = 0
    · rw [if_pos hq, List.map_cons, digit_char _ hm, hq]
      cases f <;> simp [figA]
    · rw [if_neg hq, core_fig hb hb16 f (n / b) _ hq (by omega), List.map_cons, digit_char _ hm]
theorem digs_fig {b n : Nat} (hb : 2 ≤ b) (hb16 : b ≤ 16) (h0 : n ≠ 0) : digsL b n = figA b (n + 1) n [] := core_fig hb hb16 (n + 1) n [] h0 (Nat.lt_succ_self n)
theorem digs_zero {b : Nat} (hb : 2 ≤ b) : digsL b 0 = [48] := by
  unfold digsL Nat.toDigits Nat.toDigitsCore
  simp
  rfl
theorem figA_ge {b : Nat} (hb : 2 ≤ b) (hb16 : b ≤ 16) : ∀ (f n : Nat) (ts : List Nat), (∀ x ∈ ts, 48 ≤ x) → ∀ x ∈ figA b f n ts, 48 ≤ x
  | 0, _, _, h => h
  | f + 1, n, ts, h => by
    unfold figA
    by_cases h0 : n = 0
    · rw [if_pos h0]; exact h
    · rw [if_neg h0]
      refine figA_ge hb hb16 f _ _ fun x hx => ?_
      rcases List.mem_cons.mp hx with rfl | hx
      · exact digit_ge _ (Nat.lt_of_lt_of_le (Nat.mod_lt _ (by omega)) hb16)
      · exact h x hx
theorem digs_ge {b n : Nat} (hb : 2 ≤ b) (hb16 : b ≤ 16) : ∀ x ∈ digsL b n, 48 ≤ x := by
  by_cases h0 : n = 0
  · subst h0; rw [digs_zero hb]; intro x hx; rw [List.mem_singleton.mp hx]; exact Nat.le_refl _
  · rw [digs_fig hb hb16 h0]; exact figA_ge hb hb16 _ _ _ fun _ h => by cases h
theorem digs_len {b n : Nat} (hb : 2 ≤ b) (hb16 : b ≤ 16) (hn : n < 2 ^ 34) : (digsL b n).length ≤ 40 := by
  by_cases h0 : n = 0
  · subst h0; rw [digs_zero hb]; decide
  · rw [digs_fig hb hb16 h0]
    have := figA_len hb 34 (n + 1) n [] hn
    rw [List.length_nil] at this
    omega
def padL (k : Nat) (l : List Nat) : List Nat := List.replicate (k - l.length) 48 ++ l
theorem or_byte {n x : Nat} (h : x < 256) : Builtin.bitOr ((n : Int) * 2 ^ Int.toNat 8) (x : Int) = ((n * 256 + x : Nat) : Int) := by
  have e : ((n : Int) * 2 ^ Int.toNat 8) = ((n * 256 : Nat) : Int) := by
    show (n : Int) * 256 = _
    omega
  rw [e, bitOr_and, bitAnd_pp (by omega) (by omega)]
  have h0 : ((n * 256 : Nat) : Int).toNat &&& (x : Int).toNat = 0 := by
    show (n * 256) &&& x = 0
    have h8 : n * 256 = n <<< 8 := by rw [Nat.shiftLeft_eq]
    apply Nat.eq_of_testBit_eq
    intro i
    rw [Nat.testBit_and, h8, Nat.testBit_shiftLeft, Nat.zero_testBit]
    by_cases hi : 8 ≤ i
    · have : x.testBit i = false := Nat.testBit_lt_two_pow (Nat.lt_of_lt_of_le h (show 2 ^ 8 ≤ 2 ^ i from Nat.pow_le_pow_right (by decide) hi))
      rw [this]; simp
    · simp [hi]
  rw [h0]; omega
theorem field_eq {c : Percent} {k : Nat} {text : List Nat} (hw : c.width = some k) (hp : c.prec = none) (hs : c.sign = false) (hb : c.blank = false) (hl : c.ljust = false) (ha : c.alt = false) (hz : c.zero = true) (ht : c.type = 120 ∨ c.type = 111)
    (hd : ∀ x ∈ text, 48 ≤ x) : percentField c true text = if k ≤ text.length then none else some (padL k text) := by
  unfold percentField
  have e1 : (c.type == 115 || c.type == 114 || c.type == 97) = false := by rcases ht with h | h <;> rw [h] <;> rfl
  simp only [hw, hp, hs, hb, hl, ha, hz, e1, Option.all_some, Option.all_none, Bool.not_false, Bool.and_true, Bool.not_true, Bool.false_eq_true, if_false, if_true, Bool.false_and, Option.getD_some]
  by_cases hk : k ≤ text.length
  · rw [if_pos hk, if_pos (by simpa using hk)]
  · rw [if_neg hk, if_neg (by simpa using hk)]
    rcases text with _ | ⟨x, r⟩
    · simp [padL]
    · have hx := hd x (.head _)
      have h1 : x ≠ 45 := by omega
      have h2 : x ≠ 43 := by omega
      split
      · rename_i heq; cases heq; exact absurd rfl h1
      · rename_i heq; cases heq; exact absurd rfl h2
      · simp [padL]
theorem int_eq {c : Percent} {i : Int} {d : List Nat} (hi : 0 ≤ i) (ha : c.alt = false) (hp : c.prec = none) (ht : c.type = 120 ∨ c.type = 111) : percentInt c (decide (i < 0)) d = d := by
  have hneg : decide (i < 0) = false := decide_eq_false (by omega)
  unfold percentInt
  rcases ht with h2 | h2 <;> simp [ha, h2, hp, hneg]
open Builtin.Str in
theorem meets_x {i : Int} {t u : Tok} (h0 : 0 ≤ i) (h1 : i < 10 ^ 10) (h2 : i.natAbs.log2 < 1920) (h3 : ((i.natAbs : Nat) : Int).natAbs.log2 < 1920) : Meets («str.__mod__» ⟨[.str (Str.ofString "%02x") t, .int i u], []⟩) (fun _ R s => ∀ t' k, R (.ok (.ret (.str (sA (padL 2 (digsL 16 i.natAbs))) t'))) { s with toks := k }) := by
  apply KPc.meets_of
  intro _ _ _ _ _ _ hS
  rw [KPc.entry_is]
  unfold Builtin.Str.percentFormat
  refine wpAny_bind (wpAny_isInstance (typeIs_int _ _ _) F.sub_int_tuple ?_)
  refine wpAny_bind (wpAny_of_eq (a := none) rfl ?_)
  refine wpAny_bind (wpAny_of_eq (KPc.fills _ _) ?_)
  kpc_if
  refine wpAny_bind (wpAny_pure ?_)
  refine wpAny_bind ?_
  rw [KPc.range_list]
  refine KPc.start ?_
  intro _ _
  refine KPc.turn ?_
  kpc_check
  (repeat kpc_if)
  refine wpAny_bind ?_
  refine wpAny_holding ?_
  (repeat kpc_if)
  refine wpAny_bind (wpAny_of_eq (a := i) rfl ?_)
  (repeat kpc_if)
  refine wpAny_bind (wpAny_pure ?_)
  refine wpAny_pure ?_
  (try refine wpAny_pure ?_)
  rw [int_eq h0]
  case ha => kernel_rfl
  case hp => kernel_rfl
  case ht => exact .inl (by kernel_rfl)
  have hd48 : ∀ x ∈ digsL 16 i.natAbs, 48 ≤ x := digs_ge (by decide) (by decide)
  have hlen : (digsL 16 i.natAbs).length ≤ 40 := digs_len (by decide) (by decide) (by omega)
  have hf := fun c hw hp hs hb hl ha hz ht => field_eq (c := c) (k := 2) (text := digsL 16 i.natAbs) hw hp hs hb hl ha hz ht hd48
  unfold digsL at hf
  (with_reducible (conv => arg 3; whnf))
  rw [hf _ (by kernel_rfl) (by kernel_rfl) (by kernel_rfl) (by kernel_rfl) (by kernel_rfl) (by kernel_rfl) (by kernel_rfl) (.inl (by kernel_rfl)), show List.map Char.toNat (Nat.toDigits 16 i.natAbs) = digsL 16 i.natAbs from rfl]
  change (digsL 16 i.natAbs).length ≤ 40 at hlen
  by_cases hk : 2 ≤ (digsL 16 i.natAbs).length
  · rw [if_pos hk]
    (with_reducible (conv => arg 3; whnf))
    have e : padL 2 (digsL 16 i.natAbs) = digsL 16 i.natAbs := by
      unfold padL
      rw [show 2 - (digsL 16 i.natAbs).length = 0 by omega]; rfl
    rw [e] at hS
    refine wpAny_pure ?_
    refine KPc.after_str0 (y := sA (digsL 16 i.natAbs)) (K := 40) (by kpc_g) (by rw [sA_len]; exact hlen) (KPc.obj_none (ite_self _)) ?_
    intro _ _
    kpc_turns
  · rw [if_neg hk]
    (with_reducible (conv => arg 3; whnf))
    refine wpAny_pure ?_
    refine KPc.after_str0 (y := sA (padL 2 (digsL 16 i.natAbs))) (K := 50) (by kpc_g) (by rw [sA_len]; unfold padL; rw [List.length_append, List.length_replicate]; omega) (KPc.obj_none rfl) ?_
    intro _ _
    kpc_turns
open Builtin.Str in
theorem meets_o {i : Int} {t u : Tok} (h0 : 0 ≤ i) (h1 : i < 10 ^ 10) (h2 : i.natAbs.log2 < 1920) (h3 : ((i.natAbs : Nat) : Int).natAbs.log2 < 1920) : Meets («str.__mod__» ⟨[.str (Str.ofString "%03o") t, .int i u], []⟩) (fun _ R s => ∀ t' k, R (.ok (.ret (.str (sA (padL 3 (digsL 8 i.natAbs))) t'))) { s with toks := k }) := by
  apply KPc.meets_of
  intro _ _ _ _ _ _ hS
  rw [KPc.entry_is]
  unfold Builtin.Str.percentFormat
  refine wpAny_bind (wpAny_isInstance (typeIs_int _ _ _) F.sub_int_tuple ?_)
  refine wpAny_bind (wpAny_of_eq (a := none) rfl ?_)
  refine wpAny_bind (wpAny_of_eq (KPc.fills _ _) ?_)
  kpc_if
  refine wpAny_bind (wpAny_pure ?_)
  refine wpAny_bind ?_
  rw [KPc.range_list]
  refine KPc.start ?_
  intro _ _
  refine KPc.turn ?_
  kpc_check
  (repeat kpc_if)
  refine wpAny_bind ?_
  refine wpAny_holding ?_
  (repeat kpc_if)
  refine wpAny_bind (wpAny_of_eq (a := i) rfl ?_)
  (repeat kpc_if)
  refine wpAny_bind (wpAny_pure ?_)
  refine wpAny_pure ?_
  (try refine wpAny_pure ?_)
  rw [int_eq h0]
  case ha => kernel_rfl
  case hp => kernel_rfl
  case ht => exact .inr (by kernel_rfl)
  have hd48 : ∀ x ∈ digsL 8 i.natAbs, 48 ≤ x := digs_ge (by decide) (by decide)
  have hlen : (digsL 8 i.natAbs).length ≤ 40 := digs_len (by decide) (by decide) (by omega)
  have hf := fun c hw hp hs hb hl ha hz ht => field_eq (c := c) (k := 3) (text := digsL 8 i.natAbs) hw hp hs hb hl ha hz ht hd48
  unfold digsL at hf
  (with_reducible (conv => arg 3; whnf))
  rw [hf _ (by kernel_rfl) (by kernel_rfl) (by kernel_rfl) (by kernel_rfl) (by kernel_rfl) (by kernel_rfl) (by kernel_rfl) (.inr (by kernel_rfl)), show List.map Char.toNat (Nat.toDigits 8 i.natAbs) = digsL 8 i.natAbs from rfl]
  change (digsL 8 i.natAbs).length ≤ 40 at hlen
  by_cases hk : 3 ≤ (digsL 8 i.natAbs).length
  · rw [if_pos hk]
    (with_reducible (conv => arg 3; whnf))
    have e : padL 3 (digsL 8 i.natAbs) = digsL 8 i.natAbs := by
      unfold padL
      rw [show 3 - (digsL 8 i.natAbs).length = 0 by omega]; rfl
    rw [e] at hS
    refine wpAny_pure ?_
    refine KPc.after_str0 (y := sA (digsL 8 i.natAbs)) (K := 40) (by kpc_g) (by rw [sA_len]; exact hlen) (KPc.obj_none (ite_self _)) ?_
    intro _ _
    kpc_turns
  · rw [if_neg hk]
    (with_reducible (conv => arg 3; whnf))
    refine wpAny_pure ?_
    refine KPc.after_str0 (y := sA (padL 3 (digsL 8 i.natAbs))) (K := 50) (by kpc_g) (by rw [sA_len]; unfold padL; rw [List.length_append, List.length_replicate]; omega) (KPc.obj_none rfl) ?_
    intro _ _
    kpc_turns

section
variable {prog : Program} {w : World} {A : Around} {E : Value → Shared → Prop} {s : Shared} {n : Nat} {t u : Tok} {Q : Value → Shared → Prop}
theorem mod_x (hn : n < 10 ^ 10) (h : ∀ t' k, Q (.str (sA (padL 2 (digsL 16 n))) t') { s with toks := k }) : wpAny (model prog w) A (binaryOp .Mod (.str (Str.ofString "%02x") t) (.int (n : Int) u)) Q E s :=
  KPc.mod_int (T := fun i => sA (padL 2 (digsL 16 i.natAbs))) rfl (by omega) (by omega) (fun _ h0 h1 h2 h3 => meets_x h0 h1 h2 h3) h
theorem mod_o (hn : n < 10 ^ 10) (h : ∀ t' k, Q (.str (sA (padL 3 (digsL 8 n))) t') { s with toks := k }) : wpAny (model prog w) A (binaryOp .Mod (.str (Str.ofString "%03o") t) (.int (n : Int) u)) Q E s :=
  KPc.mod_int (T := fun i => sA (padL 3 (digsL 8 i.natAbs))) rfl (by omega) (by omega) (fun _ h0 h1 h2 h3 => meets_o h0 h1 h2 h3) h
end

theorem mul0 {k : Int} (hk : k ≤ 3) : Txt.mul (Str.ofString "0") k = sA (List.replicate k.toNat 48) := by
  by_cases h : k < 1
  · unfold Txt.mul
    rw [if_pos h, show k.toNat = 0 by omega]; rfl
  · have : k = 1 ∨ k = 2 ∨ k = 3 := by omega
    rcases this with rfl | rfl | rfl <;> decide +kernel
theorem padS_eq {k : Nat} (hk : k ≤ 3) (l : List Nat) : padS (k : Int) (sA l) = sA (padL k l) := by
  unfold padS padL
  rw [sA_len, mul0 (by omega), sA_app, show ((k : Int) - (l.length : Int)).toNat = k - l.length by omega]
def valN (l : List Nat) : Nat := l.foldl (fun a x => a * 256 + x) 0
theorem fold_cast : ∀ (l : List Nat) (a : Nat), (l.map fun n : Nat => (n : Int)).foldl (fun a x => a * 256 + x) (a : Int) = ((l.foldl (fun a x => a * 256 + x) a : Nat) : Int)
  | [], _ => rfl
  | x :: r, a => by
    rw [List.map_cons, List.foldl_cons, List.foldl_cons, ← fold_cast r (a * 256 + x)]
    congr 1
theorem numOf_cast (l : List Nat) : numOf (l.map fun n : Nat => (n : Int)) = (valN l : Int) := fold_cast l 0
theorem figS_digs {n b : Nat} (hb : 2 ≤ b) (hb16 : b ≤ 16) (h0 : n ≠ 0) : figS (n : Int) (b : Int) = sA (digsL b n) := by
  rw [digs_fig hb hb16 h0]; rfl
theorem figS_zero (b : Int) : figS 0 b = sA [] := rfl
def toldN (way : Nat) (piece : List Nat) : List Nat := (toldOf (sA [way]) (piece.map fun n : Nat => (n : Int))).cps.toList
theorem toldN_x (l : List Nat) : toldN 120 l = padL 2 (digsL 16 (valN l)) := by
  have e : toldOf (sA [120]) (l.map fun n : Nat => (n : Int)) = padS (2 : Nat) (figS (numOf (l.map fun n : Nat => (n : Int))) (16 : Nat)) := rfl
  unfold toldN
  rw [e, numOf_cast]
  by_cases h0 : valN l = 0
  · rw [h0, digs_zero (by decide)]; rfl
  · rw [figS_digs (by decide) (by decide) h0, padS_eq (by decide)]; rfl
theorem toldN_o (l : List Nat) : toldN 111 l = padL 3 (digsL 8 (valN l)) := by
  have e : toldOf (sA [111]) (l.map fun n : Nat => (n : Int)) = padS (3 : Nat) (figS (numOf (l.map fun n : Nat => (n : Int))) (8 : Nat)) := rfl
  unfold toldN
  rw [e, numOf_cast]
  by_cases h0 : valN l = 0
  · rw [h0, digs_zero (by decide)]; rfl
  · rw [figS_digs (by decide) (by decide) h0, padS_eq (by decide)]; rfl
theorem toldN_d (l : List Nat) : toldN 100 l = digsL 10 (valN l) := by
  have e : toldOf (sA [100]) (l.map fun n : Nat => (n : Int)) = if 0 < numOf (l.map fun n : Nat => (n : Int)) then figS (numOf (l.map fun n : Nat => (n : Int))) (10 : Nat) else Str.ofString "0" := rfl
  unfold toldN
  rw [e, numOf_cast]
  by_cases h0 : valN l = 0
  · rw [h0, digs_zero (by decide), if_neg (by decide)]; rfl
  · rw [if_pos (by omega), figS_digs (by decide) (by decide) h0]; rfl
theorem toldN_a (l : List Nat) : toldN 97 l = l := by
  have e : toldOf (sA [97]) (l.map fun n : Nat => (n : Int)) = ⟨((l.map fun n : Nat => (n : Int)).map Int.toNat).toArray⟩ := rfl
  unfold toldN
  rw [e]
  show (l.map fun n : Nat => (n : Int)).map Int.toNat = l
  rw [List.map_map]
  exact List.map_id'' (fun x => rfl) l
theorem digs_len24 {b n : Nat} (hb : 2 ≤ b) (hb16 : b ≤ 16) (hn : n < 2 ^ 24) : (digsL b n).length ≤ 24 := by
  by_cases h0 : n = 0
  · subst h0; rw [digs_zero hb]; decide
  · rw [digs_fig hb hb16 h0]
    have := figA_len hb 24 (n + 1) n [] hn
    rw [List.length_nil] at this
    omega
theorem padL_len {k : Nat} {l : List Nat} (hk : k ≤ 3) (hl : l.length ≤ 24) : (padL k l).length ≤ 24 := by
  unfold padL
  rw [List.length_append, List.length_replicate]; omega
theorem show_int (n : Nat) : Str.ofString (toString (n : Int)) = sA (digsL 10 n) := by
  have := KIN.signs_num n
  show _ = Str.mk (((Nat.toDigits 10 n).map Char.toNat).toArray)
  rw [← this]
def toldI (it : Item) : List Nat := (it.pieces.map (toldN it.part.way)).flatten
def toldsOf : List Item → List Nat
  | [] => []
  | it :: r => toldI it ++ toldsOf r
section
variable {prog : Program} {w : World} {A : Around} {E : Value → Shared → Prop} {s : Shared} {n : Nat} {t u : Tok} {Q : Value → Shared → Prop}
theorem mod_d (hn : n < 10 ^ 10) (h : ∀ t' k, Q (.str (sA (digsL 10 n)) t') { s with toks := k }) : wpAny (model prog w) A (binaryOp .Mod (.str (Str.ofString "%d") t) (.int (n : Int) u)) Q E s := by
  refine KPc.mod_int (T := fun i => Str.ofString (toString i)) rfl (by omega) (by omega) ?_ (fun t' k => by show Q (.str (Str.ofString (toString (n : Int))) t') _; rw [show_int]; exact h t' k)
  kpc_run
open Builtin in
theorem road_eq {id : String} {b : Array UInt8} : _codecs.decodeRoad id b (Str.ofString "ascii") (some (Str.ofString "ignore")) [] = (_codecs.runDecoder id _codecs.asciiDecoder (some (Str.ofString "ignore")) true b 0 [] >>= fun r => mkStr ⟨r.1⟩) := by kernel_rfl
open Builtin in
theorem run_ascii {id : String} {b : Array UInt8} {Q : Array Nat × Nat → Shared → Prop} (hsz : b.size ≤ 100) (hb : ∀ i, (b.getD i 0).toNat < 128) (h : ∀ n, Q ((b.toList.map UInt8.toNat).toArray, n) s) : wpAny (model prog w) A (_codecs.runDecoder id _codecs.asciiDecoder (some (Str.ofString "ignore")) true b 0 []) Q E s := by
  unfold _codecs.runDecoder
  dsimp only
  rw [KPc.range_list]
  have key : ∀ (f : Nat → Nat × Array Nat × _codecs.Faults → Sem (ForInStep (Nat × Array Nat × _codecs.Faults))),
      (∀ x p out, p < b.size → out.size ≤ p → f x (p, out, { }) = pure (ForInStep.yield (p + 1, out ++ [(b.getD p 0).toNat].toArray, { }))) →
      ∀ k p out, p + k = b.size → out.size ≤ p → out.toList ++ (b.toList.drop p).map UInt8.toNat = b.toList.map UInt8.toNat →
        wpAny (model prog w) A (do let r ← forIn (List.range' p k) (p, out, { }) f; pure (r.2.1, r.1)) Q E s := by
    intro f hf k
    induction k with
    | zero =>
      intro p out hp ho he
      have : b.toList.drop p = [] := List.drop_of_length_le (by simp; omega)
      rw [this] at he
      have e2 : out = (b.toList.map UInt8.toNat).toArray := by rw [← he]; simp
      rw [e2]
      exact wpAny_bind (wpAny_pure (wpAny_pure (h _)))
    | succ k ih =>
      intro p out hp ho he
      have hlt : p < b.size := by omega
      rw [List.range'_succ, List.forIn_cons, hf p p out hlt ho]
      simp only [pure_bind]
      refine ih (p + 1) _ (by omega) (by simp; omega) ?_
      rw [← he]
      have hlt' : p < b.toList.length := by simpa using hlt
      rw [List.drop_eq_getElem_cons hlt']
      simp [Array.getD, hlt]
  refine key _ (fun x p out hp ho => ?_) b.size 0 #[] (by omega) (by simp) (by simp)
  dsimp only
  rw [if_neg (by have := sizeLine_eq; omega), if_neg (by omega)]
  have hfnd : _codecs.asciiDecoder.find true b p = _codecs.Found.text [(b.getD p 0).toNat] (p + 1) := by
    show (if (b.getD p 0).toNat < 128 then _codecs.Found.char (b.getD p 0).toNat (p + 1) else _) = _
    rw [if_pos (hb p)]; rfl
  rw [hfnd]
end
section
open Builtin
variable {b : Array UInt8} {c : UInt8} {cs : List UInt8} {t : Tok}
theorem args_bytes_decode_3 (a x y : Value) : argsOk "bytes.decode" ⟨[a, x, y], []⟩ := by
  unfold argsOk; rw [signature?_of (id := "bytes.decode") (n := ['e', 'd', 'o', 'c', 'e', 'd']) (o := ['s', 'e', 't', 'y', 'b']) (by kernel_rfl) FB.owner_bytes]; kernel_rfl
theorem meets_text {t1 t2 t3 : Tok} {d : Str} (hsz : b.size ≤ 100) (hb : ∀ i, (b.getD i 0).toNat < 128) :
    Meets («_codecs.decode.text» ⟨[.bytes b t, .str (Str.ofString "ascii") t1, .str (Str.ofString "ignore") t3, .str d t2], []⟩) (fun _ R s => R (.ok (.ret (.str ⟨(b.toList.map UInt8.toNat).toArray⟩ s.toks))) { s with toks := s.toks + 1 }) := by
  refine .of_wp fun prog w A R s hS => ?_
  show wpAny _ _ (Bytes.bytesLike _ (.bytes b t) >>= fun r => _) _ _ s
  refine wpAny_bind (wpAny_of_eq KBd.like_eq ?_)
  refine wpAny_bind (wpAny_of_eq KBd.held_eq ?_)
  show wpAny _ _ (_codecs.decodeRoad _ b (Str.ofString "ascii") (some (Str.ofString "ignore")) [] >>= fun v => _) _ _ s
  rw [road_eq]
  refine wpAny_bind (wpAny_bind (run_ascii hsz hb fun n => ?_))
  exact wpAny_mkStr (wpAny_pure ⟨_, rfl, hS⟩) (by show (List.toArray _).size ≤ _; rw [sizeLine_eq]; simp; omega)
theorem entry_eq {t1 t2 : Tok} : «bytes.decode» ⟨[.bytes (c :: cs).toArray t, .str (Str.ofString "ascii") t1, .str (Str.ofString "ignore") t2], []⟩ = (mkStr (Str.ofString "utf-8") >>= fun _ => mkStr (Str.ofString "ascii") >>= fun e => mkStr (Str.ofString "ignore") >>= fun r => mkStr (Str.ofString "bytes.decode") >>= fun d =>
    call (.builtin "_codecs.decode.text") [.bytes (c :: cs).toArray t, e, r, d] >>= fun v => ret v) := by kernel_rfl
theorem meets_decode {t1 t2 : Tok} (hsz : (c :: cs).length ≤ 100) (hb : ∀ i, ((c :: cs).toArray.getD i 0).toNat < 128) :
    Meets («bytes.decode» ⟨[.bytes (c :: cs).toArray t, .str (Str.ofString "ascii") t1, .str (Str.ofString "ignore") t2], []⟩) (fun _ R s => ∀ t' k, R (.ok (.ret (.str ⟨((c :: cs).map UInt8.toNat).toArray⟩ t'))) { s with toks := k }) := by
  refine .of_wp fun prog w A R s hS => ?_
  rw [entry_eq]
  refine wpAny_bind (wpAny_mkStr ?_ (by decide))
  refine wpAny_bind (wpAny_mkStr ?_ (by decide))
  refine wpAny_bind (wpAny_mkStr ?_ (by decide))
  refine wpAny_bind (wpAny_mkStr ?_ (by decide))
  exact wpAny_bind (call_function_meets KBd.kind_text KBd.plain_text KBd.entry_text (KBd.args_text _ _ _ _) (meets_text (by simpa using hsz) hb) (wpAny_pure ⟨_, rfl, hS _ _⟩))
end
section
variable {prog : Program} {w : World} {A : Around} {E : Value → Shared → Prop} {s : Shared} {t t1 t2 : Tok} {Q : Value → Shared → Prop}
theorem byte_back {x : Nat} (h : x < 256) : (Nat.toUInt8 x).toNat = x := by
  simp [Nat.toUInt8, UInt8.toNat_ofNat]
  omega
theorem bA_get {L : List Nat} {i : Nat} (hi : i < (bA L).size) : (bA L)[i]'hi = (L[i]'(by rw [← bA_size]; exact hi)).toUInt8 := by simp [bA]
theorem decode_ascii {l : List Nat} (hl : l.length ≤ 100) (hne : l ≠ []) (hb : ∀ x ∈ l, x < 128) (h : ∀ t' k, Q (.str (sA l) t') { s with toks := k }) :
    wpAny (model prog w) A (call (.builtin "bytes.decode") [.bytes (bA l) t, .str (Str.ofString "ascii") t1, .str (Str.ofString "ignore") t2]) Q E s := by
  rcases l with _ | ⟨x, l⟩
  · exact absurd rfl hne
  have e : bA (x :: l) = (x.toUInt8 :: l.map Nat.toUInt8).toArray := by unfold bA; rfl
  have em : (x.toUInt8 :: l.map Nat.toUInt8).map UInt8.toNat = x :: l := by
    show ((x :: l).map Nat.toUInt8).map UInt8.toNat = _
    rw [List.map_map]
    exact (List.map_congr_left fun y hy => byte_back (by have := hb y hy; omega)).trans (List.map_id _)
  rw [e]
  refine call_meets FB.slot_bytes_decode (typeIs_bytes _ _ _) FB.entry_bytes_decode (args_bytes_decode_3 _ _ _) (meets_decode (by simpa using hl) ?_) (by rw [em]; exact h)
  intro i
  rw [← e]
  unfold Array.getD
  split
  · rename_i hi
    have hi' : i < (x :: l).length := by rw [← bA_size]; exact hi
    have : (bA (x :: l))[i] = ((x :: l)[i]'hi').toUInt8 := bA_get hi
    show ((bA (x :: l))[i]).toNat < 128
    rw [this, byte_back (by have := hb _ (List.getElem_mem hi'); omega)]
    exact hb _ (List.getElem_mem hi')
  · decide
end
end Mine
end

section
open PySem PySem.W PyProof.Rows PySem.Calls PySem.Spec
set_option maxRecDepth 100000
set_option maxHeartbeats 0
namespace Mine
theorem fill3 : PySem.Challenge.rw_fh5010_02 = PySem.Challenge.rw_fh5010_02 ∧ hd.heap_39 = hd.heap_39 := by
  w_top off
  k_fill
  exact ⟨rfl, rfl⟩
local macro_rules | `(tactic| walk_at "S1") => `(tactic| first | (k_unfold; (try dsimp only)) | (k_end; wrow_close) | walk1 | (dsimp only; walk1) | (leave1; walk_say "STEP leave1"; try dsimp only) | fail "no step")
local macro_rules | `(tactic| k_inst) => `(tactic| exact Mine.InstAt.keeps (by assumption) (Fr.keep (by k_asm)))
local macro_rules | `(tactic| walk_at "call type:bytes") => `(tactic| ((with_reducible show wpAny _ _ (call (Value.type _) [Value.bytes _ _]) _ _ _); refine call_bytes_same ?_))
section
variable {w : World} {p : Program} {loose : List Str} {mean : ExcName → Option Value} {mg mb : Str → Option Value} {dp un : Nat} {gd : Option (List Code)} {env : Env} {outer : List Env} {A₀ : Around} {base h₀ : Heap} {L : Addr} {m : Str → Option Value} {s : Shared} {Q E : Value → Shared → Prop}

theorem octIn_spec (B : Below A₀ base outer h₀) (F : Fr h₀ L s.heap m) (X : (hd.heap_39 w.params).In h₀) (T : Top p loose mean mg mb h₀) (hf : env.frame = some L) (hke : env.scope.kind = .function)
    {q d : Addr} {b : Array UInt8} {tb : Tok} (I : PySem.W.InstAt s.heap q (instObj 227 d) 227 (some (dictOf [] 0))) (hlen : b.size ≤ 65535)
    (hd : dp + 3 < recursionLimit) (hu : un + 30 < cLine)
    (hret : ∀ t h' tk', s.heap.StaysIn h' → Q (.bytes b t) { s with heap := h', toks := tk' }) :
    wpAny (model PySem.Challenge.pw_fh5010_02 w) ⟨none, dp, some (env :: outer), gd, un⟩ (call (.ref 196) [.ref q, .bytes b tb]) Q E s := by
  refine wpAny_call ?_
  refine' call_B [("self", .ref q), ("value", .bytes b tb)] B F X T ?zA hf hke ?zo ?zcd ?zroom ?zbind ?zloc ?znd ?zh ?z1 ?z2 ?z3 ?z4
  case zA => exact rfl
  case zo => k_is
  case zcd => k_is
  case zroom => dsimp only; omega
  case zbind => exact BindsTo.of_eq rfl
  case zloc => exact locs rfl
  case znd => exact nodup_of rfl
  case z1 => rfl
  case z2 => rfl
  case z3 => rfl
  case z4 => decide
  intro L' h₁ tk F' N' B' X' T'
  dsimp only [bmap] at F'
  (try dsimp only); (try k_fold)
  k_steps
  refine comp_bytes_none rfl (by rw [sizeLine_eq]; omega) (octet_test rfl rfl) ?_
  intro D h2 tk2 hD hDl st2
  rename Fr _ _ _ _ => F2
  rename News _ _ _ _ => N2
  (try dsimp only at st2)
  have F3 := Fr.stays F2 st2
  have N3 := News.stays N2 st2
  clear F2 N2
  (try dsimp only)
  refine wpAny_truthy_list hDl (by decide) ?_
  k_steps
  exact hret _ _ _ (Fr.keep (by k_asm))

local macro_rules | `(tactic| walk_at "after") => `(tactic| (intro t9 h9 tk9 st9; (try dsimp only at st9); (have F9 := Fr.stays (by k_asm) st9); (have N9 := News.stays (by k_asm) st9); clear st9; (try k_sweep); (try dsimp only); (try k_fold)))
local macro_rules | `(tactic| walk_at "compareOp Is") => `(tactic| ((with_reducible show wpAny _ _ (compareOp CmpOp.Is (Value.bytes _ _) (Value.ref _)) _ _ _); refine wpAny_is_other (by rfl) (by intro x; cases x) ?_))
local macro_rules | `(tactic| walk_at "call ref") => `(tactic| ((with_reducible show wpAny _ _ (call (Value.ref 196) [Value.ref _, Value.bytes _ _]) _ _ _); (refine' octIn_spec ?B ?F ?X ?T rfl rfl ?I ?hl ?d ?u ?_; (case B => k_asm); (case F => k_asm); (case X => k_asm); (case T => k_asm); (case I => refine' InstAt.of_news ?zN ?zm ?zn; (case zN => k_asm); (case zm => k_mem); (case zn => k_mem)); (case hl => assumption); (case d => simp only [depth_under_make, depth_deeper]; omega); (case u => simp only [units_under_make, units_deeper]; omega)); walk_at "after"))
theorem oct_new (B : Below A₀ base outer h₀) (F : Fr h₀ L s.heap m) (X : (hd.heap_39 w.params).In h₀) (T : Top p loose mean mg mb h₀) (hf : env.frame = some L) (hke : env.scope.kind = .function)
    {b : Array UInt8} {tb : Tok} (hlen : b.size ≤ 65535) (hd : dp + 10 < recursionLimit) (hu : un + 100 < cLine)
    (hret : ∀ q d n hs ts tv h' tk', s.heap.StaysIn h' → s.heap.get? q = none → s.heap.get? d = none → q ≠ d → h'.get? q = some (instObj 227 d) → h'.get? d = some (dictOf [⟨hs, .str (Str.ofString "value") ts, .bytes b tv⟩] n) → Q (.ref q) { s with heap := h', toks := tk' }) :
    wpAny (model PySem.Challenge.pw_fh5010_02 w) ⟨none, dp, some (env :: outer), gd, un⟩ (call (.ref 227) [.bytes b tb]) Q E s := by
  refine wpAny_call ?_
  have X1 := X.keeps F.keep
  refine make_B X1 (by k_is) (by k_is) (by k_is) ?_
  have F1 : Fr h₀ L ((s.heap.push emptyDict).push (instObj 227 s.heap.objs.size)) m := (F.push _).push _
  have N1 : News h₀ L ((s.heap.push emptyDict).push (instObj 227 s.heap.objs.size)) [(s.heap.objs.size + 1, instObj 227 s.heap.objs.size), (s.heap.objs.size, emptyDict)] := by
    have := ((News.nil (h₀ := h₀) (L := L) (h := s.heap)).push F emptyDict).push (F.push _) (instObj 227 s.heap.objs.size)
    rwa [Heap.size_push] at this
  refine' call_BN [("self", .ref (s.heap.objs.size + 1)), ("value", .bytes b tb)] B F1 N1 X T ?zA hf hke ?zo ?zcd ?zroom ?zbind ?zloc ?znd ?zh ?z1 ?z2 ?z3 ?z4
  case zA => exact rfl
  case zo => k_is
  case zcd => k_is
  case zroom => simp only [depth_under_make]; omega
  case zbind => exact binds_K (Frag.In.keeps X (Fr.keep F1)) rfl (by k_is) rfl rfl rfl
  case zloc => exact locs rfl
  case znd => exact nodup_of rfl
  case z1 => rfl
  case z2 => rfl
  case z3 => rfl
  case z4 => decide
  intro g L' h₁ tk hg F' N' B' X' T'
  dsimp only [bmap] at F'
  (try dsimp only); (try k_fold)
  k_steps
  rename Fr _ _ _ _ => F2
  rename News _ _ _ _ => N2
  refine ⟨rfl, ?_⟩
  exact hret _ _ _ _ _ _ _ _ (made_stays rfl hg (by intro a ha; rcases List.mem_cons.mp ha with rfl | ha; exact Nat.le_succ _; rw [List.mem_singleton.mp ha]; exact Nat.le_refl _) F2) (get_none (Nat.le_succ _)) (get_none (Nat.le_refl _)) (Nat.succ_ne_self _) (N2 _ (List.Mem.head _)).1 (N2 _ (List.Mem.tail _ (List.Mem.head _))).1
end
end Mine
end

section
open PySem PySem.W PyProof.Rows PySem.Calls PySem.Spec
set_option maxRecDepth 100000
set_option maxHeartbeats 0
namespace Mine
theorem fill4 : PySem.Challenge.rw_fh5010_02 = PySem.Challenge.rw_fh5010_02 ∧ hd.heap_39 = hd.heap_39 := by
  w_top off
  k_fill
  exact ⟨rfl, rfl⟩
local macro_rules | `(tactic| walk_at "S1") => `(tactic| first | (k_unfold; (try dsimp only)) | (k_end; wrow_close) | walk1 | (dsimp only; walk1) | (leave1; walk_say "STEP leave1"; try dsimp only) | fail "no step")
local macro_rules | `(tactic| k_inst) => `(tactic| exact Mine.InstAt.keeps (by assumption) (Fr.keep (by k_asm)))
local macro_rules | `(tactic| k_room) => `(tactic| ((try simp only [depth_mark, depth_under_make, depth_under_kw, depth_in1, depth_deeper, depth_caller]); omega))
section
variable {w : World} {p : Program} {loose : List Str} {mean : ExcName → Option Value} {mg mb : Str → Option Value} {dp un : Nat} {gd : Option (List Code)} {env : Env} {outer : List Env} {A₀ : Around} {base h₀ : Heap} {L : Addr} {m : Str → Option Value} {s : Shared} {Q E : Value → Shared → Prop}

theorem hint_new (B : Below A₀ base outer h₀) (F : Fr h₀ L s.heap m) (X : (hd.heap_39 w.params).In h₀) (T : Top p loose mean mg mb h₀) (hf : env.frame = some L) (hke : env.scope.kind = .function)
    {x : Str} {tx : Tok} (hd : dp + 20 < recursionLimit) (hu : un + 200 < cLine)
    (hret : ∀ q d n hs ts tv hs' ts' h' tk', s.heap.StaysIn h' → s.heap.get? q = none → s.heap.get? d = none → q ≠ d → h'.get? q = some (instObj 313 d) →
      h'.get? d = some (dictOf [⟨hs, .str (Str.ofString "displayHint") ts, .str x tv⟩, ⟨hs', .str (Str.ofString "value") ts', .ref 63⟩] n) → Q (.ref q) { s with heap := h', toks := tk' }) :
    wpAny (model PySem.Challenge.pw_fh5010_02 w) ⟨none, dp, some (env :: outer), gd, un⟩ (call (.ref 313) [.str x tx]) Q E s := by
  refine wpAny_call ?_
  have X1 := X.keeps F.keep
  refine make_B X1 (by k_is) (by k_is) (by k_is) ?_
  have F1 : Fr h₀ L ((s.heap.push emptyDict).push (instObj 313 s.heap.objs.size)) m := (F.push _).push _
  have N1 : News h₀ L ((s.heap.push emptyDict).push (instObj 313 s.heap.objs.size)) [(s.heap.objs.size + 1, instObj 313 s.heap.objs.size), (s.heap.objs.size, emptyDict)] := by
    have := ((News.nil (h₀ := h₀) (L := L) (h := s.heap)).push F emptyDict).push (F.push _) (instObj 313 s.heap.objs.size)
    rwa [Heap.size_push] at this
  refine' call_BN [("self", .ref (s.heap.objs.size + 1)), ("displayHint", .str x tx), ("value", .ref 63)] B F1 N1 X T ?zA hf hke ?zo ?zcd ?zroom ?zbind ?zloc ?znd ?zh ?z1 ?z2 ?z3 ?z4
  case zA => exact rfl
  case zo => k_is
  case zcd => k_is
  case zroom => simp only [depth_under_make]; omega
  case zbind => exact binds_K (Frag.In.keeps X (Fr.keep F1)) rfl (by k_is) rfl rfl rfl
  case zloc => exact locs rfl
  case znd => exact nodup_of rfl
  case z1 => rfl
  case z2 => rfl
  case z3 => rfl
  case z4 => decide
  intro g L' h₁ tk hg F' N' B' X' T'
  dsimp only [bmap] at F'
  (try dsimp only); (try k_fold)
  k_steps
  rename Fr _ _ _ _ => F2
  rename News _ _ _ _ => N2
  refine ⟨rfl, ?_⟩
  exact hret _ _ _ _ _ _ _ _ _ _ (made_stays rfl hg (by intro a ha; rcases List.mem_cons.mp ha with rfl | ha; exact Nat.le_succ _; rw [List.mem_singleton.mp ha]; exact Nat.le_refl _) F2) (get_none (Nat.le_succ _)) (get_none (Nat.le_refl _)) (Nat.succ_ne_self _) (N2 _ (List.Mem.head _)).1 (N2 _ (List.Mem.tail _ (List.Mem.head _))).1
end
end Mine
end

section
open PySem PySem.W PyProof.Rows PySem.Calls PySem.Spec
set_option maxRecDepth 100000
set_option maxHeartbeats 0
namespace Mine
theorem dig_yes {n : Nat} (h1 : 1 ≤ n) (h3 : n ≤ 3) : (!(Builtin.Str.occurrences (Str.ofString "0123456789") (sA [48 + n]) 0 (Str.ofString "0123456789").length 1).isEmpty) = true := by
  have : n = 1 ∨ n = 2 ∨ n = 3 := by omega
  rcases this with rfl | rfl | rfl <;> decide +kernel
theorem dig_no {n : Nat} (h : n = 120 ∨ n = 100 ∨ n = 111 ∨ n = 97 ∨ n = 42) : (!(Builtin.Str.occurrences (Str.ofString "0123456789") (sA [n]) 0 (Str.ofString "0123456789").length 1).isEmpty) = false := by
  rcases h with rfl | rfl | rfl | rfl | rfl <;> decide +kernel
theorem dig_nw {n : Nat} (h : n = 120 ∨ n = 100 ∨ n = 111 ∨ n = 97) : (!(Builtin.Str.occurrences (Str.ofString "0123456789") (sA [n]) 0 (Str.ofString "0123456789").length 1).isEmpty) = false := dig_no (by omega)
theorem in_b {prog : Program} {w : World} {A : Around} {E : Value → Shared → Prop} {s : Shared} {x y : Str} {t u : Tok} {Q : Value → Shared → Prop} {b : Bool} (e : (!(Builtin.Str.occurrences x y 0 x.length 1).isEmpty) = b) (h : Q (.bool b) s) : wpAny (model prog w) A (compareOp .In (.str y u) (.str x t)) Q E s := in_str (by rw [e]; exact h)
theorem notin_b {prog : Program} {w : World} {A : Around} {E : Value → Shared → Prop} {s : Shared} {x y : Str} {t u : Tok} {Q : Value → Shared → Prop} {b : Bool} (e : (!(Builtin.Str.occurrences x y 0 x.length 1).isEmpty) = b) (h : Q (.bool !b) s) : wpAny (model prog w) A (compareOp .NotIn (.str y u) (.str x t)) Q E s := notIn_str (by rw [e]; exact h)
theorem int_dig {n : Nat} (h1 : 1 ≤ n) (h3 : n ≤ 3) : PySem.intText? (sA [48 + n]) = some (n : Int) := by
  have : n = 1 ∨ n = 2 ∨ n = 3 := by omega
  rcases this with rfl | rfl | rfl <;> decide +kernel
theorem iadd_sA {prog : Program} {w : World} {A : Around} {E : Value → Shared → Prop} {s : Shared} {a b : List Nat} {t u : Tok} {Q : Value → Shared → Prop} (hsz : a.length + b.length ≤ 100000) (h : ∀ t' k, Q (.str (sA (a ++ b)) t') { s with toks := k }) : wpAny (model prog w) A (inplaceOp .Add (.str (sA a) t) (.str (sA b) u)) Q E s :=
  iadd_str (fun t' k => by rw [sA_app]; exact h t' k) (by rw [sA_len, sA_len, sizeLine_eq]; omega)
theorem hintL_nil : ∀ {l : List Part}, hintL l = [] → l = []
  | [], _ => rfl
  | p :: r, h => by
    unfold hintL Part.text at h
    cases hr : p.rep <;> simp [hr] at h
theorem truthy_bL {prog : Program} {w : World} {A : Around} {E : Value → Shared → Prop} {s : Shared} {l : List Nat} {t : Tok} {Q : Bool → Shared → Prop} (hl : l.length ≤ 99999) (h : ∀ b k, Q b { s with toks := k }) : wpAny (model prog w) A (truthy (.bytes (bA l) t)) Q E s :=
  PySem.W.truthy_bytes (by rw [bA_size]; omega) (h _ _)
theorem fill5 : PySem.Challenge.rw_fh5010_02 = PySem.Challenge.rw_fh5010_02 ∧ hd.heap_39 = hd.heap_39 := by
  w_top off
  k_fill
  exact ⟨rfl, rfl⟩
local macro_rules | `(tactic| walk_at "S1") => `(tactic| first | (k_unfold; (try dsimp only)) | (k_end; wrow_close) | walk1 | (dsimp only; walk1) | (leave1; walk_say "STEP leave1"; try dsimp only) | fail "no step")
local macro_rules | `(tactic| walk_at "toIf") => `(tactic| repeat ((fail_if_success (with_reducible show wpAny _ _ (exec (Stmt.If _ _ _ _) _) _ _ _)); walk_at "S1"))
local macro_rules | `(tactic| walk_at "toWhile") => `(tactic| repeat ((fail_if_success (with_reducible show wpAny _ _ (exec (Stmt.While _ _ _ _) _) _ _ _)); walk_at "S1"))
local macro_rules | `(tactic| k_inst) => `(tactic| exact Mine.InstAt.keeps (by assumption) (Fr.keep (by k_asm)))
local macro_rules | `(tactic| k_room) => `(tactic| ((try simp only [depth_mark, depth_under_make, depth_under_kw, depth_in1, depth_deeper, depth_caller]); omega))
local macro_rules | `(tactic| walk_at "afterN") => `(tactic| (intro q9 d9 n9 hs9 ts9 tv9 h9 tk9 st9 eq9 ed9 ne9 hq9 hd9; (try dsimp only at st9); (rename Fr _ _ _ _ => F8); (rename News _ _ _ _ => N8); (have F9 := Fr.stays F8 st9); (have N9 := News.more (News.stays N8 st9) st9 F8 hd9 ed9); (have N10 := News.more N9 st9 F8 hq9 eq9); clear F8 N8 N9; (try dsimp only); (try k_fold)))
local macro_rules | `(tactic| walk_at "call ref") => `(tactic| ((with_reducible show wpAny _ _ (call (Value.ref 227) _) _ _ _); k_dflt (refine' oct_new ?B ?F ?X ?T rfl rfl ?hl ?d ?u ?_; (case B => k_asm); (case F => k_asm); (case X => k_asm); (case T => k_asm); (case hl => assumption); (case d => (try simp only [depth_under_make, depth_deeper]); (try dsimp only); omega); (case u => (try simp only [units_under_make, units_deeper]); (try dsimp only); omega)); walk_at "afterN"))
local macro_rules | `(tactic| walk_at "truthy str") => `(tactic| first
  | ((with_reducible show wpAny _ _ (truthy (Value.str (sA (_ :: _)) _)) _ _ _); k_dflt (refine truthy_sc (by first | assumption | omega | (simp only [List.length_cons, List.length_nil]; omega)) ?_))
  | ((with_reducible show wpAny _ _ (truthy (Value.str (sA []) _)) _ _ _); k_dflt (refine truthy_sn ?_)))
local macro_rules | `(tactic| walk_at "truthy bytes") => `(tactic| first
  | ((with_reducible show wpAny _ _ (truthy (Value.bytes (bA (_ :: _)) _)) _ _ _); k_dflt (refine truthy_bc (by first | assumption | omega | (simp only [List.length_cons, List.length_nil]; omega)) ?_))
  | ((with_reducible show wpAny _ _ (truthy (Value.bytes (bA []) _)) _ _ _); k_dflt (refine truthy_bn ?_))
  | ((with_reducible show wpAny _ _ (truthy (Value.bytes (bA (_ ++ _)) _)) _ _ _); k_dflt (refine truthy_bL (by assumption) ?_); intro _ _))
local macro_rules | `(tactic| walk_at "subscriptTail") => `(tactic| ((with_reducible show wpAny _ _ (subscriptTail _ _ (Value.str (sA (_ :: _)) _) (Value.int 0 _)) _ _ _); k_dflt (refine str_at0 ?_)))
local macro_rules | `(tactic| walk_at "subscriptTail") => `(tactic| ((with_reducible show wpAny _ _ (subscriptTail _ _ (Value.bytes (bA (_ :: _)) _) (Value.int 0 _)) _ _ _); k_dflt (refine bytes_at0 (by assumption) (by omega) ?_); intro _ _))
local macro_rules | `(tactic| walk_at "subscriptTail") => `(tactic| ((with_reducible show wpAny _ _ (subscriptTail _ (Expr.Slice _ none none _) (Value.str (sA (_ :: _)) _) _) _ _ _); k_dflt (refine str_from1 (s := ⟨_, _, _, _, _⟩) (by k_asm) (by k_asm) (by first | assumption | omega | (simp only [List.length_cons, List.length_nil]; omega)) ?_); intro _ _ _ _ _; (try k_sweep)))
local macro_rules | `(tactic| walk_at "subscriptTail") => `(tactic| ((with_reducible show wpAny _ _ (subscriptTail _ (Expr.Slice (some (Expr.Constant _ _ _)) none none _) (Value.bytes (bA (_ :: _)) _) _) _ _ _); k_dflt (refine bytes_from1 (s := ⟨_, _, _, _, _⟩) (by k_asm) (by k_asm) (by assumption) (by omega) ?_); intro _ _ _ _ _; (try k_sweep)))
local macro_rules | `(tactic| walk_at "compareOp In str str") => `(tactic| ((with_reducible show wpAny _ _ (compareOp CmpOp.In (Value.str (sA [48 + _]) _) (Value.str _ _)) _ _ _); k_dflt (refine in_b (b := true) (dig_yes (by omega) (by omega)) ?_); (try dsimp only [Bool.not_true, Bool.not_false])))
local macro_rules | `(tactic| walk_at "compareOp In str str") => `(tactic| ((with_reducible show wpAny _ _ (compareOp CmpOp.In (Value.str (sA [42]) _) (Value.str _ _)) _ _ _); k_dflt (refine in_b (b := false) (dig_no (by omega)) ?_); (try dsimp only [Bool.not_true, Bool.not_false])))
local macro_rules | `(tactic| walk_at "compareOp In str str") => `(tactic| ((fail_if_success (with_reducible show wpAny _ _ (compareOp CmpOp.In (Value.str (sA [48 + _]) _) (Value.str _ _)) _ _ _)); (fail_if_success (with_reducible show wpAny _ _ (compareOp CmpOp.In (Value.str (sA [42]) _) (Value.str _ _)) _ _ _)); (with_reducible show wpAny _ _ (compareOp CmpOp.In (Value.str (sA [_]) _) (Value.str _ _)) _ _ _); k_dflt (refine in_b (b := false) (dig_nw (by assumption)) ?_); (try dsimp only [Bool.not_true, Bool.not_false])))
local macro_rules | `(tactic| walk_at "compareOp NotIn str str") => `(tactic| ((with_reducible show wpAny _ _ (compareOp CmpOp.NotIn (Value.str (sA [48 + _]) _) (Value.str _ _)) _ _ _); k_dflt (refine notin_b (b := true) (dig_yes (by omega) (by omega)) ?_); (try dsimp only [Bool.not_true, Bool.not_false])))
local macro_rules | `(tactic| walk_at "compareOp NotIn str str") => `(tactic| ((with_reducible show wpAny _ _ (compareOp CmpOp.NotIn (Value.str (sA [42]) _) (Value.str _ _)) _ _ _); k_dflt (refine notin_b (b := false) (dig_no (by omega)) ?_); (try dsimp only [Bool.not_true, Bool.not_false])))
local macro_rules | `(tactic| walk_at "compareOp NotIn str str") => `(tactic| ((fail_if_success (with_reducible show wpAny _ _ (compareOp CmpOp.NotIn (Value.str (sA [48 + _]) _) (Value.str _ _)) _ _ _)); (fail_if_success (with_reducible show wpAny _ _ (compareOp CmpOp.NotIn (Value.str (sA [42]) _) (Value.str _ _)) _ _ _)); (with_reducible show wpAny _ _ (compareOp CmpOp.NotIn (Value.str (sA [_]) _) (Value.str _ _)) _ _ _); k_dflt (refine notin_b (b := false) (dig_nw (by assumption)) ?_); (try dsimp only [Bool.not_true, Bool.not_false])))
local macro_rules | `(tactic| walk_at "inplaceOp Add str str") => `(tactic| ((with_reducible show wpAny _ _ (inplaceOp Operator.Add (Value.str (sA _) _) (Value.str (sA _) _)) _ _ _); k_dflt (refine iadd_sA (by first | omega | (simp only [List.length_cons, List.length_nil]; omega)) ?_); intro _ _; (try dsimp only [List.nil_append, List.cons_append])))
local macro_rules | `(tactic| walk_at "call type:int") => `(tactic| ((with_reducible show wpAny _ _ (call (Value.type "int") [Value.str (sA [48 + _]) _]) _ _ _); k_dflt (refine KIN.call_text (int_dig (by omega) (by omega)) (by rw [sA_len]; simp) ?_)))
local macro_rules | `(tactic| walk_at "subscriptTail") => `(tactic| ((with_reducible show wpAny _ _ (subscriptTail _ (Expr.Slice none (some _) none _) (Value.bytes (bA _) _) _) _ _ _); k_dflt (refine bytes_take (s := ⟨_, _, _, _, _⟩) (by k_asm) (by k_asm) (by assumption) (by assumption) ?_); intro _ _ _ _ _; (try k_sweep)))
local macro_rules | `(tactic| walk_at "call builtin:bytes.decode") => `(tactic| ((with_reducible show wpAny _ _ (call _ [Value.bytes (bA _) _, _, _]) _ _ _); k_dflt (refine decode_ascii (by assumption) (by assumption) (by assumption) ?_); intro _ _))
local macro_rules | `(tactic| walk_at "binaryOp Mod str int") => `(tactic| first
  | ((with_reducible show wpAny _ _ (binaryOp Operator.Mod (Value.str (Str.ofString "%d") _) (Value.int (Nat.cast _) _)) _ _ _); k_dflt (refine mod_d (by omega) ?_); intro _ _)
  | ((with_reducible show wpAny _ _ (binaryOp Operator.Mod (Value.str (Str.ofString "%02x") _) (Value.int (Nat.cast _) _)) _ _ _); k_dflt (refine mod_x (by omega) ?_); intro _ _)
  | ((with_reducible show wpAny _ _ (binaryOp Operator.Mod (Value.str (Str.ofString "%03o") _) (Value.int (Nat.cast _) _)) _ _ _); k_dflt (refine mod_o (by omega) ?_); intro _ _))
local macro_rules | `(tactic| walk_at "subscriptTail") => `(tactic| ((with_reducible show wpAny _ _ (subscriptTail _ (Expr.Slice (some (Expr.Name _ _)) none none _) (Value.bytes (bA _) _) _) _ _ _); k_dflt (refine bytes_drop (s := ⟨_, _, _, _, _⟩) (by k_asm) (by k_asm) (by assumption) (by assumption) ?_); intro _ _ _ _ _; (try k_sweep)))
structure Now (all : List Part) (items : List Item) (rest : List Item) (suf : List Part) (out : List Nat) : Prop where
  fol : Fol all suf rest
  ne : suf ≠ []
  told : out ++ toldsOf rest = toldsOf items
  ok : ∀ it ∈ rest, it.Ok
  oks : ∀ p ∈ suf, p.Ok
  len : rest.length ≤ 10
  lens : suf.length ≤ 3
  outl : out.length + 100 * rest.length ≤ 1000
section
variable {w : World} {p : Program} {loose : List Str} {mean : ExcName → Option Value} {mg mb : Str → Option Value} {dp un : Nat} {gd : Option (List Code)} {env : Env} {outer : List Env} {A₀ : Around} {base h₀ : Heap} {L : Addr} {m : Str → Option Value} {s : Shared} {Q E : Value → Shared → Prop}

theorem pretty_spec (B : Below A₀ base outer h₀) (F : Fr h₀ L s.heap m) (X : (hd.heap_39 w.params).In h₀) (T : Top p loose mean mg mb h₀) (hf : env.frame = some L) (hke : env.scope.kind = .function)
    {q d : Addr} {n : Nat} {hs hs' : Int} {ts ts' tv : Tok} {all : List Part} {items : List Item} (I : PySem.W.InstAt s.heap q (instObj 313 d) 313 (some (dictOf [⟨hs, .str (Str.ofString "displayHint") ts, .str (sA (hintL all)) tv⟩, ⟨hs', .str (Str.ofString "value") ts', .ref 63⟩] n)))
    {tb : Tok} (hall : all ≠ []) (hall3 : all.length ≤ 3) (hoks : ∀ p ∈ all, p.Ok) (hok : ∀ it ∈ items, it.Ok) (hlen : items.length ≤ 10) (hfol : Fol all all items) (hb : (octsOf items).length ≤ 1000)
    (hd : dp + 40 < recursionLimit) (hu : un + 400 < cLine)
    (hret : ∀ t h' tk', s.heap.StaysIn h' → Q (.str (sA (toldsOf items)) t) { s with heap := h', toks := tk' }) :
    wpAny (model PySem.Challenge.pw_fh5010_02 w) ⟨none, dp, some (env :: outer), gd, un⟩ (call (.ref 276) [.ref q, .bytes (bA (octsOf items)) tb]) Q E s := by
  have hb9 : (bA (octsOf items)).size ≤ 65535 := by rw [bA_size]; omega
  obtain ⟨c0, l0, hx⟩ := hintL_cons hall
  have hl0 : l0.length ≤ 100000 := by have := hintL_len all; rw [hx, List.length_cons] at this; omega
  have I1 := I
  rw [hx] at I1
  refine wpAny_call ?_
  refine' call_B [("self", .ref q), ("value", .bytes (bA (octsOf items)) tb)] B F X T ?zA hf hke ?zo ?zcd ?zroom ?zbind ?zloc ?znd ?zh ?z1 ?z2 ?z3 ?z4
  case zA => exact rfl
  case zo => k_is
  case zcd => k_is
  case zroom => dsimp only; omega
  case zbind => exact BindsTo.of_eq rfl
  case zloc => exact locs rfl
  case znd => exact nodup_of rfl
  case z1 => rfl
  case z2 => rfl
  case z3 => rfl
  case z4 => decide
  intro L' h₁ tk F' N' B' X' T'
  dsimp only [bmap] at F'
  (try dsimp only); (try k_fold)
  clear I
  walk_at "toWhile"
  have I := I1
  rw [← hx] at I
  clear I1
  rename Fr _ _ _ _ => F2
  rename News _ _ _ _ => N2
  refine' while_ov (σ := List Item × List Part × List Nat) (fun _ => []) (fun c => [("self", .val (.ref q)), ("outputValue", .str (sA c.2.2)), ("runningValue", .bytes (bA (octsOf c.1))), ("displayHint", .str (sA (hintL c.2.1)))])
    (fun c => Now all items c.1 c.2.1 c.2.2) (fun c => c.1.length) (items, all, []) F2 N2 ?zl ?zr ⟨hfol, hall, rfl, hok, hoks, hlen, hall3, by simp; omega⟩ ?zturn ?zE
  case zl => exact fun _ h => by cases h
  case zr =>
    dsimp only
    rw [hx]
    exact ⟨⟨0, rfl⟩, ⟨_, rfl⟩, ⟨_, rfl⟩, ⟨_, rfl⟩, trivial⟩
  case zE => passes_own
  clear F2 N2
  rintro ⟨rest, suf, out⟩ u t h₂ tk₂ hnow F N
  dsimp only [ov, VT.at] at hnow F N
  obtain ⟨hfolN, hneN, htoldN, hokN, hoksN, hlenN, hlensN, houtN⟩ := hnow
  rcases rest with _ | ⟨it, r⟩
  · dsimp only [octsOf] at F
    k_steps
    have e : out = toldsOf items := by simpa [toldsOf] using htoldN
    subst e
    dsimp only
    exact hret _ _ _ (Fr.keep (by k_asm))
  · obtain ⟨suf', rfl, hfol'⟩ := fol_cons hfolN
    have hit := hokN it (.head _)
    have hpk := hit.p
    obtain ⟨b0, l1, hbl⟩ := octs_cons hit (octsOf r)
    obtain ⟨c1, l2, hcl⟩ := hintL_cons (all := it.part :: suf') (by simp)
    have hrl := octsOf_len (r := it :: r) hokN
    have hrb := octsOf_byte (r := it :: r) hokN
    have hl2 := hintL_len (it.part :: suf')
    have hll := hl2
    have hsl := hintL_len suf'
    have hor := octsOf_len (r := r) fun i hi => hokN i (.tail _ hi)
    have hrl0 := hrl
    dsimp only [octsOf] at F hrl hrb
    rw [hbl] at F hrl hrb
    rw [hcl] at F hl2
    rw [List.length_cons] at hl2 hrl hlensN hlenN
    simp only [List.length_cons] at hl2 hrl
    walk_at "toIf"
    refine' cut_exec (h₀ := s.heap) (L := L') (σ := Unit) (fun _ => []) (fun _ => [("self", .val (.ref q)), ("outputValue", .str (sA out)), ("runningValue", .bytes (bA (it.pieces.flatten ++ octsOf r))), ("displayHint", .str (sA ((48 + it.part.len) :: it.part.way :: hintL suf'))), ("repeatCount", .int it.pieces.length)]) (fun _ => True) ?zcut ?zk
    case zcut =>
      obtain ⟨⟨rep, len, way⟩, pieces⟩ := it
      cases rep with
      | true =>
        simp only [Item.octs, hintL, Part.text, if_true, List.cons_append, List.nil_append, List.cons.injEq] at hbl hcl
        obtain ⟨rfl, rfl⟩ := hbl
        obtain ⟨rfl, rfl⟩ := hcl
        k_steps
        rename Fr _ _ _ _ => F
        rename News _ _ _ _ => N
        exact Turn.intro (σ := Unit) () F N (fun _ h => h) ⟨⟨0, rfl⟩, ⟨_, rfl⟩, ⟨_, rfl⟩, ⟨_, rfl⟩, ⟨_, rfl⟩, trivial⟩ trivial
      | false =>
        simp only [Item.octs, hintL, Part.text, Bool.false_eq_true, if_false, if_true, List.cons_append, List.nil_append, List.cons.injEq] at hbl hcl
        obtain ⟨rfl, rfl⟩ := hcl
        have h1 := hit.one rfl
        dsimp only at h1
        rw [← hbl] at F
        have h48 : len = 1 ∨ len = 2 ∨ len = 3 := by have := hpk.l1; have := hpk.l3; dsimp only at *; omega
        rcases h48 with rfl | rfl | rfl
        · k_steps
          rw [← show ((pieces.length : Nat) : Int) = 1 from by rw [h1]; rfl] at *
          rename Fr _ _ _ _ => F
          rename News _ _ _ _ => N
          exact Turn.intro (σ := Unit) () F N (fun _ h => h) ⟨⟨0, rfl⟩, ⟨_, rfl⟩, ⟨_, rfl⟩, ⟨_, rfl⟩, ⟨_, rfl⟩, trivial⟩ trivial
        · k_steps
          rw [← show ((pieces.length : Nat) : Int) = 1 from by rw [h1]; rfl] at *
          rename Fr _ _ _ _ => F
          rename News _ _ _ _ => N
          exact Turn.intro (σ := Unit) () F N (fun _ h => h) ⟨⟨0, rfl⟩, ⟨_, rfl⟩, ⟨_, rfl⟩, ⟨_, rfl⟩, ⟨_, rfl⟩, trivial⟩ trivial
        · k_steps
          rw [← show ((pieces.length : Nat) : Int) = 1 from by rw [h1]; rfl] at *
          rename Fr _ _ _ _ => F
          rename News _ _ _ _ => N
          exact Turn.intro (σ := Unit) () F N (fun _ h => h) ⟨⟨0, rfl⟩, ⟨_, rfl⟩, ⟨_, rfl⟩, ⟨_, rfl⟩, ⟨_, rfl⟩, trivial⟩ trivial
    case zk =>
      clear F
      rename News _ _ _ _ => N'
      clear N'
      rintro ⟨⟩ h' tk' u' t' - F N
      dsimp only [ov, VT.at] at F N
      (try dsimp only)
      walk_at "toWhile"
      rename Fr _ _ _ _ => F
      rename News _ _ _ _ => N
      refine' while_ov (σ := Bool) (fun _ => []) (fun c => [("self", .val (.ref q)), ("outputValue", .str (sA out)), ("runningValue", .bytes (bA (it.pieces.flatten ++ octsOf r))), ("repeatCount", .int it.pieces.length), ("octetLength", .str (sA (if c then [] else [48 + it.part.len]))), ("displayHint", .str (sA (if c then (48 + it.part.len) :: it.part.way :: hintL suf' else it.part.way :: hintL suf')))])
        (fun _ => True) (fun c => c.toNat) true F N ?ya ?yb trivial ?yturn ?yE
      case ya => exact fun _ h => by cases h
      case yb => exact ⟨⟨0, rfl⟩, ⟨_, rfl⟩, ⟨_, rfl⟩, ⟨_, rfl⟩, ⟨_, rfl⟩, ⟨_, rfl⟩, trivial⟩
      case yE => passes_own
      clear F N
      rintro c u' t' h' tk' - F N
      dsimp only [ov, VT.at] at F N
      have hl1 := hpk.l1
      have hl3 := hpk.l3
      have hway := hpk.w
      cases c with
      | true =>
        simp only [if_true] at F
        k_steps
        rename Fr _ _ _ _ => F
        rename News _ _ _ _ => N
        exact Turn.intro false F N (fun _ h => h) ⟨⟨0, rfl⟩, ⟨_, rfl⟩, ⟨_, rfl⟩, ⟨_, rfl⟩, ⟨_, rfl⟩, ⟨_, rfl⟩, trivial⟩ ⟨trivial, by decide⟩
      | false =>
        simp only [Bool.false_eq_true, if_false] at F
        walk_at "toIf"
        walk_at "S1"
        walk_at "toIf"
        walk_at "S1"
        walk_at "toIf"
        refine' cut_exec (h₀ := s.heap) (L := L') (σ := Unit) (fun _ => []) (fun _ => [("self", .val (.ref q)), ("outputValue", .str (sA out)), ("runningValue", .bytes (bA (it.pieces.flatten ++ octsOf r))), ("displayHint", .str (sA (hintL suf'))), ("repeatCount", .int it.pieces.length), ("octetLength", .int it.part.len), ("displayFormat", .str (sA [it.part.way])), ("displaySep", .str (Str.ofString ""))]) (fun _ => True) ?zcut ?zk
        case zcut =>
          rename Fr _ _ _ _ => F
          rcases suf' with _ | ⟨⟨rep', len', way'⟩, suf''⟩
          · dsimp only [hintL] at F
            k_steps
            rename Fr _ _ _ _ => F
            rename News _ _ _ _ => N
            exact Turn.intro (σ := Unit) () F N (fun _ h => h) ⟨⟨0, rfl⟩, ⟨_, rfl⟩, ⟨_, rfl⟩, ⟨_, rfl⟩, ⟨_, rfl⟩, ⟨_, rfl⟩, ⟨_, rfl⟩, ⟨_, rfl⟩, trivial⟩ trivial
          · have hpp := hoksN _ (.tail _ (.head _))
            have hl1' := hpp.l1
            have hl3' := hpp.l3
            have hsl' := hintL_len suf''
            simp only [List.length_cons] at hlensN
            dsimp only at hl1' hl3'
            cases rep' with
            | true =>
              simp only [hintL, Part.text, if_true, List.cons_append, List.nil_append] at F
              k_steps
              rename Fr _ _ _ _ => F
              rename News _ _ _ _ => N
              exact Turn.intro (σ := Unit) () F N (fun _ h => h) ⟨⟨0, rfl⟩, ⟨_, rfl⟩, ⟨_, rfl⟩, ⟨_, rfl⟩, ⟨_, rfl⟩, ⟨_, rfl⟩, ⟨_, rfl⟩, ⟨_, rfl⟩, trivial⟩ trivial
            | false =>
              simp only [hintL, Part.text, Bool.false_eq_true, if_false, List.cons_append, List.nil_append] at F
              k_steps
              rename Fr _ _ _ _ => F
              rename News _ _ _ _ => N
              exact Turn.intro (σ := Unit) () F N (fun _ h => h) ⟨⟨0, rfl⟩, ⟨_, rfl⟩, ⟨_, rfl⟩, ⟨_, rfl⟩, ⟨_, rfl⟩, ⟨_, rfl⟩, ⟨_, rfl⟩, ⟨_, rfl⟩, trivial⟩ trivial
        case zk =>
          clear F
          rename News _ _ _ _ => N'
          clear N'
          rintro ⟨⟩ h' tk' u' t' - F N
          dsimp only [ov, VT.at] at F N
          (try dsimp only)
          walk_at "toIf"
          refine' cut_exec (h₀ := s.heap) (L := L') (σ := Unit) (fun _ => []) (fun _ => [("self", .val (.ref q)), ("outputValue", .str (sA out)), ("runningValue", .bytes (bA (it.pieces.flatten ++ octsOf r))), ("displayHint", .str (sA (hintL suf'))), ("repeatCount", .int it.pieces.length), ("octetLength", .int it.part.len), ("displayFormat", .str (sA [it.part.way])), ("displaySep", .str (Str.ofString "")), ("repeatTerminator", .val .none)]) (fun _ => True) ?zcut ?zk
          case zcut =>
            rename Fr _ _ _ _ => F
            rcases hq : hintL suf' with _ | ⟨c9, l9⟩
            · rw [hq] at F
              k_steps
              rename Fr _ _ _ _ => F
              rename News _ _ _ _ => N
              exact Turn.intro (σ := Unit) () F N (fun _ h => h) ⟨⟨0, rfl⟩, ⟨_, rfl⟩, ⟨_, rfl⟩, ⟨_, rfl⟩, ⟨_, rfl⟩, ⟨_, rfl⟩, ⟨_, rfl⟩, ⟨_, rfl⟩, ⟨0, rfl⟩, trivial⟩ trivial
            · rw [hq] at F hsl
              rw [List.length_cons] at hsl
              k_steps
              rename Fr _ _ _ _ => F
              rename News _ _ _ _ => N
              exact Turn.intro (σ := Unit) () F N (fun _ h => h) ⟨⟨0, rfl⟩, ⟨_, rfl⟩, ⟨_, rfl⟩, ⟨_, rfl⟩, ⟨_, rfl⟩, ⟨_, rfl⟩, ⟨_, rfl⟩, ⟨_, rfl⟩, ⟨0, rfl⟩, trivial⟩ trivial
          case zk =>
            clear F
            rename News _ _ _ _ => N'
            clear N'
            rintro ⟨⟩ h' tk' u' t' - F N
            dsimp only [ov, VT.at] at F N
            (try dsimp only)
            walk_at "toWhile"
            rename Fr _ _ _ _ => F
            rename News _ _ _ _ => N
            refine' while_ov (σ := List (List Nat) × List Nat) (fun _ => []) (fun c => [("self", .val (.ref q)), ("outputValue", .str (sA c.2)), ("runningValue", .bytes (bA (c.1.flatten ++ octsOf r))), ("displayHint", .str (sA (hintL suf'))), ("repeatCount", .int (c.1.length : Int)), ("octetLength", .int it.part.len), ("displayFormat", .str (sA [it.part.way])), ("displaySep", .str (Str.ofString "")), ("repeatTerminator", .val .none)])
              (fun c => (∀ l ∈ c.1, l.length = it.part.len) ∧ (∀ l ∈ c.1, ∀ x ∈ l, x < 256) ∧ (it.part.way = 97 → ∀ l ∈ c.1, ∀ x ∈ l, x < 128) ∧ c.2 ++ (c.1.map (toldN it.part.way)).flatten = out ++ toldI it ∧ c.1.length ≤ 3 ∧ c.2.length + 30 * c.1.length ≤ out.length + 30 * it.pieces.length)
              (fun c => c.1.length) (it.pieces, out) F N ?xa ?xb ⟨hit.lens, hit.byte, hit.ascii, rfl, hit.cnt, Nat.le_refl _⟩ ?xturn ?xE
            case xa => exact fun _ h => by cases h
            case xb => exact ⟨⟨0, rfl⟩, ⟨_, rfl⟩, ⟨_, rfl⟩, ⟨_, rfl⟩, ⟨_, rfl⟩, ⟨_, rfl⟩, ⟨_, rfl⟩, ⟨_, rfl⟩, ⟨0, rfl⟩, trivial⟩
            case xE => passes_own
            clear F N
            rintro ⟨rem, out'⟩ u' t' h' tk' ⟨hlens, hbyte, hasc, htold, hrem, hout'⟩ F N
            dsimp only [ov, VT.at] at F N hlens hbyte hasc htold hrem hout'
            rcases rem with _ | ⟨l, rem⟩
            · dsimp only [List.length_nil] at F
              simp only [List.flatten_nil, List.nil_append] at F
              have e9 : out' = out ++ toldI it := by simpa using htold
              have hcnt := hit.cnt
              have htold2 : out' ++ toldsOf r = toldsOf items := by rw [e9, List.append_assoc]; exact htoldN
              simp only [List.length_nil] at hout'
              have hout2 : out'.length + 100 * r.length ≤ 1000 := by rw [List.length_cons] at houtN; omega
              walk_at "toIf"
              rcases hq : hintL suf' with _ | ⟨c9, l9⟩
              · have hs0 := hintL_nil hq
                rw [if_pos hs0] at hfol'
                have hfol2 := hfol'
                have hne2 := hall
                have hoks2 := hoks
                have hlen2 := hall3
                rename Fr _ _ _ _ => F
                rw [hq] at F
                rcases ho : octsOf r with _ | ⟨o9, r9⟩
                · rw [ho] at F
                  k_steps
                  rename Fr _ _ _ _ => F
                  rename News _ _ _ _ => N
                  refine Turn.intro (r, all, out') F N (fun _ h => h) ⟨⟨0, rfl⟩, ⟨_, rfl⟩, ⟨_, by rw [ho]; rfl⟩, ⟨_, rfl⟩, trivial⟩ ⟨⟨hfol2, hne2, htold2, fun i hi => hokN i (.tail _ hi), hoks2, (show r.length ≤ 10 by omega), hlen2, hout2⟩, Nat.lt_succ_self _⟩
                · rw [ho] at F hor
                  rw [List.length_cons] at hor
                  k_steps
                  rename Fr _ _ _ _ => F
                  rename News _ _ _ _ => N
                  refine Turn.intro (r, all, out') F N (fun _ h => h) ⟨⟨0, rfl⟩, ⟨_, rfl⟩, ⟨_, by rw [ho]; rfl⟩, ⟨_, rfl⟩, trivial⟩ ⟨⟨hfol2, hne2, htold2, fun i hi => hokN i (.tail _ hi), hoks2, (show r.length ≤ 10 by omega), hlen2, hout2⟩, Nat.lt_succ_self _⟩
              · have hs0 : suf' ≠ [] := by rintro rfl; cases hq
                rw [if_neg hs0] at hfol'
                have hfol2 := hfol'
                have hne2 := hs0
                have hoks2 : ∀ p ∈ suf', p.Ok := fun p hp => hoksN p (.tail _ hp)
                have hlen2 : suf'.length ≤ 3 := by omega
                rename Fr _ _ _ _ => F
                rw [hq] at F hsl
                rw [List.length_cons] at hsl
                rcases ho : octsOf r with _ | ⟨o9, r9⟩
                · rw [ho] at F
                  k_steps
                  rename Fr _ _ _ _ => F
                  rename News _ _ _ _ => N
                  refine Turn.intro (r, suf', out') F N (fun _ h => h) ⟨⟨0, rfl⟩, ⟨_, rfl⟩, ⟨_, by rw [ho]; rfl⟩, ⟨_, by rw [hq]; rfl⟩, trivial⟩ ⟨⟨hfol2, hne2, htold2, fun i hi => hokN i (.tail _ hi), hoks2, (show r.length ≤ 10 by omega), hlen2, hout2⟩, Nat.lt_succ_self _⟩
                · rw [ho] at F hor
                  rw [List.length_cons] at hor
                  k_steps
                  rename Fr _ _ _ _ => F
                  rename News _ _ _ _ => N
                  refine Turn.intro (r, suf', out') F N (fun _ h => h) ⟨⟨0, rfl⟩, ⟨_, rfl⟩, ⟨_, by rw [ho]; rfl⟩, ⟨_, by rw [hq]; rfl⟩, trivial⟩ ⟨⟨hfol2, hne2, htold2, fun i hi => hokN i (.tail _ hi), hoks2, (show r.length ≤ 10 by omega), hlen2, hout2⟩, Nat.lt_succ_self _⟩
            · simp only [List.length_cons, List.flatten_cons, List.append_assoc] at F hout' hrem
              have hll' := hlens l (.head _)
              have hlb := hbyte l (.head _)
              have hcnt := hit.cnt
              rw [List.length_cons] at houtN
              have hob := octsOf_byte (r := r) fun i hi => hokN i (.tail _ hi)
              have hfb : ∀ x ∈ l ++ (rem.flatten ++ octsOf r), x < 256 := by
                intro x hx
                rcases List.mem_append.mp hx with hx | hx
                · exact hlb x hx
                · rcases List.mem_append.mp hx with hx | hx
                  · obtain ⟨l', hl', hx⟩ := List.mem_flatten.mp hx
                    exact hbyte l' (.tail _ hl') x hx
                  · exact hob x hx
              have hfl : (l ++ (rem.flatten ++ octsOf r)).length ≤ 99999 := by
                have h1 := flat_len (ps := rem) (n := it.part.len) fun l' h' => hlens l' (.tail _ h')
                have h2 : rem.length * it.part.len ≤ 3 * 3 := Nat.mul_le_mul (by omega) hl3
                rw [List.length_append, List.length_append, h1]; omega
              have htk : (l ++ (rem.flatten ++ octsOf r)).take it.part.len = l := by rw [← hll']; exact List.take_left' rfl
              have hdr : (l ++ (rem.flatten ++ octsOf r)).drop it.part.len = rem.flatten ++ octsOf r := by rw [← hll']; exact List.drop_left' rfl
              walk_at "toIf"
              rotate_left
              · rename (_ = (0 : Int)) => hz
                omega
              rename Fr _ _ _ _ => F
              rcases hway with hw | hw | hw | hw
              · rw [hw] at F ⊢
                walk_at "toWhile"
                rename Fr _ _ _ _ => F
                rename News _ _ _ _ => N
                rw [htk] at F
                refine' while_ov (σ := List Nat × Nat) (fun _ => []) (fun c => [("self", .val (.ref q)), ("outputValue", .str (sA out')), ("runningValue", .bytes (bA (l ++ (rem.flatten ++ octsOf r)))), ("displayHint", .str (sA (hintL suf'))), ("repeatCount", .int (rem.length + 1 - 1)), ("octetLength", .int it.part.len), ("displayFormat", .str (sA [120])), ("displaySep", .str (Str.ofString "")), ("repeatTerminator", .val .none), ("number", .int (c.2 : Int)), ("numberString", .bytes (bA c.1))])
                  (fun c => c.1.length ≤ 3 ∧ (∀ x ∈ c.1, x < 256) ∧ c.1.foldl (fun a x => a * 256 + x) c.2 = l.foldl (fun a x => a * 256 + x) 0 ∧ (c.2 = 0 ∨ (c.1.length ≤ 2 ∧ c.2 < 256) ∨ (c.1.length ≤ 1 ∧ c.2 < 65536) ∨ (c.1.length = 0 ∧ c.2 < 16777216)))
                  (fun c => c.1.length) (l, 0) F N ?vax ?vbx ⟨by dsimp only; omega, hlb, rfl, .inl rfl⟩ ?vturnx ?vEx
                case vax => exact fun _ h => by cases h
                case vbx => exact ⟨⟨0, rfl⟩, ⟨_, rfl⟩, ⟨_, rfl⟩, ⟨_, rfl⟩, ⟨_, rfl⟩, ⟨_, rfl⟩, ⟨_, rfl⟩, ⟨_, rfl⟩, ⟨0, rfl⟩, ⟨_, rfl⟩, ⟨_, rfl⟩, trivial⟩
                case vEx => passes_own
                clear F N
                rintro ⟨left, num⟩ u' t' h' tk' ⟨hl3, hlb, hfold, hnb⟩ F N
                dsimp only [ov, VT.at] at F N hl3 hlb hfold hnb
                rcases left with _ | ⟨x, left⟩
                · have hnum : num < 16777216 := by dsimp only [List.length_nil] at hnb; omega
                  have hval : num = valN l := hfold
                  have hdl := digs_len24 (b := 16) (n := num) (by decide) (by decide) hnum
                  have hpl := padL_len (k := 2) (l := digsL 16 num) (by decide) hdl
                  have ht : toldN 120 l = padL 2 (digsL 16 num) := by rw [toldN_x, hval]
                  have htold' : (out' ++ padL 2 (digsL 16 num)) ++ (rem.map (toldN 120)).flatten = out ++ toldI it := by
                    rw [← htold, ← ht, hw, List.map_cons, List.flatten_cons, List.append_assoc]
                  k_steps
                  all_goals
                    rename Fr _ _ _ _ => F
                    rename News _ _ _ _ => N
                    rw [hdr, show ((rem.length : Int) + 1 - 1) = rem.length by omega] at F
                    exact Turn.intro (rem, out' ++ padL 2 (digsL 16 num)) F N (fun _ h => h) ⟨⟨0, rfl⟩, ⟨_, rfl⟩, ⟨_, rfl⟩, ⟨_, rfl⟩, ⟨_, rfl⟩, ⟨_, rfl⟩, ⟨_, rfl⟩, ⟨_, rfl⟩, ⟨0, rfl⟩, trivial⟩ ⟨⟨fun l' h' => hlens l' (.tail _ h'), fun l' h' => hbyte l' (.tail _ h'), fun h => absurd h (by decide), htold', (show rem.length ≤ 3 by omega), by dsimp only; rw [List.length_append]; omega⟩, Nat.lt_succ_self _⟩
                · simp only [List.length_cons] at hl3 hnb
                  have hx9 := hlb x (.head _)
                  k_steps
                  rename Fr _ _ _ _ => F
                  rename News _ _ _ _ => N
                  rw [or_byte hx9] at F
                  exact Turn.intro (left, num * 256 + x) F N (fun _ h => h) ⟨⟨0, rfl⟩, ⟨_, rfl⟩, ⟨_, rfl⟩, ⟨_, rfl⟩, ⟨_, rfl⟩, ⟨_, rfl⟩, ⟨_, rfl⟩, ⟨_, rfl⟩, ⟨0, rfl⟩, ⟨_, rfl⟩, ⟨_, rfl⟩, trivial⟩ ⟨⟨by dsimp only; omega, fun y hy => hlb y (.tail _ hy), hfold, by dsimp only; omega⟩, Nat.lt_succ_self _⟩
              · rw [hw] at F ⊢
                walk_at "toWhile"
                rename Fr _ _ _ _ => F
                rename News _ _ _ _ => N
                rw [htk] at F
                refine' while_ov (σ := List Nat × Nat) (fun _ => []) (fun c => [("self", .val (.ref q)), ("outputValue", .str (sA out')), ("runningValue", .bytes (bA (l ++ (rem.flatten ++ octsOf r)))), ("displayHint", .str (sA (hintL suf'))), ("repeatCount", .int (rem.length + 1 - 1)), ("octetLength", .int it.part.len), ("displayFormat", .str (sA [100])), ("displaySep", .str (Str.ofString "")), ("repeatTerminator", .val .none), ("number", .int (c.2 : Int)), ("numberString", .bytes (bA c.1))])
                  (fun c => c.1.length ≤ 3 ∧ (∀ x ∈ c.1, x < 256) ∧ c.1.foldl (fun a x => a * 256 + x) c.2 = l.foldl (fun a x => a * 256 + x) 0 ∧ (c.2 = 0 ∨ (c.1.length ≤ 2 ∧ c.2 < 256) ∨ (c.1.length ≤ 1 ∧ c.2 < 65536) ∨ (c.1.length = 0 ∧ c.2 < 16777216)))
                  (fun c => c.1.length) (l, 0) F N ?vad ?vbd ⟨by dsimp only; omega, hlb, rfl, .inl rfl⟩ ?vturnd ?vEd
                case vad => exact fun _ h => by cases h
                case vbd => exact ⟨⟨0, rfl⟩, ⟨_, rfl⟩, ⟨_, rfl⟩, ⟨_, rfl⟩, ⟨_, rfl⟩, ⟨_, rfl⟩, ⟨_, rfl⟩, ⟨_, rfl⟩, ⟨0, rfl⟩, ⟨_, rfl⟩, ⟨_, rfl⟩, trivial⟩
                case vEd => passes_own
                clear F N
                rintro ⟨left, num⟩ u' t' h' tk' ⟨hl3, hlb, hfold, hnb⟩ F N
                dsimp only [ov, VT.at] at F N hl3 hlb hfold hnb
                rcases left with _ | ⟨x, left⟩
                · have hnum : num < 16777216 := by dsimp only [List.length_nil] at hnb; omega
                  have hval : num = valN l := hfold
                  have hdl := digs_len24 (b := 10) (n := num) (by decide) (by decide) hnum
                  have ht : toldN 100 l = digsL 10 num := by rw [toldN_d, hval]
                  have htold' : (out' ++ digsL 10 num) ++ (rem.map (toldN 100)).flatten = out ++ toldI it := by
                    rw [← htold, ← ht, hw, List.map_cons, List.flatten_cons, List.append_assoc]
                  k_steps
                  all_goals
                    rename Fr _ _ _ _ => F
                    rename News _ _ _ _ => N
                    rw [hdr, show ((rem.length : Int) + 1 - 1) = rem.length by omega] at F
                    exact Turn.intro (rem, out' ++ digsL 10 num) F N (fun _ h => h) ⟨⟨0, rfl⟩, ⟨_, rfl⟩, ⟨_, rfl⟩, ⟨_, rfl⟩, ⟨_, rfl⟩, ⟨_, rfl⟩, ⟨_, rfl⟩, ⟨_, rfl⟩, ⟨0, rfl⟩, trivial⟩ ⟨⟨fun l' h' => hlens l' (.tail _ h'), fun l' h' => hbyte l' (.tail _ h'), fun h => absurd h (by decide), htold', (show rem.length ≤ 3 by omega), by dsimp only; rw [List.length_append]; omega⟩, Nat.lt_succ_self _⟩
                · simp only [List.length_cons] at hl3 hnb
                  have hx9 := hlb x (.head _)
                  k_steps
                  rename Fr _ _ _ _ => F
                  rename News _ _ _ _ => N
                  rw [or_byte hx9] at F
                  exact Turn.intro (left, num * 256 + x) F N (fun _ h => h) ⟨⟨0, rfl⟩, ⟨_, rfl⟩, ⟨_, rfl⟩, ⟨_, rfl⟩, ⟨_, rfl⟩, ⟨_, rfl⟩, ⟨_, rfl⟩, ⟨_, rfl⟩, ⟨0, rfl⟩, ⟨_, rfl⟩, ⟨_, rfl⟩, trivial⟩ ⟨⟨by dsimp only; omega, fun y hy => hlb y (.tail _ hy), hfold, by dsimp only; omega⟩, Nat.lt_succ_self _⟩
              · rw [hw] at F ⊢
                walk_at "toWhile"
                rename Fr _ _ _ _ => F
                rename News _ _ _ _ => N
                rw [htk] at F
                refine' while_ov (σ := List Nat × Nat) (fun _ => []) (fun c => [("self", .val (.ref q)), ("outputValue", .str (sA out')), ("runningValue", .bytes (bA (l ++ (rem.flatten ++ octsOf r)))), ("displayHint", .str (sA (hintL suf'))), ("repeatCount", .int (rem.length + 1 - 1)), ("octetLength", .int it.part.len), ("displayFormat", .str (sA [111])), ("displaySep", .str (Str.ofString "")), ("repeatTerminator", .val .none), ("number", .int (c.2 : Int)), ("numberString", .bytes (bA c.1))])
                  (fun c => c.1.length ≤ 3 ∧ (∀ x ∈ c.1, x < 256) ∧ c.1.foldl (fun a x => a * 256 + x) c.2 = l.foldl (fun a x => a * 256 + x) 0 ∧ (c.2 = 0 ∨ (c.1.length ≤ 2 ∧ c.2 < 256) ∨ (c.1.length ≤ 1 ∧ c.2 < 65536) ∨ (c.1.length = 0 ∧ c.2 < 16777216)))
                  (fun c => c.1.length) (l, 0) F N ?vao ?vbo ⟨by dsimp only; omega, hlb, rfl, .inl rfl⟩ ?vturno ?vEo
                case vao => exact fun _ h => by cases h
                case vbo => exact ⟨⟨0, rfl⟩, ⟨_, rfl⟩, ⟨_, rfl⟩, ⟨_, rfl⟩, ⟨_, rfl⟩, ⟨_, rfl⟩, ⟨_, rfl⟩, ⟨_, rfl⟩, ⟨0, rfl⟩, ⟨_, rfl⟩, ⟨_, rfl⟩, trivial⟩
                case vEo => passes_own
                clear F N
                rintro ⟨left, num⟩ u' t' h' tk' ⟨hl3, hlb, hfold, hnb⟩ F N
                dsimp only [ov, VT.at] at F N hl3 hlb hfold hnb
                rcases left with _ | ⟨x, left⟩
                · have hnum : num < 16777216 := by dsimp only [List.length_nil] at hnb; omega
                  have hval : num = valN l := hfold
                  have hdl := digs_len24 (b := 8) (n := num) (by decide) (by decide) hnum
                  have hpl := padL_len (k := 3) (l := digsL 8 num) (by decide) hdl
                  have ht : toldN 111 l = padL 3 (digsL 8 num) := by rw [toldN_o, hval]
                  have htold' : (out' ++ padL 3 (digsL 8 num)) ++ (rem.map (toldN 111)).flatten = out ++ toldI it := by
                    rw [← htold, ← ht, hw, List.map_cons, List.flatten_cons, List.append_assoc]
                  k_steps
                  all_goals
                    rename Fr _ _ _ _ => F
                    rename News _ _ _ _ => N
                    rw [hdr, show ((rem.length : Int) + 1 - 1) = rem.length by omega] at F
                    exact Turn.intro (rem, out' ++ padL 3 (digsL 8 num)) F N (fun _ h => h) ⟨⟨0, rfl⟩, ⟨_, rfl⟩, ⟨_, rfl⟩, ⟨_, rfl⟩, ⟨_, rfl⟩, ⟨_, rfl⟩, ⟨_, rfl⟩, ⟨_, rfl⟩, ⟨0, rfl⟩, trivial⟩ ⟨⟨fun l' h' => hlens l' (.tail _ h'), fun l' h' => hbyte l' (.tail _ h'), fun h => absurd h (by decide), htold', (show rem.length ≤ 3 by omega), by dsimp only; rw [List.length_append]; omega⟩, Nat.lt_succ_self _⟩
                · simp only [List.length_cons] at hl3 hnb
                  have hx9 := hlb x (.head _)
                  k_steps
                  rename Fr _ _ _ _ => F
                  rename News _ _ _ _ => N
                  rw [or_byte hx9] at F
                  exact Turn.intro (left, num * 256 + x) F N (fun _ h => h) ⟨⟨0, rfl⟩, ⟨_, rfl⟩, ⟨_, rfl⟩, ⟨_, rfl⟩, ⟨_, rfl⟩, ⟨_, rfl⟩, ⟨_, rfl⟩, ⟨_, rfl⟩, ⟨0, rfl⟩, ⟨_, rfl⟩, ⟨_, rfl⟩, trivial⟩ ⟨⟨by dsimp only; omega, fun y hy => hlb y (.tail _ hy), hfold, by dsimp only; omega⟩, Nat.lt_succ_self _⟩
              · rw [hw] at F ⊢
                have hla := hasc hw l (.head _)
                rw [← htk] at hla
                have hlal : ((l ++ (rem.flatten ++ octsOf r)).take it.part.len).length ≤ 100 := by rw [htk]; omega
                have hlan : (l ++ (rem.flatten ++ octsOf r)).take it.part.len ≠ [] := by
                  rw [htk]; intro h; rw [h] at hll'; rw [List.length_nil] at hll'; omega
                have htold' : (out' ++ l) ++ (rem.map (toldN 97)).flatten = out ++ toldI it := by
                  rw [← htold, hw, List.map_cons, List.flatten_cons, toldN_a, List.append_assoc]
                have hlsz : out'.length + ((l ++ (rem.flatten ++ octsOf r)).take it.part.len).length ≤ 100000 := by rw [htk]; omega
                k_steps
                all_goals
                  rename Fr _ _ _ _ => F
                  rename News _ _ _ _ => N
                  rw [hdr, htk, show (((rem.length + 1 : Nat) : Int) - 1) = rem.length by omega] at F
                  exact Turn.intro (rem, out' ++ l) F N (fun _ h => h) ⟨⟨0, rfl⟩, ⟨_, rfl⟩, ⟨_, rfl⟩, ⟨_, rfl⟩, ⟨_, rfl⟩, ⟨_, rfl⟩, ⟨_, rfl⟩, ⟨_, rfl⟩, ⟨0, rfl⟩, trivial⟩ ⟨⟨fun l' h' => hlens l' (.tail _ h'), fun l' h' => hbyte l' (.tail _ h'), fun _ l' h' => hasc hw l' (.tail _ h'), htold', (show rem.length ≤ 3 by omega), by dsimp only; rw [List.length_append]; omega⟩, Nat.lt_succ_self _⟩
end
end Mine
end

section
open PySem PySem.W PyProof.Rows PySem.Calls PySem.Spec
set_option maxRecDepth 100000
set_option maxHeartbeats 0
namespace Mine
theorem fill6 : PySem.Challenge.rw_fh5010_02 = PySem.Challenge.rw_fh5010_02 ∧ hd.heap_39 = hd.heap_39 := by
  w_top off
  k_fill
  exact ⟨rfl, rfl⟩
def drw (ns : List Int) (p : Int) : Int := (if ns = [] then 0 else ns.getD (p.fmod ns.length).toNat 0) + 7 * p
section
variable {w : World} {p : Program} {loose : List Str} {mean : ExcName → Option Value} {mg mb : Str → Option Value} {dp un : Nat} {gd : Option (List Code)} {env : Env} {outer : List Env} {A₀ : Around} {base h₀ : Heap} {L : Addr} {m : Str → Option Value} {s : Shared} {Q E : Value → Shared → Prop}
theorem number_spec (B : Below A₀ base outer h₀) (F : Fr h₀ L s.heap m) (X : (hd.heap_39 w.params).In h₀) (T : Top p loose mean mg mb h₀) (hf : env.frame = some L) (hke : env.scope.kind = .function)
    {l : Addr} {vs : List Value} {ns : List Int} {k : Int} {tk : Tok} (hl : s.heap.IsList l vs.toArray) (hi : IntsAre vs ns) (hn : ns.length ≤ 63) (hk0 : 0 ≤ k) (hk1 : k ≤ 100000)
    (hd : dp + 10 < recursionLimit) (hu : un + 100 < cLine)
    (hret : ∀ t h' tk', s.heap.StaysIn h' → Q (.int (drw ns k) t) { s with heap := h', toks := tk' }) :
    wpAny (model PySem.Challenge.pw_fh5010_02 w) ⟨none, dp, some (env :: outer), gd, un⟩ (call (.ref 402) [.ref l, .int k tk]) Q E s := by
  refine wpAny_call ?_
  refine' call_B [("script", .ref l), ("place", .int k tk)] B F X T ?zA hf hke ?zo ?zcd ?zroom ?zbind ?zloc ?znd ?zh ?z1 ?z2 ?z3 ?z4
  case zA => exact rfl
  case zo => k_is
  case zcd => k_is
  case zroom => dsimp only; omega
  case zbind => exact BindsTo.of_eq rfl
  case zloc => exact locs rfl
  case znd => exact nodup_of rfl
  case z1 => rfl
  case z2 => rfl
  case z3 => rfl
  case z4 => decide
  intro L' h₁ tk F' N' B' X' T'
  dsimp only [bmap] at F'
  (try dsimp only); (try k_fold)
  k_steps
  · have e : drw ns k = ns.getD (k.fmod ↑ns.length).toNat 0 + 7 * k := by
      unfold drw
      rw [if_neg (by rintro rfl; rename (0 < _) => h9; exact absurd h9 (by decide))]
    rw [← e]
    exact hret _ _ _ (Fr.keep (by k_asm))
  · have e : drw ns k = 0 + 7 * k := by
      unfold drw
      rw [if_pos (List.eq_nil_of_length_eq_zero (by omega))]
    rw [← e]
    exact hret _ _ _ (Fr.keep (by k_asm))
theorem number_A {A : Around} (B : Below A₀ base outer h₀) (F : Fr h₀ L s.heap m) (X : (hd.heap_39 w.params).In h₀) (T : Top p loose mean mg mb h₀) (hA : A.frames = some (env :: outer)) (hh : A.handled = none) (hf : env.frame = some L) (hke : env.scope.kind = .function)
    {l : Addr} {vs : List Value} {ns : List Int} {k : Int} {tk : Tok} (hl : s.heap.IsList l vs.toArray) (hi : IntsAre vs ns) (hn : ns.length ≤ 63) (hk0 : 0 ≤ k) (hk1 : k ≤ 100000)
    (hd : A.depth + 10 < recursionLimit) (hu : A.units + 100 < cLine)
    (hret : ∀ t h' tk', s.heap.StaysIn h' → Q (.int (drw ns k) t) { s with heap := h', toks := tk' }) :
    wpAny (model PySem.Challenge.pw_fh5010_02 w) A (call (.ref 402) [.ref l, .int k tk]) Q E s := by
  obtain ⟨a, b, c, d, e⟩ := A
  dsimp only at hA hh hd hu
  subst hh; subst hA
  exact number_spec B F X T hf hke hl hi hn hk0 hk1 hd hu hret
end
end Mine
end

section
open PySem PySem.W PyProof.Rows PySem.Calls PySem.Spec
set_option maxRecDepth 100000
set_option maxHeartbeats 0
namespace Mine
section
variable {w : World} {p : Program} {loose : List Str} {mean : ExcName → Option Value} {mg mb : Str → Option Value} {env : Env} {outer : List Env} {A₀ A : Around} {base h₀ : Heap} {L : Addr} {m : Str → Option Value} {s : Shared} {Q E : Value → Shared → Prop}
theorem told_A (B : Below A₀ base outer h₀) (F : Fr h₀ L s.heap m) (X : (hd.heap_39 w.params).In h₀) (T : Top p loose mean mg mb h₀) (hA : A.frames = some (env :: outer)) (hh : A.handled = none) (hf : env.frame = some L) (hke : env.scope.kind = .function)
    {way : Str} {l : Addr} {vs : List Value} {ns : List Int} {tw : Tok} (hl : s.heap.IsList l vs.toArray) (hi : IntsAre vs ns) (hw : way = "x" ∨ way = "d" ∨ way = "o" ∨ way = "a") (hn1 : 1 ≤ ns.length) (hn3 : ns.length ≤ 3) (hb : ∀ x ∈ ns, 0 ≤ x ∧ x < 256)
    (hd : A.depth + 10 < recursionLimit) (hu : A.units + 100 < cLine)
    (hret : ∀ t h' tk', s.heap.StaysIn h' → Q (.str (toldOf way ns) t) { s with heap := h', toks := tk' }) :
    wpAny (model PySem.Challenge.pw_fh5010_02 w) A (call (.ref 414) [.str way tw, .ref l]) Q E s := by
  obtain ⟨a, b, c, d, e⟩ := A
  dsimp only at hA hh hd hu
  subst hh; subst hA
  exact told_spec B F X T hf hke hl hi hw hn1 hn3 hb hd hu hret
theorem hint_A (B : Below A₀ base outer h₀) (F : Fr h₀ L s.heap m) (X : (hd.heap_39 w.params).In h₀) (T : Top p loose mean mg mb h₀) (hA : A.frames = some (env :: outer)) (hh : A.handled = none) (hf : env.frame = some L) (hke : env.scope.kind = .function)
    {x : Str} {tx : Tok} (hd : A.depth + 20 < recursionLimit) (hu : A.units + 200 < cLine)
    (hret : ∀ q d n hs ts tv hs' ts' h' tk', s.heap.StaysIn h' → s.heap.get? q = none → s.heap.get? d = none → q ≠ d → h'.get? q = some (instObj 313 d) →
      h'.get? d = some (dictOf [⟨hs, .str (Str.ofString "displayHint") ts, .str x tv⟩, ⟨hs', .str (Str.ofString "value") ts', .ref 63⟩] n) → Q (.ref q) { s with heap := h', toks := tk' }) :
    wpAny (model PySem.Challenge.pw_fh5010_02 w) A (call (.ref 313) [.str x tx]) Q E s := by
  obtain ⟨a, b, c, d, e⟩ := A
  dsimp only at hA hh hd hu
  subst hh; subst hA
  exact hint_new B F X T hf hke hd hu hret
theorem pretty_A (B : Below A₀ base outer h₀) (F : Fr h₀ L s.heap m) (X : (hd.heap_39 w.params).In h₀) (T : Top p loose mean mg mb h₀) (hA : A.frames = some (env :: outer)) (hh : A.handled = none) (hf : env.frame = some L) (hke : env.scope.kind = .function)
    {q d : Addr} {n : Nat} {hs hs' : Int} {ts ts' tv : Tok} {all : List Part} {items : List Item} (I : PySem.W.InstAt s.heap q (instObj 313 d) 313 (some (dictOf [⟨hs, .str (Str.ofString "displayHint") ts, .str (sA (hintL all)) tv⟩, ⟨hs', .str (Str.ofString "value") ts', .ref 63⟩] n)))
    {tb : Tok} (hall : all ≠ []) (hall3 : all.length ≤ 3) (hoks : ∀ p ∈ all, p.Ok) (hok : ∀ it ∈ items, it.Ok) (hlen : items.length ≤ 10) (hfol : Fol all all items) (hb : (octsOf items).length ≤ 1000)
    (hd : A.depth + 40 < recursionLimit) (hu : A.units + 400 < cLine)
    (hret : ∀ t h' tk', s.heap.StaysIn h' → Q (.str (sA (toldsOf items)) t) { s with heap := h', toks := tk' }) :
    wpAny (model PySem.Challenge.pw_fh5010_02 w) A (call (.ref 276) [.ref q, .bytes (bA (octsOf items)) tb]) Q E s := by
  obtain ⟨a, b, c, d, e⟩ := A
  dsimp only at hA hh hd hu
  subst hh; subst hA
  exact pretty_spec B F X T hf hke I hall hall3 hoks hok hlen hfol hb hd hu hret
theorem toldN_sA (way : Nat) (piece : List Nat) : toldOf (sA [way]) (piece.map fun n : Nat => (n : Int)) = sA (toldN way piece) := by
  unfold toldN sA
  rfl
theorem way_str {way : Nat} (h : way = 120 ∨ way = 100 ∨ way = 111 ∨ way = 97) : sA [way] = Str.ofString "x" ∨ sA [way] = Str.ofString "d" ∨ sA [way] = Str.ofString "o" ∨ sA [way] = Str.ofString "a" := by
  rcases h with rfl | rfl | rfl | rfl
  · exact .inl (by decide +kernel)
  · exact .inr (.inl (by decide +kernel))
  · exact .inr (.inr (.inl (by decide +kernel)))
  · exact .inr (.inr (.inr (by decide +kernel)))
theorem toldN_len {way : Nat} (h : way = 120 ∨ way = 100 ∨ way = 111 ∨ way = 97) {piece : List Nat} (h3 : piece.length ≤ 3) (hb : ∀ x ∈ piece, x < 256) : (toldN way piece).length ≤ 24 := by
  have hv : valN piece < 2 ^ 24 := by
    have h9 := (numOf_lt (ns := piece.map fun n : Nat => (n : Int)) (by rw [List.length_map]; exact h3) (fun x hx => by
      obtain ⟨y, hy, rfl⟩ := List.mem_map.mp hx
      have := hb y hy
      exact ⟨Int.natCast_nonneg _, by omega⟩)).2
    rw [numOf_cast] at h9
    omega
  rcases h with rfl | rfl | rfl | rfl
  · rw [toldN_x]; exact padL_len (by decide) (digs_len24 (by decide) (by decide) hv)
  · rw [toldN_d]; exact digs_len24 (by decide) (by decide) hv
  · rw [toldN_o]; exact padL_len (by decide) (digs_len24 (by decide) (by decide) hv)
  · rw [toldN_a]; omega
theorem flat_le {k : Nat} : ∀ {l : List (List Nat)}, (∀ x ∈ l, x.length ≤ k) → l.flatten.length ≤ k * l.length
  | [], _ => Nat.zero_le _
  | a :: r, h => by
    have h1 := h a (.head _)
    have h2 := flat_le (l := r) fun x hx => h x (.tail _ hx)
    rw [List.flatten_cons, List.length_append, List.length_cons, Nat.mul_succ]
    omega
theorem toldI_len {it : Item} (h : it.Ok) : (toldI it).length ≤ 72 := by
  have h1 := flat_le (k := 24) (l := it.pieces.map (toldN it.part.way)) fun x hx => by
    obtain ⟨l, hl, rfl⟩ := List.mem_map.mp hx
    exact toldN_len h.p.w (by rw [h.lens l hl]; exact h.p.l3) (h.byte l hl)
  rw [List.length_map] at h1
  have := h.cnt
  unfold toldI
  omega
theorem toldsOf_len : ∀ {r : List Item}, (∀ it ∈ r, it.Ok) → (toldsOf r).length ≤ 72 * r.length
  | [], _ => Nat.zero_le _
  | it :: r, h => by
    have := toldI_len (h it (.head _))
    have := toldsOf_len (r := r) fun i hi => h i (.tail _ hi)
    show (toldI it ++ toldsOf r).length ≤ _
    rw [List.length_append, List.length_cons]; omega
end
end Mine
end

section
open PySem PySem.W PyProof.Rows PySem.Calls PySem.Spec
set_option maxRecDepth 100000
namespace Mine
theorem fm2_ge (x : Int) : 0 ≤ 1 + x.fmod 2 := by have := fmod_at x (show (0 : Int) < 2 by decide); omega
theorem fm2_le (x : Int) : 1 + x.fmod 2 ≤ 1000 := by have := fmod_at x (show (0 : Int) < 2 by decide); omega
theorem fm2_lt {x : Int} {j : Nat} (h : j < (1 + x.fmod 2).toNat) : j < 2 := by have := fmod_at x (show (0 : Int) < 2 by decide); omega
theorem news_seq3 {h₀ h : Heap} {L a : Addr} {vs : List Value} {x : Value} {n : Nat} {p1 p2 : Addr × Obj} {r : List (Addr × Obj)} (_ : News h₀ L h (p1 :: p2 :: (a, W.listOf (vs ++ [x]).toArray n) :: r)) : ∃ y, y = x := ⟨x, rfl⟩
theorem ints_snoc : ∀ {vs : List Value} {ns : List Int} {k : Int} {t : Tok}, IntsAre vs ns → IntsAre (vs ++ [.int k t]) (ns ++ [k])
  | _, _, k, t, .nil => .cons k t .nil
  | _, _, _, _, .cons a b r => .cons a b (ints_snoc r)
theorem ints_app : ∀ {vs ws : List Value} {ns ms : List Int}, IntsAre vs ns → IntsAre ws ms → IntsAre (vs ++ ws) (ns ++ ms)
  | _, _, _, _, .nil, h => h
  | _, _, _, _, .cons a b r, h => .cons a b (ints_app r h)
/-- what the rounds turn -/
structure RS where
  its : List Item
  pl : Int
  oP : Obj
  oW : Obj
  vsO : List Value
  nO : Nat
structure RInv (pl0 : Int) (done : List Part) (c : RS) : Prop where
  parts : c.its.map (·.part) = done
  ok : ∀ it ∈ c.its, it.Ok
  oP : ∃ t, c.oP.data = .cell (some (.int c.pl t))
  oW : ∃ v, c.oW.data = .cell v
  lo : pl0 ≤ c.pl
  hi : c.pl ≤ pl0 + 3 * c.its.length
  nums : IntsAre c.vsO ((octsOf c.its).map fun n : Nat => (n : Int))
def roundsL (r : Nat) (pts : List Part) : List Part := (List.replicate r pts).flatten
theorem roundsL_succ (r : Nat) (pts : List Part) : roundsL (r + 1) pts = roundsL r pts ++ pts := by
  unfold roundsL
  rw [List.replicate_succ', List.flatten_append]; simp
theorem roundsL_len (r : Nat) (pts : List Part) : (roundsL r pts).length = r * pts.length := by
  unfold roundsL; simp
theorem roundsL_succ' (r : Nat) (pts : List Part) : roundsL (r + 1) pts = pts ++ roundsL r pts := by
  unfold roundsL
  rw [List.replicate_succ, List.flatten_cons]
theorem fol_go {all : List Part} (hall : all ≠ []) : ∀ (items : List Item) (r : Nat) (suf : List Part), suf ≠ [] → items.map (·.part) = suf ++ roundsL r all → Fol all suf items
  | [], _, _, _, _ => .nil
  | it :: rest, r, [], h, _ => absurd rfl h
  | it :: rest, r, p :: suf, _, e => by
    rw [List.map_cons, List.cons_append] at e
    injection e with e1 e2
    refine .cons e1 ?_
    cases suf with
    | nil =>
      rw [if_pos rfl]
      cases r with
      | zero =>
        have : rest = [] := by
          cases rest with
          | nil => rfl
          | cons a b => exact absurd e2 (by simp [roundsL])
        subst this
        exact .nil
      | succ r =>
        rw [List.nil_append, roundsL_succ'] at e2
        exact fol_go hall rest r all hall e2
    | cons q suf =>
      rw [if_neg (by simp)]
      exact fol_go hall rest r (q :: suf) (by simp) e2
theorem fol_rounds {all : List Part} (hall : all ≠ []) {items : List Item} {r : Nat} (e : items.map (·.part) = roundsL r all) : Fol all all items := by
  cases r with
  | zero =>
    have : items = [] := by
      cases items with
      | nil => rfl
      | cons a b => exact absurd e (by simp [roundsL])
    subst this
    exact .nil
  | succ r =>
    rw [roundsL_succ'] at e
    exact fol_go hall items r all hall e
theorem bA_of (l : List Nat) : ((l.map fun n : Nat => (n : Int)).map fun n => n.toNat.toUInt8).toArray = bA l := by
  unfold bA
  rw [List.map_map]
  rfl
theorem RInv.len {pl0 : Int} {done : List Part} {c : RS} (h : RInv pl0 done c) : c.its.length = done.length := by rw [← h.parts, List.length_map]
end Mine
end

section
open PySem PySem.W PyProof.Rows PySem.Calls PySem.Spec
set_option maxRecDepth 100000
namespace Mine
theorem news_W {h₀ h : Heap} {L : Addr} {p1 p2 p3 p4 p5 p6 p7 : Addr × Obj} {a : Addr} {o : Obj} {r : List (Addr × Obj)} (_ : News h₀ L h (p1 :: p2 :: p3 :: p4 :: p5 :: p6 :: p7 :: (a, o) :: r)) : ∃ o', o' = o := ⟨o, rfl⟩
/-- what the count's turns turn -/
structure CS where
  pieces : List (List Nat)
  pl : Int
  oP : Obj
  vsO : List Value
  nO : Nat
def PieceOk (p : Part) (l : List Nat) : Prop := l.length = p.len ∧ (∀ x ∈ l, x < 256) ∧ (p.way = 97 → ∀ x ∈ l, x < 128)
structure CInv (pl1 : Int) (its : List Item) (p : Part) (cnt : Nat) (q : Nat) (c : CS) : Prop where
  len : c.pieces.length = q
  each : ∀ l ∈ c.pieces, PieceOk p l
  oP : ∃ t, c.oP.data = .cell (some (.int c.pl t))
  pl : c.pl = pl1 + q
  nums : IntsAre c.vsO (((octsOf its ++ (if p.rep then [cnt] else [])) ++ c.pieces.flatten).map fun n : Nat => (n : Int))
theorem octsOf_app : ∀ (a b : List Item), octsOf (a ++ b) = octsOf a ++ octsOf b
  | [], _ => rfl
  | it :: r, b => by
    show it.octs ++ octsOf (r ++ b) = (it.octs ++ octsOf r) ++ octsOf b
    rw [octsOf_app, List.append_assoc]
theorem toldsOf_app : ∀ (a b : List Item), toldsOf (a ++ b) = toldsOf a ++ toldsOf b
  | [], _ => rfl
  | it :: r, b => by
    show toldI it ++ toldsOf (r ++ b) = (toldI it ++ toldsOf r) ++ toldsOf b
    rw [toldsOf_app, List.append_assoc]
theorem octsOf_one (it : Item) : octsOf [it] = it.octs := by show it.octs ++ [] = _; rw [List.append_nil]
theorem toldsOf_one (it : Item) : toldsOf [it] = toldI it := by show toldI it ++ [] = _; rw [List.append_nil]
theorem CInv.item {pl1 : Int} {its : List Item} {p : Part} {cnt : Int} {c : CS} (hp : p.Ok) (h0 : 0 ≤ cnt) (h3 : cnt ≤ 3) (h1 : p.rep = false → cnt = 1) (h : CInv pl1 its p cnt.toNat cnt.toNat c) : Item.Ok ⟨p, c.pieces⟩ :=
  ⟨hp, by show c.pieces.length ≤ 3; rw [h.len]; omega, fun e => by show c.pieces.length = 1; rw [h.len, h1 e]; rfl, fun l hl => (h.each l hl).1, fun l hl => (h.each l hl).2.1, fun e l hl => (h.each l hl).2.2 e⟩
theorem CInv.next {pl0 pl1 : Int} {its : List Item} {p : Part} {cnt : Int} {c : CS} {done : List Part} {oP1 oW1 oW2 : Obj} {vsO : List Value} {nO : Nat} (hp : p.Ok) (h0 : 0 ≤ cnt) (h3 : cnt ≤ 3) (h1 : p.rep = false → cnt = 1) (h : CInv pl1 its p cnt.toNat cnt.toNat c)
    (R : RInv pl0 done ⟨its, pl1, oP1, oW1, vsO, nO⟩) (hW : ∃ v, oW2.data = .cell v) : RInv pl0 (done ++ [p]) ⟨its ++ [⟨p, c.pieces⟩], c.pl, c.oP, oW2, c.vsO, c.nO⟩ := by
  have hpl := h.pl
  have e1 := R.lo
  have e2 := R.hi
  dsimp only at e1 e2
  refine ⟨?_, ?_, h.oP, hW, ?_, ?_, ?_⟩
  · have := R.parts
    dsimp only at this ⊢
    rw [List.map_append, this]; rfl
  · intro it hit
    rcases List.mem_append.mp hit with q | q
    · exact R.ok it q
    · rw [List.mem_singleton.mp q]; exact h.item hp h0 h3 h1
  · dsimp only; omega
  · dsimp only
    rw [List.length_append, List.length_singleton]
    omega
  · dsimp only
    rw [octsOf_app, octsOf_one]
    have := h.nums
    unfold Item.octs
    dsimp only
    rw [h.len, ← List.append_assoc]
    exact this
theorem CInv.told {pl1 : Int} {its : List Item} {p : Part} {cnt q : Nat} {c : CS} (_ : CInv pl1 its p cnt q c) : toldsOf (its ++ [⟨p, c.pieces⟩]) = toldsOf its ++ (c.pieces.map (toldN p.way)).flatten := by
  rw [toldsOf_app, toldsOf_one]; rfl
theorem CInv.snoc {pl1 : Int} {its : List Item} {p : Part} {cnt q : Nat} {c : CS} {piece : List Nat} {oP : Obj} {t : Tok} {ws : List Value} {n : Nat} (h : CInv pl1 its p cnt q c) (hp : PieceOk p piece) (hoP : oP.data = .cell (some (.int (c.pl + 1) t))) (hw : IntsAre ws (piece.map fun n : Nat => (n : Int))) :
    CInv pl1 its p cnt (q + 1) ⟨c.pieces ++ [piece], c.pl + 1, oP, c.vsO ++ ws, n⟩ := by
  refine ⟨?_, ?_, ⟨t, hoP⟩, ?_, ?_⟩
  · dsimp only; rw [List.length_append, h.len]; rfl
  · intro l hl
    rcases List.mem_append.mp hl with q | q
    · exact h.each l q
    · rw [List.mem_singleton.mp q]; exact hp
  · dsimp only; rw [h.pl]; omega
  · dsimp only
    rw [List.flatten_append, List.flatten_cons, List.flatten_nil, List.append_nil, ← List.append_assoc, List.map_append]
    exact ints_app h.nums hw
end Mine
end

section
open PySem PySem.W PyProof.Rows PySem.Calls PySem.Spec LCg
set_option maxRecDepth 100000
namespace Mine
def PieceSo (p : Part) (i : Nat) (ys : List Value) : Prop := ∃ piece : List Nat, piece.length = i ∧ IntsAre ys (piece.map fun n : Nat => (n : Int)) ∧ (∀ x ∈ piece, x < 256) ∧ (p.way = 97 → ∀ x ∈ piece, x < 128)
theorem PieceSo.nil {p : Part} : PieceSo p 0 [] := ⟨[], rfl, .nil, fun _ h => (by cases h), fun _ _ h => (by cases h)⟩
theorem PieceSo.snoc {p : Part} {i : Nat} {ys : List Value} {k : Int} {t : Tok} (h : PieceSo p i ys) (h0 : 0 ≤ k) (h1 : k < 256) (h2 : p.way = 97 → k < 128) : PieceSo p (i + 1) (ys ++ [.int k t]) := by
  obtain ⟨piece, hl, hi, hb, ha⟩ := h
  refine ⟨piece ++ [k.toNat], by rw [List.length_append, hl]; rfl, ?_, fun x hx => ?_, fun e x hx => ?_⟩
  · rw [List.map_append, List.map_cons, List.map_nil, Int.toNat_of_nonneg h0]
    exact ints_snoc hi
  · rcases List.mem_append.mp hx with q | q
    · exact hb x q
    · rw [List.mem_singleton.mp q]; omega
  · rcases List.mem_append.mp hx with q | q
    · exact ha e x q
    · rw [List.mem_singleton.mp q]; have := h2 e; omega
theorem way_not {p : Part} (h : (sA [p.way] == Str.ofString "a") = false) : p.way = 97 → False := by
  intro e
  rw [e] at h
  revert h
  decide
section
variable {prog : Program} {w : World} {A : Around} {s : Shared} {h₀ : Heap} {L : Addr} {m : Str → Option Value} {env : Env}
/-- what an element of a comprehension leaves -/
def EltEnd (h₀ : Heap) (L : Addr) (m : Str → Option Value) (led : List (Addr × Obj)) (J : Value → Prop) (s₁ : Shared) (y : Value) (s₂ : Shared) : Prop :=
  ∃ h' tk', s₂ = { s₁ with heap := h', toks := tk' } ∧ Fr h₀ L h' m ∧ News h₀ L h' led ∧ J y
theorem EltEnd.intro {led news' : List (Addr × Obj)} {J : Value → Prop} {s₁ : Shared} {y : Value} {h' : Heap} {tk : Nat} (F : Fr h₀ L h' m) (N : News h₀ L h' news') (hl : ∀ p ∈ led, p ∈ news') (hJ : J y) : EltEnd h₀ L m led J s₁ y { s₁ with heap := h', toks := tk } :=
  ⟨h', tk, rfl, F, fun p hp => N p (hl p hp), hJ⟩
theorem comp_ind {elt : Expr} {x : Str} {scope : Scope} {cl : List (Str × Addr)} {P : Nat → Value → Prop} {Fin : List Value → List (Addr × Obj) → Prop} {news : List (Addr × Obj)} (J : Nat → List Value → Prop) {n : Nat} (h0 : J 0 [])
    (step : ∀ i ys v I oI C oC D m₂ h tk (E' : Value → Shared → Prop), i < n → J i ys → P i v → NsObj oC m₂ → m₂ x = some v → Fr h₀ L h m → News h₀ L h ((I, oI) :: (C, oC) :: (D, lst ys) :: news) → Off3 I C D news → ((@Ne Nat I C) ∧ (@Ne Nat I D) ∧ (@Ne Nat C D)) →
      wpAny (model prog w) A (eval elt (compEnvC scope cl C env)) (EltEnd h₀ L m ((I, oI) :: (C, oC) :: (D, lst ys) :: news) (fun y => J (i + 1) (ys ++ [y])) { s with heap := h, toks := tk }) E' { s with heap := h, toks := tk })
    (fin : ∀ ys, J n ys → Fin ys news) : CompRest prog w A h₀ L m env elt x scope cl s (fun _ => True) P Fin n 0 [] news := by
  have key : ∀ k i ys, i + k = n → J i ys → CompRest prog w A h₀ L m env elt x scope cl s (fun _ => True) P Fin k i ys news := by
    intro k
    induction k with
    | zero => intro i ys e hJ; rw [Nat.add_zero] at e; subst e; exact CompRest.zero (fin ys hJ)
    | succ k ih =>
      intro i ys e hJ
      refine CompRest.succ fun v I oI C oC D m₂ h tk E' hP hC hx F N off ne => ?_
      refine wpAny_mono (step i ys v I oI C oC D m₂ h tk E' (by omega) hJ hP hC hx F N off ne) (fun y s₂ h₂ => ?_) fun _ _ e => e
      obtain ⟨h', tk', rfl, F', N', hJ'⟩ := h₂
      exact CompEnd.intro F' N' news (fun p hp => hp) off trivial (ih (i + 1) (ys ++ [y]) (by omega) hJ')
  exact key n 0 [] (Nat.zero_add n) h0
end
end Mine
end

section
open PySem PySem.W PyProof.Rows PySem.Calls PySem.Spec LCg
set_option maxRecDepth 100000
namespace Mine
theorem news_P {h₀ h : Heap} {L : Addr} {p1 p2 p3 p4 p5 p6 p7 p8 p9 p10 : Addr × Obj} {a : Addr} {o : Obj} {r : List (Addr × Obj)} (_ : News h₀ L h (p1 :: p2 :: p3 :: p4 :: p5 :: p6 :: p7 :: p8 :: p9 :: p10 :: (a, o) :: r)) : ∃ o', o' = o := ⟨o, rfl⟩
theorem slot_iadd : Slot "list" (dunderI "add") "list.__iadd__" :=
  .of (owner := "list") (n := "__iadd__") (by rw [typeLookup_type, builtinLookup_eq_fast]; kernel_rfl) (by decide +kernel) (by decide +kernel) (by decide +kernel)
    (by first | exact .inl (by decide +kernel) | exact .inr (by decide +kernel)) (by rw [isSubtype_type]; kernel_rfl)
theorem fills_iadd : fillsInplaceSlot (.type "list") "add" (Operator.Add == .Add) = pure false := by
  unfold fillsInplaceSlot
  show (typeLookup (.type "list") (dunderI "add") >>= fun fi => pure (fi.isSome && !isSeqSlot fi)) = pure false
  rw [slot_iadd.lookup]
  kernel_rfl
theorem seq_iadd : seqSlot? (.type "list") (dunderI "add") = pure (some (.builtin "list.__iadd__")) := by
  unfold seqSlot?
  rw [slot_iadd.lookup]
  kernel_rfl
theorem args_iadd (a b : Value) : argsOk "list.__iadd__" ⟨[a, b], []⟩ := by
  unfold argsOk; rw [signature?_of (id := "list.__iadd__") (n := ['_', '_', 'd', 'd', 'a', 'i', '_', '_']) (o := ['t', 's', 'i', 'l']) (by kernel_rfl) PySem.F.owner_list]; kernel_rfl
section
variable {prog : Program} {w : World} {A : Around} {E : Value → Shared → Prop} {s : Shared} {h₀ : Heap} {L D b : Addr} {m : Str → Option Value} {news news' : List (Addr × Obj)} {vs ws : List Value} {n : Nat}
theorem iadd_list {Q : Value → Shared → Prop} (F : Fr h₀ L s.heap m) (N : News h₀ L s.heap news) (hb : (b, lst ws) ∈ news) (hne : ws ≠ [])
    (U : Upd D (W.listOf vs.toArray n) (W.listOf (vs ++ ws).toArray (n + 1)) news news') (hv : vs.length ≤ 100000) (hw : ws.length ≤ 1000)
    (h : ∀ h', Fr h₀ L h' m → News h₀ L h' news' → Q (.ref D) { s with heap := h' }) : wpAny (model prog w) A (inplaceOp .Add (.ref D) (.ref b)) Q E s := by
  obtain ⟨pre, post, rfl, rfl, a, c⟩ := U.split
  have z := N (D, W.listOf vs.toArray n) (List.mem_append.mpr (.inr (.head _)))
  have zb := N _ hb
  have hTD : s.TypeIs (.ref D) "list" := ⟨_, z.1, rfl⟩
  have hTb : s.TypeIs (.ref b) "list" := ⟨_, zb.1, rfl⟩
  unfold inplaceOp
  refine wpAny_holding ?_
  refine wpAny_bind (wpAny_typeOf hTD (wpAny_bind (wpAny_of_eq fills_iadd ?_)))
  show wpAny _ A (if false = true then _ else _) Q E s
  rw [if_neg Bool.false_ne_true]
  refine wpAny_bind (wpAny_binaryOp1_none (nm := "add") hTD hTb noFill_list_add ?_)
  refine wpAny_bind (wpAny_of_eq seq_iadd ?_)
  refine wpAny_bind (wpAny_rule ?_)
  refine call_meets slot_iadd hTD PySem.F.entry_list_iadd (args_iadd _ _) (PySem.AutoSeq1.list___iadd___list_list_0 D vs.toArray n b ws.toArray ws.length ?_ ?_ ?_) ⟨z.1, zb.1, ?_⟩
  · have : Builtin.List.listTooLong (vs.toArray.size + ws.toArray.size) = false := by
      rw [List.size_toArray, List.size_toArray]
      unfold Builtin.List.listTooLong
      rw [sizeLine_eq]
      simp; omega
    rw [this]; simp
  · rw [sizeLine_eq]; simp; omega
  · rw [sizeLine_eq]; simp; omega
  · refine h _ (F.change (Heap.SameBut.update ..) z.2.1 z.2.2) (kl_turn _ N a c ?_ ?_)
    · apply Array.toList_inj.mp
      simp
    · simp
      exact hne
end
end Mine
end

section
open PySem PySem.W PyProof.Rows PySem.Calls PySem.Spec
set_option maxHeartbeats 0
namespace Mine
local macro_rules | `(tactic| walk_at "S1") => `(tactic| first | (k_unfold; (try dsimp only)) | (k_end; wrow_close) | walk1 | (dsimp only; walk1) | (leave1; walk_say "STEP leave1"; try dsimp only) | fail "no step")
local macro_rules | `(tactic| walk_at "toFor") => `(tactic| repeat ((fail_if_success (with_reducible show wpAny _ _ (exec (Stmt.For _ _ _ _ _) _) _ _ _)); walk_at "S1"))
local macro_rules | `(tactic| k_inst) => `(tactic| exact Mine.InstAt.keeps (by assumption) (Fr.keep (by k_asm)))
local macro_rules | `(tactic| k_room) => `(tactic| ((try simp only [depth_mark, depth_under_make, depth_under_kw, depth_in1, depth_deeper, depth_caller]); omega))
local macro_rules | `(tactic| walk_at "toIter") => `(tactic| repeat ((fail_if_success (with_reducible show wpAny _ _ (pyIter _) _ _ _)); walk_at "S1"))
local macro_rules | `(tactic| walk_at "to402") => `(tactic| repeat ((fail_if_success (with_reducible show wpAny _ _ (call (Value.ref 402) _) _ _ _)); walk_at "S1"))
local macro_rules | `(tactic| walk_at "after") => `(tactic| (intro t9 h9 tk9 st9; (try dsimp only at st9); (have F9 := Fr.stays (by k_asm) st9); (have N9 := News.stays (by k_asm) st9); clear st9; (try k_sweep); (try dsimp only); (try k_fold)))
local macro_rules | `(tactic| walk_at "call ref") => `(tactic| ((with_reducible show wpAny _ _ (call (Value.ref 402) _) _ _ _); k_dflt (refine' number_A ?xB ?xF ?xX ?xT rfl rfl rfl rfl ?xl ?xi ?xn ?xk0 ?xk1 ?xd ?xu ?_; (case xB => k_asm); (case xF => k_asm); (case xX => k_asm); (case xT => k_asm); (case xl => exact Heap.IsList.at (by assumption) fun o e => Fr.keep (by k_asm) _ o e); (case xi => assumption); (case xn => omega); (case xk0 => omega); (case xk1 => omega); (case xd => (try simp only [depth_deeper, depth_caller]); (try dsimp only); decide); (case xu => (try simp only [units_deeper]); (try dsimp only); decide)); walk_at "after"))
local macro_rules | `(tactic| walk_at "call type:range") => `(tactic| ((with_reducible show wpAny _ _ (call (Value.type "range") [Value.int _ _]) _ _ _); (rename Fr _ _ _ _ => F'); (rename News _ _ _ _ => N'); k_dflt (with_unfolding_all refine range1_rows F' N' ?_); intro _ _ _ _ _ _ _ _ _; (try clear F' N')))
local macro_rules | `(tactic| walk_at "subscriptTail") => `(tactic| ((with_reducible show wpAny _ _ (subscriptTail _ _ (Value.str (Str.ofString "xdoa") _) (Value.int _ _)) _ _ _); k_dflt (refine way_at ?_)))
local macro_rules | `(tactic| k_all) => `(tactic| first | exact List.forall_mem_nil _ | (refine' List.forall_mem_cons.mpr ⟨?a, ?b⟩; (case a => k_ne); (case b => k_all)) | exact AllLt.ne (by assumption) | (refine Abv.ne (by assumption) ?_; (try dsimp only); omega) | (refine Abv.ne (by assumption) ?_; exact Nat.le_refl _))
local macro_rules | `(tactic| walk_at "toAppend") => `(tactic| repeat ((fail_if_success (with_reducible show wpAny _ _ (call (Value.builtin "list.append") _) _ _ _)); walk_at "S1"))
local macro_rules | `(tactic| walk_at "sub") => `(tactic| (first | exact List.forall_mem_nil _ | (refine List.forall_mem_cons.mpr ⟨by k_mem, ?_⟩; walk_at "sub") | (intro p9 hp9; repeat (first | exact hp9 | refine List.Mem.tail _ ?_))))
local macro_rules | `(tactic| walk_at "toLC") => `(tactic| repeat ((fail_if_success (with_reducible show wpAny _ _ (eval (Expr.ListComp _ _ _ _) _) _ _ _)); walk_at "S1"))
local macro_rules | `(tactic| walk_at "toJoin") => `(tactic| repeat ((fail_if_success (with_reducible show wpAny _ _ (call (Value.builtin "str.join") _) _ _ _)); walk_at "S1"))
local macro_rules | `(tactic| walk_at "call ref") => `(tactic| ((with_reducible show wpAny _ _ (call (Value.ref 414) _) _ _ _); k_dflt (refine' told_A ?xB ?xF ?xX ?xT rfl rfl rfl rfl ?xl ?xi ?xw ?xn1 ?xn3 ?xb ?xd ?xu ?_; (case xB => k_asm); (case xF => k_asm); (case xX => k_asm); (case xT => k_asm); (case xl => exact ⟨_, News.get (by k_asm) (by k_mem), rfl, _, rfl⟩); (case xi => assumption); (case xw => assumption); (case xn1 => assumption); (case xn3 => assumption); (case xb => assumption); (case xd => (try simp only [depth_deeper, depth_caller]); (try dsimp only); decide); (case xu => (try simp only [units_deeper]); (try dsimp only); decide)); walk_at "after"))
local macro_rules | `(tactic| walk_at "toIadd") => `(tactic| repeat ((fail_if_success (with_reducible show wpAny _ _ (inplaceOp _ _ _) _ _ _)); walk_at "S1"))
local macro_rules | `(tactic| walk_at "afterN") => `(tactic| (intro q9 d9 n9 hs9 ts9 tv9 hs8 ts8 h9 tk9 st9 eq9 ed9 ne9 hq9 hd9; (try dsimp only at st9); (rename Fr _ _ _ _ => F8); (rename News _ _ _ _ => N8); (have F9 := Fr.stays F8 st9); (have N9 := News.more (News.stays N8 st9) st9 F8 hd9 ed9); (have N10 := News.more N9 st9 F8 hq9 eq9); clear F8 N8 N9; (try dsimp only); (try k_fold)))
local macro_rules | `(tactic| walk_at "call ref") => `(tactic| ((with_reducible show wpAny _ _ (call (Value.ref 313) _) _ _ _); k_dflt (refine' hint_A ?xB ?xF ?xX ?xT rfl rfl rfl rfl ?xd ?xu ?_; (case xB => k_asm); (case xF => k_asm); (case xX => k_asm); (case xT => k_asm); (case xd => (try simp only [depth_deeper, depth_caller]); (try dsimp only); decide); (case xu => (try simp only [units_deeper]); (try dsimp only); decide)); walk_at "afterN"))
local macro_rules | `(tactic| walk_at "toBytes") => `(tactic| repeat ((fail_if_success (with_reducible show wpAny _ _ (call (Value.type "bytes") _) _ _ _)); walk_at "S1"))
local macro_rules | `(tactic| walk_at "to276") => `(tactic| repeat ((fail_if_success (with_reducible show wpAny _ _ (call (Value.ref 276) _) _ _ _)); walk_at "S1"))
theorem fillL : PySem.Challenge.rw_fh5010_02 = PySem.Challenge.rw_fh5010_02 ∧ hd.heap_39 = hd.heap_39 := by
  w_top off
  k_fill
  exact ⟨rfl, rfl⟩
theorem range_size {n : Int} (h0 : 0 ≤ n) : Builtin.Range.rangeSize 0 n 1 = (n.toNat : Int) := by
  unfold Builtin.Range.rangeSize
  rw [if_pos (by decide : (1 : Int) > 0)]
  by_cases h : 0 < n
  · rw [if_pos h, Int.ediv_one]; omega
  · rw [if_neg h]; omega
theorem fmod3 (x : Int) : 0 ≤ x.fmod 3 ∧ x.fmod 3 < 3 := ⟨Int.fmod_nonneg_of_pos _ (by decide), Int.fmod_lt_of_pos _ (by decide)⟩
theorem range_small {n : Int} (h0 : 0 ≤ n) (h1 : n ≤ 1000) : Builtin.Range.small 0 n 1 = true := small_one (by omega) (by omega) (by omega) (by omega)
theorem mem_of_eq {α : Type} {l l' : List α} (h : l = l') : ∀ p ∈ l, p ∈ l' := fun _ hp => h ▸ hp
theorem fmod3_le (x : Int) : 1 + x.fmod 3 ≤ 1000 := by have := fmod3 x; omega
theorem lt3 {x : Int} {j : Nat} (h : j < (1 + x.fmod 3).toNat) : j < 3 := by have := fmod3 x; omega
theorem ints_name {vs : List Value} {ns : List Int} (_ : IntsAre vs ns) : ∃ n, n = ns := ⟨ns, rfl⟩
theorem news_head {h₀ h : Heap} {L a : Addr} {o : Obj} {r : List (Addr × Obj)} (_ : News h₀ L h ((a, o) :: r)) : ∃ b o', b = a ∧ o' = o := ⟨a, o, rfl, rfl⟩
theorem fr_addr {h₀ h : Heap} {L : Addr} {m : Str → Option Value} (_ : Fr h₀ L h m) (x : Str) {a : Addr} (_ : m x = some (.ref a)) : ∃ b : Addr, b = a := ⟨a, rfl⟩
theorem law02 : PySem.Challenge.rw_fh5010_02.Holds := hd (by
  k_go0
  all_goals try k_fold
  rename IntsAre _ _ => hIA
  obtain ⟨ns, rfl⟩ := ints_name hIA
  walk_at "toFor"
  rename Fr _ _ _ _ => F
  refine' For_invVF F ?zx ?zp ?_ ?zs ?zE
  case zx => rfl
  case zp => rfl
  case zs => intro _; rfl
  case zE => passes_own
  walk_at "toIter"
  rename Fr _ _ _ _ => F
  rename News _ _ _ _ => N
  rename IsRange _ _ _ _ _ _ _ _ => R
  refine' range_ov3 (n := 3) (σ := Int × Obj × Obj) (fun c l => setO 2 c.2.2 (setO 3 c.2.1 l)) (fun _ => []) (fun i c => (∃ t, c.2.1.data = .cell (some (.int c.1 t))) ∧ (∃ v, c.2.2.data = .cell v) ∧ 0 ≤ c.1 ∧ c.1 ≤ 100 * i) (0, _, _) rfl R ?za ?zb F N ?zc ?zd ?ze ?zf ?zturn ?zdone
  case zc => refine mem_of_eq ?_; exact rfl
  case za => rfl
  case zb => rfl
  case zd =>
    intro i c _ p hp
    have := List.mem_map_of_mem (f := (·.1)) hp
    rw [setO_fst, setO_fst] at this
    exact .inl this
  case ze => trivial
  case zf => exact ⟨⟨_, by assumption⟩, ⟨_, by assumption⟩, Int.le_refl _, Int.le_refl _⟩
  case zdone =>
    clear F N R
    intro c u t h tk hP F N
    dsimp only [ov] at F
    dsimp only [setO] at N
    k_steps
  case zturn =>
    clear F N R
    rintro I0 hI0 i tv ⟨pl, oP, oW⟩ u t h tk oI0 hi ⟨⟨tpl, hoP⟩, ⟨vW, hoW⟩, hpl0, hpl1⟩ hoI0 F N
    dsimp only [ov, setO, List.cons_append, List.nil_append] at F N hoP hoW hpl0 hpl1
    dsimp only [AllLt] at hI0
    walk_at "toFor"
    rename Fr _ _ _ _ => F
    rename News _ _ _ _ => N
    refine' For_invVF F ?zx1 ?zp1 ?_ ?zs1 ?zE1
    case zx1 => rfl
    case zp1 => rfl
    case zs1 => intro _; rfl
    case zE1 => passes_own
    walk_at "to402"
    with_reducible show wpAny _ _ (call (Value.ref 402) _) _ _ _
    k_dflt (refine' number_A ?xB ?xF ?xX ?xT rfl rfl rfl rfl ?xl ?xi ?xn ?xk0 ?xk1 ?xd ?xu ?_)
    case xB => k_asm
    case xF => k_asm
    case xX => k_asm
    case xT => k_asm
    case xl => exact Heap.IsList.at (by assumption) fun o e => Fr.keep (by k_asm) _ o e
    case xi => assumption
    case xn => omega
    case xk0 => omega
    case xk1 => omega
    case xd => (try simp only [depth_deeper, depth_caller]); (try dsimp only); decide
    case xu => (try simp only [units_deeper]); (try dsimp only); decide
    walk_at "after"
    walk_at "toIter"
    rename Fr _ _ _ _ => F
    rename News _ _ _ _ => N
    rename IsRange _ _ _ _ _ _ _ _ => R
    obtain ⟨lP, rfl⟩ := fr_addr F "parts" rfl
    refine' range_ov3 (σ := List Part × List Value × Nat × List (Addr × Obj)) (fun c l => (lP, W.listOf c.2.1.toArray c.2.2.1) :: (l.tail ++ c.2.2.2)) (fun c => [("k", .int (0 + i)), ("parts", .val (.ref lP))]) (fun j c => c.1.length = j ∧ TupsAt c.1 c.2.1 c.2.2.2 ∧ (∀ p ∈ c.1, p.Ok) ∧ Abv lP c.2.2.2) ([], [], 0, []) rfl R ?wa (range_size ?wb) F N ?wc ?wd ?we ?wf ?wturn ?wdone
    case wb => exact Int.add_nonneg (by decide) (fmod3 _).1
    case we => exact ⟨⟨_, rfl⟩, ⟨0, rfl⟩, trivial⟩
    case wf => exact ⟨rfl, TupsAt.nil, fun _ h => (by cases h), Abv.nil⟩
    case wc => intro p hp; simpa using hp
    case wa => exact range_small (Int.add_nonneg (by decide) (fmod3 _).1) (fmod3_le _)
    case wd =>
      rintro j ⟨pts, vsP, nP, tups⟩ ⟨_, hT, _, _⟩ p hp
      rcases List.mem_cons.mp hp with rfl | hp
      · exact .inl (.head _)
      · rcases List.mem_append.mp hp with hp | hp
        · exact .inl (.tail _ (List.mem_map_of_mem hp))
        · exact .inr (by rw [hT.cls p hp]; decide)
    case wturn =>
      clear F N R
      rintro I1 hI1 j tj ⟨pts, vsP, nP, tups⟩ u' t' h' tk' oI hj ⟨hjc, hT, hok, habv⟩ hoIc F N
      dsimp only [ov, VT.at, List.tail, List.cons_append, List.nil_append] at F N hjc hT hok habv
      dsimp only [AllLt] at hI1
      have hj3 := lt3 hj
      walk_at "toAppend"
      k_dflt (refine' append_K ?k1q0 ?k2q0 ?k3q0 ?_ ?zq0)
      case k1q0 => k_asm
      case k2q0 => k_asm
      case k3q0 => k_upd
      case zq0 => rw [sizeLine_eq]; simp [hT.len]; omega
      intro h2 F2 N2
      walk_at "S1"
      walk_at "S1"
      rename Fr _ _ _ _ => F3
      rename News _ _ _ _ => N3
      rw [List.push_toArray] at N3
      obtain ⟨D, oD, rfl, hoD⟩ := news_head N3
      rw [← hoD] at N3
      have hTo := partOf_obj hoD
      have hD : lP < D := ltN (by omega)
      refine Turn.intro (pts ++ [_], vsP ++ [_], nP + 1, (D, oD) :: tups) F3 N3 ?_ ⟨⟨_, rfl⟩, ⟨0, rfl⟩, trivial⟩ ⟨by simp [hjc], hT.snoc hTo, ?_, habv.cons hD⟩
      · dsimp only [List.tail, List.cons_append, List.nil_append]
        walk_at "sub"
      · intro p hp
        rcases List.mem_append.mp hp with hp | hp
        · exact hok p hp
        · rw [List.mem_singleton.mp hp]; exact partOf_ok _
    case wdone =>
      clear F N R
      rintro ⟨pts, vsP, nP, tups⟩ u' t' h' tk' ⟨hlen, hT, hok, habv⟩ F N
      dsimp only [ov, VT.at, List.tail, List.cons_append, List.nil_append] at F N hlen hT hok habv
      have hpl3 : pts.length ≤ 3 := by have := fmod3 (drw ns (20 * (0 + (i : Int)))); omega
      walk_at "toLC"
      k_dflt (refine' ListComp_3 (cl := []) ?c1q1 ?c2q1 ?c3q1 ?c4q1 ?c5q1 ?c6q1 ?c7q1 ?c8q1 ?c9q1 ?c10q1 ?c11q1 ?c12q1 ?c13q1)
      case c1q1 => rfl
      case c2q1 => rfl
      case c3q1 => decide
      case c4q1 => rfl
      case c5q1 => decide
      case c6q1 => rfl
      case c7q1 => rfl
      case c8q1 => rfl
      case c9q1 => decide
      case c10q1 => decide
      case c11q1 => decide
      case c13q1 => intro _; rfl
      walk_at "S1"
      have hlP := (N _ (List.Mem.head _)).1
      refine ⟨lP, vsP, pts, rfl, ⟨_, hlP, rfl, _, rfl⟩, hT.len, by rw [hT.len]; omega, tups_isTup N (by intro p9 hp9; repeat (first | exact hp9 | refine List.Mem.tail _ ?_)) hT, ?_, ?_⟩
      · intro C p t1 t2 s₃ m₂ E' hp hns q1 q2 q3
        exact hint_elt (hok p hp) rfl rfl rfl rfl hns q1 q2 q3
      clear hlP
      intro D h2 tk2 ys hD hDl hys st2
      dsimp only at st2 hD
      have F2 := Fr.stays F st2
      have N2 := News.stays N st2
      clear st2 hD F N
      dsimp only
      walk_at "toJoin"
      refine join_listW hDl (by simpa using hys) (by decide) (Nat.le_trans (hint_weight pts) (by omega)) ?_
      intro tj kj
      rw [hint_join]
      clear hDl hys
      (try dsimp only)
      walk_at "toFor"
      rename Fr _ _ _ _ => F
      obtain ⟨lO, rfl⟩ := fr_addr F "octets" rfl
      refine' For_invVF F ?zx2q1 ?zp2q1 ?_ ?zs2q1 ?zE2q1
      case zx2q1 => rfl
      case zp2q1 => rfl
      case zs2q1 => intro _; rfl
      case zE2q1 => passes_own
      walk_at "toIter"
      rename Fr _ _ _ _ => F
      rename News _ _ _ _ => N
      rename IsRange _ _ _ _ _ _ _ _ => R
      refine' range_ov3 (σ := RS) (fun c l => (lO, W.listOf c.vsO.toArray c.nO) :: setO 4 c.oW (setO 5 c.oP l.tail.tail)) (fun c => [("octets", .val (.ref lO)), ("told", .str (sA (toldsOf c.its))), ("hint", .str (sA (hintL pts))), ("k", .int (0 + i)), ("parts", .val (.ref lP))]) (fun r c => RInv pl (roundsL r pts) c) ⟨[], pl, oP, oW, [], 0⟩ rfl R ?waq1 (range_size ?wbq1) F N ?wcq1 ?wdq1 ?weq1 ?wfq1 ?wturnq1 ?wdoneq1
      case wbq1 => exact fm2_ge _
      case wcq1 => intro p hp; exact List.Mem.tail _ hp
      case wdq1 =>
        intro r c _ p hp
        rcases List.mem_cons.mp hp with rfl | hp
        · exact .inl (.tail _ (.head _))
        · have := List.mem_map_of_mem (f := (·.1)) hp
          rw [setO_fst, setO_fst] at this
          exact .inl (.tail _ (.tail _ this))
      case weq1 => exact ⟨⟨0, rfl⟩, ⟨_, rfl⟩, ⟨_, rfl⟩, ⟨_, rfl⟩, ⟨0, rfl⟩, trivial⟩
      case wfq1 => exact ⟨rfl, fun _ h => (by cases h), ⟨_, hoP⟩, ⟨_, hoW⟩, Int.le_refl _, (by simp), .nil⟩
      case waq1 => exact range_small (fm2_ge _) (fm2_le _)
      case wturnq1 =>
        clear F N R
        rintro I2 hI2 r tr ⟨its, pl1, oP1, oW1, vsO, nO⟩ u2 t2 h3 tk3 oI2 hr2 hinv hoI2 F N
        dsimp only [ov, VT.at, List.tail, List.cons_append, List.nil_append, setO] at F N hinv
        dsimp only [AllLt] at hI2
        have hr2 := fm2_lt hr2
        walk_at "toFor"
        rename Fr _ _ _ _ => F
        rename News _ _ _ _ => N
        refine' For_invTF F ?_ ?zs3q2 ?zE3q2
        case zs3q2 => intro _; rfl
        case zE3q2 => passes_own
        walk_at "S1"
        refine' list_ovT (σ := RS) (lo := W.listOf vsP.toArray nP) (vs := vsP) (fun c l => (I2, oI2) :: (lO, W.listOf c.vsO.toArray c.nO) :: setO 4 c.oW (setO 5 c.oP l.tail.tail)) (fun c => [("octets", .val (.ref lO)), ("told", .str (sA (toldsOf c.its))), ("hint", .str (sA (hintL pts))), ("k", .int (0 + i)), ("parts", .val (.ref lP))]) (fun j c => RInv pl (roundsL r pts ++ pts.take j) c) ⟨its, pl1, oP1, oW1, vsO, nO⟩ rfl ?waq2 ?wbq2 F N ?wcq2 ?wmq2 ?wdq2 ?weq2 ?wfq2 ?wturnq2 ?wdoneq2
        case waq2 => exact ⟨_, (N _ (List.Mem.tail _ (List.Mem.tail _ (List.Mem.head _)))).1, rfl, _, rfl⟩
        case wbq2 => exact List.Mem.tail _ (List.Mem.tail _ (List.Mem.head _))
        case wcq2 => intro p hp; exact hp
        case wmq2 => intro j c _; exact List.Mem.tail _ (List.Mem.tail _ (List.Mem.head _))
        case wdq2 =>
          intro r c _ p hp
          rcases List.mem_cons.mp hp with rfl | hp
          · exact .inl (.head _)
          rcases List.mem_cons.mp hp with rfl | hp
          · exact .inl (.tail _ (.head _))
          · have := List.mem_map_of_mem (f := (·.1)) hp
            rw [setO_fst, setO_fst] at this
            exact .inl (.tail _ (.tail _ this))
        case weq2 => exact ⟨⟨0, rfl⟩, ⟨_, rfl⟩, ⟨_, rfl⟩, ⟨_, rfl⟩, ⟨0, rfl⟩, trivial⟩
        case wfq2 => simpa using hinv
        case wdoneq2 =>
          clear F N
          rintro ⟨its, pl1, oP1, oW1, vsO, nO⟩ u3 t3 h4 tk4 hinv F N
          dsimp only [ov, VT.at, List.tail, List.cons_append, List.nil_append, setO] at F N hinv
          rw [hT.len, List.take_length, ← roundsL_succ] at hinv
          walk_at "S1"
          refine Turn.intro (σ := RS) ⟨its, pl1, oP1, oW1, vsO, nO⟩ F N ?_ ?_ hinv
          · intro p hp; exact hp
          · exact ⟨⟨0, rfl⟩, ⟨_, rfl⟩, ⟨_, rfl⟩, ⟨_, rfl⟩, ⟨0, rfl⟩, trivial⟩
        case wturnq2 =>
          clear F N hinv
          rintro I3 hI3 j v ⟨its, pl1, oP1, oW1, vsO, nO⟩ u3 t3 s3 oI3 hv hinv hoI3 F N
          dsimp only [ov, VT.at, List.tail, List.cons_append, List.nil_append, setO] at F N hinv
          dsimp only [AllLt] at hI3
          obtain ⟨p, hp⟩ : ∃ p, pts[j]? = some p := ⟨pts[j]'(by have := (List.getElem?_eq_some_iff.mp hv).1; rw [hT.len] at this; exact this), by simp⟩
          obtain ⟨a3, t31, t32, hva, hta⟩ := tups_isTup N (by intro p9 hp9; repeat (first | exact hp9 | refine List.Mem.tail _ ?_)) hT j p hp
          have hv3 : v = .ref a3 := by rw [hva] at hv; exact (Option.some.inj hv).symm
          subst hv3
          have hpok := hok p (List.mem_of_getElem? hp)
          have hpl1 := hinv.lo
          have hpl2 := hinv.hi
          have hlen2 := hinv.len
          have hob := octsOf_len hinv.ok
          have hnl := hinv.nums.length
          refine assign_Tuple_tuple rfl hta rfl rfl fun h5 he5 => ?_
          have he5' : Shared.heap s3 |>.StaysIn h5 := fun b o e => he5 b o (Nat.ne_of_lt (Heap.lt_size e)) e
          have F5 := Fr.stays F he5'
          have N5 := News.stays N he5'
          clear F N hta he5 he5' hva
          obtain ⟨_, _, ⟨tpl1, hoP1⟩, ⟨vW1, hoW1⟩, _, _, _⟩ := id hinv
          dsimp only at hoP1 hoW1 hpl1 hpl2 hlen2 hob hnl
          rw [List.length_map] at hnl
          have hml : ((octsOf its).map fun n : Nat => (n : Int)).length = (octsOf its).length := List.length_map ..
          have hjl : j < pts.length := (List.getElem?_eq_some_iff.mp hp).1
          have hits : its.length ≤ 6 := by
            rw [hlen2, List.length_append, roundsL_len, List.length_take]
            have := Nat.mul_le_mul hr2 hpl3
            have := Nat.mul_le_mul (show r ≤ 1 by omega) hpl3
            omega
          iterate 12 (walk_at "S1")
          rename Fr _ _ _ _ => F
          rename News _ _ _ _ => N
          refine' cut_execU (σ := Int) (fun _ l => l) (fun c => [("count", .int c), ("repeated", .val (.bool p.rep)), ("length", .int p.len), ("octets", .val (.ref lO)), ("told", .str (sA (toldsOf its))), ("hint", .str (sA (hintL pts))), ("k", .int (0 + i)), ("parts", .val (.ref lP))]) (fun c => 0 ≤ c ∧ c ≤ 3 ∧ (p.rep = false → c = 1)) F N ?cut1q3 ?cut2q3
          case cut1q3 =>
            cases hrep : p.rep with
            | true =>
              rw [hrep] at F
              k_steps
              exact trivial
              rename Fr _ _ _ _ => F
              rename News _ _ _ _ => N
              have h4 := fmod_at ((drw ns (20 * (0 + (i : Int)) + 7 + ((List.map (fun n : Nat => (n : Int)) (octsOf its)).length : Int))).fdiv 2) (show (0 : Int) < 4 by decide)
              refine Turn.intro (((drw ns (20 * (0 + (i : Int)) + 7 + ((List.map (fun n : Nat => (n : Int)) (octsOf its)).length : Int))).fdiv 2).fmod 4) F N ?_ ?_ ?_
              · intro p hp; exact hp
              · exact ⟨⟨_, rfl⟩, ⟨0, rfl⟩, ⟨_, rfl⟩, ⟨0, rfl⟩, ⟨_, rfl⟩, ⟨_, rfl⟩, ⟨_, rfl⟩, ⟨0, rfl⟩, trivial⟩
              · exact ⟨h4.1, by omega, fun e => by cases e⟩
            | false =>
              rw [hrep] at F
              k_steps
              rename Fr _ _ _ _ => F
              rename News _ _ _ _ => N
              refine Turn.intro 1 F N ?_ ?_ ?_
              · intro p hp; exact hp
              · exact ⟨⟨_, rfl⟩, ⟨0, rfl⟩, ⟨_, rfl⟩, ⟨0, rfl⟩, ⟨_, rfl⟩, ⟨_, rfl⟩, ⟨_, rfl⟩, ⟨0, rfl⟩, trivial⟩
              · exact ⟨by decide, by decide, fun _ => rfl⟩
          case cut2q3 =>
            clear F N
            intro cnt h6 tk6 u6 t6 ⟨hc0, hc3, hc1⟩ F N
            dsimp only [ov, VT.at] at F N
            iterate 1 (walk_at "S1")
            rename Fr _ _ _ _ => F
            rename News _ _ _ _ => N
            refine' cut_execU (σ := List Value × Nat) (fun c l => setO 2 (W.listOf c.1.toArray c.2) l) (fun _ => [("count", .int cnt), ("repeated", .val (.bool p.rep)), ("length", .int p.len), ("octets", .val (.ref lO)), ("told", .str (sA (toldsOf its))), ("hint", .str (sA (hintL pts))), ("k", .int (0 + i)), ("parts", .val (.ref lP))]) (fun c => IntsAre c.1 ((octsOf its ++ (if p.rep then [cnt.toNat] else [])).map fun n : Nat => (n : Int))) F N ?cut1q4 ?cut2q4
            case cut1q4 =>
              cases hrep : p.rep with
              | true =>
                rw [hrep] at F
                walk_at "toAppend"
                k_dflt (refine' append_K ?k1q4 ?k2q4 ?k3q4 ?_ ?zq4)
                case k1q4 => k_asm
                case k2q4 => k_asm
                case k3q4 => k_upd
                case zq4 => rw [sizeLine_eq]; simp; omega
                intro h7 F7 N7
                (try k_sweep)
                k_steps
                rename Fr _ _ _ _ => F
                rename News _ _ _ _ => N
                rw [List.push_toArray] at N
                obtain ⟨y, hy⟩ := news_seq3 N
                rw [← hy] at N
                refine Turn.intro (σ := List Value × Nat) (vsO ++ [y], nO + 1) F N ?_ ?_ ?_
                · intro p hp; exact hp
                · exact ⟨⟨_, rfl⟩, ⟨0, rfl⟩, ⟨_, rfl⟩, ⟨0, rfl⟩, ⟨_, rfl⟩, ⟨_, rfl⟩, ⟨_, rfl⟩, ⟨0, rfl⟩, trivial⟩
                · have e : ((octsOf its ++ [cnt.toNat]).map fun n : Nat => (n : Int)) = ((octsOf its).map fun n : Nat => (n : Int)) ++ [cnt] := by
                    rw [List.map_append, List.map_cons, List.map_nil, Int.toNat_of_nonneg hc0]
                  dsimp only
                  simp only [if_true]
                  rw [e, hy]
                  exact ints_snoc hinv.nums
              | false =>
                rw [hrep] at F
                k_steps
                rename Fr _ _ _ _ => F
                rename News _ _ _ _ => N
                refine Turn.intro (σ := List Value × Nat) (vsO, nO) F N ?_ ?_ ?_
                · intro p hp; exact hp
                · exact ⟨⟨_, rfl⟩, ⟨0, rfl⟩, ⟨_, rfl⟩, ⟨0, rfl⟩, ⟨_, rfl⟩, ⟨_, rfl⟩, ⟨_, rfl⟩, ⟨0, rfl⟩, trivial⟩
                · dsimp only
                  simp only [Bool.false_eq_true, if_false, List.append_nil]
                  exact hinv.nums
            case cut2q4 =>
              clear F N
              rintro ⟨vsO2, nO2⟩ h6 tk6 u6 t6 hnum2 F N
              dsimp only [ov, VT.at, setO] at F N hnum2
              walk_at "toFor"
              rename Fr _ _ _ _ => F
              refine' For_invVF F ?zx4q5 ?zp4q5 ?_ ?zs4q5 ?zE4q5
              case zx4q5 => rfl
              case zp4q5 => rfl
              case zs4q5 => intro _; rfl
              case zE4q5 => passes_own
              walk_at "toIter"
              rename Fr _ _ _ _ => F
              rename News _ _ _ _ => N
              rename IsRange _ _ _ _ _ _ _ _ => R
              obtain ⟨oW2, hoW2⟩ := news_W N
              rw [← hoW2] at N
              have hdW2 : oW2.data = .cell (some (.str (sA [p.way]) t32)) := by rw [hoW2]; assumption
              refine' range_ov3 (σ := CS) (fun c l => (I3, oI3) :: (I2, oI2) :: (lO, W.listOf c.vsO.toArray c.nO) :: setO 5 c.oP l.tail.tail.tail) (fun c => [("told", .str (sA (toldsOf its ++ (c.pieces.map (toldN p.way)).flatten))), ("length", .int p.len), ("octets", .val (.ref lO)), ("hint", .str (sA (hintL pts))), ("k", .int (0 + i)), ("parts", .val (.ref lP))]) (fun q c => CInv pl1 its p cnt.toNat q c) ⟨[], pl1, oP1, vsO2, nO2⟩ rfl R ?waq5 (range_size hc0) F N ?wcq5 ?wdq5 ?weq5 ?wfq5 ?wturnq5 ?wdoneq5
              case waq5 => exact range_small hc0 (by omega)
              case wcq5 => intro p hp; exact hp
              case wdq5 =>
                intro r c _ p hp
                rcases List.mem_cons.mp hp with rfl | hp
                · exact .inl (.head _)
                rcases List.mem_cons.mp hp with rfl | hp
                · exact .inl (.tail _ (.head _))
                rcases List.mem_cons.mp hp with rfl | hp
                · exact .inl (.tail _ (.tail _ (.head _)))
                · have := List.mem_map_of_mem (f := (·.1)) hp
                  rw [setO_fst] at this
                  exact .inl (.tail _ (.tail _ (.tail _ this)))
              case weq5 => exact ⟨⟨_, by rw [List.map_nil, List.flatten_nil, List.append_nil]; rfl⟩, ⟨_, rfl⟩, ⟨0, rfl⟩, ⟨_, rfl⟩, ⟨_, rfl⟩, ⟨0, rfl⟩, trivial⟩
              case wfq5 => exact ⟨rfl, fun _ h => (by cases h), ⟨_, hoP1⟩, by simp, by rw [List.flatten_nil, List.append_nil]; exact hnum2⟩
              case wturnq5 =>
                clear F N R
                rintro I4 hI4 q tq ⟨pcs, pl2, oP2, vsO3, nO3⟩ u4 t4 h7 tk7 oI4 hq hci hoI4 F N
                dsimp only [ov, VT.at, List.tail, List.cons_append, List.nil_append, setO] at F N hci
                dsimp only [AllLt] at hI4
                obtain ⟨tP2, hoP2⟩ := hci.oP
                have hpl4 := hci.pl
                dsimp only at hoP2 hpl4
                have hq3 : q < 3 := by omega
                walk_at "toLC"
                rename Fr _ _ _ _ => F
                rename News _ _ _ _ => N
                rename IsRange _ _ _ _ _ _ _ _ => R
                k_dflt (refine LCg.CompSrc.range (n := p.len) (by rfl) F N R ?raq7 ?rbq7 ?rcq7 ?_)
                case raq7 => exact range_small (Int.natCast_nonneg _) (by have := hpok.l3; omega)
                case rbq7 => exact (range_size (Int.natCast_nonneg _)).trans (by rw [Int.toNat_natCast])
                case rcq7 => rw [sizeLine_eq]; have := hpok.l3; omega
                intro g
                refine comp_ind (fun i ys => PieceSo p i ys) PieceSo.nil ?_ ?_
                · clear F N R
                  rintro i3 ys v I oI C oC D m₂ h8 tk8 E8 hi3 hso ⟨tv, rfl⟩ hC hx F N off ne
                  obtain ⟨ne1, ne2, ne3⟩ := ne
                  dsimp only [LCg.Off3] at off
                  dsimp only
                  k_steps
                  · rename Fr _ _ _ _ => F
                    rename News _ _ _ _ => N
                    have hm := fmod_at (drw ns (pl2 + 1 + 60)) (show (0 : Int) < 26 by decide)
                    refine EltEnd.intro F N ?_ (hso.snoc ?_ ?_ ?_)
                    · intro p hp; exact hp
                    · omega
                    · omega
                    · intro _; omega
                  · rename Fr _ _ _ _ => F
                    rename News _ _ _ _ => N
                    have hm := fmod_at (drw ns (pl2 + 1 + 60) + 37 * (0 + (i3 : Int))) (show (0 : Int) < 256 by decide)
                    refine EltEnd.intro F N ?_ (hso.snoc ?_ ?_ ?_)
                    · intro p hp; exact hp
                    · exact hm.1
                    · exact hm.2
                    · intro e; exact (way_not (by assumption) e).elim
                · clear F N R
                  intro ys hso D h8 tk8 F N off
                  dsimp only [LCg.Off1] at off
                  obtain ⟨piece, hpl5, hys, hbyte, hasc⟩ := hso
                  have hnum4 := hci.nums
                  have hn9 := hnum4.length
                  have hl1 := hpok.l1
                  have hl3 := hpok.l3
                  have hlO : vsO3.length ≤ 1000 := by
                    dsimp only at hn9
                    rw [hn9, List.length_map, List.length_append, List.length_append, List.length_flatten, ]
                    have h1 := flat_le (k := 3) (l := pcs) fun x hx => by have := (hci.each x hx).1; omega
                    have h2 := hci.len
                    dsimp only at h2
                    rw [List.length_flatten] at h1
                    have h3 : (if p.rep = true then [cnt.toNat] else []).length ≤ 1 := by split <;> simp
                    omega
                  have hysl := hys.length
                  rw [List.length_map, hpl5] at hysl
                  have hyne : ys ≠ [] := by rintro rfl; rw [List.length_nil] at hysl; omega
                  have hway := way_str hpok.w
                  have hw1 : 1 ≤ (piece.map fun n : Nat => (n : Int)).length := by rw [List.length_map]; omega
                  have hw3 : (piece.map fun n : Nat => (n : Int)).length ≤ 3 := by rw [List.length_map]; omega
                  have hwb : ∀ x ∈ (piece.map fun n : Nat => (n : Int)), 0 ≤ x ∧ x < 256 := fun x hx => by
                    obtain ⟨y, hy, rfl⟩ := List.mem_map.mp hx
                    have := hbyte y hy
                    exact ⟨Int.natCast_nonneg _, by omega⟩
                  have htl := toldsOf_len hinv.ok
                  have hpt := flat_le (k := 24) (l := pcs.map (toldN p.way)) fun x hx => by
                    obtain ⟨l, hl, rfl⟩ := List.mem_map.mp hx
                    exact toldN_len hpok.w (by rw [(hci.each l hl).1]; exact hl3) (hci.each l hl).2.1
                  have hpl6 := hci.len
                  dsimp only at hpl6 htl
                  rw [List.length_map, hpl6] at hpt
                  have ht6 := toldN_len hpok.w (show piece.length ≤ 3 by omega) hbyte
                  walk_at "toIadd"
                  k_dflt (refine' iadd_list ?k1q8 ?k2q8 ?k3q8 hyne ?k4q8 ?k5q8 ?k6q8 ?_)
                  case k1q8 => k_asm
                  case k2q8 => k_asm
                  case k3q8 => k_mem
                  case k4q8 => k_upd
                  case k5q8 => omega
                  case k6q8 => omega
                  intro h9 F9 N9
                  (try k_sweep)
                  walk_at "S1"
                  walk_at "toIadd"
                  rw [toldN_sA]
                  refine iadd_sA ?_ ?_
                  · rw [List.length_append]; omega
                  intro t10 k10
                  iterate 3 (walk_at "S1")
                  rename Fr _ _ _ _ => F
                  rename News _ _ _ _ => N
                  obtain ⟨oP5, hoP5⟩ := news_P N
                  rw [← hoP5] at N
                  obtain ⟨tP5, hdP5⟩ : ∃ t, oP5.data = .cell (some (.int (pl2 + 1) t)) := ⟨_, by rw [hoP5]; assumption⟩
                  have hnext := CInv.snoc (n := nO3 + 1) hci ⟨by omega, hbyte, hasc⟩ hdP5 hys
                  refine Turn.intro (σ := CS) ⟨pcs ++ [piece], pl2 + 1, oP5, vsO3 ++ ys, nO3 + 1⟩ F N ?_ ?_ hnext
                  · dsimp only [setO, List.tail, List.cons_append, List.nil_append]
                    walk_at "sub"
                  · dsimp only
                    rw [List.map_append, List.flatten_append, List.map_cons, List.map_nil, List.flatten_cons, List.flatten_nil, List.append_nil, ← List.append_assoc]
                    exact ⟨⟨_, rfl⟩, ⟨_, rfl⟩, ⟨0, rfl⟩, ⟨_, rfl⟩, ⟨_, rfl⟩, ⟨0, rfl⟩, trivial⟩
              case wdoneq5 =>
                clear F N R
                rintro ⟨pcs, pl2, oP2, vsO3, nO3⟩ u4 t4 h7 tk7 hci F N
                dsimp only [ov, VT.at, List.tail, List.cons_append, List.nil_append, setO] at F N hci
                walk_at "S1"
                have hfin := CInv.next hpok hc0 hc3 hc1 hci hinv ⟨_, hdW2⟩
                have htold := CInv.told hci
                refine ⟨rfl, Turn.intro (σ := RS) ⟨its ++ [⟨p, pcs⟩], pl2, oP2, oW2, vsO3, nO3⟩ F N ?_ ?_ ?_⟩
                · intro p hp; exact hp
                · dsimp only at htold ⊢
                  rw [htold]
                  exact ⟨⟨0, rfl⟩, ⟨_, rfl⟩, ⟨_, rfl⟩, ⟨_, rfl⟩, ⟨0, rfl⟩, trivial⟩
                · rw [List.take_add_one, hp, ← List.append_assoc]
                  exact hfin
      case wdoneq1 =>
        clear F N R
        rintro ⟨its, pl1, oP1, oW1, vsO, nO⟩ u2 t2 h3 tk3 hinv F N
        dsimp only [ov, VT.at, List.tail, List.cons_append, List.nil_append, setO] at F N hinv
        have hptne : pts ≠ [] := by
          rintro rfl
          have := fmod3 (drw ns (20 * (0 + (i : Int))))
          rw [List.length_nil] at hlen
          omega
        have hn2 : (1 + (drw ns (20 * (0 + (i : Int)) + 4)).fmod 2).toNat ≤ 2 := by have := fmod_at (drw ns (20 * (0 + (i : Int)) + 4)) (show (0 : Int) < 2 by decide); omega
        have hits : its.length ≤ 6 := by
          rw [hinv.len, roundsL_len]
          have := Nat.mul_le_mul hn2 hpl3
          omega
        have hob := octsOf_len hinv.ok
        have hbb := octsOf_byte hinv.ok
        have hfol := fol_rounds hptne hinv.parts
        have hnl := hinv.nums.length
        have hok6 := hinv.ok
        dsimp only at hob hbb hfol hnl hok6
        rw [List.length_map] at hnl
        walk_at "toBytes"
        k_dflt (refine' bytes_K ?k1q9 ?k2q9 ?k3q9 hinv.nums ?k5q9 ?k6q9 rfl ?_)
        case k1q9 => k_asm
        case k2q9 => k_asm
        case k3q9 => exact ⟨_, News.get (by k_asm) (by k_mem), rfl, _, rfl⟩
        case k5q9 =>
          intro x hx
          obtain ⟨y, hy, rfl⟩ := List.mem_map.mp hx
          have := hbb y hy
          exact ⟨Int.natCast_nonneg _, by omega⟩
        case k6q9 => dsimp only; rw [sizeLine_eq]; omega
        intro h9 t9 k9 F9 N9 _
        rw [bA_of]
        (try k_sweep)
        walk_at "to276"
        k_dflt (refine' pretty_A ?xBq9 ?xFq9 ?xXq9 ?xTq9 rfl rfl rfl rfl ?xIq9 hptne hpl3 hok hok6 ?xlq9 hfol ?xoq9 ?xdq9 ?xuq9 ?_)
        case xBq9 => k_asm
        case xFq9 => k_asm
        case xXq9 => k_asm
        case xTq9 => k_asm
        case xIq9 => refine' InstAt.of_news ?zNq9 ?zmq9 ?znq9; (case zNq9 => k_asm); (case zmq9 => k_mem); (case znq9 => k_mem)
        case xlq9 => omega
        case xoq9 => omega
        case xdq9 => (try simp only [depth_deeper, depth_caller]); (try dsimp only); decide
        case xuq9 => (try simp only [units_deeper]); (try dsimp only); decide
        walk_at "after"
        k_steps
        · rename ((_ != _) = true) => h9
          simp at h9
        · rename ((_ != _) = true) => h9
          simp at h9
        · rename Fr _ _ _ _ => F
          rename News _ _ _ _ => N
          have hlo := hinv.lo
          have hhi := hinv.hi
          dsimp only at hlo hhi
          refine Turn.intro (σ := Int × Obj × Obj) (pl1, oP1, oW1) F N ?_ trivial ⟨hinv.oP, hinv.oW, ?_, ?_⟩
          · dsimp only [setO]
            walk_at "sub"
          · dsimp only; omega
          · dsimp only; omega)
end Mine

end

theorem PySem.Challenge.cw_fh5010_02_holds : PySem.Challenge.rw_fh5010_02.Holds :=
  Mine.law02
