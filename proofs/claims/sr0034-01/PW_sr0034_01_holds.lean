import PyProof.Rows.All
import Wide.All
import OpenK.AllK
import Wide.FinOn
import PySem.Challenge.RW_sr0034_01
open PySem PySem.W PyProof.Rows
set_option Elab.async false
set_option maxRecDepth 100000
set_option maxHeartbeats 8000000
namespace Mine
open_top hd for PySem.Challenge.rw_sr0034_01
section
abbrev P0 : Program := PySem.Challenge.rw_sr0034_01.row.prog
abbrev Led := List (Addr × Obj)
abbrev CallOk (k : Nat) (w : World) (f : Addr) (vs : List Value) (news : Led) (C : (Value → Led → Prop) → Prop) : Prop :=
  ∀ (mean : ExcName → Option Value) (mg mb : Str → Option Value) (dp un : Nat) (gd : Option (List Code)) (cn : Str) (cs : Scope) (a : Addr) (ccd : Value) (cl : List (Str × Addr)) (outer : List Env) (A₀ : Around) (base h₀ : Heap) (L : Addr) (m : Str → Option Value) (s : Shared) (Q : Value → Shared → Prop) (E : Value → Shared → Prop),
    Below A₀ base outer h₀ → Fr h₀ L s.heap m → (hd.heap_39 w.params).In h₀ → News h₀ L s.heap news →
    Top hd.view_39 (looseW hd.view_39 [Str.ofString "insort_left", Str.ofString "bisect_left"]) mean mg mb h₀ → cs.kind = .function →
    dp + k < recursionLimit → un + 8 * k < cLine →
    C (fun v n2 => ∀ h' tk', Fr h₀ L h' m → News h₀ L h' n2 → Q v { s with heap := h', toks := tk' }) →
    wpAny (model P0 w) (ktrTop dp un gd cn cs L a ccd cl outer) (call (.ref f) vs) Q E s

def tup (vs : List Value) : Obj := { cls := .type "tuple", data := .seq vs.toArray }

-- a while by a state σ: what the frame's names hold, what the ledger holds, a fact, a measure
def setV : List (Str × Value) → (Str → Option Value) → Str → Option Value
  | [], m => m
  | (n, v) :: r, m => fun y => if y = n then some v else setV r m y
def setU (u : Str → Option Value) : List Str → (Str → Option Value) → Str → Option Value
  | [], m => m
  | n :: r, m => fun y => if y = n then u y else setU u r m y
theorem setV_none {vs : List (Str × Value)} {m : Str → Option Value} {y : Str} (h : ∀ q ∈ vs, y ≠ q.1) : setV vs m y = m y := by
  induction vs with
  | nil => rfl
  | cons p r ih =>
    obtain ⟨n, v⟩ := p
    simp only [setV]
    rw [if_neg (h _ (.head _))]
    exact ih fun q hq => h q (.tail _ hq)
theorem setU_none {vs : List Str} {u m : Str → Option Value} {y : Str} (h : ∀ q ∈ vs, y ≠ q) : setU u vs m y = m y := by
  induction vs with
  | nil => rfl
  | cons n r ih =>
    simp only [setU]
    rw [if_neg (h _ (.head _))]
    exact ih fun q hq => h q (.tail _ hq)
theorem setV_is {vs : List (Str × Value)} {f m : Str → Option Value} (h1 : ∀ q ∈ vs, f q.1 = some q.2) {y : Str} (h2 : (∀ q ∈ vs, y ≠ q.1) → m y = f y) : setV vs m y = f y := by
  induction vs with
  | nil => exact h2 fun _ h => nomatch h
  | cons p r ih =>
    obtain ⟨n, v⟩ := p
    simp only [setV]
    by_cases e : y = n
    · subst e; rw [if_pos rfl]; exact (h1 _ (.head _)).symm
    · rw [if_neg e]
      exact ih (fun q hq => h1 q (.tail _ hq)) fun hq => h2 (List.forall_mem_cons.mpr ⟨e, hq⟩)
theorem setU_is {vs : List Str} {f m : Str → Option Value} {y : Str} (h2 : (∀ q ∈ vs, y ≠ q) → m y = f y) : setU f vs m y = f y := by
  induction vs with
  | nil => exact h2 fun _ h => nomatch h
  | cons n r ih =>
    simp only [setU]
    by_cases e : y = n
    · rw [if_pos e]
    · rw [if_neg e]
      exact ih fun hq => h2 (List.forall_mem_cons.mpr ⟨e, hq⟩)

def WEnd {σ : Type} (h₀ : Heap) (L : Addr) (s : Shared) (vals : σ → List (Str × Value)) (led : σ → Led) (ok : σ → Prop) (size : σ → Nat) (stored : List Str) (m₀ : Str → Option Value) (x : σ) (s₂ : Shared) : Prop :=
  ∃ h' tk m' news' x', s₂ = { s with heap := h', toks := tk } ∧ Fr h₀ L h' m' ∧ News h₀ L h' news' ∧ (∀ p ∈ led x', p ∈ news') ∧ (∀ q ∈ vals x', m' q.1 = some q.2) ∧
    (∀ y, (∀ q ∈ vals x', y ≠ q.1) → (∀ n ∈ stored, y ≠ n) → m' y = m₀ y) ∧ ok x' ∧ size x' < size x
def WPost {σ : Type} (h₀ : Heap) (L : Addr) (s : Shared) (vals : σ → List (Str × Value)) (led : σ → Led) (ok : σ → Prop) (size : σ → Nat) (stored : List Str) (m₀ : Str → Option Value) (x : σ) (Q : Flow → Shared → Prop) (f : Flow) (s₂ : Shared) : Prop :=
  match f with
  | .ret v => Q (.ret v) s₂
  | .brk => Q .next s₂
  | _ => WEnd h₀ L s vals led ok size stored m₀ x s₂

theorem while_st {σ : Type} {prog : Program} {w : World} {A : Around} {E : Value → Shared → Prop} {Q : Flow → Shared → Prop} {s : Shared} {env : Env} {h₀ : Heap} {L : Addr} {test : PySem.Expr} {body : List Stmt} {pos : Pos} {m₀ : Str → Option Value} {news : Led}
    (vals : σ → List (Str × Value)) (led : σ → Led) (ok : σ → Prop) (size : σ → Nat) (stored : List Str) (x₀ : σ)
    (F : Fr h₀ L s.heap m₀) (N : News h₀ L s.heap news) (hn : ∀ p ∈ led x₀, p ∈ news) (hv : ∀ q ∈ vals x₀, m₀ q.1 = some q.2) (hok : ok x₀)
    (turn : ∀ x (u : Str → Option Value) h tk, ok x → Fr h₀ L h (setV (vals x) (setU u stored m₀)) → News h₀ L h (led x) →
      wpAny (model prog w) A (isTrue test env (eval test env)) (fun b s₂ =>
        if b = true then wpAny (model prog w) A (execs body env) (WPost h₀ L s vals led ok size stored m₀ x Q) E s₂ else Q .next s₂) E { s with heap := h, toks := tk })
    (hE : PassesOwn (model prog w) A env E := by passes_own) :
    wpAny (model prog w) A (exec (.While test body [] pos) env) Q E s := by
  refine While_inv2 (fun n m nx => ∃ x, (∀ p ∈ led x, p ∈ nx) ∧ size x = n ∧ (∀ q ∈ vals x, m q.1 = some q.2) ∧ (∀ y, (∀ q ∈ vals x, y ≠ q.1) → (∀ n ∈ stored, y ≠ n) → m y = m₀ y) ∧ ok x) F N ⟨x₀, hn, rfl, hv, fun _ _ _ => rfl, hok⟩ ?_ hE
  rintro n m₁ nx h tk F₁ N₁ ⟨x, hl, hsz, hvx, hm, hx⟩
  rw [← hsz]
  have e : setV (vals x) (setU m₁ stored m₀) = m₁ := by
    funext y
    exact setV_is hvx fun h1 => setU_is fun h2 => (hm y h1 h2).symm
  refine wpAny_mono (turn x m₁ h tk hx (by rw [e]; exact F₁) (fun p hp => N₁ p (hl p hp))) (fun b s₂ p => ?_) fun _ _ x => x
  cases b with
  | false => simpa using p
  | true =>
    simp only [if_true] at p ⊢
    refine wpAny_mono p (fun f s₃ q => ?_) fun _ _ x => x
    cases f with
    | ret v => exact q
    | brk => exact q
    | next =>
      obtain ⟨h', tk', m', news', x', rfl, F', N', hl', hv', hm', ok', hs'⟩ := q
      exact ⟨h', tk', m', news', size x', rfl, F', N', hs', x', hl', rfl, hv', hm', ok'⟩
    | cont =>
      obtain ⟨h', tk', m', news', x', rfl, F', N', hl', hv', hm', ok', hs'⟩ := q
      exact ⟨h', tk', m', news', size x', rfl, F', N', hs', x', hl', rfl, hv', hm', ok'⟩

theorem WEnd.intro {σ : Type} {h₀ : Heap} {L : Addr} {s : Shared} {vals : σ → List (Str × Value)} {led : σ → Led} {ok : σ → Prop} {size : σ → Nat} {stored : List Str} {m₀ m' : Str → Option Value} {x : σ} {h' : Heap} {tk : Nat} {news' : Led} (x' : σ)
    (F : Fr h₀ L h' m') (N : News h₀ L h' news') (hl : ∀ p ∈ led x', p ∈ news') (hv : ∀ q ∈ vals x', m' q.1 = some q.2) (hm : ∀ y, (∀ q ∈ vals x', y ≠ q.1) → (∀ n ∈ stored, y ≠ n) → m' y = m₀ y) (ho : ok x') (hs : size x' < size x) :
    WEnd h₀ L s vals led ok size stored m₀ x { s with heap := h', toks := tk } := ⟨h', tk, m', news', x', rfl, F, N, hl, hv, hm, ho, hs⟩

-- an item of a list of texts that the call made
theorem item_strs {prog : Program} {w : World} {A : Around} {E : Value → Shared → Prop} {s : Shared} {value slice : PySem.Expr} {h₀ : Heap} {L l : Addr} {news : Led} {vs : List Value} {ws : List Str} {i : Int} {u : Tok} {Q : Value → Shared → Prop}
    (N : News h₀ L s.heap news) (hm : (l, LCg.lst vs) ∈ news) (hw : StrsAre vs ws) (h0 : 0 ≤ i) (h1 : i < (ws.length : Int)) (hfit : ws.length < 1000000) (h : ∀ t', Q (.str (ws.getD i.toNat Str.empty) t') s)
    (hs : subscripted slice false (.ref l) (.int i u) = operate [.ref l, .int i u] (getItem (.ref l) (.int i u)) := by with_unfolding_all rfl) :
    wpAny (model prog w) A (subscriptTail value slice (.ref l) (.int i u)) Q E s :=
  KTb.item_list (PySem.IsL.isList (N _ hm).1) hw h0 h1 (by omega) (fun t' _ => h t') hs

-- a def that changes nothing of the caller's: its own ledger begins empty
theorem code_pure {prog : Program} {w : World} {A₀ A : Around} {s : Shared} {K : Frag} {base h₀ : Heap} {outer : List Env} {L : Addr} {m mg mb : Str → Option Value} {env : Env} {news : Led} {p : Program} {loose : List Str} {mean : ExcName → Option Value}
    {R : Result → Shared → Prop} {name qual : Str} {params : Arguments} {body : List Stmt} {scope : Scope} {dV kV doc pm cdv ct oc : Value} {an od : Option Addr} {osl : Array (Option Value)} {f : Addr} {args : Args} {binds : List (Str × Value)}
    (B : Below A₀ base outer h₀) (F : Fr h₀ L s.heap m) (X₀ : K.In h₀) (N : News h₀ L s.heap news) (T : Top p loose mean mg mb h₀) (hA : A.frames = some (env :: outer)) (hf : env.frame = some L) (hke : env.scope.kind = .function)
    (ho : K.lookup f = some ⟨oc, od, .func (fnOf name qual params body scope dV kV doc pm an cdv ct), osl⟩) (hcd : codeIn K cdv qual = true) (hroom : A.depth < recursionLimit)
    (hbind : BindsTo s (fnOf name qual params body scope dV kV doc pm an cdv ct) args binds) (hloc : ∀ y ∈ binds, scope.names.lookup y.1 = some .local)
    (h : ∀ L' h₁, Fr s.heap L' h₁ (fun y => binds.reverse.lookup y) → News s.heap L' h₁ [] → Below A base (env :: outer) s.heap → K.In s.heap → Top p loose mean mg mb s.heap →
      wpAny (model prog w) (A.deeper (envOf qual scope L' f cdv)) (execs body (envOf qual scope L' f cdv))
        (fun fl s' => LeaveK h₀ L m s.heap (fun r s' => News h₀ L s'.heap news → R r s') (match fl with | .ret v => v | _ => .none) s')
        (fun e s' => wpAny (model prog w) (A.deeper (envOf qual scope L' f cdv)) (leaving (envOf qual scope L' f cdv) e) (fun _ s'' => R (.error e) s'') (fun e' s'' => R (.error e') s'') s')
        { s with heap := h₁, toks := s.toks + binds.length })
    (hco : scope.isCoroutine = false) (hgen : scope.isGenerator = false) (hk : scope.kind = .function)
    (hcell : ∀ x ∈ scope.names, x.2 ≠ .cell) : codeAny (model prog w) A (.call (.ref f) args) R s := by
  have X := X₀.keeps F.keep
  refine codeAny_call_def (fd := fnOf name qual params body scope dV kV doc pm an cdv ct) (body := body) (binds := binds) hroom (X _ _ ho) rfl (T.nolimit.keeps F.keep) (codeRec_of X hcd) rfl hbind hcell hloc (fun h₁ hns hk₁ => ?_) hco hgen hk
  have B₁ := pushX B F hf hke
  refine wpAny_mono (h s.heap.objs.size h₁ ⟨hns, hk₁, Nat.le_refl _⟩ News.nil ⟨hA, B₁.stays, B₁.frames⟩ X (T.keeps F.keep)) (fun fl s' hl => ?_) fun _ _ y => y
  obtain ⟨L', m', news', F', N', k⟩ := hl
  obtain ⟨oL, es, ep, hL, r⟩ := F.ns
  refine k ⟨⟨oL, es, ep, F'.keep L oL hL, r⟩, fun b o e => F'.keep b o (F.keep b o e), F.above⟩ (fun p hp => ⟨(N' p hp).1, fun q => ?_, ?_⟩) (fun p hp => ⟨F'.keep _ _ (N p hp).1, (N p hp).2⟩)
  · have := (N' p hp).2.2; rw [q, hL] at this; cases this
  · cases q : h₀.get? p.1 with
    | none => rfl
    | some o => have := (N' p hp).2.2; rw [F.keep _ _ q] at this; cases this
theorem news_both {h₀ h : Heap} {L : Addr} {a b : Led} (A : News h₀ L h a) (B : News h₀ L h b) : News h₀ L h (a ++ b) := fun p hp => (List.mem_append.mp hp).elim (A p) (B p)
theorem news_off {g h h₀ : Heap} {L L' D : Addr} {o : Obj} {rest news : Led} (N' : News g L' h ((D, o) :: rest)) (N : News h₀ L g news) : ∀ p ∈ news, p.1 ≠ D := fun p hp e => by
  have h1 := (N' _ (.head _)).2.2
  have h2 := (N p hp).1
  rw [← e, h2] at h1
  cases h1

-- a goal that the walk is to leave alone
def Hold (p : Prop) : Prop := p
theorem Hold.out {p : Prop} (h : Hold p) : p := h
theorem Hold.intro {p : Prop} (h : p) : Hold p := h
-- the binary search, in plain Lean
def bisF (lt : Int → Bool) : Nat → Int → Int → Int
  | 0, lo, _ => lo
  | f + 1, lo, hi => if lo < hi then (if lt ((lo + hi).fdiv 2) then bisF lt f ((lo + hi).fdiv 2 + 1) hi else bisF lt f lo ((lo + hi).fdiv 2)) else lo
def bisR (lt : Int → Bool) (lo hi : Int) : Int := bisF lt (hi - lo).toNat lo hi
theorem bisF_fuel (lt : Int → Bool) : ∀ (f g : Nat) (lo hi : Int), (hi - lo).toNat ≤ f → (hi - lo).toNat ≤ g → bisF lt f lo hi = bisF lt g lo hi := by
  intro f
  induction f with
  | zero =>
    intro g lo hi hf hg
    have h : ¬ lo < hi := by omega
    cases g with
    | zero => rfl
    | succ g => simp [bisF, h]
  | succ f ih =>
    intro g lo hi hf hg
    cases g with
    | zero =>
      have h : ¬ lo < hi := by omega
      simp [bisF, h]
    | succ g =>
      simp only [bisF]
      by_cases h : lo < hi
      · have e : (lo + hi).fdiv 2 = (lo + hi) / 2 := Int.fdiv_eq_ediv_of_nonneg _ (by omega)
        simp only [h, if_true, e]
        rw [ih g ((lo + hi) / 2 + 1) hi (by omega) (by omega), ih g lo ((lo + hi) / 2) (by omega) (by omega)]
      · simp [h]
theorem bisR_done {lt : Int → Bool} {lo hi : Int} (h : ¬ lo < hi) : bisR lt lo hi = lo := by
  unfold bisR
  have : (hi - lo).toNat = 0 := by omega
  rw [this]; rfl
theorem bisR_up {lt : Int → Bool} {lo hi : Int} (h : lo < hi) (hl : lt ((lo + hi).fdiv 2) = true) : bisR lt lo hi = bisR lt ((lo + hi).fdiv 2 + 1) hi := by
  have e : (lo + hi).fdiv 2 = (lo + hi) / 2 := Int.fdiv_eq_ediv_of_nonneg _ (by omega)
  unfold bisR
  rw [bisF_fuel lt _ ((hi - lo).toNat - 1 + 1) lo hi (Nat.le_refl _) (by omega)]
  simp only [bisF, h, if_true, hl]
  exact bisF_fuel lt _ _ _ _ (by omega) (by omega)
theorem bisR_dn {lt : Int → Bool} {lo hi : Int} (h : lo < hi) (hl : lt ((lo + hi).fdiv 2) = false) : bisR lt lo hi = bisR lt lo ((lo + hi).fdiv 2) := by
  have e : (lo + hi).fdiv 2 = (lo + hi) / 2 := Int.fdiv_eq_ediv_of_nonneg _ (by omega)
  unfold bisR
  rw [bisF_fuel lt _ ((hi - lo).toNat - 1 + 1) lo hi (Nat.le_refl _) (by omega)]
  simp only [bisF, h, if_true, hl]
  exact bisF_fuel lt _ _ _ _ (by omega) (by omega)
end
section
def mvX (x y z : Int) : Int := if x < y - z then x + 2 * z else if x < 2 * y then 2 * y - x else x - 2 * y
def mvY (x y z : Int) : Int := if x < y - z then z else if x < 2 * y then y else x - y + z
def mvZ (x y z : Int) : Int := if x < y - z then y - x - z else if x < 2 * y then x - y + z else y

theorem move_ok (w : World) (x y z : Int) (t1 t2 t3 : Tok) (news : Led) :
    CallOk 2 w 93 [.int x t1, .int y t2, .int z t3] news (fun K => ∀ a u1 u2 u3, (∀ p ∈ news, p.1 < a) → K (.ref a) 
      ((a, tup [.int (mvX x y z) u1, .int (mvY x y z) u2, .int (mvZ x y z) u3]) :: news)) := by
  unfold CallOk P0
  k_with_none
  k_fill
  intro mean mg mb dp un gd cn cs a ccd cl outer A₀ base h₀ L m s Q E B F KX N T hk hdp hun hret
  refine wpAny_call ?_
  k_dflt cell_enter
  k_steps
  · have h1 : x < y - z := by assumption
    refine hret _ ?u10 ?u20 ?u30 (by assumption) _ _ (by assumption) ?k0
    case k0 =>
     simp only [mvX, mvY, mvZ, if_pos h1]
     assumption
  · have h1 : ¬ x < y - z := by assumption
    have h2 : x < 2 * y := by assumption
    refine hret _ ?u11 ?u21 ?u31 (by assumption) _ _ (by assumption) ?k1
    case k1 =>
     simp only [mvX, mvY, mvZ, if_neg h1, if_pos h2]
     assumption
  · have h1 : ¬ x < y - z := by assumption
    have h2 : ¬ x < 2 * y := by assumption
    refine hret _ ?u12 ?u22 ?u32 (by assumption) _ _ (by assumption) ?k2
    case k2 =>
     simp only [mvX, mvY, mvZ, if_neg h1, if_neg h2]
     assumption
end
section
local macro_rules | `(tactic| walk_at "call ref") => `(tactic| (k_here; k_dflt (refine wpAny_call ?_; refine' code_def ?k1 ?k2 ?k3 ?k4 ?k5 ?kA ?kF ?kK ?k6 ?k7 ?k8 ?k9 ?kB ?_ ?c2 ?c3 ?c4 ?c5; (case kA => exact rfl); (case kF => exact rfl); (case kK => first | exact rfl | assumption); (case k1 => k_asm); (case k2 => k_asm); (case k3 => k_asm); (case k4 => k_asm); (case k5 => k_asm); (case k6 => k_is); (case k7 => k_is); (case k8 => first | ktr_room | k_room); (case k9 => first | exact BindsTo.of_eq rfl | exact binds_K (by k_in) rfl (by k_is) rfl rfl rfl | (refine' kp_binds ?kx ?ke; (case kx => k_in); (case ke => exact fun _ => rfl))); (case c5 => decide); (case kB => exact locs rfl); (case c2 => exact rfl); (case c3 => exact rfl); (case c4 => exact rfl); k_whole; intro g' L' h' FG' F' N' B' X' T'; (try dsimp only); (try k_lift B'); (try k_fold))))
local macro_rules | `(tactic| walk_at "WPost") => `(tactic| dsimp only [WPost])

theorem bisI_ok (w : World) (l : Addr) (ys : List Value) (ns : List Int) (x : Int) (tx : Tok) (news : Led) (hi : IntsAre ys ns) (hlen : ns.length < 1000) :
    CallOk 2 w 74 [.ref l, .int x tx] ((l, LCg.lst ys) :: news) (fun K => ∀ t, K (.int (bisR (fun i => decide (ns.getD i.toNat 0 < x)) 0 ns.length) t) ((l, LCg.lst ys) :: news)) := by
  unfold CallOk P0
  k_with_none
  k_fill
  intro mean mg mb dp un gd cn cs a ccd cl outer A₀ base h₀ L m s Q E B F KX N T hk hdp hun hret
  (k_with "exec While Compare cons nil" => (
    (rename Fr _ _ _ _ => lF'); (rename News _ _ _ _ => lN');
    (with_unfolding_all refine while_st (σ := Int × Int × Tok × Tok) (fun σ => [(Str.ofString "lo", .int σ.1 σ.2.2.1), (Str.ofString "hi", .int σ.2.1 σ.2.2.2)]) (fun _ => (l, LCg.lst ys) :: news) (fun σ => 0 ≤ σ.1 ∧ σ.1 ≤ σ.2.1 ∧ σ.2.1 ≤ ns.length ∧ bisR (fun i => decide (ns.getD i.toNat 0 < x)) σ.1 σ.2.1 = bisR (fun i => decide (ns.getD i.toNat 0 < x)) 0 ns.length) (fun σ => (σ.2.1 - σ.1).toNat) [Str.ofString "mid"] (0, (ns.length : Int), _, _) lF' lN' (fun p hp => hp) (List.forall_mem_cons.mpr ⟨by rfl, List.forall_mem_cons.mpr ⟨by rfl, List.forall_mem_nil _⟩⟩) ⟨Int.le_refl _, Int.natCast_nonneg _, Int.le_refl _, rfl⟩ ?_);
    clear lF' lN';
    rintro ⟨lo, hi, tl, th⟩ u h' tk ⟨h1, h2, h3, h4⟩ F' N';
    dsimp only at h1 h2 h3 h4; dsimp only [setV, setU] at F'))
  k_steps
  · have hlt : lo < hi := by assumption
    have hx : ns.getD ((lo + hi).fdiv 2).toNat 0 < x := by assumption
    have e : (lo + hi).fdiv 2 = (lo + hi) / 2 := Int.fdiv_eq_ediv_of_nonneg _ (by omega)
    with_unfolding_all refine WEnd.intro ((lo + hi).fdiv 2 + 1, hi, _, th) (by assumption) (by assumption) (fun p hp => hp) (List.forall_mem_cons.mpr ⟨by rfl, List.forall_mem_cons.mpr ⟨by rfl, List.forall_mem_nil _⟩⟩) ?_ ?_ ?_
    · intro y q1 q2
      have a1 : y ≠ Str.ofString "lo" := q1 _ (.head _)
      have a2 : y ≠ Str.ofString "hi" := q1 _ (.tail _ (.head _))
      have a3 : y ≠ Str.ofString "mid" := q2 _ (.head _)
      simp only [a1, a2, a3, if_false]
    · dsimp only
      refine ⟨by omega, by omega, h3, ?_⟩
      rw [← h4]
      exact (bisR_up hlt (decide_eq_true hx)).symm
    · dsimp only
      omega
  · have hlt : lo < hi := by assumption
    have hx : ¬ ns.getD ((lo + hi).fdiv 2).toNat 0 < x := by assumption
    have e : (lo + hi).fdiv 2 = (lo + hi) / 2 := Int.fdiv_eq_ediv_of_nonneg _ (by omega)
    with_unfolding_all refine WEnd.intro (lo, (lo + hi).fdiv 2, tl, _) (by assumption) (by assumption) (fun p hp => hp) (List.forall_mem_cons.mpr ⟨by rfl, List.forall_mem_cons.mpr ⟨by rfl, List.forall_mem_nil _⟩⟩) ?_ ?_ ?_
    · intro y q1 q2
      have a1 : y ≠ Str.ofString "lo" := q1 _ (.head _)
      have a2 : y ≠ Str.ofString "hi" := q1 _ (.tail _ (.head _))
      have a3 : y ≠ Str.ofString "mid" := q2 _ (.head _)
      simp only [a1, a2, a3, if_false]
    · dsimp only
      refine ⟨h1, by omega, by omega, ?_⟩
      rw [← h4]
      exact (bisR_dn hlt (decide_eq_false hx)).symm
    · dsimp only
      omega
  · have hlt : ¬ lo < hi := by assumption
    rw [bisR_done hlt] at h4
    subst h4
    exact hret _ _ _ (by assumption) (by assumption)
end
section
local macro_rules | `(tactic| walk_at "call ref") => `(tactic| (k_here; k_dflt (refine wpAny_call ?_; refine' code_def ?k1 ?k2 ?k3 ?k4 ?k5 ?kA ?kF ?kK ?k6 ?k7 ?k8 ?k9 ?kB ?_ ?c2 ?c3 ?c4 ?c5; (case kA => exact rfl); (case kF => exact rfl); (case kK => first | exact rfl | assumption); (case k1 => k_asm); (case k2 => k_asm); (case k3 => k_asm); (case k4 => k_asm); (case k5 => k_asm); (case k6 => k_is); (case k7 => k_is); (case k8 => first | ktr_room | k_room); (case k9 => first | exact BindsTo.of_eq rfl | exact binds_K (by k_in) rfl (by k_is) rfl rfl rfl | (refine' kp_binds ?kx ?ke; (case kx => k_in); (case ke => exact fun _ => rfl))); (case c5 => decide); (case kB => exact locs rfl); (case c2 => exact rfl); (case c3 => exact rfl); (case c4 => exact rfl); k_whole; intro g' L' h' FG' F' N' B' X' T'; (try dsimp only); (try k_lift B'); (try k_fold))))
local macro_rules | `(tactic| walk_at "WPost") => `(tactic| dsimp only [WPost])

def ltS (a b : Str) : Bool := a.cps.toList < b.cps.toList
local macro_rules | `(tactic| walk_at "subscriptTail Name Name ref int") => `(tactic| (k_here; k_dflt (refine' item_strs ?k1 ?k2 ?k3 ?k4 ?k5 ?k6 ?_; (case k1 => k_asm); (case k2 => k_mem); (case k3 => assumption); (case k4 => first | omega | l_fact); (case k5 => first | omega | l_fact); (case k6 => omega); k_whole); intro t9'))
theorem bisS_ok (w : World) (l : Addr) (ys : List Value) (ns : List Str) (x : Str) (tx : Tok) (news : Led) (hi : StrsAre ys ns) (hlen : ns.length < 1000) :
    CallOk 2 w 74 [.ref l, .str x tx] ((l, LCg.lst ys) :: news) (fun K => ∀ t, K (.int (bisR (fun i => ltS (ns.getD i.toNat Str.empty) x) 0 ns.length) t) ((l, LCg.lst ys) :: news)) := by
  unfold CallOk P0
  k_with_none
  k_fill
  intro mean mg mb dp un gd cn cs a ccd cl outer A₀ base h₀ L m s Q E B F KX N T hk hdp hun hret
  (k_with "exec While Compare cons nil" => (
    (rename Fr _ _ _ _ => lF'); (rename News _ _ _ _ => lN');
    (with_unfolding_all refine while_st (σ := Int × Int × Tok × Tok) (fun σ => [(Str.ofString "lo", .int σ.1 σ.2.2.1), (Str.ofString "hi", .int σ.2.1 σ.2.2.2)]) (fun _ => (l, LCg.lst ys) :: news) (fun σ => 0 ≤ σ.1 ∧ σ.1 ≤ σ.2.1 ∧ σ.2.1 ≤ ns.length ∧ bisR (fun i => ltS (ns.getD i.toNat Str.empty) x) σ.1 σ.2.1 = bisR (fun i => ltS (ns.getD i.toNat Str.empty) x) 0 ns.length) (fun σ => (σ.2.1 - σ.1).toNat) [Str.ofString "mid"] (0, (ns.length : Int), _, _) lF' lN' (fun p hp => hp) (List.forall_mem_cons.mpr ⟨by rfl, List.forall_mem_cons.mpr ⟨by rfl, List.forall_mem_nil _⟩⟩) ⟨Int.le_refl _, Int.natCast_nonneg _, Int.le_refl _, rfl⟩ ?_);
    clear lF' lN';
    rintro ⟨lo, hi, tl, th⟩ u h' tk ⟨h1, h2, h3, h4⟩ F' N';
    dsimp only at h1 h2 h3 h4; dsimp only [setV, setU] at F'))
  k_steps
  · have hlt : lo < hi := by assumption
    have hx : (ns.getD ((lo + hi).fdiv 2).toNat Str.empty).cps.toList < x.cps.toList := by assumption
    have e : (lo + hi).fdiv 2 = (lo + hi) / 2 := Int.fdiv_eq_ediv_of_nonneg _ (by omega)
    with_unfolding_all refine WEnd.intro ((lo + hi).fdiv 2 + 1, hi, _, th) (by assumption) (by assumption) (fun p hp => hp) (List.forall_mem_cons.mpr ⟨by rfl, List.forall_mem_cons.mpr ⟨by rfl, List.forall_mem_nil _⟩⟩) ?_ ?_ ?_
    · intro y q1 q2
      have a1 : y ≠ Str.ofString "lo" := q1 _ (.head _)
      have a2 : y ≠ Str.ofString "hi" := q1 _ (.tail _ (.head _))
      have a3 : y ≠ Str.ofString "mid" := q2 _ (.head _)
      simp only [a1, a2, a3, if_false]
    · dsimp only
      refine ⟨by omega, by omega, h3, ?_⟩
      rw [← h4]
      exact (bisR_up hlt (decide_eq_true hx)).symm
    · dsimp only
      omega
  · have hlt : lo < hi := by assumption
    have hx : ¬ (ns.getD ((lo + hi).fdiv 2).toNat Str.empty).cps.toList < x.cps.toList := by assumption
    have e : (lo + hi).fdiv 2 = (lo + hi) / 2 := Int.fdiv_eq_ediv_of_nonneg _ (by omega)
    with_unfolding_all refine WEnd.intro (lo, (lo + hi).fdiv 2, tl, _) (by assumption) (by assumption) (fun p hp => hp) (List.forall_mem_cons.mpr ⟨by rfl, List.forall_mem_cons.mpr ⟨by rfl, List.forall_mem_nil _⟩⟩) ?_ ?_ ?_
    · intro y q1 q2
      have a1 : y ≠ Str.ofString "lo" := q1 _ (.head _)
      have a2 : y ≠ Str.ofString "hi" := q1 _ (.tail _ (.head _))
      have a3 : y ≠ Str.ofString "mid" := q2 _ (.head _)
      simp only [a1, a2, a3, if_false]
    · dsimp only
      refine ⟨h1, by omega, by omega, ?_⟩
      rw [← h4]
      exact (bisR_dn hlt (decide_eq_false hx)).symm
    · dsimp only
      omega
  · have hlt : ¬ lo < hi := by assumption
    rw [bisR_done hlt] at h4
    subst h4
    exact hret _ _ _ (by assumption) (by assumption)

theorem insert_any {prog : Program} {w : World} {A : Around} {E : Value → Shared → Prop} {s : Shared} {h₀ : Heap} {L l : Addr} {m : Str → Option Value} {news : Led} {ys : List Value} {v : Value} {r : Int} {u : Tok} {Q : Value → Shared → Prop}
    (F : Fr h₀ L s.heap m) (N : News h₀ L s.heap ((l, LCg.lst ys) :: news)) (hne : ∀ p ∈ news, p.1 ≠ l) (h0 : 0 ≤ r) (h1 : r ≤ (ys.length : Int)) (hz : ys.length < 1000000)
    (h : ∀ h', Fr h₀ L h' m → News h₀ L h' ((l, LCg.lst (ys.take r.toNat ++ v :: ys.drop r.toNat)) :: news) → Q .none { s with heap := h' }) :
    wpAny (model prog w) A (call (.builtin "list.insert") [.ref l, .int r u, v]) Q E s := by
  have e : kl_ins ys r v = ys.take r.toNat ++ v :: ys.drop r.toNat := by
    unfold kl_ins
    rw [if_neg (by omega)]
    have : min r.toNat ys.length = r.toNat := by omega
    rw [this]
  refine kl_insert (its := ys.toArray) (n := ys.length) F N (by
    unfold Builtin.List.listFitsIndex
    simp only [Bool.and_eq_true, decide_eq_true_eq]
    omega) rfl (.head hne) (by simpa [sizeLine] using (by omega : ys.length ≤ 16777216)) fun h' F' N' => h h' F' ?_
  rw [e] at N'
  have hl : (ys.take r.toNat ++ v :: ys.drop r.toNat).length = ys.length + 1 := by
    rw [← e]; exact kl_ins_length _ _ _
  show News h₀ L h' ((l, { cls := .type "list", data := .seq (ys.take r.toNat ++ v :: ys.drop r.toNat).toArray (ys.take r.toNat ++ v :: ys.drop r.toNat).length }) :: news)
  rw [hl]
  exact N'
theorem bisR_le {lt : Int → Bool} : ∀ (n : Nat) (lo hi : Int), (hi - lo).toNat ≤ n → lo ≤ hi → lo ≤ bisR lt lo hi ∧ bisR lt lo hi ≤ hi := by
  intro n
  induction n with
  | zero =>
    intro lo hi h1 h2
    rw [bisR_done (by omega)]; omega
  | succ n ih =>
    intro lo hi h1 h2
    by_cases h : lo < hi
    · have e : (lo + hi).fdiv 2 = (lo + hi) / 2 := Int.fdiv_eq_ediv_of_nonneg _ (by omega)
      cases hl : lt ((lo + hi).fdiv 2) with
      | true =>
        rw [bisR_up h hl]
        have := ih ((lo + hi).fdiv 2 + 1) hi (by omega) (by omega)
        omega
      | false =>
        rw [bisR_dn h hl]
        have := ih lo ((lo + hi).fdiv 2) (by omega) (by omega)
        omega
    · rw [bisR_done h]; omega
theorem strs_ins {ys : List Value} {ns : List Str} {x : Str} {t : Tok} (h : StrsAre ys ns) : ∀ k, StrsAre (ys.take k ++ .str x t :: ys.drop k) (ns.take k ++ x :: ns.drop k) := by
  induction h with
  | nil => intro k; simpa using StrsAre.cons x t StrsAre.nil
  | cons y u r ih =>
    intro k
    cases k with
    | zero => simpa using StrsAre.cons x t (StrsAre.cons y u r)
    | succ k => simpa using StrsAre.cons y u (ih k)
theorem bisS4_ok (w : World) (l : Addr) (ys : List Value) (ns : List Str) (x : Str) (tx t0 : Tok) (news : Led) (hi : StrsAre ys ns) (hlen : ns.length < 1000) :
    CallOk 2 w 74 [.ref l, .str x tx, .int 0 t0, .none] ((l, LCg.lst ys) :: news) (fun K => ∀ t, K (.int (bisR (fun i => ltS (ns.getD i.toNat Str.empty) x) 0 ns.length) t) ((l, LCg.lst ys) :: news)) := by
  unfold CallOk P0
  k_with_none
  k_fill
  intro mean mg mb dp un gd cn cs a ccd cl outer A₀ base h₀ L m s Q E B F KX N T hk hdp hun hret
  (k_with "exec While Compare cons nil" => (
    (rename Fr _ _ _ _ => lF'); (rename News _ _ _ _ => lN');
    (with_unfolding_all refine while_st (σ := Int × Int × Tok × Tok) (fun σ => [(Str.ofString "lo", .int σ.1 σ.2.2.1), (Str.ofString "hi", .int σ.2.1 σ.2.2.2)]) (fun _ => (l, LCg.lst ys) :: news) (fun σ => 0 ≤ σ.1 ∧ σ.1 ≤ σ.2.1 ∧ σ.2.1 ≤ ns.length ∧ bisR (fun i => ltS (ns.getD i.toNat Str.empty) x) σ.1 σ.2.1 = bisR (fun i => ltS (ns.getD i.toNat Str.empty) x) 0 ns.length) (fun σ => (σ.2.1 - σ.1).toNat) [Str.ofString "mid"] (0, (ns.length : Int), _, _) lF' lN' (fun p hp => hp) (List.forall_mem_cons.mpr ⟨by rfl, List.forall_mem_cons.mpr ⟨by rfl, List.forall_mem_nil _⟩⟩) ⟨Int.le_refl _, Int.natCast_nonneg _, Int.le_refl _, rfl⟩ ?_);
    clear lF' lN';
    rintro ⟨lo, hi, tl, th⟩ u h' tk ⟨h1, h2, h3, h4⟩ F' N';
    dsimp only at h1 h2 h3 h4; dsimp only [setV, setU] at F'))
  k_steps
  · have hlt : lo < hi := by assumption
    have hx : (ns.getD ((lo + hi).fdiv 2).toNat Str.empty).cps.toList < x.cps.toList := by assumption
    have e : (lo + hi).fdiv 2 = (lo + hi) / 2 := Int.fdiv_eq_ediv_of_nonneg _ (by omega)
    with_unfolding_all refine WEnd.intro ((lo + hi).fdiv 2 + 1, hi, _, th) (by assumption) (by assumption) (fun p hp => hp) (List.forall_mem_cons.mpr ⟨by rfl, List.forall_mem_cons.mpr ⟨by rfl, List.forall_mem_nil _⟩⟩) ?_ ?_ ?_
    · intro y q1 q2
      have a1 : y ≠ Str.ofString "lo" := q1 _ (.head _)
      have a2 : y ≠ Str.ofString "hi" := q1 _ (.tail _ (.head _))
      have a3 : y ≠ Str.ofString "mid" := q2 _ (.head _)
      simp only [a1, a2, a3, if_false]
    · dsimp only
      refine ⟨by omega, by omega, h3, ?_⟩
      rw [← h4]
      exact (bisR_up hlt (decide_eq_true hx)).symm
    · dsimp only
      omega
  · have hlt : lo < hi := by assumption
    have hx : ¬ (ns.getD ((lo + hi).fdiv 2).toNat Str.empty).cps.toList < x.cps.toList := by assumption
    have e : (lo + hi).fdiv 2 = (lo + hi) / 2 := Int.fdiv_eq_ediv_of_nonneg _ (by omega)
    with_unfolding_all refine WEnd.intro (lo, (lo + hi).fdiv 2, tl, _) (by assumption) (by assumption) (fun p hp => hp) (List.forall_mem_cons.mpr ⟨by rfl, List.forall_mem_cons.mpr ⟨by rfl, List.forall_mem_nil _⟩⟩) ?_ ?_ ?_
    · intro y q1 q2
      have a1 : y ≠ Str.ofString "lo" := q1 _ (.head _)
      have a2 : y ≠ Str.ofString "hi" := q1 _ (.tail _ (.head _))
      have a3 : y ≠ Str.ofString "mid" := q2 _ (.head _)
      simp only [a1, a2, a3, if_false]
    · dsimp only
      refine ⟨h1, by omega, by omega, ?_⟩
      rw [← h4]
      exact (bisR_dn hlt (decide_eq_false hx)).symm
    · dsimp only
      omega
  · have hlt : ¬ lo < hi := by assumption
    rw [bisR_done hlt] at h4
    subst h4
    exact hret _ _ _ (by assumption) (by assumption)

local macro_rules | `(tactic| walk_at "call ref") => `(tactic| (k_here; (with_reducible show wpAny _ _ (call (Value.ref 74) [Value.ref _, Value.str _ _, Value.int 0 _, Value.none]) _ _ _); k_dflt (refine' bisS4_ok _ _ _ _ _ _ _ _ ?hI ?hn _ _ _ _ _ _ _ _ _ _ _ _ _ _ _ _ _ _ _ _ ?k1 ?k2 ?k3 ?k4 ?k5 ?k6 ?k7 ?k8 ?_; (case hI => assumption); (case hn => omega); (case k1 => k_asm); (case k2 => k_asm); (case k3 => k_asm); (case k4 => k_asm); (case k5 => k_asm); (case k6 => first | exact rfl | assumption); (case k7 => first | omega | ktr_room | k_room); (case k8 => first | omega | ktr_units); k_whole); (try dsimp only); intro t9' h9' tk9' F9' N9'))
local macro_rules | `(tactic| walk_at "call builtin:list.insert") => `(tactic| (k_here; k_dflt (refine' insert_any ?k1 ?k2 ?k3 ?k4 ?k5 ?k6 ?_; (case k1 => k_asm); (case k2 => k_asm); (case k3 => assumption); (case k4 => first | omega | assumption); (case k5 => first | omega | assumption); (case k6 => omega); k_whole); intro h9' F9' N9'))
theorem insort_ok (w : World) (l : Addr) (ys : List Value) (ns : List Str) (x : Str) (tx : Tok) (news : Led) (hi : StrsAre ys ns) (hlen : ns.length < 1000) (hne : ∀ p ∈ news, p.1 ≠ l) (k : Int) (hk0 : bisR (fun i => ltS (ns.getD i.toNat Str.empty) x) 0 ns.length = k) :
    CallOk 4 w 65 [.ref l, .str x tx] ((l, LCg.lst ys) :: news) (fun K => K .none ((l, LCg.lst (ys.take k.toNat ++ .str x tx :: ys.drop k.toNat)) :: news)) := by
  unfold CallOk P0
  k_with_none
  k_fill
  intro mean mg mb dp un gd cn cs a ccd cl outer A₀ base h₀ L m s Q E B F KX N T hk hdp hun hret
  have hq := bisR_le (lt := fun i => ltS (ns.getD i.toNat Str.empty) x) _ 0 ns.length (Nat.le_refl _) (by omega)
  rw [hk0] at hq
  have hlen' : ys.length = ns.length := hi.length
  obtain ⟨hq1, hq2⟩ := hq
  rw [← hlen'] at hq2
  have hlen2 : ys.length < 1000 := by omega
  k_steps
  subst hk0
  exact hret _ _ (by assumption) (by assumption)
end
section
local macro_rules | `(tactic| walk_at "call ref") => `(tactic| (k_here; k_dflt (refine wpAny_call ?_; refine' code_def ?k1 ?k2 ?k3 ?k4 ?k5 ?kA ?kF ?kK ?k6 ?k7 ?k8 ?k9 ?kB ?_ ?c2 ?c3 ?c4 ?c5; (case kA => exact rfl); (case kF => exact rfl); (case kK => first | exact rfl | assumption); (case k1 => k_asm); (case k2 => k_asm); (case k3 => k_asm); (case k4 => k_asm); (case k5 => k_asm); (case k6 => k_is); (case k7 => k_is); (case k8 => first | ktr_room | k_room); (case k9 => first | exact BindsTo.of_eq rfl | exact binds_K (by k_in) rfl (by k_is) rfl rfl rfl | (refine' kp_binds ?kx ?ke; (case kx => k_in); (case ke => exact fun _ => rfl))); (case c5 => decide); (case kB => exact locs rfl); (case c2 => exact rfl); (case c3 => exact rfl); (case c4 => exact rfl); k_whole; intro g' L' h' FG' F' N' B' X' T'; (try dsimp only); (try k_lift B'); (try k_fold))))
local macro_rules | `(tactic| walk_at "WPost") => `(tactic| dsimp only [WPost])


theorem split_two {prog : Program} {w : World} {A : Around} {E : Value → Shared → Prop} {s : Shared} {h₀ : Heap} {L : Addr} {m : Str → Option Value} {news : Led} {x y p q : Str} {t u : Tok} {Q : Value → Shared → Prop}
    (hF : Fr h₀ L s.heap m) (hN : News h₀ L s.heap news) (hy : (y.length == 0) = false) (e : Txt.split x y = [p, q]) (hsz : x.length + 2 ≤ sizeLine)
    (h : ∀ D u1 u2 h' k, Fr h₀ L h' m → News h₀ L h' ((D, listOf #[.str p u1, .str q u2] 0) :: news) → (∀ p ∈ news, p.1 < D) → Q (.ref D) { s with heap := h', toks := k }) :
    wpAny (model prog w) A (call (.builtin "str.split") [.str x t, .str y u]) Q E s := by
  refine KSpl.split1 hF hN hy (fun D l h' k e1 _ F' N' l1 => ?_) hsz
  rw [e] at e1
  obtain ⟨u1, l', rfl, e2⟩ := KSpl.cons_of e1
  obtain ⟨u2, l'', rfl, e3⟩ := KSpl.cons_of e2
  have e4 := KSpl.nil_of e3
  subst e4
  exact h D u1 u2 h' k F' N' l1
theorem split_front : ∀ a : Nat, 65 ≤ a ∧ a ≤ 80 → Txt.split ⟨#[a, 65, a, 46, 46, 46]⟩ (Str.ofString "...") = [⟨#[a, 65, a]⟩, ⟨#[]⟩] := by
  have h : ∀ k < 16, Txt.split ⟨#[65 + k, 65, 65 + k, 46, 46, 46]⟩ (Str.ofString "...") = [⟨#[65 + k, 65, 65 + k]⟩, ⟨#[]⟩] := by decide +kernel
  rintro a ⟨h1, h2⟩
  have := h (a - 65) (by omega)
  rwa [show 65 + (a - 65) = a by omega] at this
theorem marker_front : ∀ a : Nat, 65 ≤ a ∧ a ≤ 80 → (Builtin.Str.occurrences { cps := #[a, 65, a, 46, 46, 46] } (Str.ofString "...") 0 ({ cps := #[a, 65, a, 46, 46, 46] } : Str).length 1).isEmpty = false := by
  have h : ∀ k < 16, (Builtin.Str.occurrences { cps := #[65 + k, 65, 65 + k, 46, 46, 46] } (Str.ofString "...") 0 ({ cps := #[65 + k, 65, 65 + k, 46, 46, 46] } : Str).length 1).isEmpty = false := by decide +kernel
  rintro a ⟨h1, h2⟩
  have := h (a - 65) (by omega)
  rwa [show 65 + (a - 65) = a by omega] at this
local macro_rules | `(tactic| walk_at "call builtin:str.split") => `(tactic| (k_here; k_dflt (refine' split_two ?k1 ?k2 ?k3 ?k4 ?k5 ?_; (case k1 => k_asm); (case k2 => k_asm); (case k3 => decide); (case k4 => assumption); (case k5 => exact Nat.le_of_ble_eq_true rfl); k_whole); intro D9' u9' v9' h9' tk9' F9' N9' l9'; (try k_lt l9')))
local macro_rules | `(tactic| walk_at "call builtin:len") => `(tactic| (k_here; (with_reducible show wpAny _ _ (call (Value.builtin "len") [Value.str (Str.mk _) _]) _ _ _); first | refine len_writK 5 rfl (by decide) ?_ | refine len_writK 3 rfl (by decide) ?_ | refine len_writK 4 rfl (by decide) ?_ | refine len_writK 0 rfl (by decide) ?_))
local macro_rules | `(tactic| walk_at "truthy str") => `(tactic| (k_here; (with_reducible show wpAny _ _ (PySem.truthy (Value.str _ _)) _ _ _); k_dflt (refine KXt.truthy_pos (K := 10) (Nat.le_of_ble_eq_true rfl) (Nat.le_of_ble_eq_true rfl) (by decide) ?_); intro _))
theorem occ_front (a b c d e : Nat) : Builtin.Str.occurrences ⟨#[a, b, c, d, e]⟩ ⟨#[]⟩ 3 5 1 = [3] := by kernel_rfl
theorem occ_back (a b c d e : Nat) : Builtin.Str.occurrences ⟨#[a, b, c, d, e]⟩ ⟨#[]⟩ 0 1 1 = [0] := by kernel_rfl
theorem find_front {prog : Program} {w : World} {A : Around} {E : Value → Shared → Prop} {s : Shared} {a b c d e : Nat} {t u v v' : Tok} {Q : Value → Shared → Prop} (hq : Q (.int 3 s.toks) { s with toks := s.toks + 1 }) :
    wpAny (model prog w) A (call (.builtin "str.find") [.str ⟨#[a, b, c, d, e]⟩ t, .str ⟨#[]⟩ u, .int 3 v, .int 5 v']) Q E s := by
  refine call_gives F.slot_str_find (typeIs_str _ _ _) F.entry_str_find (F.args_str_find_4 _ _ _ _) (m := .int 3) ?_ hq
  show Gives (match Builtin.Str.occurrences ⟨#[a, b, c, d, e]⟩ ⟨#[]⟩ 3 5 1 with | k :: _ => retInt k | [] => (do rule "str.find.not-found"; retInt (-1))) _
  rw [occ_front]
  exact .of_eq rfl
theorem find_back {prog : Program} {w : World} {A : Around} {E : Value → Shared → Prop} {s : Shared} {a b c d e : Nat} {t u v v' : Tok} {Q : Value → Shared → Prop} (hq : Q (.int 0 s.toks) { s with toks := s.toks + 1 }) :
    wpAny (model prog w) A (call (.builtin "str.find") [.str ⟨#[a, b, c, d, e]⟩ t, .str ⟨#[]⟩ u, .int 0 v, .int 1 v']) Q E s := by
  refine call_gives F.slot_str_find (typeIs_str _ _ _) F.entry_str_find (F.args_str_find_4 _ _ _ _) (m := .int 0) ?_ hq
  show Gives (match Builtin.Str.occurrences ⟨#[a, b, c, d, e]⟩ ⟨#[]⟩ 0 1 1 with | k :: _ => retInt k | [] => (do rule "str.find.not-found"; retInt (-1))) _
  rw [occ_back]
  exact .of_eq rfl
local macro_rules | `(tactic| walk_at "call builtin:str.find") => `(tactic| (k_here; k_dflt (first | refine find_front ?_ | refine find_back ?_)))
theorem sw_is (a b c d e p q r : Nat) : Txt.startswith ⟨#[a, b, c, d, e]⟩ ⟨#[p, q, r]⟩ = (a == p && (b == q && c == r)) := by
  show (decide (0 + 3 ≤ 5) && Builtin.Str.subAt ⟨#[a, b, c, d, e]⟩ ⟨#[p, q, r]⟩ 0) = _
  rw [StrLaws.subAt_eq]
  show (decide (0 + 3 ≤ 5) && ([a, b, c] == [p, q, r])) = _
  simp
theorem ew_is (a b c d e p q r s : Nat) : Txt.endswith ⟨#[a, b, c, d, e]⟩ ⟨#[p, q, r, s]⟩ = (b == p && (c == q && (d == r && e == s))) := by
  show (decide (0 + 4 ≤ 5) && Builtin.Str.subAt ⟨#[a, b, c, d, e]⟩ ⟨#[p, q, r, s]⟩ (5 - 4)) = _
  rw [StrLaws.subAt_eq]
  show (decide (0 + 4 ≤ 5) && ([b, c, d, e] == [p, q, r, s])) = _
  simp
theorem split_back : ∀ a b : Nat, 65 ≤ a ∧ a ≤ 80 → 65 ≤ b ∧ b ≤ 80 → Txt.split ⟨#[46, 46, 46, a, b, a, b]⟩ (Str.ofString "...") = [⟨#[]⟩, ⟨#[a, b, a, b]⟩] := by
  have h : ∀ k < 16, ∀ j < 16, Txt.split ⟨#[46, 46, 46, 65 + k, 65 + j, 65 + k, 65 + j]⟩ (Str.ofString "...") = [⟨#[]⟩, ⟨#[65 + k, 65 + j, 65 + k, 65 + j]⟩] := by decide +kernel
  rintro a b ⟨h1, h2⟩ ⟨h3, h4⟩
  have := h (a - 65) (by omega) (b - 65) (by omega)
  rwa [show 65 + (a - 65) = a by omega, show 65 + (b - 65) = b by omega] at this
theorem marker_back : ∀ a b : Nat, 65 ≤ a ∧ a ≤ 80 → 65 ≤ b ∧ b ≤ 80 → (Builtin.Str.occurrences { cps := #[46, 46, 46, a, b, a, b] } (Str.ofString "...") 0 ({ cps := #[46, 46, 46, a, b, a, b] } : Str).length 1).isEmpty = false := by
  have h : ∀ k < 16, ∀ j < 16, (Builtin.Str.occurrences { cps := #[46, 46, 46, 65 + k, 65 + j, 65 + k, 65 + j] } (Str.ofString "...") 0 ({ cps := #[46, 46, 46, 65 + k, 65 + j, 65 + k, 65 + j] } : Str).length 1).isEmpty = false := by decide +kernel
  rintro a b ⟨h1, h2⟩ ⟨h3, h4⟩
  have := h (a - 65) (by omega) (b - 65) (by omega)
  rwa [show 65 + (a - 65) = a by omega, show 65 + (b - 65) = b by omega] at this
theorem ell_front (w : World) (a b c d e : Nat) (t1 t2 : Tok) (news : Led) (ha : 65 ≤ a ∧ a ≤ 80) :
    CallOk 2 w 21 [.str ⟨#[a, 65, a, 46, 46, 46]⟩ t1, .str ⟨#[a, b, c, d, e]⟩ t2] news (fun K => K (.bool (b == 65 && c == a)) news) := by
  unfold CallOk P0
  k_with_none
  k_fill
  intro mean mg mb dp un gd cn cs ad ccd cl outer A₀ base h₀ L m s Q E B F KX N T hk hdp hun hret
  have hsp := split_front a ha
  have hmk := marker_front a ha
  refine wpAny_call ?_; k_dflt (refine' code_pure (news := news) ?k1 ?k2 ?k3 ?k4 ?k5 ?kA ?kF ?kK ?k6 ?k7 ?k8 ?k9 ?kB ?_ ?c2 ?c3 ?c4 ?c5; (case kA => exact rfl); (case kF => exact rfl); (case kK => first | exact rfl | assumption); (case k1 => k_asm); (case k2 => k_asm); (case k3 => k_asm); (case k4 => k_asm); (case k5 => k_asm); (case k6 => k_is); (case k7 => k_is); (case k8 => first | ktr_room | k_room); (case k9 => first | exact BindsTo.of_eq rfl | exact binds_K (by k_in) rfl (by k_is) rfl rfl rfl | (refine' kp_binds ?kx ?ke; (case kx => k_in); (case ke => exact fun _ => rfl))); (case c5 => decide); (case kB => exact locs rfl); (case c2 => exact rfl); (case c3 => exact rfl); (case c4 => exact rfl); k_whole; intro L' h' F' N' B' X' T'; (try dsimp only); (try k_lift B'); (try k_fold))
  k_steps
  · have h1 : Txt.startswith ⟨#[a, b, c, d, e]⟩ ⟨#[a, 65, a]⟩ = true := by assumption
    rw [sw_is, beq_self_eq_true, Bool.true_and] at h1
    rw [h1] at hret
    exact hret _ _ (by assumption) (by assumption)
  · have h1 : Txt.startswith ⟨#[a, b, c, d, e]⟩ ⟨#[a, 65, a]⟩ = false := by assumption
    rw [sw_is, beq_self_eq_true, Bool.true_and] at h1
    rw [h1] at hret
    exact hret _ _ (by assumption) (by assumption)
theorem ell_back (w : World) (a b c d e : Nat) (t1 t2 : Tok) (news : Led) (hb : 65 ≤ b ∧ b ≤ 80) (hc : 65 ≤ c ∧ c ≤ 80) :
    CallOk 2 w 21 [.str ⟨#[46, 46, 46, b, c, b, c]⟩ t1, .str ⟨#[a, b, c, d, e]⟩ t2] news (fun K => K (.bool (d == b && e == c)) news) := by
  unfold CallOk P0
  k_with_none
  k_fill
  intro mean mg mb dp un gd cn cs ad ccd cl outer A₀ base h₀ L m s Q E B F KX N T hk hdp hun hret
  have hsp := split_back b c hb hc
  have hmk := marker_back b c hb hc
  refine wpAny_call ?_; k_dflt (refine' code_pure (news := news) ?k1 ?k2 ?k3 ?k4 ?k5 ?kA ?kF ?kK ?k6 ?k7 ?k8 ?k9 ?kB ?_ ?c2 ?c3 ?c4 ?c5; (case kA => exact rfl); (case kF => exact rfl); (case kK => first | exact rfl | assumption); (case k1 => k_asm); (case k2 => k_asm); (case k3 => k_asm); (case k4 => k_asm); (case k5 => k_asm); (case k6 => k_is); (case k7 => k_is); (case k8 => first | ktr_room | k_room); (case k9 => first | exact BindsTo.of_eq rfl | exact binds_K (by k_in) rfl (by k_is) rfl rfl rfl | (refine' kp_binds ?kx ?ke; (case kx => k_in); (case ke => exact fun _ => rfl))); (case c5 => decide); (case kB => exact locs rfl); (case c2 => exact rfl); (case c3 => exact rfl); (case c4 => exact rfl); k_whole; intro L' h' F' N' B' X' T'; (try dsimp only); (try k_lift B'); (try k_fold))
  k_steps
  · have h1 : Txt.endswith ⟨#[a, b, c, d, e]⟩ ⟨#[b, c, b, c]⟩ = true := by assumption
    rw [ew_is, beq_self_eq_true, beq_self_eq_true, Bool.true_and, Bool.true_and] at h1
    rw [h1] at hret
    exact hret _ _ (by assumption) (by assumption)
  · have h1 : Txt.endswith ⟨#[a, b, c, d, e]⟩ ⟨#[b, c, b, c]⟩ = false := by assumption
    rw [ew_is, beq_self_eq_true, beq_self_eq_true, Bool.true_and, Bool.true_and] at h1
    rw [h1] at hret
    exact hret _ _ (by assumption) (by assumption)
end
section
local macro_rules | `(tactic| walk_at "call ref") => `(tactic| (k_here; k_dflt (refine wpAny_call ?_; refine' code_def ?k1 ?k2 ?k3 ?k4 ?k5 ?kA ?kF ?kK ?k6 ?k7 ?k8 ?k9 ?kB ?_ ?c2 ?c3 ?c4 ?c5; (case kA => exact rfl); (case kF => exact rfl); (case kK => first | exact rfl | assumption); (case k1 => k_asm); (case k2 => k_asm); (case k3 => k_asm); (case k4 => k_asm); (case k5 => k_asm); (case k6 => k_is); (case k7 => k_is); (case k8 => first | ktr_room | k_room); (case k9 => first | exact BindsTo.of_eq rfl | exact binds_K (by k_in) rfl (by k_is) rfl rfl rfl | (refine' kp_binds ?kx ?ke; (case kx => k_in); (case ke => exact fun _ => rfl))); (case c5 => decide); (case kB => exact locs rfl); (case c2 => exact rfl); (case c3 => exact rfl); (case c4 => exact rfl); k_whole; intro g' L' h' FG' F' N' B' X' T'; (try dsimp only); (try k_lift B'); (try k_fold))))
local macro_rules | `(tactic| walk_at "WPost") => `(tactic| dsimp only [WPost])

def apL : Nat → Int → List UInt8 → List UInt8
  | 0, _, acc => acc
  | f + 1, n, acc => if n = 0 then acc else apL f (n / 16) (UInt8.ofNat (65 + (n % 16).toNat) :: acc)
def dg (n : Int) : Nat := 65 + (n % 16).toNat
theorem apL_five {n : Int} (h : 65536 ≤ n ∧ n < 1048576) : apL 5 n [] = [UInt8.ofNat (dg (n / 16 / 16 / 16 / 16)), UInt8.ofNat (dg (n / 16 / 16 / 16)), UInt8.ofNat (dg (n / 16 / 16)), UInt8.ofNat (dg (n / 16)), UInt8.ofNat (dg n)] := by
  simp only [apL]
  rw [if_neg (by omega), if_neg (by omega), if_neg (by omega), if_neg (by omega), if_neg (by omega)]
  rfl
def AP16 : Array UInt8 := #[65, 66, 67, 68, 69, 70, 71, 72, 73, 74, 75, 76, 77, 78, 79, 80]
theorem ap_picked (k : Int) (h0 : 0 ≤ k) (h1 : k < 16) : KBy.picked AP16 (some k) (some (k + 1)) = [UInt8.ofNat (65 + k.toNat)].toArray := by
  have h : ∀ j : Nat, j < 16 → KBy.picked AP16 (some (j : Int)) (some ((j : Int) + 1)) = [UInt8.ofNat (65 + j)].toArray := by decide +kernel
  have := h k.toNat (by omega)
  rwa [show ((k.toNat : Nat) : Int) = k by omega] at this
theorem ap_slice {prog : Program} {w : World} {A : Around} {E : Value → Shared → Prop} {s : Shared} {value slice : PySem.Expr} {t u1 u2 : Tok} {h₀ : Heap} {L : Addr} {m : PySem.Str → Option Value} {news : Led} {Q : Value → Shared → Prop} {k : Int}
    (hF : Fr h₀ L s.heap m) (hN : News h₀ L s.heap news) (h0 : 0 ≤ k) (h1 : k < 16)
    (h : ∀ h' t' c, Fr h₀ L h' m → News h₀ L h' news → Q (.bytes [UInt8.ofNat (65 + k.toNat)].toArray t') { s with heap := h', toks := c })
    (hs : subscripted slice false (.bytes AP16 t) (.ref s.heap.objs.size) = operate [.ref s.heap.objs.size, .bytes AP16 t] (getItem (.bytes AP16 t) (.ref s.heap.objs.size)) := by with_unfolding_all rfl)
    (ht : ∀ r, letTemporaryGo value (.bytes AP16 t) r = pure () := by intro _; with_unfolding_all rfl) :
    wpAny (model prog w) A (subscriptTail value slice (.bytes AP16 t) (.ref s.heap.objs.size)) Q E { s with heap := s.heap.push { cls := .type "slice", data := .fields #[.int k u1, .int (k + 1) u2, .none] } } := by
  refine KBc.slice_K (b := AP16) hF hN rfl (.int _ _) (.int _ _) (by rw [KBw.ints_length]; decide) (fun h' t' c F' N' _ => ?_) hs ht
  rw [ap_picked k h0 h1]
  exact h h' t' c F' N'
theorem cat_bytes {prog : Program} {w : World} {A : Around} {E : Value → Shared → Prop} {s : Shared} {t u : Tok} {x y : List UInt8} {Q : Value → Shared → Prop} (hz : x.length + y.length ≤ 1000)
    (h : ∀ t' k, Q (.bytes (x ++ y).toArray t') { s with toks := k }) : wpAny (model prog w) A (binaryOp .Add (.bytes x.toArray t) (.bytes y.toArray u)) Q E s := by
  refine KBy.add_bytes (by rw [List.size_toArray, List.size_toArray]; omega) fun t' k => ?_
  have e : x.toArray ++ y.toArray = (x ++ y).toArray := by simp
  rw [e]
  exact h t' k
local macro_rules | `(tactic| walk_at "subscriptTail Name Slice bytes ref") => `(tactic| (k_here; (with_reducible rename Fr _ _ _ _ => F'); (with_reducible rename News _ _ _ _ => N'); refine ap_slice (s := ⟨_, _, _, _, _⟩) F' N' (by assumption) (by assumption) ?_; intro h9' t9' c9' F9' N9'))
local macro_rules | `(tactic| walk_at "binaryOp Add bytes bytes") => `(tactic| (k_here; refine cat_bytes (by simp only [List.length_cons, List.length_nil]; omega) ?_; intro t9' c9'; (try simp only [List.cons_append, List.nil_append])))
theorem ap_ok (w : World) (n : Int) (t1 : Tok) (news : Led) (hn : 65536 ≤ n ∧ n < 1048576) :
    CallOk 2 w 81 [.int n t1] news (fun K => ∀ t, K (.bytes [UInt8.ofNat (dg (n / 16 / 16 / 16 / 16)), UInt8.ofNat (dg (n / 16 / 16 / 16)), UInt8.ofNat (dg (n / 16 / 16)), UInt8.ofNat (dg (n / 16)), UInt8.ofNat (dg n)].toArray t) news) := by
  rw [← apL_five hn]
  unfold CallOk P0
  k_with_none
  k_fill
  intro mean mg mb dp un gd cn cs ad ccd cl outer A₀ base h₀ L m s Q E B F KX N T hk hdp hun hret
  have hab : (if n < 0 then -n else n) = n := if_neg (by omega)
  have hok0 : ∀ z : Int, z = n → (0 ≤ z ∧ z < 16 ^ 5 ∧ ([] : List UInt8).length + 5 = 5 ∧ apL 5 z [] = apL 5 n []) := by
    rintro z rfl
    exact ⟨Int.le_trans (by decide) hn.1, Int.lt_of_lt_of_le hn.2 (by decide), rfl, rfl⟩
  (k_with "exec While Name cons nil" => (
    (rename Fr _ _ _ _ => lF'); (rename News _ _ _ _ => lN');
    (with_unfolding_all refine while_st (σ := Nat × Int × List UInt8 × Tok × Tok) (fun σ => [(Str.ofString "num", .int σ.2.1 σ.2.2.2.1), (Str.ofString "val", .bytes σ.2.2.1.toArray σ.2.2.2.2)]) (fun _ => []) (fun σ => 0 ≤ σ.2.1 ∧ σ.2.1 < 16 ^ σ.1 ∧ σ.2.2.1.length + σ.1 = 5 ∧ apL σ.1 σ.2.1 σ.2.2.1 = apL 5 n []) (fun σ => σ.1) [Str.ofString "mod"] (5, (if n < 0 then -n else n), [], _, _) lF' lN' (fun p hp => hp) (List.forall_mem_cons.mpr ⟨by rfl, List.forall_mem_cons.mpr ⟨by rfl, List.forall_mem_nil _⟩⟩) (hok0 _ hab) ?_);
    clear lF' lN';
    rintro ⟨f, k, acc, tl, th⟩ u h' tk ⟨h1, h2, h3, h4⟩ F' N';
    dsimp only at h1 h2 h3 h4; dsimp only [setV, setU] at F';
    have hm0 : 0 ≤ k.fmod 16 := Int.fmod_nonneg_of_pos _ (by decide);
    have hm1 : k.fmod 16 < 16 := Int.fmod_lt_of_pos _ (by decide)))
  refine wpAny_call ?_; k_dflt (refine' code_pure (news := news) ?k1 ?k2 ?k3 ?k4 ?k5 ?kA ?kF ?kK ?k6 ?k7 ?k8 ?k9 ?kB ?_ ?c2 ?c3 ?c4 ?c5; (case kA => exact rfl); (case kF => exact rfl); (case kK => first | exact rfl | assumption); (case k1 => k_asm); (case k2 => k_asm); (case k3 => k_asm); (case k4 => k_asm); (case k5 => k_asm); (case k6 => k_is); (case k7 => k_is); (case k8 => first | ktr_room | k_room); (case k9 => first | exact BindsTo.of_eq rfl | exact binds_K (by k_in) rfl (by k_is) rfl rfl rfl | (refine' kp_binds ?kx ?ke; (case kx => k_in); (case ke => exact fun _ => rfl))); (case c5 => decide); (case kB => exact locs rfl); (case c2 => exact rfl); (case c3 => exact rfl); (case c4 => exact rfl); k_whole; intro L' h' F' N' B' X' T'; (try dsimp only); (try k_lift B'); (try k_fold))
  k_steps
  · have hk0 : k ≠ 0 := by assumption
    obtain ⟨f', rfl⟩ : ∃ f', f = f' + 1 := by
      cases f with
      | zero => exfalso; simp at h2; omega
      | succ f => exact ⟨f, rfl⟩
    have e1 : k.fdiv 16 = k / 16 := Int.fdiv_eq_ediv_of_nonneg _ (by decide)
    have e2 : k.fmod 16 = k % 16 := Int.fmod_eq_emod_of_nonneg _ (by decide)
    with_unfolding_all refine WEnd.intro (f', k.fdiv 16, _, _, _) (by assumption) (by assumption) (fun p hp => nomatch hp) (List.forall_mem_cons.mpr ⟨by rfl, List.forall_mem_cons.mpr ⟨by rfl, List.forall_mem_nil _⟩⟩) ?_ ?_ ?_
    · intro y q1 q2
      have a1 : y ≠ Str.ofString "num" := q1 _ (.head _)
      have a2 : y ≠ Str.ofString "val" := q1 _ (.tail _ (.head _))
      have a3 : y ≠ Str.ofString "mod" := q2 _ (.head _)
      simp only [a1, a2, a3, if_false]
    · dsimp only
      refine ⟨by omega, ?_, ?_, ?_⟩
      · rw [e1]
        rw [Int.pow_succ] at h2
        omega
      · simp only [List.length_cons]; omega
      · rw [← h4, e1, e2]
        simp only [apL]
        rw [if_neg hk0]
    · dsimp only
      omega
  · have hk0 : k = 0 := by assumption
    have e : apL f k acc = acc := by
      subst hk0
      cases f <;> simp [apL]
    rw [← h4, e] at hret
    exact hret _ _ _ (by assumption) (by assumption)
end
section
local macro_rules | `(tactic| walk_at "call ref") => `(tactic| (k_here; k_dflt (refine wpAny_call ?_; refine' code_def ?k1 ?k2 ?k3 ?k4 ?k5 ?kA ?kF ?kK ?k6 ?k7 ?k8 ?k9 ?kB ?_ ?c2 ?c3 ?c4 ?c5; (case kA => exact rfl); (case kF => exact rfl); (case kK => first | exact rfl | assumption); (case k1 => k_asm); (case k2 => k_asm); (case k3 => k_asm); (case k4 => k_asm); (case k5 => k_asm); (case k6 => k_is); (case k7 => k_is); (case k8 => first | ktr_room | k_room); (case k9 => first | exact BindsTo.of_eq rfl | exact binds_K (by k_in) rfl (by k_is) rfl rfl rfl | (refine' kp_binds ?kx ?ke; (case kx => k_in); (case ke => exact fun _ => rfl))); (case c5 => decide); (case kB => exact locs rfl); (case c2 => exact rfl); (case c3 => exact rfl); (case c4 => exact rfl); k_whole; intro g' L' h' FG' F' N' B' X' T'; (try dsimp only); (try k_lift B'); (try k_fold))))
local macro_rules | `(tactic| walk_at "WPost") => `(tactic| dsimp only [WPost])

-- a comprehension over bytes that the call made
section
variable {prog : Program} {w : World} {A : Around} {E : Value → Shared → Prop} {s : Shared} {h₀ : Heap} {L : Addr} {m : Str → Option Value} {env : Env}
def SrcB (prog : Program) (w : World) (A : Around) (h₀ : Heap) (L : Addr) (m : Str → Option Value) (env : Env) (elt : PySem.Expr) (x : Str) (scope : Scope) (cl : List (Str × Addr)) (Q : Value → Shared → Prop) (xv : Value) (s₁ : Shared) : Prop :=
  ∃ (xs : List UInt8) (t : Tok) (news : Led), xv = .bytes xs.toArray t ∧ A.handled = none ∧ Fr h₀ L s₁.heap m ∧ News h₀ L s₁.heap news ∧ xs.length ≤ 1000 ∧
    ∀ g, LCg.CompRest prog w A h₀ L m env elt x scope cl { s₁ with heap := g } (fun _ => True) (fun i v => ∃ t, v = .int ((xs.getD i 0).toNat : Int) t) (LCg.FinE h₀ L m { s₁ with heap := g } Q) xs.length 0 [] news
theorem SrcB.intro {elt : PySem.Expr} {x : Str} {scope : Scope} {cl : List (Str × Addr)} {Q : Value → Shared → Prop} {s₁ : Shared} {xs : List UInt8} {t : Tok} {news : Led} (hh : A.handled = none) (F : Fr h₀ L s₁.heap m) (N : News h₀ L s₁.heap news) (hz : xs.length ≤ 1000)
    (h : ∀ g, LCg.CompRest prog w A h₀ L m env elt x scope cl { s₁ with heap := g } (fun _ => True) (fun i v => ∃ t, v = .int ((xs.getD i 0).toNat : Int) t) (LCg.FinE h₀ L m { s₁ with heap := g } Q) xs.length 0 [] news) :
    SrcB prog w A h₀ L m env elt x scope cl Q (.bytes xs.toArray t) s₁ := ⟨xs, t, news, rfl, hh, F, N, hz, h⟩
theorem comp_bytes {elt iter : PySem.Expr} {x : Str} {px : Pos} {scope : Scope} {cl : List (Str × Addr)} {pos : Pos} {Q : Value → Shared → Prop} (_F₀ : Fr h₀ L s.heap m)
    (hclos : closureFor scope env = pure cl) (hcell : ∀ y ∈ scope.names, y.2 ≠ .cell) (hkind : scope.kind = .function)
    (hnames : ∀ y ∈ scope.names, y.2 = .local → scope.names.lookup y.1 = some .local) (hx : scope.names.lookup x = some .local)
    (h : wpAny (model prog w) A (eval iter env) (SrcB prog w A h₀ L m env elt x scope cl Q) E s)
    (hs : ∀ x, foldedSetIterable iter env x = pure x := by intro _; rfl) :
    wpAny (model prog w) A (eval (.ListComp elt [⟨.Name x px, iter, [], 0⟩] scope pos) env) Q E s := by
  rw [eval_ListComp]
  refine wpAny_comprehension_free (use := none) rfl hs hclos hkind hnames (wpAny_mono h (fun xv s₁ h₁ => ?_) fun _ _ e => e)
  obtain ⟨xs, t, news, rfl, hh, F, N, hz, R⟩ := h₁
  refine KBw.pyIter_bytes ?_
  have W0 := KBw.walks (prog := prog) (w := w) hh s₁.heap.objs.size xs.toArray t
  have W : Walks prog w A s₁.heap.objs.size [s₁.heap.objs.size] [s₁.heap.objs.size] xs.length (fun i v => ∃ t, v = .int ((xs.getD i 0).toNat : Int) t) (fun i h => KBw.IsBytesIter h s₁.heap.objs.size xs.toArray t i) := by
    have e : xs.toArray.size = xs.length := List.size_toArray ..
    rw [e] at W0
    exact { sub := W0.sub, frame := W0.frame, done := W0.done, self := W0.self,
            item := fun i s Q E hi st hQ => W0.item i s Q E hi st fun v h' tk hP => hQ v h' tk (by
              obtain ⟨c, u, hc, rfl⟩ := hP
              have hc' : xs[i]? = some c := by simpa using hc
              exact ⟨u, by rw [List.getD_eq_getElem?_getD, hc']; rfl⟩) }
  refine LCg.block_U W (by rw [sizeLine_eq]; omega) (fun i h st => let ⟨o, e, _⟩ := st; ⟨o, e⟩) (S := fun _ => True)
    (fun i h h' o nw st e e' _ _ _ => by obtain ⟨o2, e2, hc, hd⟩ := st; rw [e] at e2; cases e2; exact ⟨o, e', hc, hd⟩) hcell hkind hx ⟨_, Heap.get?_push_size _ rfl, rfl, rfl⟩ (fun b hb => ?_)
    (F.keeps fun _ _ e => Heap.get?_push_of_some _ e) (N.grown fun _ _ e => Heap.get?_push_of_some _ e) (Nat.ne_of_lt F.ns.lt) (next_is_new F) (fun p hp => Nat.ne_of_lt (Heap.lt_size (N p hp).1)) trivial (R _) ?_
  · rw [List.mem_singleton.mp hb]
    show s₁.heap.objs.size < (s₁.heap.push _).objs.size
    rw [Heap.size_push]; exact Nat.lt_succ_self _
  · intro D C h tk m' ys news' F' N' o1 hn hC₀ hD₀ hCL hDL hCD offC fin
    refine ⟨m', hn, fun h'' hs'' => fin D h'' tk (F'.change hs'' hCL hC₀) (fun p hp => ?_) o1⟩
    refine ⟨hs''.extBut _ _ ?_ (N' p hp).1, (N' p hp).2⟩
    rcases List.mem_cons.mp hp with rfl | hp
    · exact Ne.symm hCD
    · exact offC p hp
end
local macro_rules | `(tactic| walk_at "call ref") => `(tactic| (k_here; (with_reducible show wpAny _ _ (call (Value.ref 81) [Value.int _ _]) _ _ _); k_dflt (refine' ap_ok _ _ _ _ ?hn _ _ _ _ _ _ _ _ _ _ _ _ _ _ _ _ _ _ _ _ ?k1 ?k2 ?k3 ?k4 ?k5 ?k6 ?k7 ?k8 ?_; (case hn => omega); (case k1 => k_asm); (case k2 => k_asm); (case k3 => k_asm); (case k4 => k_asm); (case k5 => k_asm); (case k6 => first | exact rfl | assumption); (case k7 => first | omega | ktr_room | k_room); (case k8 => first | omega | ktr_units); k_whole); (try dsimp only); intro t9' h9' tk9' F9' N9'))
local macro_rules | `(tactic| walk_at "eval ListComp") => `(tactic| (k_here; k_dflt (refine comp_bytes (by k_asm) (by with_unfolding_all rfl) (by decide) (by rfl) (by decide) (by rfl) ?_)))
local macro_rules | `(tactic| walk_at "SrcB") => `(tactic| (k_here; k_dflt (refine SrcB.intro (by rfl) (by k_asm) (by k_asm) (by simp only [List.length_cons, List.length_nil]; omega) ?_); intro g'))
def w5 (n : Int) : Str := ⟨#[dg (n / 16 / 16 / 16 / 16), dg (n / 16 / 16 / 16), dg (n / 16 / 16), dg (n / 16), dg n]⟩
theorem chr_dg {prog : Program} {w : World} {A : Around} {E : Value → Shared → Prop} {s : Shared} {k n : Int} {t : Tok} {Q : Value → Shared → Prop} (e : k = ((UInt8.ofNat (dg n)).toNat : Int)) (h : ∀ t', Q (.str ⟨#[dg n]⟩ t') { s with toks := s.toks + 1 }) :
    wpAny (model prog w) A (call (.builtin "chr") [.int k t]) Q E s := by
  have hd : dg n < 256 := by unfold dg; omega
  have hk : (UInt8.ofNat (dg n)).toNat = dg n := by rw [UInt8.toNat_ofNat']; omega
  rw [hk] at e
  subst e
  refine chr_of_range (by omega) (by omega) ?_
  have := h s.toks
  rwa [Int.toNat_natCast]
theorem join_five {prog : Program} {w : World} {A : Around} {E : Value → Shared → Prop} {s : Shared} {h₀ : Heap} {L D : Addr} {news : Led} {a b c d e : Nat} {t t1 t2 t3 t4 t5 : Tok} {Q : Value → Shared → Prop}
    (N : News h₀ L s.heap news) (hm : (D, LCg.lst [.str ⟨#[a]⟩ t1, .str ⟨#[b]⟩ t2, .str ⟨#[c]⟩ t3, .str ⟨#[d]⟩ t4, .str ⟨#[e]⟩ t5]) ∈ news) (h : ∀ t' k, Q (.str ⟨#[a, b, c, d, e]⟩ t') { s with toks := k }) :
    wpAny (model prog w) A (call (.builtin "str.join") [.str ⟨#[]⟩ t, .ref D]) Q E s := by
  refine join_listW (PySem.IsL.isList (N _ hm).1) (.cons _ _ (.cons _ _ (.cons _ _ (.cons _ _ (.cons _ _ .nil))))) (by decide) (by simp [Str.length]) fun t' k => ?_
  exact h t' k
local macro_rules | `(tactic| walk_at "call builtin:chr") => `(tactic| (k_here; k_dflt (refine chr_dg (by rfl) ?_); intro t9'))
local macro_rules | `(tactic| walk_at "call builtin:str.join") => `(tactic| (k_here; k_dflt (refine join_five (by k_asm) (by k_mem) ?_); intro t9' c9'))
theorem word_ok (w : World) (x y z : Int) (t1 t2 t3 : Tok) (news : Led) (hx : 1 ≤ x ∧ x ≤ 15) (hy : 0 ≤ y ∧ y ≤ 255) (hz : 0 ≤ z ∧ z ≤ 255) :
    CallOk 4 w 86 [.int x t1, .int y t2, .int z t3] news (fun K => ∀ t, K (.str (w5 (x * 65536 + y * 256 + z)) t) news) := by
  unfold CallOk P0
  k_with_none
  k_fill
  intro mean mg mb dp un gd cn cs ad ccd cl outer A₀ base h₀ L m s Q E B F KX N T hk hdp hun hret
  refine wpAny_call ?_; k_dflt (refine' code_pure (news := news) ?k1 ?k2 ?k3 ?k4 ?k5 ?kA ?kF ?kK ?k6 ?k7 ?k8 ?k9 ?kB ?_ ?c2 ?c3 ?c4 ?c5; (case kA => exact rfl); (case kF => exact rfl); (case kK => first | exact rfl | assumption); (case k1 => k_asm); (case k2 => k_asm); (case k3 => k_asm); (case k4 => k_asm); (case k5 => k_asm); (case k6 => k_is); (case k7 => k_is); (case k8 => first | ktr_room | k_room); (case k9 => first | exact BindsTo.of_eq rfl | exact binds_K (by k_in) rfl (by k_is) rfl rfl rfl | (refine' kp_binds ?kx ?ke; (case kx => k_in); (case ke => exact fun _ => rfl))); (case c5 => decide); (case kB => exact locs rfl); (case c2 => exact rfl); (case c3 => exact rfl); (case c4 => exact rfl); k_whole; intro L' h' F' N' B' X' T'; (try dsimp only); (try k_lift B'); (try k_fold))
  k_steps
  exact hret _ _ _ (by assumption) (by assumption)
end
section
local macro_rules | `(tactic| walk_at "call ref") => `(tactic| (k_here; k_dflt (refine wpAny_call ?_; refine' code_def ?k1 ?k2 ?k3 ?k4 ?k5 ?kA ?kF ?kK ?k6 ?k7 ?k8 ?k9 ?kB ?_ ?c2 ?c3 ?c4 ?c5; (case kA => exact rfl); (case kF => exact rfl); (case kK => first | exact rfl | assumption); (case k1 => k_asm); (case k2 => k_asm); (case k3 => k_asm); (case k4 => k_asm); (case k5 => k_asm); (case k6 => k_is); (case k7 => k_is); (case k8 => first | ktr_room | k_room); (case k9 => first | exact BindsTo.of_eq rfl | exact binds_K (by k_in) rfl (by k_is) rfl rfl rfl | (refine' kp_binds ?kx ?ke; (case kx => k_in); (case ke => exact fun _ => rfl))); (case c5 => decide); (case kB => exact locs rfl); (case c2 => exact rfl); (case c3 => exact rfl); (case c4 => exact rfl); k_whole; intro g' L' h' FG' F' N' B' X' T'; (try dsimp only); (try k_lift B'); (try k_fold))))
local macro_rules | `(tactic| walk_at "WPost") => `(tactic| dsimp only [WPost])

-- the continued fraction, in plain Lean
def partsF (n root : Int) : Nat → Int → Int → List (Int × Int) → List Int → Option (List Int)
  | 0, _, _, _, _ => none
  | f + 1, u, l, ps, pt =>
    if (ps.drop 2).contains (u, l) then some (pt.drop 2)
    else if -1000 < u ∧ u < 1000 ∧ 0 < l ∧ l < 1000 ∧ -1000 < (u + root).fdiv l * l - u ∧ (u + root).fdiv l * l - u < 1000 then
      partsF n root f ((u + root).fdiv l * l - u) ((n - ((u + root).fdiv l * l - u) * ((u + root).fdiv l * l - u)).fdiv l) (ps ++ [(u, l)]) (pt ++ [(u + root).fdiv l])
    else none
def tup2 (p : Int × Int) (t u : Tok) : Obj := tup [.int p.1 t, .int p.2 u]
inductive PairsIn (tl : Led) : List Value → List (Int × Int) → Prop
  | nil : PairsIn tl [] []
  | cons {vs ps} (a : Addr) (p : Int × Int) (t u : Tok) : (a, tup2 p t u) ∈ tl → PairsIn tl vs ps → PairsIn tl (.ref a :: vs) (p :: ps)
theorem PairsIn.mono {tl tl' : Led} {vs : List Value} {ps : List (Int × Int)} (h : PairsIn tl vs ps) (hs : ∀ p ∈ tl, p ∈ tl') : PairsIn tl' vs ps := by
  induction h with
  | nil => exact .nil
  | cons a p t u hm _ ih => exact .cons a p t u (hs _ hm) ih
theorem PairsIn.length {tl : Led} {vs : List Value} {ps : List (Int × Int)} (h : PairsIn tl vs ps) : vs.length = ps.length := by
  induction h with
  | nil => rfl
  | cons a p t u hm _ ih => simp [ih]
theorem PairsIn.drop {tl : Led} {vs : List Value} {ps : List (Int × Int)} (h : PairsIn tl vs ps) : ∀ k, PairsIn tl (vs.drop k) (ps.drop k) := by
  induction h with
  | nil => intro k; simpa using PairsIn.nil
  | cons a p t u hm hr ih =>
    intro k
    cases k with
    | zero => exact .cons a p t u hm hr
    | succ k => exact ih k
theorem PairsIn.snoc {tl : Led} {vs : List Value} {ps : List (Int × Int)} (h : PairsIn tl vs ps) {a : Addr} {p : Int × Int} {t u : Tok} (hm : (a, tup2 p t u) ∈ tl) : PairsIn tl (vs ++ [.ref a]) (ps ++ [p]) := by
  induction h with
  | nil => exact .cons a p t u hm .nil
  | cons b q t' u' hm' _ ih => exact .cons b q t' u' hm' ih
theorem ints_snoc {vs : List Value} {ns : List Int} (h : IntsAre vs ns) (k : Int) (t : Tok) : IntsAre (vs ++ [.int k t]) (ns ++ [k]) := by
  induction h with
  | nil => exact .cons _ _ .nil
  | cons x u _ ih => exact .cons x u ih
theorem ints_drop {vs : List Value} {ns : List Int} (h : IntsAre vs ns) : ∀ k, IntsAre (vs.drop k) (ns.drop k) := by
  induction h with
  | nil => intro k; simpa using IntsAre.nil
  | cons x u r ih =>
    intro k
    cases k with
    | zero => exact .cons x u r
    | succ k => exact ih k

section
variable {prog : Program} {w : World} {A : Around} {E : Value → Shared → Prop} {s : Shared} {h₀ : Heap} {L : Addr} {m : Str → Option Value} {news : Led}
open Classical in
theorem notIn_pairs {X D : Addr} {u l : Int} {tx ty : Tok} {vs : List Value} {ps : List (Int × Int)} {k : Nat} {tl : Led} {b : Bool} {Q : Value → Shared → Prop}
    (N : News h₀ L s.heap news) (hX : (X, tup2 (u, l) tx ty) ∈ news) (hD : (D, listOf vs.toArray k) ∈ news) (hP : PairsIn tl vs ps) (hs : ∀ p ∈ tl, p ∈ news) (hne : ∀ p ∈ tl, p.1 ≠ X) (hu : A.units + 1 < cLine)
    (hb : (!ps.contains (u, l)) = b) (h : Q (.bool b) s) : wpAny (model prog w) A (compareOp .NotIn (.ref X) (.ref D)) Q E s := by
  subst hb
  have key : ∀ {vs ps}, PairsIn tl vs ps → (∀ y ∈ vs, SeqAt.EqAt A.in1 s y (.ref X) (decide (∃ a t t', y = .ref a ∧ (a, tup2 (u, l) t t') ∈ tl))) ∧
      (vs.any fun y => decide (∃ a t t', y = .ref a ∧ (a, tup2 (u, l) t t') ∈ tl)) = ps.contains (u, l) := by
    intro vs ps hP
    induction hP with
    | nil => exact ⟨fun _ h => (nomatch h), rfl⟩
    | cons a p t t' hm _ ih =>
      have e : decide (∃ a' t t', Value.ref a = .ref a' ∧ (a', tup2 (u, l) t t') ∈ tl) = (p == (u, l)) := by
        by_cases hp : p = (u, l)
        · subst hp
          rw [beq_self_eq_true]
          exact decide_eq_true ⟨a, t, t', rfl, hm⟩
        · rw [beq_false_of_ne hp]
          refine decide_eq_false ?_
          rintro ⟨a', t1, t2, e1, hm'⟩
          cases e1
          have h1 := (N _ (hs _ hm)).1
          have h2 := (N _ (hs _ hm')).1
          rw [h1] at h2
          have h3 : (tup2 p t t').data = (tup2 (u, l) t1 t2).data := congrArg Obj.data (Option.some.inj h2)
          simp only [tup2, tup, Data.seq.injEq] at h3
          apply hp
          simp at h3
          exact Prod.ext h3.1.1 h3.2.1
      refine ⟨List.forall_mem_cons.mpr ⟨?_, ih.1⟩, ?_⟩
      · rw [e]
        refine SeqAt.EqAt.of_refs (hne _ hm) ?_
        have q := SeqAt.RcAt.tuples (A := A.in1) (s := s) (l := a) (b := X) (items := #[.int p.1 t, .int p.2 t']) (items2 := #[.int u tx, .int l ty]) (e := fun j => if j = 0 then p.1 == u else p.2 == l)
          ⟨_, (N _ (hs _ hm)).1, rfl, _, rfl⟩ ⟨_, (N _ hX).1, rfl, _, rfl⟩ (by simpa using hu) (fun j h1 h2 => by
            have hj : j = 0 ∨ j = 1 := by
              have : j < 2 := h1
              omega
            rcases hj with rfl | rfl
            · exact SeqAt.EqAt.int_int _ _ _ _
            · exact SeqAt.EqAt.int_int _ _ _ _)
        have e2 : ((List.range (min (#[Value.int p.1 t, Value.int p.2 t'] : Array Value).size (#[Value.int u tx, Value.int l ty] : Array Value).size)).all (fun j => if j = 0 then p.1 == u else p.2 == l) && (#[Value.int p.1 t, Value.int p.2 t'] : Array Value).size == (#[Value.int u tx, Value.int l ty] : Array Value).size) = (p == (u, l)) := by
          show (((p.1 == u) && ((p.2 == l) && true)) && true) = (p == (u, l))
          rw [Bool.and_true, Bool.and_true]
          rfl
        rw [e2] at q
        exact q
      · rw [List.any_cons, List.contains_cons, e, ih.2, BEq.comm]
  obtain ⟨k1, k2⟩ := key hP
  refine SeqAt.notIn_listAt _ (PySem.IsL.isList (N _ hD).1) (fun y hy => k1 y (by simpa using hy)) ?_
  rw [List.any_toArray, k2]
  exact h

theorem slice_two {value slice : PySem.Expr} {l : Addr} {vs : List Value} {t : Tok} {Q : Value → Shared → Prop} (F : Fr h₀ L s.heap m) (N : News h₀ L s.heap news) (hm : (l, LCg.lst vs) ∈ news) (hz : vs.length < 1000)
    (h : ∀ D h', Fr h₀ L h' m → News h₀ L h' ((D, listOf (vs.drop 2).toArray 0) :: news) → (∀ p ∈ news, p.1 < D) → Q (.ref D) { s with heap := h' })
    (hs : subscripted slice false (.ref l) (.ref s.heap.objs.size) = operate [.ref s.heap.objs.size, .ref l] (getItem (.ref l) (.ref s.heap.objs.size)) := by with_unfolding_all rfl) (ht : ∀ r, letTemporaryGo value (.ref l) r = pure () := by intro _; with_unfolding_all rfl) :
    wpAny (model prog w) A (subscriptTail value slice (.ref l) (.ref s.heap.objs.size)) Q E { s with heap := s.heap.push { cls := .type "slice", data := .fields #[.int 2 t, .none, .none] } } := by
  refine kmk_slice F N (PySem.IsL.isList (N _ hm).1) (.int 2 t) .none (fun D h' F' N' l1 => h D h' F' ?_ l1) hs ht (by rw [List.size_toArray, sizeLine_eq]; omega)
  have e : slicePick vs.toArray (some 2) none none = (vs.drop 2).toArray := slicePick_from' vs.toArray 2
  rw [← e]
  exact N'
theorem last_int {value slice : PySem.Expr} {l : Addr} {vs : List Value} {k : Int} {t u : Tok} {Q : Value → Shared → Prop} (N : News h₀ L s.heap news) (hm : (l, LCg.lst (vs ++ [.int k t])) ∈ news) (hz : vs.length < 1000) (h : Q (.int k t) s)
    (hs : subscripted slice false (.ref l) (.int (-1) u) = operate [.ref l, .int (-1) u] (getItem (.ref l) (.int (-1) u)) := by with_unfolding_all rfl) :
    wpAny (model prog w) A (subscriptTail value slice (.ref l) (.int (-1) u)) Q E s := by
  have hl := PySem.IsL.isList (N _ hm).1
  have hsz : (vs ++ [Value.int k t]).toArray.size = vs.length + 1 := by simp
  refine tail_any hl.typeIs slot_list_getitem.lookup (wpAny_getItem_list_neg hl (by decide) (by rw [hsz]; omega) (by decide) ?_ h) hs
  rw [hsz]
  have : ((-1 : Int) + ((vs.length + 1 : Nat) : Int)).toNat = vs.length := by omega
  rw [this]
  simp
theorem append_lst {D : Addr} {vs : List Value} {x : Value} {news' : Led} {Q : Value → Shared → Prop} (F : Fr h₀ L s.heap m) (N : News h₀ L s.heap news) (U : Upd D (LCg.lst vs) (LCg.lst (vs ++ [x])) news news') (hz : vs.length < 1000)
    (h : ∀ h', Fr h₀ L h' m → News h₀ L h' news' → Q .none { s with heap := h' }) : wpAny (model prog w) A (call (.builtin "list.append") [.ref D, x]) Q E s := by
  rw [← LCg.lst_snoc] at U
  exact append_K (its := vs.toArray) (n := vs.length) F N U h (by rw [List.size_toArray, sizeLine_eq]; omega)
end

structure PSt where
  u : Int
  l : Int
  vs : List Value
  ps : List (Int × Int)
  pv : List Value
  pt : List Int
  tl : Led
  t1 : Tok
  t2 : Tok
  f : Nat
def PSt.vals (x : PSt) : List (Str × Value) := [(Str.ofString "upper", .int x.u x.t1), (Str.ofString "lower", .int x.l x.t2)]
def PSt.led (Pa Sa : Addr) (x : PSt) : Led := (Pa, LCg.lst x.pv) :: (Sa, LCg.lst x.vs) :: x.tl
structure PSt.Ok (n root : Int) (res : List Int) (Pa Sa : Addr) (x : PSt) : Prop where
  run : partsF n root x.f x.u x.l x.ps x.pt = some res
  pairs : PairsIn x.tl x.vs x.ps
  iare : IntsAre x.pv x.pt
  len : x.ps.length + x.f = 60
  len2 : x.pt.length = x.ps.length
  off : ∀ p ∈ x.tl, p.1 ≠ Sa
  off2 : ∀ p ∈ x.tl, p.1 ≠ Pa
theorem while_parts {prog : Program} {w : World} {A : Around} {E : Value → Shared → Prop} {Q : Flow → Shared → Prop} {s : Shared} {env : Env} {h₀ : Heap} {L : Addr} {test : PySem.Expr} {body : List Stmt} {pos : Pos} {m₀ : Str → Option Value}
    {Pa Sa : Addr} {u l n root : Int} {t1 t2 : Tok} {res : List Int}
    (F : Fr h₀ L s.heap m₀) (N : News h₀ L s.heap [(Pa, listOf #[] 0), (Sa, listOf #[] 0)]) (hu : m₀ (Str.ofString "upper") = some (.int u t1)) (hl : m₀ (Str.ofString "lower") = some (.int l t2)) (hr : partsF n root 60 u l [] [] = some res)
    (turn : ∀ x (v : Str → Option Value) h tk, PSt.Ok n root res Pa Sa x → Fr h₀ L h (setV x.vals (setU v [] m₀)) → News h₀ L h ((Pa, LCg.lst x.pv) :: (Sa, LCg.lst x.vs) :: x.tl) →
      wpAny (model prog w) A (isTrue test env (eval test env)) (fun b s₂ =>
        if b = true then wpAny (model prog w) A (execs body env) (WPost h₀ L s PSt.vals (PSt.led Pa Sa) (PSt.Ok n root res Pa Sa) PSt.f [] m₀ x Q) E s₂ else Q .next s₂) E { s with heap := h, toks := tk })
    (hE : PassesOwn (model prog w) A env E := by passes_own) :
    wpAny (model prog w) A (exec (.While test body [] pos) env) Q E s := by
  refine while_st PSt.vals (PSt.led Pa Sa) (PSt.Ok n root res Pa Sa) PSt.f [] ⟨u, l, [], [], [], [], [], t1, t2, 60⟩ F N (fun p hp => hp) ?_ ?_ turn hE
  · exact List.forall_mem_cons.mpr ⟨hu, List.forall_mem_cons.mpr ⟨hl, List.forall_mem_nil _⟩⟩
  · exact ⟨hr, .nil, .nil, rfl, rfl, fun _ h => (nomatch h), fun _ h => (nomatch h)⟩
local macro_rules | `(tactic| k_all) => `(tactic| assumption)
theorem parts_ok (w : World) (u l n root : Int) (t1 t2 t3 t4 : Tok) (news : Led) (res : List Int) (hr : partsF n root 60 u l [] [] = some res) :
    CallOk 2 w 100 [.int u t1, .int l t2, .int n t3, .int root t4] news (fun K => ∀ a ys, (∀ p ∈ news, p.1 ≠ a) → IntsAre ys res → K (.ref a) ((a, listOf ys.toArray 0) :: news)) := by
  unfold CallOk P0
  k_with_none
  k_fill
  intro mean mg mb dp un gd cn cs ad ccd cl outer A₀ base h₀ L m s Q E B F KX N T hk hdp hun hret
  k_with_none
  (k_with "exec While Compare cons nil" => (refine Hold.out ?_))
  refine wpAny_call ?_; k_dflt (refine' code_pure (news := news) ?k1 ?k2 ?k3 ?k4 ?k5 ?kA ?kF ?kK ?k6 ?k7 ?k8 ?k9 ?kB ?_ ?c2 ?c3 ?c4 ?c5; (case kA => exact rfl); (case kF => exact rfl); (case kK => first | exact rfl | assumption); (case k1 => k_asm); (case k2 => k_asm); (case k3 => k_asm); (case k4 => k_asm); (case k5 => k_asm); (case k6 => k_is); (case k7 => k_is); (case k8 => first | ktr_room | k_room); (case k9 => first | exact BindsTo.of_eq rfl | exact binds_K (by k_in) rfl (by k_is) rfl rfl rfl | (refine' kp_binds ?kx ?ke; (case kx => k_in); (case ke => exact fun _ => rfl))); (case c5 => decide); (case kB => exact locs rfl); (case c2 => exact rfl); (case c3 => exact rfl); (case c4 => exact rfl); k_whole; intro L' h' F' N' B' X' T'; (try dsimp only); (try k_lift B'); (try k_fold))
  k_steps
  refine Hold.intro ?_
  (rename Fr _ _ _ _ => lF'); (rename News _ _ _ _ => lN')
  with_unfolding_all refine while_parts lF' lN' (by rfl) (by rfl) hr ?_
  clear lF' lN'
  rintro ⟨u, l, vs, ps, pv, pt, tl, t1, t2, f⟩ v h' tk ⟨o1, o2, o3, o4, o5, o6, o7⟩ F' N'
  dsimp only at o1 o2 o3 o4 o5 o6 o7 N'; dsimp only [setV, setU, PSt.vals] at F'
  have hl1 := o2.length
  have hl2 := o3.length
  (k_with "subscriptTail Name Slice ref ref" => (
    (with_reducible rename Fr _ _ _ _ => F'); (with_reducible rename News _ _ _ _ => N');
    (k_dflt (refine slice_two (s := ⟨_, _, _, _, _⟩) F' N' (by k_mem) (by omega) ?_)); (intro D9' h9' F9' N9' l9'); (try k_lt l9')))
  (k_with "compareOp NotIn ref ref" => (
    (rename _ ∧ _ ∧ AllLt _ tl => hL9);
    (k_dflt (refine notIn_pairs (tl := tl) (by k_asm) (by k_mem) (by k_mem) (o2.drop 2) (fun p hp => .tail _ (.tail _ (.tail _ (.tail _ hp)))) (fun p hp => Nat.ne_of_lt (ktn_ltOf hL9.2.2 p hp)) (by show un + 3 + 1 < cLine; omega) (by assumption) ?_))))
  (k_with "call builtin:list.append" => (
    (k_dflt (refine append_lst (by k_asm) (by k_asm) (by k_upd) (by omega) ?_)); (intro h9' F9' N9')))
  (k_with "subscriptTail Name UnaryOp ref int" => (
    (k_dflt (refine last_int (by k_asm) (by k_mem) (by omega) ?_))))
  cases f with
  | zero => cases o1
  | succ f =>
  simp only [partsF] at o1
  cases hc : (ps.drop 2).contains (u, l) with
  | true =>
    have hcb : (!(ps.drop 2).contains (u, l)) = false := by rw [hc]; rfl
    rw [hc] at o1
    rw [if_pos rfl] at o1
    k_steps
    cases o1
    (rename IntsAre _ (List.drop 2 pt) => hI9); (rename News s.heap _ _ (_ :: _) => N9); (rename News h₀ L _ (_ :: _) => kN9); (rename News h₀ L _ news => a9)
    refine hret _ _ (news_off N9 N) hI9 _ _ (by assumption) (fun p hp => ?_)
    rcases List.mem_cons.mp hp with rfl | hp
    · exact kN9 _ (.head _)
    · exact a9 p hp
  | false =>
    have hcb : (!(ps.drop 2).contains (u, l)) = true := by rw [hc]; rfl
    rw [hc] at o1
    rw [if_neg Bool.false_ne_true] at o1
    split at o1
    · rename_i hb
      obtain ⟨b1, b2, b3, b4, b5, b6⟩ := hb
      k_steps
      with_unfolding_all refine WEnd.intro (PSt.mk ((u + root).fdiv l * l - u) ((n - ((u + root).fdiv l * l - u) * ((u + root).fdiv l * l - u)).fdiv l) (vs ++ [.ref _]) (ps ++ [(u, l)]) (pv ++ [.int _ _]) (pt ++ [(u + root).fdiv l]) ((_, tup2 (u, l) t1 t2) :: tl) _ _ f) (by assumption) (by assumption) (List.forall_mem_cons.mpr ⟨.tail _ (.tail _ (.tail _ (.head _))), List.forall_mem_cons.mpr ⟨.tail _ (.tail _ (.tail _ (.tail _ (.head _)))), List.forall_mem_cons.mpr ⟨.head _, fun p hp => .tail _ (.tail _ (.tail _ (.tail _ (.tail _ hp))))⟩⟩⟩) (List.forall_mem_cons.mpr ⟨by rfl, List.forall_mem_cons.mpr ⟨by rfl, List.forall_mem_nil _⟩⟩) ?_ ?_ ?_
      · intro y q1 q2
        have a1 : y ≠ Str.ofString "upper" := q1 _ (.head _)
        have a2 : y ≠ Str.ofString "lower" := q1 _ (.tail _ (.head _))
        simp only [a1, a2, if_false]
      · refine ⟨o1, (o2.mono fun p hp => .tail _ hp).snoc (.head _), ints_snoc o3 _ _, ?_, ?_, List.forall_mem_cons.mpr ⟨?_, o6⟩, List.forall_mem_cons.mpr ⟨?_, o7⟩⟩
        · dsimp only
          rw [List.length_append, List.length_singleton]
          omega
        · dsimp only
          rw [List.length_append, List.length_append, List.length_singleton, List.length_singleton]
          omega
        · k_ne
        · k_ne
      · dsimp only
        omega
    · cases o1
end
section
theorem news_dup {h₀ h : Heap} {L : Addr} {news : Led} {p : Addr × Obj} (N : News h₀ L h news) (hm : p ∈ news) : News h₀ L h (p :: news) := fun q hq => (List.mem_cons.mp hq).elim (fun e => e ▸ N p hm) (N q)
theorem news_tail {h₀ h : Heap} {L : Addr} {news : Led} {p : Addr × Obj} (N : News h₀ L h (p :: news)) : News h₀ L h news := fun q hq => N q (.tail _ hq)
section
variable {w : World} {mean : ExcName → Option Value} {mg mb : Str → Option Value} {dp un : Nat} {gd : Option (List Code)} {cn : Str} {cs : Scope} {a : Addr} {ccd : Value} {cl : List (Str × Addr)} {outer : List Env} {A₀ : Around} {base h₀ : Heap} {L : Addr} {m : Str → Option Value} {s : Shared} {Q : Value → Shared → Prop} {E : Value → Shared → Prop} {news : Led}
theorem use_bisI {l : Addr} {ys : List Value} {ns : List Int} {x : Int} {tx : Tok}
    (B : Below A₀ base outer h₀) (F : Fr h₀ L s.heap m) (X : (hd.heap_39 w.params).In h₀) (N : News h₀ L s.heap news) (T : Top hd.view_39 (looseW hd.view_39 [Str.ofString "insort_left", Str.ofString "bisect_left"]) mean mg mb h₀) (hk : cs.kind = .function)
    (hd' : dp + 2 < recursionLimit) (hu : un + 16 < cLine) (hm : (l, LCg.lst ys) ∈ news) (hi : IntsAre ys ns) (hlen : ns.length < 1000)
    (h : ∀ t h' tk', Fr h₀ L h' m → News h₀ L h' news → Q (.int (bisR (fun i => decide (ns.getD i.toNat 0 < x)) 0 ns.length) t) { s with heap := h', toks := tk' }) :
    wpAny (model P0 w) (ktrTop dp un gd cn cs L a ccd cl outer) (call (.ref 74) [.ref l, .int x tx]) Q E s :=
  bisI_ok w l ys ns x tx news hi hlen _ _ _ _ _ _ _ _ _ _ _ _ _ _ _ _ _ _ _ _ B F X (news_dup N hm) T hk hd' hu fun t h' tk' F' N' => h t h' tk' F' (news_tail N')
theorem use_bisS {l : Addr} {ys : List Value} {ns : List Str} {x : Str} {tx : Tok}
    (B : Below A₀ base outer h₀) (F : Fr h₀ L s.heap m) (X : (hd.heap_39 w.params).In h₀) (N : News h₀ L s.heap news) (T : Top hd.view_39 (looseW hd.view_39 [Str.ofString "insort_left", Str.ofString "bisect_left"]) mean mg mb h₀) (hk : cs.kind = .function)
    (hd' : dp + 2 < recursionLimit) (hu : un + 16 < cLine) (hm : (l, LCg.lst ys) ∈ news) (hi : StrsAre ys ns) (hlen : ns.length < 1000)
    (h : ∀ t h' tk', Fr h₀ L h' m → News h₀ L h' news → Q (.int (bisR (fun i => ltS (ns.getD i.toNat Str.empty) x) 0 ns.length) t) { s with heap := h', toks := tk' }) :
    wpAny (model P0 w) (ktrTop dp un gd cn cs L a ccd cl outer) (call (.ref 74) [.ref l, .str x tx]) Q E s :=
  bisS_ok w l ys ns x tx news hi hlen _ _ _ _ _ _ _ _ _ _ _ _ _ _ _ _ _ _ _ _ B F X (news_dup N hm) T hk hd' hu fun t h' tk' F' N' => h t h' tk' F' (news_tail N')
theorem use_insort {l : Addr} {ys : List Value} {ns : List Str} {x : Str} {tx : Tok} {k : Int} {news' : Led}
    (B : Below A₀ base outer h₀) (F : Fr h₀ L s.heap m) (X : (hd.heap_39 w.params).In h₀) (N : News h₀ L s.heap news) (T : Top hd.view_39 (looseW hd.view_39 [Str.ofString "insort_left", Str.ofString "bisect_left"]) mean mg mb h₀) (hk : cs.kind = .function)
    (hd' : dp + 4 < recursionLimit) (hu : un + 32 < cLine) (hi : StrsAre ys ns) (hlen : ns.length < 1000) (hk0 : bisR (fun i => ltS (ns.getD i.toNat Str.empty) x) 0 ns.length = k)
    (U : Upd l (LCg.lst ys) (LCg.lst (ys.take k.toNat ++ .str x tx :: ys.drop k.toNat)) news news')
    (h : ∀ h' tk', Fr h₀ L h' m → News h₀ L h' news' → Q .none { s with heap := h', toks := tk' }) :
    wpAny (model P0 w) (ktrTop dp un gd cn cs L a ccd cl outer) (call (.ref 65) [.ref l, .str x tx]) Q E s := by
  obtain ⟨pre, post, rfl, rfl, a1, b1⟩ := U.split
  have hoff : ∀ p ∈ pre ++ post, p.1 ≠ l := fun p hp => (List.mem_append.mp hp).elim (a1 p) (b1 p)
  refine insort_ok w l ys ns x tx (pre ++ post) hi hlen hoff k hk0 _ _ _ _ _ _ _ _ _ _ _ _ _ _ _ _ _ _ _ _ B F X (fun p hp => N p ?_) T hk hd' hu fun h' tk' F' N' => h h' tk' F' fun p hp => N' p ?_
  · rcases List.mem_cons.mp hp with rfl | hp
    · exact List.mem_append.mpr (.inr (.head _))
    · exact (List.mem_append.mp hp).elim (fun q => List.mem_append.mpr (.inl q)) fun q => List.mem_append.mpr (.inr (.tail _ q))
  · rcases List.mem_append.mp hp with q | q
    · exact .tail _ (List.mem_append.mpr (.inl q))
    · rcases List.mem_cons.mp q with rfl | q
      · exact .head _
      · exact .tail _ (List.mem_append.mpr (.inr q))
theorem use_move {x y z : Int} {t1 t2 t3 : Tok}
    (B : Below A₀ base outer h₀) (F : Fr h₀ L s.heap m) (X : (hd.heap_39 w.params).In h₀) (N : News h₀ L s.heap news) (T : Top hd.view_39 (looseW hd.view_39 [Str.ofString "insort_left", Str.ofString "bisect_left"]) mean mg mb h₀) (hk : cs.kind = .function)
    (hd' : dp + 2 < recursionLimit) (hu : un + 16 < cLine)
    (h : ∀ D u1 u2 u3 h' tk', (∀ p ∈ news, p.1 < D) → Fr h₀ L h' m → News h₀ L h' ((D, tup [.int (mvX x y z) u1, .int (mvY x y z) u2, .int (mvZ x y z) u3]) :: news) → Q (.ref D) { s with heap := h', toks := tk' }) :
    wpAny (model P0 w) (ktrTop dp un gd cn cs L a ccd cl outer) (call (.ref 93) [.int x t1, .int y t2, .int z t3]) Q E s :=
  move_ok w x y z t1 t2 t3 news _ _ _ _ _ _ _ _ _ _ _ _ _ _ _ _ _ _ _ _ B F X N T hk hd' hu fun D u1 u2 u3 hD h' tk' F' N' => h D u1 u2 u3 h' tk' hD F' N'
theorem use_word {x y z : Int} {t1 t2 t3 : Tok}
    (B : Below A₀ base outer h₀) (F : Fr h₀ L s.heap m) (X : (hd.heap_39 w.params).In h₀) (N : News h₀ L s.heap news) (T : Top hd.view_39 (looseW hd.view_39 [Str.ofString "insort_left", Str.ofString "bisect_left"]) mean mg mb h₀) (hk : cs.kind = .function)
    (hd' : dp + 4 < recursionLimit) (hu : un + 32 < cLine) (hx : 1 ≤ x ∧ x ≤ 15) (hy : 0 ≤ y ∧ y ≤ 255) (hz : 0 ≤ z ∧ z ≤ 255) {W : Str} (hW : w5 (x * 65536 + y * 256 + z) = W)
    (h : ∀ t h' tk', Fr h₀ L h' m → News h₀ L h' news → Q (.str W t) { s with heap := h', toks := tk' }) :
    wpAny (model P0 w) (ktrTop dp un gd cn cs L a ccd cl outer) (call (.ref 86) [.int x t1, .int y t2, .int z t3]) Q E s := by
  subst hW
  exact word_ok w x y z t1 t2 t3 news hx hy hz _ _ _ _ _ _ _ _ _ _ _ _ _ _ _ _ _ _ _ _ B F X N T hk hd' hu h
theorem use_front {b0 c0 d0 e0 f0 : Nat} {t1 t2 : Tok}
    (B : Below A₀ base outer h₀) (F : Fr h₀ L s.heap m) (X : (hd.heap_39 w.params).In h₀) (N : News h₀ L s.heap news) (T : Top hd.view_39 (looseW hd.view_39 [Str.ofString "insort_left", Str.ofString "bisect_left"]) mean mg mb h₀) (hk : cs.kind = .function)
    (hd' : dp + 2 < recursionLimit) (hu : un + 16 < cLine) (ha : 65 ≤ b0 ∧ b0 ≤ 80) {r : Bool} (hr : (c0 == 65 && d0 == b0) = r)
    (h : ∀ h' tk', Fr h₀ L h' m → News h₀ L h' news → Q (.bool r) { s with heap := h', toks := tk' }) :
    wpAny (model P0 w) (ktrTop dp un gd cn cs L a ccd cl outer) (call (.ref 21) [.str ⟨#[b0, 65, b0, 46, 46, 46]⟩ t1, .str ⟨#[b0, c0, d0, e0, f0]⟩ t2]) Q E s := by
  subst hr
  exact ell_front w b0 c0 d0 e0 f0 t1 t2 news ha _ _ _ _ _ _ _ _ _ _ _ _ _ _ _ _ _ _ _ _ B F X N T hk hd' hu h
theorem use_back {b0 c0 d0 e0 f0 : Nat} {t1 t2 : Tok}
    (B : Below A₀ base outer h₀) (F : Fr h₀ L s.heap m) (X : (hd.heap_39 w.params).In h₀) (N : News h₀ L s.heap news) (T : Top hd.view_39 (looseW hd.view_39 [Str.ofString "insort_left", Str.ofString "bisect_left"]) mean mg mb h₀) (hk : cs.kind = .function)
    (hd' : dp + 2 < recursionLimit) (hu : un + 16 < cLine) (hb : 65 ≤ c0 ∧ c0 ≤ 80) (hc : 65 ≤ d0 ∧ d0 ≤ 80) {r : Bool} (hr : (e0 == c0 && f0 == d0) = r)
    (h : ∀ h' tk', Fr h₀ L h' m → News h₀ L h' news → Q (.bool r) { s with heap := h', toks := tk' }) :
    wpAny (model P0 w) (ktrTop dp un gd cn cs L a ccd cl outer) (call (.ref 21) [.str ⟨#[46, 46, 46, c0, d0, c0, d0]⟩ t1, .str ⟨#[b0, c0, d0, e0, f0]⟩ t2]) Q E s := by
  subst hr
  exact ell_back w b0 c0 d0 e0 f0 t1 t2 news hb hc _ _ _ _ _ _ _ _ _ _ _ _ _ _ _ _ _ _ _ _ B F X N T hk hd' hu h
theorem use_parts {u l n root : Int} {t1 t2 t3 t4 : Tok} {res : List Int}
    (B : Below A₀ base outer h₀) (F : Fr h₀ L s.heap m) (X : (hd.heap_39 w.params).In h₀) (N : News h₀ L s.heap news) (T : Top hd.view_39 (looseW hd.view_39 [Str.ofString "insort_left", Str.ofString "bisect_left"]) mean mg mb h₀) (hk : cs.kind = .function)
    (hd' : dp + 2 < recursionLimit) (hu : un + 16 < cLine) (hr : partsF n root 60 u l [] [] = some res)
    (h : ∀ D ys h' tk', (∀ p ∈ news, p.1 ≠ D) → IntsAre ys res → Fr h₀ L h' m → News h₀ L h' ((D, listOf ys.toArray 0) :: news) → Q (.ref D) { s with heap := h', toks := tk' }) :
    wpAny (model P0 w) (ktrTop dp un gd cn cs L a ccd cl outer) (call (.ref 100) [.int u t1, .int l t2, .int n t3, .int root t4]) Q E s :=
  parts_ok w u l n root t1 t2 t3 t4 news res hr _ _ _ _ _ _ _ _ _ _ _ _ _ _ _ _ _ _ _ _ B F X N T hk hd' hu fun D ys hD hi h' tk' F' N' => h D ys h' tk' hD hi F' N'
end
section
variable {prog : Program} {w : World} {A : Around} {E : Value → Shared → Prop} {s : Shared} {h₀ : Heap} {L : Addr} {m : Str → Option Value} {news : Led}
theorem ints_of_mem : ∀ {zs : List Value}, (∀ v ∈ zs, ∃ k t, v = Value.int k t) → ∃ ns, IntsAre zs ns
  | [], _ => ⟨[], .nil⟩
  | v :: r, h => by
    obtain ⟨k, t, rfl⟩ := h v (.head _)
    obtain ⟨ns, hn⟩ := ints_of_mem (zs := r) fun x hx => h x (.tail _ hx)
    exact ⟨k :: ns, .cons k t hn⟩
theorem ints_mem {vs : List Value} {ns : List Int} (h : IntsAre vs ns) : ∀ v ∈ vs, ∃ k t, v = Value.int k t := by
  induction h with
  | nil => exact fun _ h => (nomatch h)
  | cons x u _ ih => exact List.forall_mem_cons.mpr ⟨⟨x, u, rfl⟩, ih⟩
theorem slice_step {value slice : PySem.Expr} {l : Addr} {vs : List Value} {ns : List Int} {k st : Int} {t u : Tok} {ops : List Value} {Q : Value → Shared → Prop} (F : Fr h₀ L s.heap m) (N : News h₀ L s.heap news) (hl : h₀.IsList l vs.toArray) (hi : IntsAre vs ns) (h0 : st ≠ 0) (hz : ns.length < 1000)
    (h : ∀ D h' zs ms, Fr h₀ L h' m → News h₀ L h' ((D, listOf zs.toArray 0) :: news) → (∀ p ∈ news, p.1 < D) → IntsAre zs ms → Q (.ref D) { s with heap := h' })
    (hs : subscripted slice false (.ref l) (.ref s.heap.objs.size) = operate ops (getItem (.ref l) (.ref s.heap.objs.size))) (ht : ∀ r, letTemporaryGo value (.ref l) r = pure () := by intro _; with_unfolding_all rfl) :
    wpAny (model prog w) A (subscriptTail value slice (.ref l) (.ref s.heap.objs.size)) Q E { s with heap := s.heap.push { cls := .type "slice", data := .fields #[.int k t, .none, .int st u] } } := by
  obtain ⟨ms, hm⟩ := ints_of_mem (zs := (slicePick vs.toArray (some k) none (some st)).toList) fun v hv => by
    unfold slicePick at hv
    rw [List.toList_toArray, List.mem_filterMap] at hv
    obtain ⟨i, _, hi'⟩ := hv
    exact ints_mem hi v (by
      have := Array.mem_of_getElem? hi'
      simpa using this)
  refine kmk_slice3_lit F N (hl.at fun o e => F.keep l o e) (.int k t) .none (.int st u) (by intro e; exact h0 (Option.some.inj e)) rfl (fun D h' F' N' l1 => h D h' _ ms F' N' l1 hm) hs ht (by rw [List.size_toArray, sizeLine_eq, hi.length]; omega)
end
end
section
def sqs : List Int := [0, 1, 4, 9, 16, 25, 36, 49, 64, 81, 100, 121, 144, 169, 196, 225, 256, 289, 324, 361]
def bisQ (n : Int) : Int := bisR (fun i => decide (sqs.getD i.toNat 0 < n)) 0 sqs.length
def bisW (ws : List Str) (W : Str) : Int := bisR (fun i => ltS (ws.getD i.toNat Str.empty) W) 0 ws.length
def nOf (x y z : Int) : Int := sqs.getD x.toNat 0 + 4 * y * z
def zF : Nat → Int → Int → Int → Option Int
  | 0, _, _, _ => none
  | f + 1, x, y, z => if 0 ≤ bisQ (nOf x y z) ∧ bisQ (nOf x y z) < 20 ∧ 0 < z ∧ z < 30 then (if sqs.getD (bisQ (nOf x y z)).toNat 0 = nOf x y z then zF f x y (z + 1) else some z) else none
def insF (ws : List Str) (W : Str) : List Str := ws.take (bisW ws W).toNat ++ W :: ws.drop (bisW ws W).toNat
def isFront (n : Int) : Bool := dg (n / 16 / 16 / 16) == 65 && dg (n / 16 / 16) == dg (n / 16 / 16 / 16 / 16)
def isBack (n : Int) : Bool := dg (n / 16) == dg (n / 16 / 16 / 16) && dg n == dg (n / 16 / 16)
def wnum (x y z : Int) : Int := x * 65536 + y * 256 + z
def millF (n x₀ y₀ z₀ : Int) : Nat → Int → Int → Int → List Str → Int → Int → Option (List Str × Int × Int)
  | 0, _, _, _, _, _, _ => none
  | f + 1, x, y, z, ws, fr, bk =>
    if ws.isEmpty = false ∧ x = x₀ ∧ y = y₀ ∧ z = z₀ then some (ws, fr, bk)
    else if (1 ≤ x ∧ x ≤ 15) ∧ (0 ≤ y ∧ y ≤ 255) ∧ (0 ≤ z ∧ z ≤ 255) ∧ nOf x y z = n then
      millF n x₀ y₀ z₀ f (mvX x y z) (mvZ x y z) (mvY x y z) (insF ws (w5 (wnum x y z))) (if isFront (wnum x y z) then fr + 1 else fr) (if isBack (wnum x y z) then bk + 1 else bk)
    else none
def sortedF (ws : List Str) : Nat → Bool
  | 0 => true
  | k + 1 => sortedF ws k && (k == 0 || ltS (ws.getD (k - 1) Str.empty) (ws.getD k Str.empty))
def lawF (x y z₀ : Int) : Bool :=
  match zF 10 x y z₀ with
  | none => false
  | some z =>
    match millF (nOf x y z) x y z 60 x y z [] 0 0 with
    | none => false
    | some (ws, fr, bk) =>
      match partsF (nOf x y z) (bisQ (nOf x y z) - 1) 60 x (2 * y) [] [] with
      | none => false
      | some ps =>
        sortedF ws ws.length && decide ((ws.length : Int) = ps.sum) && decide (ps.length < 60) && decide (ws.length < 60) &&
        decide (0 ≤ bisQ (nOf x y z) ∧ bisQ (nOf x y z) < 20) &&
        (if bisW ws (w5 (wnum x z y)) = ws.length ∨ ws.getD (bisW ws (w5 (wnum x z y))).toNat Str.empty ≠ w5 (wnum x z y) then decide (fr = 0 ∧ bk = 0)
         else decide (fr + bk = 2) && (decide (fr = 1) == decide (ps.length % 2 = 1)) &&
          (decide (fr = 1) || (List.range 30).any fun d => decide (2 ≤ d ∧ (d : Int) < bisQ (nOf x y z) - 1 + 1 ∧ (nOf x y z) % (d : Int) = 0)))
theorem bisW_le (ws : List Str) (W : Str) : 0 ≤ bisW ws W ∧ bisW ws W ≤ (ws.length : Int) := bisR_le _ _ _ (Nat.le_refl _) (Int.natCast_nonneg _)
-- the same computation with natural numbers alone, light for the kernel
def wS (v : Nat) : Str := w5 (v : Int)
def InR (v : Nat) : Prop := 65536 ≤ v ∧ v < 1048576
def bisN (vs : List Nat) (m : Nat) : Nat → Nat → Nat → Nat
  | 0, lo, _ => lo
  | f + 1, lo, hi => bif Nat.blt lo hi then (bif Nat.blt (vs.getD ((lo + hi) / 2) 0) m then bisN vs m f ((lo + hi) / 2 + 1) hi else bisN vs m f lo ((lo + hi) / 2)) else lo
def insN (vs : List Nat) (m : Nat) : List Nat := vs.take (bisN vs m vs.length 0 vs.length) ++ m :: vs.drop (bisN vs m vs.length 0 vs.length)
def frontN (n : Nat) : Bool := Nat.beq (n / 16 / 16 / 16 % 16) 0 && Nat.beq (n / 16 / 16 % 16) (n / 16 / 16 / 16 / 16 % 16)
def backN (n : Nat) : Bool := Nat.beq (n / 16 % 16) (n / 16 / 16 / 16 % 16) && Nat.beq (n % 16) (n / 16 / 16 % 16)
def mvXN (x y z : Nat) : Nat := bif Nat.blt (x + z) y then x + 2 * z else bif Nat.blt x (2 * y) then 2 * y - x else x - 2 * y
def mvYN (x y z : Nat) : Nat := bif Nat.blt (x + z) y then z else bif Nat.blt x (2 * y) then y else x + z - y
def mvZN (x y z : Nat) : Nat := bif Nat.blt (x + z) y then y - x - z else bif Nat.blt x (2 * y) then x + z - y else y
def insL (m : Nat) : List Nat → List Nat
  | [] => [m]
  | a :: r => bif Nat.blt a m then a :: insL m r else m :: a :: r
def incN : List Nat → Bool
  | [] => true
  | a :: r => incN2 a r
where incN2 (a : Nat) : List Nat → Bool
  | [] => true
  | b :: r => Nat.blt a b && incN2 b r
def millN (n x₀ y₀ z₀ : Nat) : Nat → Nat → Nat → Nat → List Nat → Nat → Nat → Option (List Nat × Nat × Nat)
  | 0, _, _, _, _, _, _ => none
  | f + 1, x, y, z, vs, fr, bk =>
    bif !vs.isEmpty && (Nat.beq x x₀ && (Nat.beq y y₀ && Nat.beq z z₀)) then some (vs, fr, bk)
    else bif Nat.ble 1 x && (Nat.ble x 15 && (Nat.ble y 255 && (Nat.ble z 255 && (Nat.beq (x * x + 4 * y * z) n && Nat.ble y (x + z + y))))) then
      millN n x₀ y₀ z₀ f (mvXN x y z) (mvZN x y z) (mvYN x y z) (insL (x * 65536 + y * 256 + z) vs) (bif frontN (x * 65536 + y * 256 + z) then fr + 1 else fr) (bif backN (x * 65536 + y * 256 + z) then bk + 1 else bk)
    else none
theorem dg_nat (a : Nat) : dg (a : Int) = 65 + a % 16 := by unfold dg; omega
theorem div16 (a : Nat) : (a : Int) / 16 = ((a / 16 : Nat) : Int) := by omega
theorem wS_is (a : Nat) : wS a = ⟨#[65 + a / 16 / 16 / 16 / 16 % 16, 65 + a / 16 / 16 / 16 % 16, 65 + a / 16 / 16 % 16, 65 + a / 16 % 16, 65 + a % 16]⟩ := by
  unfold wS w5
  rw [div16, div16, div16, div16, dg_nat, dg_nat, dg_nat, dg_nat, dg_nat]
theorem five_lt (a1 a2 a3 a4 a5 b1 b2 b3 b4 b5 : Nat) : ([65 + a1, 65 + a2, 65 + a3, 65 + a4, 65 + a5] : List Nat) < [65 + b1, 65 + b2, 65 + b3, 65 + b4, 65 + b5] ↔ a1 < b1 ∨ a1 = b1 ∧ (a2 < b2 ∨ a2 = b2 ∧ (a3 < b3 ∨ a3 = b3 ∧ (a4 < b4 ∨ a4 = b4 ∧ a5 < b5))) := by
  simp only [List.cons_lt_cons_iff, List.not_lt_nil, and_false, or_false]
  omega
theorem digits (a : Nat) (ha : InR a) : a = a / 16 / 16 / 16 / 16 % 16 * 65536 + a / 16 / 16 / 16 % 16 * 4096 + a / 16 / 16 % 16 * 256 + a / 16 % 16 * 16 + a % 16 := by
  obtain ⟨h1, h2⟩ := ha
  omega
theorem ltS_nat {a b : Nat} (ha : InR a) (hb : InR b) : ltS (wS a) (wS b) = Nat.blt a b := by
  have ea := digits a ha
  have eb := digits b hb
  have h : ltS (wS a) (wS b) = true ↔ a < b := by
    rw [wS_is, wS_is]
    unfold ltS
    rw [decide_eq_true_iff]
    refine (five_lt _ _ _ _ _ _ _ _ _ _).trans ?_
    have l1 : a / 16 / 16 / 16 / 16 % 16 < 16 := Nat.mod_lt _ (by decide)
    have l2 : a / 16 / 16 / 16 % 16 < 16 := Nat.mod_lt _ (by decide)
    have l3 : a / 16 / 16 % 16 < 16 := Nat.mod_lt _ (by decide)
    have l4 : a / 16 % 16 < 16 := Nat.mod_lt _ (by decide)
    have l5 : a % 16 < 16 := Nat.mod_lt _ (by decide)
    have m1 : b / 16 / 16 / 16 / 16 % 16 < 16 := Nat.mod_lt _ (by decide)
    have m2 : b / 16 / 16 / 16 % 16 < 16 := Nat.mod_lt _ (by decide)
    have m3 : b / 16 / 16 % 16 < 16 := Nat.mod_lt _ (by decide)
    have m4 : b / 16 % 16 < 16 := Nat.mod_lt _ (by decide)
    have m5 : b % 16 < 16 := Nat.mod_lt _ (by decide)
    generalize a / 16 / 16 / 16 / 16 % 16 = a1 at *
    generalize a / 16 / 16 / 16 % 16 = a2 at *
    generalize a / 16 / 16 % 16 = a3 at *
    generalize a / 16 % 16 = a4 at *
    generalize a % 16 = a5 at *
    generalize b / 16 / 16 / 16 / 16 % 16 = b1 at *
    generalize b / 16 / 16 / 16 % 16 = b2 at *
    generalize b / 16 / 16 % 16 = b3 at *
    generalize b / 16 % 16 = b4 at *
    generalize b % 16 = b5 at *
    omega
  rw [Bool.eq_iff_iff, h, Nat.blt_eq]
theorem wS_inj {a b : Nat} (ha : InR a) (hb : InR b) (h : wS a = wS b) : a = b := by
  have h1 := ltS_nat ha hb
  have h2 := ltS_nat hb ha
  have h3 := ltS_nat hb hb
  rw [h] at h1 h2
  have e1 : ¬ Nat.blt b b = true := by rw [Nat.blt_eq]; omega
  have e2 : ¬ Nat.blt a b = true := by rw [← h1, h3]; exact e1
  have e3 : ¬ Nat.blt b a = true := by rw [← h2, h3]; exact e1
  rw [Nat.blt_eq] at e2 e3
  omega
theorem getD_in {vs : List Nat} (hv : ∀ v ∈ vs, InR v) {k : Nat} (hk : k < vs.length) : InR (vs.getD k 0) := by
  rw [List.getD_eq_getElem?_getD, List.getElem?_eq_getElem hk, Option.getD_some]
  exact hv _ (List.getElem_mem hk)
theorem getD_map {vs : List Nat} {k : Nat} (hk : k < vs.length) : (vs.map wS).getD k Str.empty = wS (vs.getD k 0) := by
  rw [List.getD_eq_getElem?_getD, List.getD_eq_getElem?_getD, List.getElem?_map, List.getElem?_eq_getElem hk, Option.map_some, Option.getD_some, Option.getD_some]
theorem bis_eq {vs : List Nat} {m : Nat} {lt : Int → Bool} (hl : ∀ k : Nat, k < vs.length → lt (k : Int) = Nat.blt (vs.getD k 0) m) : ∀ (f lo hi : Nat), hi ≤ vs.length → bisF lt f (lo : Int) (hi : Int) = (bisN vs m f lo hi : Int)
  | 0, lo, hi, _ => rfl
  | f + 1, lo, hi, h => by
    have e : ((lo : Int) + (hi : Int)).fdiv 2 = (((lo + hi) / 2 : Nat) : Int) := by
      rw [Int.fdiv_eq_ediv_of_nonneg _ (by omega)]; omega
    have s : (((lo + hi) / 2 : Nat) : Int) + 1 = (((lo + hi) / 2 + 1 : Nat) : Int) := by omega
    simp only [bisF, bisN]
    by_cases q : lo < hi
    · have q1 : Nat.blt lo hi = true := by rw [Nat.blt_eq]; exact q
      have hmid : (lo + hi) / 2 < vs.length := by omega
      rw [if_pos (by omega : (lo : Int) < (hi : Int)), q1, cond_true, e, hl _ hmid, s]
      cases Nat.blt (vs.getD ((lo + hi) / 2) 0) m with
      | true => rw [if_pos rfl, cond_true]; exact bis_eq hl f _ _ h
      | false => rw [if_neg Bool.false_ne_true, cond_false]; exact bis_eq hl f _ _ (by omega)
    · have q1 : Nat.blt lo hi = false := by rw [← Bool.not_eq_true, Nat.blt_eq]; exact q
      rw [if_neg (by omega : ¬ (lo : Int) < (hi : Int)), q1, cond_false]
theorem bisW_nat {vs : List Nat} {m : Nat} (hv : ∀ v ∈ vs, InR v) (hm : InR m) : bisW (vs.map wS) (wS m) = (bisN vs m vs.length 0 vs.length : Int) := by
  have h := bis_eq (lt := fun i => ltS ((vs.map wS).getD i.toNat Str.empty) (wS m)) (fun k hk => by rw [Int.toNat_natCast, getD_map hk, ltS_nat (getD_in hv hk) hm]) vs.length 0 vs.length (Nat.le_refl _)
  unfold bisW bisR
  rw [List.length_map, show (((vs.length : Nat) : Int) - 0).toNat = vs.length by omega]
  exact h
theorem insF_nat {vs : List Nat} {m : Nat} (hv : ∀ v ∈ vs, InR v) (hm : InR m) : insF (vs.map wS) (wS m) = (insN vs m).map wS := by
  unfold insF insN
  rw [bisW_nat hv hm, Int.toNat_natCast, List.map_append, List.map_cons, List.map_take, List.map_drop]
theorem insN_in {vs : List Nat} {m : Nat} (hv : ∀ v ∈ vs, InR v) (hm : InR m) : ∀ v ∈ insN vs m, InR v := by
  intro v h
  unfold insN at h
  rcases List.mem_append.mp h with h | h
  · exact hv v (List.mem_of_mem_take h)
  · rcases List.mem_cons.mp h with rfl | h
    · exact hm
    · exact hv v (List.mem_of_mem_drop h)
theorem blt_cases (a b : Nat) : (a < b ∧ Nat.blt a b = true) ∨ (¬ a < b ∧ Nat.blt a b = false) := by
  by_cases h : a < b
  · exact .inl ⟨h, by rw [Nat.blt_eq]; exact h⟩
  · exact .inr ⟨h, by rw [← Bool.not_eq_true, Nat.blt_eq]; exact h⟩
def Mono (vs : List Nat) : Prop := List.Pairwise (fun a b => a ≤ b) vs
theorem mono_at {vs : List Nat} (h : Mono vs) {i j : Nat} (hij : i ≤ j) (hj : j < vs.length) : vs.getD i 0 ≤ vs.getD j 0 := by
  rcases Nat.lt_or_eq_of_le hij with q | q
  · have := List.pairwise_iff_getElem.mp h i j (by omega) hj q
    rw [List.getD_eq_getElem?_getD, List.getD_eq_getElem?_getD, List.getElem?_eq_getElem hj, List.getElem?_eq_getElem (by omega : i < vs.length)]
    exact this
  · rw [q]; exact Nat.le_refl _
theorem bisN_spec {vs : List Nat} {m : Nat} (hs : Mono vs) : ∀ (f lo hi : Nat), hi - lo ≤ f → lo ≤ hi → hi ≤ vs.length → (∀ i, i < lo → vs.getD i 0 < m) → (∀ i, hi ≤ i → i < vs.length → m ≤ vs.getD i 0) →
    bisN vs m f lo hi ≤ vs.length ∧ (∀ i, i < bisN vs m f lo hi → vs.getD i 0 < m) ∧ (∀ i, bisN vs m f lo hi ≤ i → i < vs.length → m ≤ vs.getD i 0)
  | 0, lo, hi, h, h1, h2, h3, h4 => by
    have e : lo = hi := by omega
    subst e
    exact ⟨h2, h3, h4⟩
  | f + 1, lo, hi, h, h1, h2, h3, h4 => by
    rw [bisN]
    rcases blt_cases lo hi with ⟨q, e⟩ | ⟨q, e⟩
    · rw [e, cond_true]
      rcases blt_cases (vs.getD ((lo + hi) / 2) 0) m with ⟨q2, e2⟩ | ⟨q2, e2⟩
      · rw [e2, cond_true]
        exact bisN_spec hs f _ _ (by omega) (by omega) h2 (fun i hi' => Nat.lt_of_le_of_lt (mono_at hs (by omega) (by omega)) q2) h4
      · rw [e2, cond_false]
        exact bisN_spec hs f _ _ (by omega) (by omega) (by omega) h3 (fun i hi' hl => Nat.le_trans (Nat.le_of_not_lt q2) (mono_at hs hi' hl))
    · have e' : lo = hi := by omega
      subst e'
      rw [e, cond_false]
      exact ⟨h2, h3, h4⟩
theorem insL_take {m : Nat} : ∀ (vs : List Nat) (k : Nat), k ≤ vs.length → (∀ i, i < k → vs.getD i 0 < m) → (∀ i, k ≤ i → i < vs.length → m ≤ vs.getD i 0) → insL m vs = vs.take k ++ m :: vs.drop k
  | [], k, h, _, _ => by
    have e : k = 0 := Nat.le_zero.mp h
    subst e; rfl
  | a :: r, 0, _, _, h2 => by
    have q : m ≤ a := h2 0 (Nat.le_refl _) (Nat.zero_lt_succ _)
    have e : Nat.blt a m = false := by rw [← Bool.not_eq_true, Nat.blt_eq]; omega
    rw [insL, e]; rfl
  | a :: r, k + 1, h, h1, h2 => by
    have q : a < m := h1 0 (Nat.zero_lt_succ _)
    have e : Nat.blt a m = true := by rw [Nat.blt_eq]; exact q
    rw [insL, e, cond_true, insL_take r k (Nat.le_of_succ_le_succ h) (fun i hi => h1 (i + 1) (Nat.succ_lt_succ hi)) (fun i hi hl => h2 (i + 1) (Nat.succ_le_succ hi) (Nat.succ_lt_succ hl))]
    rfl
theorem insL_ins {vs : List Nat} {m : Nat} (hs : Mono vs) : insL m vs = insN vs m := by
  obtain ⟨h1, h2, h3⟩ := bisN_spec (m := m) hs vs.length 0 vs.length (by omega) (Nat.zero_le _) (Nat.le_refl _) (fun i h => absurd h (Nat.not_lt_zero _)) (fun i h h' => absurd h' (by omega))
  exact insL_take vs _ h1 h2 h3
theorem insL_mem {m v : Nat} : ∀ {vs : List Nat}, v ∈ insL m vs → v = m ∨ v ∈ vs
  | [], h => .inl (List.mem_singleton.mp h)
  | a :: r, h => by
    rw [insL] at h
    cases e : Nat.blt a m with
    | true =>
      rw [e, cond_true] at h
      rcases List.mem_cons.mp h with q | q
      · exact .inr (by rw [q]; exact .head _)
      · exact (insL_mem q).imp id (fun q => .tail _ q)
    | false =>
      rw [e, cond_false] at h
      exact (List.mem_cons.mp h).imp id id
theorem insL_mono {m : Nat} : ∀ {vs : List Nat}, Mono vs → Mono (insL m vs)
  | [], _ => List.pairwise_singleton _ _
  | a :: r, h => by
    obtain ⟨h1, h2⟩ := List.pairwise_cons.mp h
    rw [insL]
    rcases blt_cases a m with ⟨q, e⟩ | ⟨q, e⟩
    · rw [e, cond_true]
      refine List.pairwise_cons.mpr ⟨fun v hv => ?_, insL_mono h2⟩
      rcases insL_mem hv with e | e
      · omega
      · exact h1 v e
    · rw [e, cond_false]
      refine List.pairwise_cons.mpr ⟨fun v hv => ?_, h⟩
      rcases List.mem_cons.mp hv with e | e
      · omega
      · exact Nat.le_trans (Nat.le_of_not_lt q) (h1 v e)
theorem inc2_at : ∀ (r : List Nat) (a : Nat), incN.incN2 a r = true → ∀ k, k < r.length → (a :: r).getD k 0 < (a :: r).getD (k + 1) 0
  | [], _, _, k, hk => absurd hk (Nat.not_lt_zero _)
  | b :: r, a, h, k, hk => by
    rw [incN.incN2, Bool.and_eq_true, Nat.blt_eq] at h
    cases k with
    | zero => exact h.1
    | succ k => exact inc2_at r b h.2 k (Nat.lt_of_succ_lt_succ hk)
theorem inc_at {vs : List Nat} (h : incN vs = true) {k : Nat} (hk : k + 1 < vs.length) : vs.getD k 0 < vs.getD (k + 1) 0 := by
  cases vs with
  | nil => exact absurd hk (Nat.not_lt_zero _)
  | cons a r => exact inc2_at r a h k (Nat.lt_of_succ_lt_succ hk)
theorem front_nat (m : Nat) : isFront (m : Int) = frontN m := by
  unfold isFront frontN
  rw [div16, div16, div16, div16, dg_nat, dg_nat, dg_nat, Bool.eq_iff_iff, Bool.and_eq_true, Bool.and_eq_true, beq_iff_eq, beq_iff_eq, Nat.beq_eq, Nat.beq_eq]
  generalize m / 16 / 16 / 16 % 16 = a1
  generalize m / 16 / 16 % 16 = a2
  generalize m / 16 / 16 / 16 / 16 % 16 = a3
  omega
theorem back_nat (m : Nat) : isBack (m : Int) = backN m := by
  unfold isBack backN
  rw [div16, div16, div16, dg_nat, dg_nat, dg_nat, dg_nat, Bool.eq_iff_iff, Bool.and_eq_true, Bool.and_eq_true, beq_iff_eq, beq_iff_eq, Nat.beq_eq, Nat.beq_eq]
  generalize m / 16 / 16 / 16 % 16 = a1
  generalize m / 16 / 16 % 16 = a2
  generalize m / 16 % 16 = a3
  generalize m % 16 = a4
  omega
theorem sq_at : ∀ x < 20, sqs.getD x 0 = ((x * x : Nat) : Int) := by decide
theorem nOf_nat {x y z : Nat} (hx : x ≤ 15) : nOf (x : Int) (y : Int) (z : Int) = ((x * x + 4 * y * z : Nat) : Int) := by
  unfold nOf
  rw [Int.toNat_natCast, sq_at x (by omega)]
  rw [Int.natCast_add, Int.natCast_mul (4 * y) z, Int.natCast_mul 4 y]
  rfl
theorem wnum_nat (x y z : Nat) : wnum (x : Int) (y : Int) (z : Int) = ((x * 65536 + y * 256 + z : Nat) : Int) := by unfold wnum; omega
theorem mv_nat (x y z : Nat) : mvX (x : Int) y z = (mvXN x y z : Int) ∧ mvY (x : Int) y z = (mvYN x y z : Int) ∧ mvZ (x : Int) y z = (mvZN x y z : Int) := by
  unfold mvX mvY mvZ mvXN mvYN mvZN
  rcases blt_cases (x + z) y with ⟨h1, e1⟩ | ⟨h1, e1⟩
  · have g1 : (x : Int) < (y : Int) - (z : Int) := by omega
    simp only [if_pos g1, e1, cond_true]
    refine ⟨?_, ?_, ?_⟩ <;> first | trivial | omega
  · have g1 : ¬ (x : Int) < (y : Int) - (z : Int) := by omega
    simp only [if_neg g1, e1, cond_false]
    rcases blt_cases x (2 * y) with ⟨h2, e2⟩ | ⟨h2, e2⟩
    · have g2 : (x : Int) < 2 * (y : Int) := by omega
      simp only [if_pos g2, e2, cond_true]
      refine ⟨?_, ?_, ?_⟩ <;> first | trivial | omega
    · have g2 : ¬ (x : Int) < 2 * (y : Int) := by omega
      simp only [if_neg g2, e2, cond_false]
      refine ⟨?_, ?_, ?_⟩ <;> first | trivial | omega
theorem up_nat (b : Bool) (k : Nat) : (if b = true then (k : Int) + 1 else (k : Int)) = ((bif b then k + 1 else k : Nat) : Int) := by cases b <;> simp
theorem mill_nat (n x₀ y₀ z₀ : Nat) : ∀ (f x y z : Nat) (vs : List Nat) (fr bk : Nat) (r : List Nat × Nat × Nat), (∀ v ∈ vs, InR v) → Mono vs → millN n x₀ y₀ z₀ f x y z vs fr bk = some r →
    millF n x₀ y₀ z₀ f x y z (vs.map wS) fr bk = some (r.1.map wS, (r.2.1 : Int), (r.2.2 : Int)) ∧ ∀ v ∈ r.1, InR v := by
  intro f
  induction f with
  | zero => intro x y z vs fr bk r _ _ h; cases h
  | succ f ih =>
    intro x y z vs fr bk r hv hs h
    rw [millN] at h
    rw [millF]
    by_cases hA : (vs.isEmpty = false ∧ x = x₀ ∧ y = y₀ ∧ z = z₀)
    · have e : (!vs.isEmpty && (Nat.beq x x₀ && (Nat.beq y y₀ && Nat.beq z z₀))) = true := by
        rw [hA.1, hA.2.1, hA.2.2.1, hA.2.2.2, Nat.beq_refl, Nat.beq_refl, Nat.beq_refl]; rfl
      rw [e, cond_true] at h
      cases h
      rw [if_pos ⟨by rw [List.isEmpty_map]; exact hA.1, by omega, by omega, by omega⟩]
      exact ⟨rfl, hv⟩
    · have e : (!vs.isEmpty && (Nat.beq x x₀ && (Nat.beq y y₀ && Nat.beq z z₀))) = false := by
        rw [← Bool.not_eq_true]
        intro q
        rw [Bool.and_eq_true, Bool.and_eq_true, Bool.and_eq_true, Bool.not_eq_true', Nat.beq_eq, Nat.beq_eq, Nat.beq_eq] at q
        exact hA q
      rw [e, cond_false] at h
      rw [if_neg (by
        rw [List.isEmpty_map]
        rintro ⟨q1, q2, q3, q4⟩
        exact hA ⟨q1, by omega, by omega, by omega⟩)]
      cases hB : (Nat.ble 1 x && (Nat.ble x 15 && (Nat.ble y 255 && (Nat.ble z 255 && (Nat.beq (x * x + 4 * y * z) n && Nat.ble y (x + z + y)))))) with
      | false => rw [hB] at h; cases h
      | true =>
        rw [hB, cond_true] at h
        rw [Bool.and_eq_true, Bool.and_eq_true, Bool.and_eq_true, Bool.and_eq_true, Bool.and_eq_true, Nat.ble_eq, Nat.ble_eq, Nat.ble_eq, Nat.ble_eq, Nat.beq_eq, Nat.ble_eq] at hB
        obtain ⟨h1, h2, h3, h4, h5, _⟩ := hB
        have hm : InR (x * 65536 + y * 256 + z) := by unfold InR; omega
        obtain ⟨m1, m2, m3⟩ := mv_nat x y z
        rw [if_pos ⟨⟨by omega, by omega⟩, ⟨by omega, by omega⟩, ⟨by omega, by omega⟩, by rw [nOf_nat h2, h5]⟩]
        rw [m1, m2, m3, wnum_nat, front_nat, back_nat, up_nat, up_nat, show w5 ((x * 65536 + y * 256 + z : Nat) : Int) = wS (x * 65536 + y * 256 + z) from rfl, insF_nat hv hm, ← insL_ins hs]
        exact ih _ _ _ _ _ _ r (by rw [insL_ins hs]; exact insN_in hv hm) (insL_mono hs) h
theorem sorted_nat {vs : List Nat} (hv : ∀ v ∈ vs, InR v) (hi : incN vs = true) : ∀ k, k ≤ vs.length → sortedF (vs.map wS) k = true
  | 0, _ => rfl
  | 1, _ => rfl
  | k + 2, h => by
    rw [sortedF, sorted_nat hv hi (k + 1) (by omega), Bool.true_and, Bool.or_eq_true]
    right
    show ltS ((vs.map wS).getD k Str.empty) _ = true
    rw [getD_map (by omega), getD_map (by omega : k + 1 < vs.length), ltS_nat (getD_in hv (by omega)) (getD_in hv (by omega)), Nat.blt_eq]
    exact inc_at hi (by omega)
def lawN (x y z₀ : Nat) : Bool :=
  match zF 10 x y z₀ with
  | none => false
  | some z =>
    match millN (x * x + 4 * y * z.toNat) x y z.toNat 60 x y z.toNat [] 0 0 with
    | none => false
    | some (vs, fr, bk) =>
      match partsF (nOf x y z) (bisQ (nOf x y z) - 1) 60 x (2 * (y : Int)) [] [] with
      | none => false
      | some ps =>
        incN vs && decide ((vs.length : Int) = ps.sum) && Nat.blt ps.length 60 && Nat.blt vs.length 60 &&
        decide (0 ≤ bisQ (nOf x y z) ∧ bisQ (nOf x y z) < 20) && Nat.ble 1 x && Nat.ble x 15 && decide (0 ≤ z) && Nat.ble z.toNat 255 && Nat.ble y 255 &&
        (bif Nat.beq (bisN vs (x * 65536 + z.toNat * 256 + y) vs.length 0 vs.length) vs.length || !Nat.beq (vs.getD (bisN vs (x * 65536 + z.toNat * 256 + y) vs.length 0 vs.length) 0) (x * 65536 + z.toNat * 256 + y) then Nat.beq fr 0 && Nat.beq bk 0
         else decide ((fr : Int) + (bk : Int) = 2) && (decide ((fr : Int) = 1) == decide (ps.length % 2 = 1)) &&
          (decide ((fr : Int) = 1) || (List.range 30).any fun d => decide (2 ≤ d ∧ (d : Int) < bisQ (nOf x y z) - 1 + 1 ∧ (nOf x y z) % (d : Int) = 0)))
theorem lawN_ok {x y z₀ : Nat} (h : lawN x y z₀ = true) : lawF x y z₀ = true := by
  unfold lawN at h
  unfold lawF
  cases hz : zF 10 x y z₀ with
  | none => rw [hz] at h; cases h
  | some z =>
    rw [hz] at h
    dsimp only at h ⊢
    cases hm : millN (x * x + 4 * y * z.toNat) x y z.toNat 60 x y z.toNat [] 0 0 with
    | none => rw [hm] at h; cases h
    | some r =>
      obtain ⟨vs, fr, bk⟩ := r
      rw [hm] at h
      dsimp only at h
      cases hp : partsF (nOf x y z) (bisQ (nOf x y z) - 1) 60 x (2 * (y : Int)) [] [] with
      | none => rw [hp] at h; cases h
      | some ps =>
        rw [hp] at h
        dsimp only at h
        rw [Bool.and_eq_true, Bool.and_eq_true, Bool.and_eq_true, Bool.and_eq_true, Bool.and_eq_true, Bool.and_eq_true, Bool.and_eq_true, Bool.and_eq_true, Bool.and_eq_true, Bool.and_eq_true] at h
        obtain ⟨⟨⟨⟨⟨⟨⟨⟨⟨⟨a1, a2⟩, a3⟩, a4⟩, a5⟩, b1⟩, b2⟩, b3⟩, b4⟩, b5⟩, c⟩ := h
        rw [Nat.blt_eq] at a3 a4
        rw [Nat.ble_eq] at b1 b2 b4 b5
        have hz0 : 0 ≤ z := of_decide_eq_true b3
        have ez : ((z.toNat : Nat) : Int) = z := Int.toNat_of_nonneg hz0
        have hn : ((x * x + 4 * y * z.toNat : Nat) : Int) = nOf x y z := by rw [← nOf_nat b2, ez]
        obtain ⟨M, hR⟩ := mill_nat _ _ _ _ _ _ _ _ _ _ _ _ (fun v hv => absurd hv List.not_mem_nil) List.Pairwise.nil hm
        rw [hn, ez] at M
        have M' : millF (nOf x y z) x y z 60 x y z [] 0 0 = some (vs.map wS, (fr : Int), (bk : Int)) := M
        rw [M']
        dsimp only
        have hmR : InR (x * 65536 + z.toNat * 256 + y) := by unfold InR; omega
        have hw : w5 (wnum x z y) = wS (x * 65536 + z.toNat * 256 + y) := by
          rw [← ez, wnum_nat]; rfl
        rw [hw, bisW_nat hR hmR, List.length_map, sorted_nat hR a1 _ (Nat.le_refl _), a2]
        rw [decide_eq_true a3, decide_eq_true a4, a5, Bool.true_and, Bool.true_and, Bool.true_and, Bool.true_and, Bool.true_and]
        have hkb := (bisW_le (vs.map wS) (wS (x * 65536 + z.toNat * 256 + y))).2
        rw [bisW_nat hR hmR, List.length_map] at hkb
        generalize bisN vs (x * 65536 + z.toNat * 256 + y) vs.length 0 vs.length = k at c hkb ⊢
        generalize x * 65536 + z.toNat * 256 + y = m at c hmR ⊢
        by_cases q1 : k = vs.length
        · rw [if_pos (.inl (by rw [q1]))]
          rw [q1, Nat.beq_refl, Bool.true_or, cond_true, Bool.and_eq_true, Nat.beq_eq, Nat.beq_eq] at c
          exact decide_eq_true ⟨by omega, by omega⟩
        · have hk : k < vs.length := by omega
          have r1 : Nat.beq k vs.length = false := by rw [← Bool.not_eq_true, Nat.beq_eq]; exact q1
          rw [r1, Bool.false_or] at c
          by_cases q2 : vs.getD k 0 = m
          · rw [if_neg (by
              rintro (e | e)
              · exact q1 (by omega)
              · rw [Int.toNat_natCast, getD_map hk, q2] at e; exact e rfl)]
            rw [q2, Nat.beq_refl, Bool.not_true, cond_false] at c
            exact c
          · rw [if_pos (.inr (by
              rw [Int.toNat_natCast, getD_map hk]
              exact fun e => q2 (wS_inj (getD_in hR hk) hmR e)))]
            have r2 : Nat.beq (vs.getD k 0) m = false := by rw [← Bool.not_eq_true, Nat.beq_eq]; exact q2
            rw [r2, Bool.not_false, cond_true, Bool.and_eq_true, Nat.beq_eq, Nat.beq_eq] at c
            exact decide_eq_true ⟨by omega, by omega⟩
theorem law_at_00 : ∀ c < 8, lawN 1 1 (1 + c) = true := by decide +kernel
theorem law_at_01 : ∀ c < 8, lawN 1 2 (1 + c) = true := by decide +kernel
theorem law_at_02 : ∀ c < 8, lawN 1 3 (1 + c) = true := by decide +kernel
theorem law_at_03 : ∀ c < 8, lawN 1 4 (1 + c) = true := by decide +kernel
theorem law_at_04 : ∀ c < 8, lawN 1 5 (1 + c) = true := by decide +kernel
theorem law_at_10 : ∀ c < 8, lawN 3 1 (1 + c) = true := by decide +kernel
theorem law_at_11 : ∀ c < 8, lawN 3 2 (1 + c) = true := by decide +kernel
theorem law_at_12 : ∀ c < 8, lawN 3 3 (1 + c) = true := by decide +kernel
theorem law_at_13 : ∀ c < 8, lawN 3 4 (1 + c) = true := by decide +kernel
theorem law_at_14 : ∀ c < 8, lawN 3 5 (1 + c) = true := by decide +kernel
theorem law_at_20 : ∀ c < 8, lawN 5 1 (1 + c) = true := by decide +kernel
theorem law_at_21 : ∀ c < 8, lawN 5 2 (1 + c) = true := by decide +kernel
theorem law_at_22 : ∀ c < 8, lawN 5 3 (1 + c) = true := by decide +kernel
theorem law_at_23 : ∀ c < 8, lawN 5 4 (1 + c) = true := by decide +kernel
theorem law_at_24 : ∀ c < 8, lawN 5 5 (1 + c) = true := by decide +kernel
theorem law_at_30 : ∀ c < 8, lawN 7 1 (1 + c) = true := by decide +kernel
theorem law_at_31 : ∀ c < 8, lawN 7 2 (1 + c) = true := by decide +kernel
theorem law_at_32 : ∀ c < 8, lawN 7 3 (1 + c) = true := by decide +kernel
theorem law_at_33 : ∀ c < 8, lawN 7 4 (1 + c) = true := by decide +kernel
theorem law_at_34 : ∀ c < 8, lawN 7 5 (1 + c) = true := by decide +kernel
theorem lawN_all : ∀ a < 4, ∀ b < 5, ∀ c < 8, lawN (1 + 2 * a) (1 + b) (1 + c) = true := by
  intro a ha b hb c hc
  have ea : a = 0 ∨ a = 1 ∨ a = 2 ∨ a = 3 := by omega
  have eb : b = 0 ∨ b = 1 ∨ b = 2 ∨ b = 3 ∨ b = 4 := by omega
  rcases ea with rfl | rfl | rfl | rfl
  · rcases eb with rfl | rfl | rfl | rfl | rfl
    · exact law_at_00 c hc
    · exact law_at_01 c hc
    · exact law_at_02 c hc
    · exact law_at_03 c hc
    · exact law_at_04 c hc
  · rcases eb with rfl | rfl | rfl | rfl | rfl
    · exact law_at_10 c hc
    · exact law_at_11 c hc
    · exact law_at_12 c hc
    · exact law_at_13 c hc
    · exact law_at_14 c hc
  · rcases eb with rfl | rfl | rfl | rfl | rfl
    · exact law_at_20 c hc
    · exact law_at_21 c hc
    · exact law_at_22 c hc
    · exact law_at_23 c hc
    · exact law_at_24 c hc
  · rcases eb with rfl | rfl | rfl | rfl | rfl
    · exact law_at_30 c hc
    · exact law_at_31 c hc
    · exact law_at_32 c hc
    · exact law_at_33 c hc
    · exact law_at_34 c hc
theorem law_all : ∀ a < 4, ∀ b < 5, ∀ c < 8, lawF (1 + 2 * ((a : Nat) : Int)) (1 + ((b : Nat) : Int)) (1 + ((c : Nat) : Int)) = true := by
  intro a ha b hb c hc
  have h := lawN_ok (lawN_all a ha b hb c hc)
  rwa [show ((1 + 2 * a : Nat) : Int) = 1 + 2 * ((a : Nat) : Int) by omega, show ((1 + b : Nat) : Int) = 1 + ((b : Nat) : Int) by omega, show ((1 + c : Nat) : Int) = 1 + ((c : Nat) : Int) by omega] at h
end
section

section
variable {prog : Program} {w : World} {A : Around} {E : Value → Shared → Prop} {s : Shared} {h₀ : Heap} {L : Addr} {m : Str → Option Value} {news : Led}
theorem sum_some {l : Addr} {zs : List Value} {ms : List Int} {k : Nat} {Q : Value → Shared → Prop} (F : Fr h₀ L s.heap m) (N : News h₀ L s.heap news) (hh : A.handled = none) (hm : (l, listOf zs.toArray k) ∈ news) (hi : IntsAre zs ms)
    (h : ∀ (S : Int) h' tk t', Fr h₀ L h' m → News h₀ L h' news → Q (.int S t') { s with heap := h', toks := tk }) : wpAny (model prog w) A (call (.builtin "sum") [.ref l]) Q E s :=
  LSm.sum_ints F N hh (PySem.IsL.isList (N _ hm).1) hi fun h' tk t' F' N' => h _ h' tk t' F' N'
theorem mod_some {a k : Int} {t u : Tok} {Q : Value → Shared → Prop} (hk : 0 < k) (h : ∀ (r : Int) (t' : Tok), 0 ≤ r ∧ r < k → Q (.int r t') { s with toks := s.toks + 1 }) : wpAny (model prog w) A (binaryOp .Mod (.int a t) (.int k u)) Q E s := by
  refine mod_int (by omega) ?_
  exact h _ _ ⟨Int.fmod_nonneg_of_pos _ hk, Int.fmod_lt_of_pos _ hk⟩
end

section
variable {prog : Program} {w : World} {A : Around} {E : Value → Shared → Prop} {s : Shared} {h₀ : Heap} {L : Addr} {m : Str → Option Value} {news : Led}
theorem item_int {value slice : PySem.Expr} {l : Addr} {vs : List Value} {ns : List Int} {i : Int} {u : Tok} {Q : Value → Shared → Prop}
    (N : News h₀ L s.heap news) (hm : (l, LCg.lst vs) ∈ news) (hw : IntsAre vs ns) (h0 : 0 ≤ i) (h1 : i < (ns.length : Int)) (hfit : ns.length < 1000000) (h : ∀ t', Q (.int (ns.getD i.toNat 0) t') s)
    (hs : subscripted slice false (.ref l) (.int i u) = operate [.ref l, .int i u] (getItem (.ref l) (.int i u)) := by with_unfolding_all rfl) :
    wpAny (model prog w) A (subscriptTail value slice (.ref l) (.int i u)) Q E s := by
  have hl := PySem.IsL.isList (N _ hm).1
  have hlt : i.toNat < ns.length := by omega
  obtain ⟨t', e⟩ := hw.get i.toNat (ns.getD i.toNat 0) (by rw [List.getD_eq_getElem?_getD, List.getElem?_eq_getElem hlt]; rfl)
  exact tail_any hl.typeIs slot_list_getitem.lookup (wpAny_getItem_list hl h0 (by omega) (x := .int _ t') (by simpa using e) (h t')) hs
end
section
variable {prog : Program} {w : World} {A : Around} {E : Value → Shared → Prop} {s : Shared}
theorem eq_yes {a b : Int} {t u : Tok} {Q : Value → Shared → Prop} (e : a = b) (h : Q (.bool true) s) : wpAny (model prog w) A (compareOp .Eq (.int a t) (.int b u)) Q E s := by
  refine eq_int ?_
  subst e
  simpa using h
theorem eq_no {a b : Int} {t u : Tok} {Q : Value → Shared → Prop} (e : ¬ a = b) (h : Q (.bool false) s) : wpAny (model prog w) A (compareOp .Eq (.int a t) (.int b u)) Q E s := by
  refine eq_int ?_
  rw [beq_false_of_ne e]
  exact h
end
structure ZSt where
  z : Int
  tz : Tok
  tn : Tok
  o : Obj
  f : Nat
def ZSt.vals (x : ZSt) : List (Str × Value) := [(Str.ofString "z", .int x.z x.tz)]
def ZSt.led (cn Dq : Addr) (wS : Obj) (ys : List Value) (x : ZSt) : Led := [(cn, x.o), (Dq, LCg.lst ys), (cn + 1, wS)]
structure ZSt.Ok (x y z' : Int) (q : ZSt) : Prop where
  run : zF q.f x y q.z = some z'
  cell : q.o.data = .cell (some (.int (nOf x y q.z) q.tn))
theorem while_z {prog : Program} {w : World} {A : Around} {E : Value → Shared → Prop} {Q : Flow → Shared → Prop} {s : Shared} {env : Env} {h₀ : Heap} {L : Addr} {test : PySem.Expr} {body : List Stmt} {pos : Pos} {m₀ : Str → Option Value} {news : Led}
    {cn Dq : Addr} {o₀ wS : Obj} {ys : List Value} {x y z₀ z' : Int} {tz tn : Tok}
    (F : Fr h₀ L s.heap m₀) (N : News h₀ L s.heap news) (ho : o₀.data = .cell (some (.int (nOf x y z₀) tn))) (hcn : (cn, o₀) ∈ news) (hDq : (Dq, LCg.lst ys) ∈ news) (hcs : (cn + 1, wS) ∈ news) (hz : m₀ (Str.ofString "z") = some (.int z₀ tz)) (hr : zF 10 x y z₀ = some z')
    (turn : ∀ (q : ZSt) (v : Str → Option Value) h tk, ZSt.Ok x y z' q → Fr h₀ L h (setV q.vals (setU v [] m₀)) → News h₀ L h [(cn, q.o), (Dq, LCg.lst ys), (cn + 1, wS)] →
      wpAny (model prog w) A (isTrue test env (eval test env)) (fun b s₂ =>
        if b = true then wpAny (model prog w) A (execs body env) (WPost h₀ L s ZSt.vals (ZSt.led cn Dq wS ys) (ZSt.Ok x y z') ZSt.f [] m₀ q Q) E s₂ else Q .next s₂) E { s with heap := h, toks := tk })
    (hE : PassesOwn (model prog w) A env E := by passes_own) :
    wpAny (model prog w) A (exec (.While test body [] pos) env) Q E s :=
  while_st ZSt.vals (ZSt.led cn Dq wS ys) (ZSt.Ok x y z') ZSt.f [] ⟨z₀, tz, tn, o₀, 10⟩ F N (List.forall_mem_cons.mpr ⟨hcn, List.forall_mem_cons.mpr ⟨hDq, List.forall_mem_cons.mpr ⟨hcs, List.forall_mem_nil _⟩⟩⟩) (List.forall_mem_cons.mpr ⟨hz, List.forall_mem_nil _⟩) ⟨hr, ho⟩ turn hE

section
variable {prog : Program} {w : World} {A : Around} {E : Value → Shared → Prop} {s : Shared} {h₀ : Heap} {L : Addr} {m : Str → Option Value} {news : Led}
theorem ne_yes {a b : Int} {t u : Tok} {Q : Value → Shared → Prop} (e : ¬ a = b) (h : Q (.bool true) s) : wpAny (model prog w) A (compareOp .NotEq (.int a t) (.int b u)) Q E s := by
  refine ne_int ?_
  rw [bne, beq_false_of_ne e]
  exact h
theorem ne_no {a b : Int} {t u : Tok} {Q : Value → Shared → Prop} (e : a = b) (h : Q (.bool false) s) : wpAny (model prog w) A (compareOp .NotEq (.int a t) (.int b u)) Q E s := by
  refine ne_int ?_
  subst e
  rw [bne, beq_self_eq_true]
  exact h
theorem eq_nil {l D : Addr} {vs : List Value} {k : Nat} {r : Bool} {Q : Value → Shared → Prop} (N : News h₀ L s.heap news) (h1 : (l, LCg.lst vs) ∈ news) (h2 : (D, listOf #[] k) ∈ news) (hu : A.units < cLine) (hv : vs.isEmpty = r) (h : Q (.bool r) s) :
    wpAny (model prog w) A (compareOp .Eq (.ref l) (.ref D)) Q E s := by
  have hl := PySem.IsL.isList (N _ h1).1
  have hD : s.heap.IsList D #[] := PySem.IsL.isList (N _ h2).1
  subst hv
  cases vs with
  | nil => exact SeqAt.eq_listAt (e := fun _ => true) hl hD rfl hu (fun j h1 _ => absurd h1 (Nat.not_lt_zero _)) h
  | cons v r => exact SeqAt.eq_list_lengthsAt hl hD (by simp) hu h
theorem ne_three {X Y : Addr} {a b c a' b' c' : Int} {t u v t' u' v' : Tok} {r : Bool} {Q : Value → Shared → Prop} (N : News h₀ L s.heap news) (h1 : (X, tup [.int a t, .int b u, .int c v]) ∈ news) (h2 : (Y, tup [.int a' t', .int b' u', .int c' v']) ∈ news) (hu : A.units < cLine)
    (hr : (!(a == a' && (b == b' && c == c'))) = r) (h : Q (.bool r) s) : wpAny (model prog w) A (compareOp .NotEq (.ref X) (.ref Y)) Q E s := by
  subst hr
  have q := SeqAt.RcNeAt.tuples (A := A) (s := s) (l := X) (b := Y) (items := #[.int a t, .int b u, .int c v]) (items2 := #[.int a' t', .int b' u', .int c' v']) (e := fun j => if j = 0 then a == a' else if j = 1 then b == b' else c == c')
    ⟨_, (N _ h1).1, rfl, _, rfl⟩ ⟨_, (N _ h2).1, rfl, _, rfl⟩ hu (fun j h1 h2 => by
      have hj : j = 0 ∨ j = 1 ∨ j = 2 := by
        have : j < 3 := h1
        omega
      rcases hj with rfl | rfl | rfl
      · exact SeqAt.EqAt.int_int _ _ _ _
      · exact SeqAt.EqAt.int_int _ _ _ _
      · exact SeqAt.EqAt.int_int _ _ _ _)
  refine q prog w E Q ?_
  have e : (!((List.range (min (#[Value.int a t, Value.int b u, Value.int c v] : Array Value).size (#[Value.int a' t', Value.int b' u', Value.int c' v'] : Array Value).size)).all (fun j => if j = 0 then a == a' else if j = 1 then b == b' else c == c') && (#[Value.int a t, Value.int b u, Value.int c v] : Array Value).size == (#[Value.int a' t', Value.int b' u', Value.int c' v'] : Array Value).size)) = (!(a == a' && (b == b' && c == c'))) := by
    show (!(((a == a') && ((b == b') && ((c == c') && true))) && true)) = _
    rw [Bool.and_true, Bool.and_true]
  rw [e]
  exact h
end
def TEnd (K : Shared → Prop) (r b : Bool) (s₂ : Shared) : Prop := b = r ∧ K s₂
theorem test_first {prog : Program} {w : World} {A : Around} {E : Value → Shared → Prop} {s : Shared} {h₀ : Heap} {L : Addr} {m : Str → Option Value} {led : Led} {t : Sem Bool} {P : Bool → Shared → Prop} (r : Bool) (_F : Fr h₀ L s.heap m) (_N : News h₀ L s.heap led)
    (ht : ∀ K : Shared → Prop, (∀ h' tk', Fr h₀ L h' m → News h₀ L h' led → K { s with heap := h', toks := tk' }) → wpAny (model prog w) A t (TEnd K r) E s) (h : ∀ h' tk', Fr h₀ L h' m → News h₀ L h' led → P r { s with heap := h', toks := tk' }) : wpAny (model prog w) A t P E s :=
  wpAny_mono (ht (fun s₂ => ∃ h' tk', s₂ = { s with heap := h', toks := tk' } ∧ Fr h₀ L h' m ∧ News h₀ L h' led) fun h' tk' F N => ⟨h', tk', rfl, F, N⟩) (fun b s₂ ⟨e, h', tk', e2, F', N'⟩ => by subst e e2; exact h h' tk' F' N') fun _ _ x => x
structure MSt where
  x : Int
  y : Int
  z : Int
  am : Addr
  t1 : Tok
  t2 : Tok
  t3 : Tok
  vs : List Value
  ws : List Str
  fr : Int
  bk : Int
  tf : Tok
  tb : Tok
  f : Nat
def MSt.vals (q : MSt) : List (Str × Value) := [(Str.ofString "mill", .ref q.am), (Str.ofString "fronts", .int q.fr q.tf), (Str.ofString "backs", .int q.bk q.tb)]
def MSt.led (Sh As cn Dq : Addr) (stO oN oS : Obj) (ys : List Value) (q : MSt) : Led := [(q.am, tup [.int q.x q.t1, .int q.y q.t2, .int q.z q.t3]), (As, stO), (Sh, LCg.lst q.vs), (cn, oN), (Dq, LCg.lst ys), (cn + 1, oS)]
structure MSt.Ok (n x₀ y₀ z₀ : Int) (res : List Str × Int × Int) (Sh : Addr) (q : MSt) : Prop where
  run : millF n x₀ y₀ z₀ q.f q.x q.y q.z q.ws q.fr q.bk = some res
  sare : StrsAre q.vs q.ws
  len : q.ws.length + q.f = 60
  off : q.am ≠ Sh
def mstored : List Str := [Str.ofString "x", Str.ofString "y", Str.ofString "z", Str.ofString "word"]
theorem while_mill {prog : Program} {w : World} {A : Around} {E : Value → Shared → Prop} {Q : Flow → Shared → Prop} {s : Shared} {env : Env} {h₀ : Heap} {L : Addr} {test : PySem.Expr} {body : List Stmt} {pos : Pos} {m₀ : Str → Option Value} {news : Led}
    {Sh As cn Dq : Addr} {oN oS : Obj} {ys : List Value} {n x₀ y₀ z₀ : Int} {t1 t2 t3 tf tb : Tok} {res : List Str × Int × Int}
    (F : Fr h₀ L s.heap m₀) (N : News h₀ L s.heap news) (_hS : oS.data = .cell (some (.ref Sh))) (hcn : (cn, oN) ∈ news) (hcs : (cn + 1, oS) ∈ news) (hSh : (Sh, listOf #[] 0) ∈ news) (hAs : (As, tup [.int x₀ t1, .int y₀ t2, .int z₀ t3]) ∈ news) (hDq : (Dq, LCg.lst ys) ∈ news) (hne : As ≠ Sh)
    (hm : m₀ (Str.ofString "mill") = some (.ref As)) (hf : m₀ (Str.ofString "fronts") = some (.int 0 tf)) (hb : m₀ (Str.ofString "backs") = some (.int 0 tb)) (hr : millF n x₀ y₀ z₀ 60 x₀ y₀ z₀ [] 0 0 = some res)
    (turn : ∀ (q : MSt) (v : Str → Option Value) h tk, MSt.Ok n x₀ y₀ z₀ res Sh q → Fr h₀ L h (setV q.vals (setU v mstored m₀)) → News h₀ L h (MSt.led Sh As cn Dq (tup [.int x₀ t1, .int y₀ t2, .int z₀ t3]) oN oS ys q) →
      wpAny (model prog w) A (isTrue test env (eval test env)) (fun b s₂ =>
        if b = true then wpAny (model prog w) A (execs body env) (WPost h₀ L s MSt.vals (MSt.led Sh As cn Dq (tup [.int x₀ t1, .int y₀ t2, .int z₀ t3]) oN oS ys) (MSt.Ok n x₀ y₀ z₀ res Sh) MSt.f mstored m₀ q Q) E s₂ else Q .next s₂) E { s with heap := h, toks := tk })
    (hE : PassesOwn (model prog w) A env E := by passes_own) :
    wpAny (model prog w) A (exec (.While test body [] pos) env) Q E s := by
  refine while_st MSt.vals (MSt.led Sh As cn Dq (tup [.int x₀ t1, .int y₀ t2, .int z₀ t3]) oN oS ys) (MSt.Ok n x₀ y₀ z₀ res Sh) MSt.f mstored ⟨x₀, y₀, z₀, As, t1, t2, t3, [], [], 0, 0, tf, tb, 60⟩ F N ?_ ?_ ⟨hr, .nil, rfl, hne⟩ turn hE
  · exact List.forall_mem_cons.mpr ⟨hAs, List.forall_mem_cons.mpr ⟨hAs, List.forall_mem_cons.mpr ⟨hSh, List.forall_mem_cons.mpr ⟨hcn, List.forall_mem_cons.mpr ⟨hDq, List.forall_mem_cons.mpr ⟨hcs, List.forall_mem_nil _⟩⟩⟩⟩⟩⟩
  · exact List.forall_mem_cons.mpr ⟨hm, List.forall_mem_cons.mpr ⟨hf, List.forall_mem_cons.mpr ⟨hb, List.forall_mem_nil _⟩⟩⟩
section
variable {prog : Program} {w : World} {A : Around} {E : Value → Shared → Prop} {s : Shared} {h₀ : Heap} {L : Addr} {m : Str → Option Value} {news : Led}
theorem len_led {l : Addr} {vs : List Value} {k n : Nat} {Q : Value → Shared → Prop} (N : News h₀ L s.heap news) (hm : (l, listOf vs.toArray k) ∈ news) (hn : vs.length = n) (hz : n < 60)
    (h : ∀ t tk, Q (.int (n : Int) t) { s with toks := tk }) : wpAny (model prog w) A (call (.builtin "len") [.ref l]) Q E s := by
  refine len_list (PySem.IsL.isList (N _ hm).1) (by rw [List.size_toArray]; omega) ?_
  rw [List.size_toArray, hn]
  exact h _ _
theorem ne_nil {l D : Addr} {vs : List Value} {j k : Nat} {r : Bool} {Q : Value → Shared → Prop} (N : News h₀ L s.heap news) (h1 : (l, listOf vs.toArray j) ∈ news) (h2 : (D, listOf #[] k) ∈ news) (hu : A.units < cLine) (hv : (!vs.isEmpty) = r) (h : Q (.bool r) s) :
    wpAny (model prog w) A (compareOp .NotEq (.ref l) (.ref D)) Q E s := by
  have hl := PySem.IsL.isList (N _ h1).1
  have hD : s.heap.IsList D #[] := PySem.IsL.isList (N _ h2).1
  subst hv
  cases vs with
  | nil => exact SeqAt.RcNeAt.lists (e := fun _ => true) hl hD rfl hu (fun j h1 _ => absurd h1 (Nat.not_lt_zero _)) prog w E Q h
  | cons v r => exact SeqAt.RcNeAt.lists_lengths hl hD (by simp) hu prog w E Q h
theorem lt_yes {x y : Str} {t u : Tok} {Q : Value → Shared → Prop} (e : ltS x y = true) (h : Q (.bool true) s) : wpAny (model prog w) A (compareOp .Lt (.str x t) (.str y u)) Q E s := by
  refine lt_str ?_
  have e' : decide (x.cps.toList < y.cps.toList) = true := e
  rw [e']
  exact h
theorem sum_led {l : Addr} {zs : List Value} {ms : List Int} {k : Nat} {S : Int} {Q : Value → Shared → Prop} (F : Fr h₀ L s.heap m) (N : News h₀ L s.heap news) (hh : A.handled = none) (hm : (l, listOf zs.toArray k) ∈ news) (hi : IntsAre zs ms) (hS : ms.sum = S)
    (h : ∀ h' tk t', Fr h₀ L h' m → News h₀ L h' news → Q (.int S t') { s with heap := h', toks := tk }) : wpAny (model prog w) A (call (.builtin "sum") [.ref l]) Q E s := by
  subst hS
  exact LSm.sum_ints F N hh (PySem.IsL.isList (N _ hm).1) hi h
theorem ne_str_yes {x y : Str} {t u : Tok} {Q : Value → Shared → Prop} (e : x ≠ y) (h : Q (.bool true) s) : wpAny (model prog w) A (compareOp .NotEq (.str x t) (.str y u)) Q E s := by
  refine ne_str ?_
  rw [bne_iff_ne.mpr e]
  exact h
theorem ne_str_no {x y : Str} {t u : Tok} {Q : Value → Shared → Prop} (e : x = y) (h : Q (.bool false) s) : wpAny (model prog w) A (compareOp .NotEq (.str x t) (.str y u)) Q E s := by
  subst e
  refine ne_str ?_
  rw [bne_self_eq_false]
  exact h
end
theorem and_right_of {a b : Bool} (h : (a && b) = true) : b = true := by
  cases a
  · cases h
  · exact h
theorem sorted_at {ws : List Str} : ∀ (n : Nat), sortedF ws n = true → ∀ k : Int, 1 ≤ k → k < n → ltS (ws.getD (k - 1).toNat Str.empty) (ws.getD k.toNat Str.empty) = true
  | 0, _, k, h1, h2 => absurd h2 (by omega)
  | n + 1, h, k, h1, h2 => by
    simp only [sortedF, Bool.and_eq_true, Bool.or_eq_true] at h
    by_cases q : k < n
    · exact sorted_at n h.1 k h1 q
    · have e : k.toNat = n := by omega
      have e2 : (k - 1).toNat = n - 1 := by omega
      rw [e, e2]
      rcases h.2 with h0 | h0
      · have : n = 0 := by simpa using h0
        omega
      · exact h0
theorem foldl_keep {α β : Type} : ∀ (ks : List β) (l : List α), ks.foldl (fun l _ => l) l = l
  | [], _ => rfl
  | _ :: r, l => foldl_keep r l
theorem kf_of {k : Int} {n : Nat} (h1 : 1 ≤ k) (h2 : k < 1 + (((n : Int) - 1).toNat : Int)) : 0 ≤ k - 1 ∧ k - 1 < (n : Int) ∧ 0 ≤ k ∧ k < (n : Int) := by omega

local macro_rules | `(tactic| walk_at "WPost") => `(tactic| dsimp only [WPost])
local macro_rules | `(tactic| walk_at "compareOp Eq int int") => `(tactic| (k_here; first | refine eq_yes (by with_reducible assumption) ?_ | refine eq_no (by with_reducible assumption) ?_))
theorem use_bisQ {w : World} {mean : ExcName → Option Value} {mg mb : Str → Option Value} {dp un : Nat} {gd : Option (List Code)} {cn : Str} {cs : Scope} {a : Addr} {ccd : Value} {cl : List (Str × Addr)} {outer : List Env} {A₀ : Around} {base h₀ : Heap} {L : Addr} {m : Str → Option Value} {s : Shared} {Q : Value → Shared → Prop} {E : Value → Shared → Prop} {news : Led} {l : Addr} {ys : List Value} {x : Int} {tx : Tok}
    (B : Below A₀ base outer h₀) (F : Fr h₀ L s.heap m) (X : (hd.heap_39 w.params).In h₀) (N : News h₀ L s.heap news) (T : Top hd.view_39 (looseW hd.view_39 [Str.ofString "insort_left", Str.ofString "bisect_left"]) mean mg mb h₀) (hk : cs.kind = .function)
    (hd' : dp + 2 < recursionLimit) (hu : un + 16 < cLine) (hm : (l, LCg.lst ys) ∈ news) (hi : IntsAre ys sqs)
    (h : ∀ t h' tk', Fr h₀ L h' m → News h₀ L h' news → Q (.int (bisQ x) t) { s with heap := h', toks := tk' }) :
    wpAny (model P0 w) (ktrTop dp un gd cn cs L a ccd cl outer) (call (.ref 74) [.ref l, .int x tx]) Q E s :=
  use_bisI B F X N T hk hd' hu hm hi (by decide) h
local macro_rules | `(tactic| walk_at "call ref") => `(tactic| (k_here; (with_reducible show wpAny _ _ (call (Value.ref 74) [Value.ref _, Value.int _ _]) _ _ _); k_dflt (refine' use_bisQ ?k1 ?k2 ?k3 ?k4 ?k5 ?k6 ?k7 ?k8 ?k9 ?kI ?_; (case k1 => k_asm); (case k2 => k_asm); (case k3 => k_asm); (case k4 => k_asm); (case k5 => k_asm); (case k6 => first | exact rfl | assumption); (case k9 => k_mem); (case kI => assumption); (case k7 => decide); (case k8 => decide); k_whole); (intro t9' h9' tk9' F9' N9'); (try dsimp only)))

local macro_rules | `(tactic| walk_at "compareOp Eq ref ref") => `(tactic| (k_here; k_extra "my eq"))
local macro_rules | `(tactic| walk_at "compareOp NotEq ref ref") => `(tactic| (k_here; k_extra "my ne"))
local macro_rules | `(tactic| walk_at "call ref") => `(tactic| (k_here; k_extra "my call"))
local macro_rules | `(tactic| walk_at "ite") => `(tactic| first | rw [if_pos rfl] | rw [if_neg Bool.false_ne_true])
local macro_rules | `(tactic| walk_at "subscriptTail Name Name ref int") => `(tactic| (k_here; k_extra "my item"))
local macro_rules | `(tactic| walk_at "subscriptTail Name Constant str int") => `(tactic| (k_here; k_extra "my sign"))
local macro_rules | `(tactic| walk_at "subscriptTail Name Slice str ref") => `(tactic| (k_here; k_extra "my cut"))
local macro_rules | `(tactic| walk_at "binaryOp Add str str") => `(tactic| (k_here; k_extra "my cat"))
local macro_rules | `(tactic| walk_at "compareOp NotEq int int") => `(tactic| (k_here; first | refine ne_no (by with_reducible assumption) ?_ | refine ne_yes (by with_reducible assumption) ?_))
local macro_rules | `(tactic| walk_at "eval ListComp") => `(tactic| (k_here; k_extra "my comp"))
local macro_rules | `(tactic| walk_at "CompSrcT") => `(tactic| (k_here; k_extra "my src"))
local macro_rules | `(tactic| walk_at "call builtin:len cons nil") => `(tactic| (k_here; (with_reducible show wpAny _ _ (call (Value.builtin "len") [Value.ref _]) _ _ _); k_dflt (refine len_led (by k_asm) (by k_mem) (by assumption) (by with_reducible assumption) ?_); (intro t9' tk9'); (try dsimp only)))
local macro_rules | `(tactic| walk_at "subscriptTail Name BinOp ref int") => `(tactic| (k_here; k_extra "my item2"))
local macro_rules | `(tactic| walk_at "compareOp Lt str str") => `(tactic| (k_here; refine lt_yes (by with_reducible assumption) ?_))
local macro_rules | `(tactic| walk_at "subscriptTail Name Name ref int") => `(tactic| (k_here; k_extra "my item3"))
theorem use_bisW {w : World} {mean : ExcName → Option Value} {mg mb : Str → Option Value} {dp un : Nat} {gd : Option (List Code)} {cn : Str} {cs : Scope} {a : Addr} {ccd : Value} {cl : List (Str × Addr)} {outer : List Env} {A₀ : Around} {base h₀ : Heap} {L : Addr} {m : Str → Option Value} {s : Shared} {Q : Value → Shared → Prop} {E : Value → Shared → Prop} {news : Led} {l : Addr} {ys : List Value} {ws : List Str} {x : Str} {tx : Tok} {k : Int}
    (B : Below A₀ base outer h₀) (F : Fr h₀ L s.heap m) (X : (hd.heap_39 w.params).In h₀) (N : News h₀ L s.heap news) (T : Top hd.view_39 (looseW hd.view_39 [Str.ofString "insort_left", Str.ofString "bisect_left"]) mean mg mb h₀) (hk : cs.kind = .function)
    (hd' : dp + 2 < recursionLimit) (hu : un + 16 < cLine) (hm : (l, LCg.lst ys) ∈ news) (hi : StrsAre ys ws) (hlen : ws.length < 60) (hkk : bisW ws x = k)
    (h : ∀ t h' tk', Fr h₀ L h' m → News h₀ L h' news → Q (.int k t) { s with heap := h', toks := tk' }) :
    wpAny (model P0 w) (ktrTop dp un gd cn cs L a ccd cl outer) (call (.ref 74) [.ref l, .str x tx]) Q E s := by
  subst hkk
  exact use_bisS B F X N T hk hd' hu hm hi (by omega) h
theorem st_x {r : Int} (h : 0 ≤ r ∧ r < 4) : 1 ≤ 1 + 2 * r ∧ 1 + 2 * r ≤ 15 := by omega
theorem st_y {r : Int} (h : 0 ≤ r ∧ r < 5) : 0 ≤ 1 + r ∧ 1 + r ≤ 255 := by omega
theorem st_z {z : Int} (h : 0 < z) (h' : z < 30) : 0 ≤ z ∧ z ≤ 255 := by omega
theorem lt_of_ne_le {k n : Int} (h : k ≤ n) (h' : ¬ k = n) : k < n := by omega
theorem last_cases {ws : List Str} {fr bk kk n root : Int} {M : Str} {pl : Nat} (h : (if kk = ws.length ∨ ws.getD kk.toNat Str.empty ≠ M then decide (fr = 0 ∧ bk = 0) else decide (fr + bk = 2) && (decide (fr = 1) == decide (pl % 2 = 1)) && (decide (fr = 1) || (List.range 30).any fun d => decide (2 ≤ d ∧ (d : Int) < root ∧ n % (d : Int) = 0))) = true) :
    (kk = ws.length ∧ fr = 0 ∧ bk = 0) ∨ (¬ kk = ws.length ∧ ws.getD kk.toNat Str.empty ≠ M ∧ fr = 0 ∧ bk = 0) ∨ (¬ kk = ws.length ∧ ws.getD kk.toNat Str.empty = M ∧ fr + bk = 2 ∧ fr = 1 ∧ (pl : Int).fmod 2 = 1) ∨
      (¬ kk = ws.length ∧ ws.getD kk.toNat Str.empty = M ∧ fr + bk = 2 ∧ ¬ fr = 1 ∧ ¬ (pl : Int).fmod 2 = 1 ∧ ∃ d : Int, 2 ≤ d ∧ d < root ∧ n.fmod d = 0) := by
  have e2 : (pl : Int).fmod 2 = ((pl % 2 : Nat) : Int) := by
    rw [Int.fmod_eq_emod_of_nonneg _ (by omega)]; omega
  by_cases h1 : kk = ws.length
  · rw [if_pos (.inl h1)] at h
    exact .inl ⟨h1, of_decide_eq_true h⟩
  · by_cases h2 : ws.getD kk.toNat Str.empty = M
    · rw [if_neg (by rintro (q | q); exact h1 q; exact q h2)] at h
      simp only [Bool.and_eq_true, Bool.or_eq_true, decide_eq_true_eq, beq_iff_eq, decide_eq_decide, List.any_eq_true] at h
      obtain ⟨⟨a1, a2⟩, a3⟩ := h
      by_cases h3 : fr = 1
      · exact .inr (.inr (.inl ⟨h1, h2, a1, h3, by rw [e2]; have := a2.mp h3; omega⟩))
      · refine .inr (.inr (.inr ⟨h1, h2, a1, h3, ?_, ?_⟩))
        · intro q
          exact h3 (a2.mpr (by omega))
        · rcases a3 with a3 | ⟨d, _, a4, a5, a6⟩
          · exact absurd a3 h3
          · exact ⟨(d : Int), by omega, a5, by rw [Int.fmod_eq_emod_of_nonneg _ (by omega)]; exact a6⟩
    · rw [if_pos (.inr h2)] at h
      exact .inr (.inl ⟨h1, h2, of_decide_eq_true h⟩)
theorem rg_small {q : Int} (h : 0 ≤ q ∧ q < 20) : Builtin.Range.small 2 (q - 1 + 1) 1 = true := small_one (by omega) (by omega) (by omega) (by omega)
theorem rg_size {q : Int} (h : 0 ≤ q ∧ q < 20) : (q - 1 + 1 - 2).toNat ≤ sizeLine := by rw [PySem.sizeLine_eq]; omega
theorem filt_ne {n d : Int} : ∀ (ks l : List Int), (d ∈ ks ∧ n.fmod d = 0) ∨ l ≠ [] → ks.foldl (fun l k => if n.fmod k = 0 then l ++ [k] else l) l ≠ []
  | [], l, h => h.elim (fun q => nomatch q.1) id
  | k :: r, l, h => by
    rw [List.foldl_cons]
    refine filt_ne (d := d) r _ ?_
    rcases h with ⟨h, hn⟩ | h
    · rcases List.mem_cons.mp h with e | h
      · subst e
        rw [if_pos hn]
        exact .inr (by simp)
      · exact .inl ⟨h, hn⟩
    · right
      split
      · simp
      · exact h
theorem in_rangeKs {a d : Int} {n : Nat} (h1 : a ≤ d) (h2 : d < a + (n : Int)) : d ∈ rangeKs a n := by
  unfold rangeKs
  exact List.mem_map.mpr ⟨(d - a).toNat, List.mem_range.mpr (by omega), by omega⟩
theorem some_div {n q : Int} {ys : List Value} (h : ∃ d : Int, 2 ≤ d ∧ d < q - 1 + 1 ∧ n.fmod d = 0) (hy : IntsAre ys ((rangeKs 2 (q - 1 + 1 - 2).toNat).foldl (fun l k => if n.fmod k = 0 then l ++ [k] else l) [])) : (!ys.isEmpty) = true := by
  obtain ⟨d, h1, h2, h3⟩ := h
  have := filt_ne (n := n) (d := d) (rangeKs 2 (q - 1 + 1 - 2).toNat) [] (.inl ⟨in_rangeKs h1 (by omega), h3⟩)
  cases ys with
  | nil => exact (by generalize hq : List.foldl _ _ _ = r at hy this; cases hy; exact absurd rfl this)
  | cons _ _ => rfl
theorem grows_if (n : Int) : KPfGrows (fun l k => if n.fmod k = 0 then l ++ [k] else l) := by
  intro l k
  dsimp only
  split
  · rw [List.length_append]; exact Nat.le_refl _
  · exact Nat.le_succ _
theorem pos_ne {k : Int} (h : 2 ≤ k) : k ≠ 0 := by omega
local macro_rules | `(tactic| walk_at "compareOp NotEq ref ref") => `(tactic| (k_here; k_extra "my ne2"))
local macro_rules | `(tactic| walk_at "KPfDone") => `(tactic| (k_here; k_extra "my done"))
local macro_rules | `(tactic| walk_at "call builtin:sum cons nil") => `(tactic| (k_here; k_extra "my sum"))
local macro_rules | `(tactic| walk_at "compareOp NotEq str str") => `(tactic| (k_here; first | refine ne_str_no (by with_reducible assumption) ?_ | refine ne_str_yes (by with_reducible assumption) ?_))
local macro_rules | `(tactic| walk_at "CompEnd") => `(tactic| (k_here; k_extra "my cend"))
local macro_rules | `(tactic| walk_at "KCiEl") => `(tactic| (k_here; k_extra "my el"))
local macro_rules | `(tactic| walk_at "KCiNo") => `(tactic| (k_here; k_extra "my no"))
theorem law_ok : PySem.Challenge.rw_sr0034_01.Holds := by
  refine hd ?_
  k_go0
  all_goals try k_fold
  k_with_none
  (k_with "subscriptTail Name Slice ref ref" => (
    (with_reducible rename Fr _ _ _ _ => F'); (with_reducible rename News _ _ _ _ => N');
    (k_dflt (refine slice_step (s := ⟨_, _, _, _, _⟩) F' N' (by k_asm) (by assumption) (by decide) (by omega) ?_ (by with_unfolding_all rfl))); (intro D9' h9' zs9' ms9' F9' N9' l9' hi9'); (try dsimp only); (try k_lt l9')))
  (k_with "call builtin:sum" => ((k_dflt (refine sum_some (by k_asm) (by k_asm) (by rfl) (by k_mem) (by assumption) ?_)); (intro S9' h9' tk9' t9' F9' N9'); (try dsimp only)))
  (k_with "binaryOp Mod int int" => ((with_reducible show wpAny _ _ (binaryOp _ (Value.int _ _) (Value.int 4 _)) _ _ _); (refine mod_some (by decide) ?_); (intro r4 t4 hr4); (try dsimp only)))
  (k_with "binaryOp Mod int int" => ((with_reducible show wpAny _ _ (binaryOp _ (Value.int _ _) (Value.int 5 _)) _ _ _); (refine mod_some (by decide) ?_); (intro r5 t5 hr5); (try dsimp only)))
  (k_with "binaryOp Mod int int" => ((with_reducible show wpAny _ _ (binaryOp _ (Value.int _ _) (Value.int 8 _)) _ _ _); (refine mod_some (by decide) ?_); (intro r8 t8 hr8); (try dsimp only)))
  (k_with "subscriptTail Name Name ref int" => (refine Hold.out ?_))
  (k_with "exec While Compare cons nil" => (refine Hold.out ?_))
  (k_with "exec While BoolOp cons nil" => (refine Hold.out ?_))
  k_steps
  refine Hold.intro ?_
  have hsqe : List.map (fun k' : Int => k' ^ Int.toNat 2) (rangeKs 0 ((20 : Int) - 0).toNat) = sqs := by decide +kernel
  (rename IntsAre ys _ => hsq)
  rw [hsqe] at hsq
  have hlaw : lawF (1 + 2 * r4) (1 + r5) (1 + r8) = true := by
    have := law_all r4.toNat (by omega) r5.toNat (by omega) r8.toNat (by omega)
    rwa [Int.toNat_of_nonneg hr4.1, Int.toNat_of_nonneg hr5.1, Int.toNat_of_nonneg hr8.1] at this
  (k_with "subscriptTail Name Name ref int" => ((k_dflt (refine item_int (by k_asm) (by k_mem) hsq (by omega) (by show _ < (20 : Int); omega) (by decide) ?_)); (intro t9'); (try dsimp only)))
  k_steps
  refine Hold.intro ?_
  unfold lawF at hlaw
  split at hlaw
  · cases hlaw
  rename_i z hzF
  (rename Fr _ _ _ _ => lF'); (rename News _ _ _ _ => lN')
  with_unfolding_all refine while_z lF' lN' (by assumption) (by k_mem) (ys := ys) (by k_mem) (by k_mem) (by rfl) hzF ?_
  clear lF' lN'
  rintro ⟨zz, tz, tn, o, f⟩ v h' tk ⟨run, cell⟩ F' N'
  dsimp only at run cell N'
  dsimp only [setV, setU, ZSt.vals] at F'
  (k_with "subscriptTail Name Call ref int" => ((k_dflt (refine item_int (by k_asm) (by k_mem) hsq (by omega) (by show _ < (20 : Int); omega) (by decide) ?_)); (intro t9'); (try dsimp only)))
  cases f with
  | zero => cases run
  | succ f =>
  simp only [zF] at run
  split at run
  rotate_left
  · cases run
  rename_i hbz
  obtain ⟨hb1, hb2, hb3, hb4⟩ := hbz
  split at run
  · rename_i heq
    k_steps
    refine' WEnd.intro (ZSt.mk (zz + 1) ?ez ?en ?eo f) ?eF ?eN ?el ?ev ?em ?ek ?es
    case eF => assumption
    case eN => assumption
    case ek => exact ⟨run, by assumption⟩
    case el => exact List.forall_mem_cons.mpr ⟨.head _, List.forall_mem_cons.mpr ⟨.tail _ (.head _), List.forall_mem_cons.mpr ⟨.tail _ (.tail _ (.head _)), List.forall_mem_nil _⟩⟩⟩
    case ev =>
      dsimp only [ZSt.vals]
      refine List.forall_mem_cons.mpr ⟨?_, List.forall_mem_nil _⟩
      with_unfolding_all rfl
    case em =>
      intro y q1 q2
      have a1 : y ≠ Str.ofString "z" := q1 _ (.head _)
      simp only [a1, if_false]
    case es => exact Nat.lt_succ_self _
  · rename_i heq
    k_steps
    refine Hold.intro ?_
    cases run
    clear hb1 hb2 heq
    split at hlaw
    · cases hlaw
    rename_i wsF frF bkF hmill
    split at hlaw
    · cases hlaw
    rename_i ps hparts
    (rename Fr _ _ _ _ => lF'); (rename News _ _ _ _ => lN')
    refine' while_mill (oN := o) (ys := ys) lF' lN' ?g1 ?g2 ?g3 ?g4 ?g5 ?g6 ?g7 ?g8 ?g9 ?g10 hmill ?g11
    case g1 => assumption
    case g2 => k_mem
    case g3 => k_mem
    case g4 => k_mem
    case g5 => with_unfolding_all k_mem
    case g6 => k_mem
    case g7 => k_ne
    case g8 => with_unfolding_all rfl
    case g9 => with_unfolding_all rfl
    case g10 => with_unfolding_all rfl
    clear lF' lN'
    rintro ⟨mx, my, mz, am, u1, u2, u3, vs, ws, fr, bk, tf, tb, f⟩ v h' tk ⟨run, sare, len, off⟩ F' N'
    dsimp only at run sare len off N'
    dsimp only [setV, setU, MSt.vals, mstored] at F'
    dsimp only [MSt.led, tup] at N'
    cases f with
    | zero => cases run
    | succ f =>
    simp only [millF] at run
    (k_with "my eq" => (k_dflt (refine eq_nil (by k_asm) (by k_mem) (by k_mem) (by k_units) (by assumption) ?_)))
    (k_with "my ne" => (refine ne_three (by k_asm) (by with_unfolding_all k_mem) (by with_unfolding_all k_mem) (by k_units) (by assumption) ?_))
    have hvw : vs.length = ws.length := sare.length
    have hvE : vs.isEmpty = ws.isEmpty := by
      cases sare <;> rfl
    by_cases hex : ws.isEmpty = false ∧ mx = 1 + 2 * r4 ∧ my = 1 + r5 ∧ mz = z
    rotate_left
    · rw [if_neg hex] at run
      split at run
      rotate_left
      · cases run
      rename_i hbd
      obtain ⟨⟨hx1, hx2⟩, ⟨hy1, hy2⟩, ⟨hz1, hz2⟩, hnn⟩ := hbd
      refine test_first true F' N' ?_ ?_
      · intro K9 hK9
        by_cases hE : ws.isEmpty = true
        · have hv1 : vs.isEmpty = true := hvE.trans hE
          k_steps
          refine ⟨rfl, hK9 _ _ (by assumption) ?_⟩
          (rename News _ _ _ (_ :: _) => N9'); exact fun p hp => N9' p (.tail _ hp)
        · have hE' : ws.isEmpty = false := by simpa using hE
          have hv1 : vs.isEmpty = false := hvE.trans hE'
          have hne3 : (!(mx == 1 + 2 * r4 && (my == 1 + r5 && mz == z))) = true := by
            cases hq : (mx == 1 + 2 * r4 && (my == 1 + r5 && mz == z)) with
            | false => rfl
            | true =>
              simp only [Bool.and_eq_true, beq_iff_eq] at hq
              exact absurd ⟨hE', hq.1, hq.2.1, hq.2.2⟩ hex
          k_steps
          refine ⟨rfl, hK9 _ _ (by assumption) ?_⟩
          (rename News _ _ _ (_ :: _) => N9'); exact fun p hp => N9' p (.tail _ hp)
      · clear F' N'
        intro h9 tk9 F9 N9
        rw [if_pos rfl]
        obtain ⟨a, ha⟩ : ∃ a, dg (wnum mx my mz / 16 / 16 / 16 / 16) = a := ⟨_, rfl⟩
        obtain ⟨b, hb⟩ : ∃ a, dg (wnum mx my mz / 16 / 16 / 16) = a := ⟨_, rfl⟩
        obtain ⟨c, hc⟩ : ∃ a, dg (wnum mx my mz / 16 / 16) = a := ⟨_, rfl⟩
        obtain ⟨d, hd'⟩ : ∃ a, dg (wnum mx my mz / 16) = a := ⟨_, rfl⟩
        obtain ⟨e, he⟩ : ∃ a, dg (wnum mx my mz) = a := ⟨_, rfl⟩
        have haB : 65 ≤ a ∧ a ≤ 80 := by rw [← ha]; unfold dg; omega
        have hbB : 65 ≤ b ∧ b ≤ 80 := by rw [← hb]; unfold dg; omega
        have hcB : 65 ≤ c ∧ c ≤ 80 := by rw [← hc]; unfold dg; omega
        have hW : w5 (mx * 65536 + my * 256 + mz) = ⟨#[a, b, c, d, e]⟩ := by
          rw [← ha, ← hb, ← hc, ← hd', ← he]; rfl
        obtain ⟨r1, hr1⟩ : ∃ r, (b == 65 && c == a) = r := ⟨_, rfl⟩
        obtain ⟨r2, hr2⟩ : ∃ r, (d == b && e == c) = r := ⟨_, rfl⟩
        have hF : isFront (wnum mx my mz) = r1 := by unfold isFront; rw [hb, hc, ha]; exact hr1
        have hB : isBack (wnum mx my mz) = r2 := by unfold isBack; rw [hd', hb, he, hc]; exact hr2
        obtain ⟨k, hk⟩ : ∃ k, bisW ws ⟨#[a, b, c, d, e]⟩ = k := ⟨_, rfl⟩
        have hI : insF ws (w5 (wnum mx my mz)) = ws.take k.toNat ++ ⟨#[a, b, c, d, e]⟩ :: ws.drop k.toNat := by
          unfold insF
          rw [show w5 (wnum mx my mz) = ⟨#[a, b, c, d, e]⟩ from hW, hk]
        rw [hI, hF, hB] at run
        clear ha hb hc hd' he hF hB hI
        have hn' : sqs.getD mx.toNat 0 + 4 * my * mz = nOf (1 + 2 * r4) (1 + r5) z := hnn
        (k_with "my item" => ((k_dflt (refine item_int (by k_asm) (by k_mem) hsq (by omega) (by show _ < (20 : Int); omega) (by decide) ?_)); (intro t9'); (try dsimp only)))
        (k_with "my call" => ((with_reducible show wpAny _ _ (call (Value.ref 86) _) _ _ _); k_dflt (refine' use_word ?k1 ?k2 ?k3 ?k4 ?k5 ?k6 ?k7 ?k8 ?k9 ?kI ?kJ hW ?_; (case k1 => k_asm); (case k2 => k_asm); (case k3 => k_asm); (case k4 => k_asm); (case k5 => k_asm); (case k6 => first | exact rfl | assumption); (case k7 => decide); (case k8 => decide); (case k9 => omega); (case kI => omega); (case kJ => omega); k_whole); (intro t9' h9' tk9' F9' N9'); (try dsimp only)))
        (k_with "my call" => ((with_reducible show wpAny _ _ (call (Value.ref 65) _) _ _ _); k_dflt (refine' use_insort ?k1 ?k2 ?k3 ?k4 ?k5 ?k6 ?k7 ?k8 sare ?k9 hk ?kU ?_; (case k1 => k_asm); (case k2 => k_asm); (case k3 => k_asm); (case k4 => k_asm); (case k5 => k_asm); (case k6 => first | exact rfl | assumption); (case k7 => decide); (case k8 => decide); (case k9 => omega); (case kU => k_upd); k_whole); (intro h9' tk9' F9' N9'); (try dsimp only)))
        (k_with "my call" => ((with_reducible show wpAny _ _ (call (Value.ref 21) _) _ _ _); k_dflt (refine' use_front ?k1 ?k2 ?k3 ?k4 ?k5 ?k6 ?k7 ?k8 haB hr1 ?_; (case k1 => k_asm); (case k2 => k_asm); (case k3 => k_asm); (case k4 => k_asm); (case k5 => k_asm); (case k6 => first | exact rfl | assumption); (case k7 => decide); (case k8 => decide); k_whole); (intro h9' tk9' F9' N9'); (try dsimp only)))
        (k_with "my call" => ((with_reducible show wpAny _ _ (call (Value.ref 21) _) _ _ _); k_dflt (refine' use_back ?k1 ?k2 ?k3 ?k4 ?k5 ?k6 ?k7 ?k8 hbB hcB hr2 ?_; (case k1 => k_asm); (case k2 => k_asm); (case k3 => k_asm); (case k4 => k_asm); (case k5 => k_asm); (case k6 => first | exact rfl | assumption); (case k7 => decide); (case k8 => decide); k_whole); (intro h9' tk9' F9' N9'); (try dsimp only)))
        (k_with "my call" => ((with_reducible show wpAny _ _ (call (Value.ref 93) _) _ _ _); k_dflt (refine' use_move ?k1 ?k2 ?k3 ?k4 ?k5 ?k6 ?k7 ?k8 ?_; (case k1 => k_asm); (case k2 => k_asm); (case k3 => k_asm); (case k4 => k_asm); (case k5 => k_asm); (case k6 => first | exact rfl | assumption); (case k7 => decide); (case k8 => decide); k_whole); (intro D9' u9' v9' w9' h9' tk9' l9' F9' N9'); (try k_lt l9'); (dsimp only [tup] at N9'); (try dsimp only)))
        k_steps
        all_goals (
          refine' WEnd.intro (MSt.mk (mvX mx my mz) (mvZ mx my mz) (mvY mx my mz) _ u9' w9' v9' (vs.take k.toNat ++ Value.str ⟨#[a, b, c, d, e]⟩ t9' :: vs.drop k.toNat) (ws.take k.toNat ++ ⟨#[a, b, c, d, e]⟩ :: ws.drop k.toNat) _ _ _ _ f) ?eF ?eN ?el ?ev ?em ?ek ?es
          case eF => assumption
          case eN => assumption
          case ev =>
            dsimp only [MSt.vals]
            refine List.forall_mem_cons.mpr ⟨?_, List.forall_mem_cons.mpr ⟨?_, List.forall_mem_cons.mpr ⟨?_, List.forall_mem_nil _⟩⟩⟩
            all_goals with_unfolding_all rfl
          case el =>
            dsimp only [MSt.led, tup]
            exact List.forall_mem_cons.mpr ⟨.head _, List.forall_mem_cons.mpr ⟨.tail _ (.tail _ (.tail _ (.head _))), List.forall_mem_cons.mpr ⟨.tail _ (.tail _ (.tail _ (.tail _ (.head _)))), List.forall_mem_cons.mpr ⟨.tail _ (.tail _ (.tail _ (.tail _ (.tail _ (.head _))))), List.forall_mem_cons.mpr ⟨.tail _ (.tail _ (.tail _ (.tail _ (.tail _ (.tail _ (.head _)))))), List.forall_mem_cons.mpr ⟨.tail _ (.tail _ (.tail _ (.tail _ (.tail _ (.tail _ (.tail _ (.head _))))))), List.forall_mem_nil _⟩⟩⟩⟩⟩⟩
          case em =>
            intro y q1 q2
            have a1 : y ≠ Str.ofString "mill" := q1 _ (.head _)
            have a2 : y ≠ Str.ofString "fronts" := q1 _ (.tail _ (.head _))
            have a3 : y ≠ Str.ofString "backs" := q1 _ (.tail _ (.tail _ (.head _)))
            have a4 : y ≠ Str.ofString "x" := q2 _ (.head _)
            have a5 : y ≠ Str.ofString "y" := q2 _ (.tail _ (.head _))
            have a6 : y ≠ Str.ofString "z" := q2 _ (.tail _ (.tail _ (.head _)))
            have a7 : y ≠ Str.ofString "word" := q2 _ (.tail _ (.tail _ (.tail _ (.head _))))
            simp only [a1, a2, a3, a4, a5, a6, a7, if_false]
          case ek =>
            refine ⟨?_, strs_ins sare k.toNat, ?_, ?_⟩
            · (first | ((have h1 : r1 = true := (by assumption)); rw [h1, if_pos rfl] at run) | ((have h1 : r1 = false := (by assumption)); rw [h1, if_neg Bool.false_ne_true] at run))
              (first | ((have h2 : r2 = true := (by assumption)); rw [h2, if_pos rfl] at run) | ((have h2 : r2 = false := (by assumption)); rw [h2, if_neg Bool.false_ne_true] at run))
              exact run
            · dsimp only
              rw [List.length_append, List.length_cons, List.length_take, List.length_drop]
              omega
            · k_ne
          case es => exact Nat.lt_succ_self _)
    · obtain ⟨hE', hq1, hq2, hq3⟩ := hex
      rw [if_pos ⟨hE', hq1, hq2, hq3⟩] at run
      cases run
      have hv1 : vs.isEmpty = false := hvE.trans hE'
      have hne3 : (!(mx == 1 + 2 * r4 && (my == 1 + r5 && mz == z))) = false := by
        rw [hq1, hq2, hq3, beq_self_eq_true, beq_self_eq_true, beq_self_eq_true]; rfl
      refine test_first false F' N' ?_ ?_
      · intro K9 hK9
        k_steps
        refine ⟨rfl, hK9 _ _ (by assumption) ?_⟩
        (rename News _ _ _ (_ :: _) => N9'); exact fun p hp => N9' p (.tail _ hp)
      clear F' N'
      intro h9 tk9 F9 N9
      rw [if_neg Bool.false_ne_true]
      (k_with "my comp" => (refine Hold.out ?_))
      have hsp : sortedF wsF wsF.length = true ∧ Hold ((wsF.length : Int) = ps.sum) ∧ ps.length < 60 ∧ wsF.length < 60 ∧ Hold (0 ≤ bisQ (nOf (1 + 2 * r4) (1 + r5) z) ∧ bisQ (nOf (1 + 2 * r4) (1 + r5) z) < 20) := by
        rw [Bool.and_eq_true, Bool.and_eq_true, Bool.and_eq_true, Bool.and_eq_true, Bool.and_eq_true] at hlaw
        exact ⟨hlaw.1.1.1.1.1, Hold.intro (of_decide_eq_true hlaw.1.1.1.1.2), of_decide_eq_true hlaw.1.1.1.2, of_decide_eq_true hlaw.1.1.2, Hold.intro (of_decide_eq_true hlaw.1.2)⟩
      have hlast := Hold.intro (and_right_of hlaw)
      clear hlaw
      obtain ⟨hsort, hsum, hpl, hwl, hroot⟩ := hsp
      k_steps
      refine Hold.intro ?_
      lcg_calm
      refine LCt.ListComp_T (F₀ := by k_asm) (by with_unfolding_all rfl) (by decide) (by rfl) (by decide) (by rfl) ?_
      (k_with "my src" => (refine Hold.out ?_))
      k_steps
      refine Hold.intro ?_
      refine LCt.CompSrcT.range (by rfl) (by k_asm) (by k_asm) (by assumption) (small_one (by omega) (by omega) (by omega) (by omega)) (rangeSize_nat _ _) (by rw [PySem.sizeLine_eq]; omega) ?_
      intro g'
      refine' kci_range (fun l _ => l) (fun k' t' I' oI' C' oC' D' m' ys' l' h' tk' E' hlo' hhi' hI' hC' hx' F' N' off' ne' => ?_) ?_ ?_
      · intro hMark'
        simp only [LCg.Off3, and_true] at off'
        obtain ⟨hk0, hk1, hk2, hk3⟩ := kf_of hlo' hhi'
        have hks : ltS (wsF.getD (k' - 1).toNat Str.empty) (wsF.getD k'.toNat Str.empty) = true := sorted_at _ hsort k' hlo' hk3
        have hk4 : wsF.length < 1000000 := Nat.lt_trans hwl (Nat.le_of_ble_eq_true rfl)
        (k_with "my item2" => (k_dflt (refine item_strs (by k_asm) (by k_mem) sare hk0 hk1 hk4 ?_); (intro t9'); (try dsimp only)))
        (k_with "my item3" => (k_dflt (refine item_strs (by k_asm) (by k_mem) sare hk2 hk3 hk4 ?_); (intro t9'); (try dsimp only)))
        try k_fold
        k_steps
      · show ∀ _, _ → _ → _
        intro ys7 hys7 hle7
        rw [foldl_keep] at hys7
        cases hys7
        clear hle7
        obtain ⟨M, hM⟩ : ∃ M, w5 (wnum (1 + 2 * r4) z (1 + r5)) = M := ⟨_, rfl⟩
        obtain ⟨kk, hkk⟩ : ∃ k, bisW wsF M = k := ⟨_, rfl⟩
        have h7 := Hold.out hlast
        rw [hM, hkk] at h7
        have hways := Hold.intro (last_cases h7)
        clear h7 hlast
        have hkb := Hold.intro (bisW_le wsF M)
        rw [hkk] at hkb
        have hstx := st_x hr4
        have hsty := st_y hr5
        have hstz := st_z hb3 hb4
        (k_with "my ne2" => (refine ne_nil (vs := []) (j := 0) (by k_asm) (by with_unfolding_all k_mem) (by k_mem) (by k_units) rfl ?_))
        (k_with "my call" => ((with_reducible show wpAny _ _ (call (Value.ref 100) _) _ _ _); k_dflt (refine' use_parts ?k1 ?k2 ?k3 ?k4 ?k5 ?k6 ?k7 ?k8 hparts ?_; (case k1 => k_asm); (case k2 => k_asm); (case k3 => k_asm); (case k4 => k_asm); (case k5 => k_asm); (case k6 => first | exact rfl | assumption); (case k7 => decide); (case k8 => decide); k_whole); (intro D8' ys8' h9' tk9' l9' hi8' F9' N9'); (have hL9' := hi8'.length); (try dsimp only)))
        (k_with "my sum" => (k_dflt (refine sum_led (by k_asm) (by k_asm) (by rfl) (by k_mem) (by assumption) (Hold.out hsum).symm ?_); (intro h9' tk9' t9' F9' N9'); (try dsimp only)))
        (k_with "my call" => ((with_reducible show wpAny _ _ (call (Value.ref 86) _) _ _ _); k_dflt (refine' use_word ?k1 ?k2 ?k3 ?k4 ?k5 ?k6 ?k7 ?k8 ?k9 ?kI ?kJ hM ?_; (case k9 => exact hstx); (case kI => exact hstz); (case kJ => exact hsty); (case k1 => k_asm); (case k2 => k_asm); (case k3 => k_asm); (case k4 => k_asm); (case k5 => k_asm); (case k6 => first | exact rfl | assumption); (case k7 => decide); (case k8 => decide); k_whole); (intro t9' h9' tk9' F9' N9'); (try dsimp only)))
        (k_with "my call" => ((with_reducible show wpAny _ _ (call (Value.ref 74) [Value.ref _, Value.str _ _]) _ _ _); k_dflt (refine' use_bisW ?k1 ?k2 ?k3 ?k4 ?k5 ?k6 ?k7 ?k8 ?k9 sare hwl hkk ?_; (case k1 => k_asm); (case k2 => k_asm); (case k3 => k_asm); (case k4 => k_asm); (case k5 => k_asm); (case k6 => first | exact rfl | assumption); (case k7 => decide); (case k8 => decide); (case k9 => k_mem); k_whole); (intro t9' h9' tk9' F9' N9'); (try dsimp only); (refine Hold.out ?_)))
        k_steps
        refine Hold.intro ?_
        replace hways := Hold.out hways
        rcases hways with ⟨w1, w2, w3⟩ | ⟨w1, w2, w3, w4⟩ | ⟨w1, w2, w3, w4, w5'⟩ | ⟨w1, w2, w3, w4, w5', w6⟩
        · k_steps
        · (k_with "my item3" => (k_dflt (refine item_strs (by k_asm) (by k_mem) sare (Hold.out hkb).1 (lt_of_ne_le (Hold.out hkb).2 w1) (Nat.lt_trans hwl (Nat.le_of_ble_eq_true rfl)) ?_); (intro t9'); (try dsimp only)))
          k_steps
        · (k_with "my item3" => (k_dflt (refine item_strs (by k_asm) (by k_mem) sare (Hold.out hkb).1 (lt_of_ne_le (Hold.out hkb).2 w1) (Nat.lt_trans hwl (Nat.le_of_ble_eq_true rfl)) ?_); (intro t9'); (try dsimp only)))
          k_steps
        · (k_with "my item3" => (k_dflt (refine item_strs (by k_asm) (by k_mem) sare (Hold.out hkb).1 (lt_of_ne_le (Hold.out hkb).2 w1) (Nat.lt_trans hwl (Nat.le_of_ble_eq_true rfl)) ?_); (intro t9'); (try dsimp only)))
          k_steps
          refine Hold.intro ?_
          have hr9 := Hold.out hroot
          try lcg_calm
          refine LCt.ListComp_T (F₀ := by k_asm) (by with_unfolding_all rfl) (by decide) (by rfl) (by decide) (by rfl) ?_
          k_steps
          refine Hold.intro ?_
          refine LCt.CompSrcT.range (by rfl) (by k_asm) (by k_asm) (by assumption) (rg_small hr9) (rangeSize_nat _ _) (rg_size hr9) ?_
          intro g'
          refine' kci_range (fun l k => if (nOf (1 + 2 * r4) (1 + r5) z).fmod k = 0 then l ++ [k] else l) (fun k' t' I' oI' C' oC' D' m' ys' l' h' tk' E' hlo' hhi' hI' hC' hx' F' N' off' ne' => ?_) ?_ ?_
          · intro hMark'
            have offK := off'
            simp only [LCg.Off3, and_true] at off'
            (k_with "my cend" => (refine LCg.CompEnd.intro (by assumption) (by assumption) _ (by first | exact fun _ hp => hp | lcg_sub) offK (by lcg_src) ?_))
            by_cases hq : (nOf (1 + 2 * r4) (1 + r5) z).fmod k' = 0
            · (k_with "my el" => (refine kci_el (if_pos hq) (by with_unfolding_all rfl) (by with_unfolding_all rfl)))
              try k_fold
              k_steps
            · (k_with "my no" => (refine kci_no (if_neg hq) (by with_unfolding_all rfl)))
              try k_fold
              k_steps
          · show ∀ _, _ → _ → _
            intro ys7 hys7 hle7
            have hv7 := some_div w6 hys7
            clear hle7
            (k_with "my ne2" => (refine ne_nil (vs := ys7) (j := 0) (by k_asm) (by with_unfolding_all k_mem) (by k_mem) (by k_units) hv7 ?_))
            k_steps
          · exact grows_if _
      · exact fun l k => Nat.le_succ _
end
end Mine
theorem PySem.Challenge.cw_sr0034_01_holds : PySem.Challenge.rw_sr0034_01.Holds := by
  exact Mine.law_ok
