import PyProof.Rows.All
import Wide.All
import OpenK.AllK
import Wide.FinOn
import PySem.Challenge.RW_ey0019_01
open PySem PySem.W PyProof.Rows PySem.Calls
set_option Elab.async false
set_option maxRecDepth 100000

namespace Mine
set_option maxHeartbeats 0 in
open_top hd for PySem.Challenge.rw_ey0019_01
end Mine

/- part M0 -/
namespace Mine
set_option maxHeartbeats 4000000

abbrev PR : PySem.Program := PySem.Challenge.rw_ey0019_01.row.prog
abbrev Kp (h h' : Heap) : Prop := ∀ b o, h.get? b = some o → h'.get? b = some o
def LN : List PySem.Str := ["_wall", "__name__", "_tuplegetter", "CellTable", "tuple", "WIDTHS", "NARROW_TO_WIDE", "load", "_SINGLE_CELL_UNICODE_RANGES", "_is_single_cell_widths", "get_character_cell_size", "cached_cell_len", "cell_len", "_cell_len", "split_graphemes", "chop_cells", "_law_draw", "_law_state", "_law_size", "_law_text", "_law_pieces", "_law_lines", "law"].map PySem.Str.ofString

structure Gd (w : World) (mean : ExcName → Option Value) (mg mb : PySem.Str → Option Value) (h : Heap) : Prop where
  K : (hd.heap_39 w.params).In h
  T : Top topProg LN mean mg mb h
theorem Gd.keeps {w : World} {mean : ExcName → Option Value} {mg mb : PySem.Str → Option Value} {h h' : Heap} (G : Gd w mean mg mb h) (k : Kp h h') : Gd w mean mg mb h' := ⟨G.K.keeps k, G.T.keeps k⟩

section
variable {w : World} {mean : ExcName → Option Value} {mg mb : PySem.Str → Option Value} {dp un : Nat} {fr : Option (List Env)} {gd : Option (List PySem.Code)} {s : Shared} {g : Heap} {news : List (Addr × Obj)} {R : Result → Shared → Prop}
  {name qual : PySem.Str} {params : Arguments} {body : List Stmt} {scope : Scope} {dV kV doc pm cdv ct oc : Value} {an od : Option Addr} {osl : Array (Option Value)} {f : Addr} {args : Args} {binds : List (PySem.Str × Value)}

/-- a def of the text is entered, over a base heap g that it keeps -/
theorem enter (G : Gd w mean mg mb g) (kg : Kp g s.heap) (sz : g.objs.size ≤ s.heap.objs.size) (N : ∀ p ∈ news, s.heap.get? p.1 = some p.2 ∧ g.get? p.1 = none)
    (ho : (hd.heap_39 w.params).lookup f = some ⟨oc, od, .func (fnOf name qual params body scope dV kV doc pm an cdv ct), osl⟩) (hcd : codeIn (hd.heap_39 w.params) cdv qual = true) (hroom : dp < recursionLimit)
    (hbind : BindsTo s (fnOf name qual params body scope dV kV doc pm an cdv ct) args binds) (hloc : ∀ y ∈ binds, scope.names.lookup y.1 = some .local)
    (h : ∀ L' h₁, Fr g L' h₁ (fun y => binds.reverse.lookup y) → News g L' h₁ news → (∀ p ∈ news, p.1 < L') → Kp s.heap h₁ → (hd.heap_39 w.params).In g → Top topProg LN mean mg mb g →
      wpAny (model PR w) (Around.deeper ⟨none, dp, fr, gd, un⟩ (envOf qual scope L' f cdv)) (execs body (envOf qual scope L' f cdv))
        (fun fl s' => R (.ok (.ret (match fl with | .ret v => v | _ => .none))) s') (fun _ _ => False) { s with heap := h₁, toks := s.toks + binds.length })
    (hco : scope.isCoroutine = false) (hgen : scope.isGenerator = false) (hk : scope.kind = .function)
    (hcell : ∀ x ∈ scope.names, x.2 ≠ .cell) : codeAny (model PR w) ⟨none, dp, fr, gd, un⟩ (.call (.ref f) args) R s := by
  refine codeAny_call_def (fd := fnOf name qual params body scope dV kV doc pm an cdv ct) (body := body) (binds := binds) hroom (kg _ _ (G.K _ _ ho)) rfl (G.T.nolimit.keeps kg) (codeRec_of (G.K.keeps kg) hcd) rfl hbind hcell hloc (fun h₁ hns hk₁ => ?_) hco hgen hk
  exact wpAny_mono (h s.heap.objs.size h₁ ⟨hns, fun b o e => hk₁ b o (kg _ _ e), sz⟩ (fun p hp => ⟨hk₁ _ _ (N p hp).1, Nat.ne_of_lt (Heap.lt_size (N p hp).1), (N p hp).2⟩) (fun p hp => Heap.lt_size (N p hp).1) hk₁ G.K G.T) (fun fl s' hl => hl) fun _ _ y => y.elim
end

/-- what a call of a def of the text gives, where it keeps all that stands -/
def PCall (w : World) (f : Addr) (args : List Value) (nd nu : Nat) (C : Heap → Prop) (P : Value → Heap → Heap → Prop) : Prop :=
  ∀ (mean : ExcName → Option Value) (mg mb : PySem.Str → Option Value) (dp un : Nat) (fr : Option (List Env)) (gd : Option (List PySem.Code)) (s : Shared) (R : Result → Shared → Prop),
    dp + nd < recursionLimit → un + nu < cLine → Gd w mean mg mb s.heap → C s.heap →
    (∀ v h' tk', P v s.heap h' → Kp s.heap h' → R (.ok (.ret v)) { s with heap := h', toks := tk' }) →
    codeAny (model PR w) ⟨none, dp, fr, gd, un⟩ (.call (.ref f) ⟨args, []⟩) R s

section
variable {w : World} {mean : ExcName → Option Value} {mg mb : PySem.Str → Option Value} {dp un nd nu : Nat} {fr : Option (List Env)} {gd : Option (List PySem.Code)} {s : Shared} {h₀ : Heap} {L : Addr} {m : PySem.Str → Option Value} {news : List (Addr × Obj)}
  {f : Addr} {args : List Value} {C : Heap → Prop} {P : Value → Heap → Heap → Prop} {Q E : Value → Shared → Prop}
theorem Fr.kp {h h' : Heap} (F : Fr h₀ L h m) (k : Kp h h') : Fr h₀ L h' m := ⟨F.ns.keeps k, fun b o e => k _ _ (F.keep b o e), F.above⟩
theorem News.kp {h h' : Heap} (N : News h₀ L h news) (k : Kp h h') : News h₀ L h' news := fun p hp => ⟨k _ _ (N p hp).1, (N p hp).2⟩
theorem News.fresh1 {h h' : Heap} {a : Addr} {o : Obj} (F : Fr h₀ L h m) (N : News h₀ L h' news) (hf : h.get? a = none) (ha : h'.get? a = some o) : News h₀ L h' ((a, o) :: news) := fun p hp => by
  rcases List.mem_cons.mp hp with rfl | hp
  · refine ⟨ha, fun e => ?_, ?_⟩
    · obtain ⟨oL, es, ep, hL, _⟩ := F.ns
      have e : a = L := e
      rw [← e, hf] at hL; cases hL
    · cases q : h₀.get? a with
      | none => rfl
      | some o' => have := F.keep _ _ q; rw [hf] at this; cases this
  · exact N p hp
theorem useP (c : PCall w f args nd nu C P) (F : Fr h₀ L s.heap m) (N : News h₀ L s.heap news) (X : (hd.heap_39 w.params).In h₀) (T : Top topProg LN mean mg mb h₀) (hdp : dp + nd < recursionLimit) (hun : un + nu < cLine) (hc : C s.heap)
    (h : ∀ v h' tk', P v s.heap h' → Kp s.heap h' → Fr h₀ L h' m → News h₀ L h' news → Q v { s with heap := h', toks := tk' }) :
    wpAny (model PR w) ⟨none, dp, fr, gd, un⟩ (call (.ref f) args) Q E s :=
  wpAny_call (c mean mg mb dp un fr gd s _ hdp hun ⟨X.keeps F.keep, T.keeps F.keep⟩ hc fun v h' tk' p k => h v h' tk' p k (Fr.kp F k) (News.kp N k))
end
end Mine

/- part L0 -/
namespace Mine
set_option maxHeartbeats 4000000
local macro_rules | `(tactic| walk_at "MINE fill") => `(tactic| (w_top off; have : ∀ (P : Params) (h : Heap), (hd.heap_39 P).In h → PySem.Challenge.rw_ey0019_01.Holds → True := by (k_fill; intros; trivial)))
local macro_rules | `(tactic| k_room) => `(tactic| ((try simp only [depth_under_make, depth_under_kw, depth_in1, depth_deeper, depth_caller]); omega))
local macro_rules | `(tactic| walk_at "MINE enter") => `(tactic| (k_dflt (refine' enter (news := []) ?G ?kg ?sz ?N ?ho ?hcd ?hroom ?hbind ?hloc ?_ ?c1 ?c2 ?c3 ?c4; (case G => assumption); (case kg => exact fun _ _ e => e); (case sz => exact Nat.le_refl _); (case N => exact fun _ h => nomatch h); (case ho => k_is); (case hcd => k_is); (case hroom => omega); (case hbind => first | exact BindsTo.of_eq rfl | exact binds_K (Gd.K (by assumption)) rfl (by k_is) rfl rfl rfl); (case hloc => exact locs rfl); (case c1 => exact rfl); (case c2 => exact rfl); (case c3 => exact rfl); (case c4 => decide)); intro L' h₁ F' N' l1 kp X' T'; (try dsimp only); (try k_fold)))
local macro_rules | `(tactic| walk_at "MINE rm") => `(tactic| first | omega | ((try simp only [depth_deeper, depth_in1, units_deeper, units_in1]); (try dsimp only); omega))
def Stop (P : Prop) : Prop := P
theorem stop_of {P : Prop} (h : Stop P) : P := h
theorem Fr.force {g h : Heap} {L : Addr} {m : PySem.Str → Option Value} (ps : List (PySem.Str × Value)) (F : Fr g L h m) (hp : ∀ p ∈ ps, m p.1 = some p.2) : Fr g L h (kstB m ps) := by
  have e : kstB m ps = m := by
    funext z
    exact kstB_eq hp fun _ => rfl
  rw [e]; exact F
def Again (I : Nat → Shared → Prop) (n : Nat) (s : Shared) : Prop := ∃ m, m < n ∧ I m s
theorem whileL {prog : Program} {w : World} {A : Around} {R : Result → Shared → Prop} {s : Shared} {test : Expr} {body orelse : List Stmt} {env : Env} (I : Nat → Shared → Prop)
    (turn : ∀ n s, I n s → wpAny (model prog w) A (isTrue test env (eval test env)) (fun b s₂ =>
        if b then wpAny (model prog w) A (execs body env) (fun f s₃ => match f with
            | .next | .cont => Again I n s₃
            | .brk => R (.ok .next) s₃
            | .ret v => R (.ok (.ret v)) s₃) (fun _ _ => False) s₂
        else wpAny (model prog w) A (execs orelse env) (fun f s₃ => R (.ok f) s₃) (fun _ _ => False) s₂) (fun _ _ => False) s)
    (n : Nat) (h : I n s) : codeAny (model prog w) A (.whileLoop test body orelse env) R s :=
  codeAny_whileLoop I (fun n s hI => wpAny_mono (turn n s hI) (fun b s₂ h₂ => by
    cases b with
    | true => exact wpAny_mono h₂ (fun f s₃ h₃ => h₃) fun _ _ x => x.elim
    | false => exact wpAny_mono h₂ (fun f s₃ h₃ => h₃) fun _ _ x => x.elim) fun _ _ x => x.elim) n h
/-- the end of a loop's turn -/
def LEnd (g : Heap) (L I : Addr) (J : (PySem.Str → Option Value) → List (Addr × Obj) → Prop) (oI : Obj) (s s₃ : Shared) : Prop :=
  ∃ h tk m news, s₃ = { s with heap := h, toks := tk } ∧ Fr g L h m ∧ News g L h ((I, oI) :: news) ∧ (∀ p ∈ news, p.1 ≠ I) ∧ J m news
section
variable {prog : Program} {w : World} {A : Around} {R : Result → Shared → Prop} {s : Shared} {target : Expr} {body orelse : List Stmt} {env : Env} {g : Heap} {L I : Addr} {fp : List Addr} {n : Nat} {P : Nat → Value → Prop} {St : Nat → Heap → Prop} {m₀ : PySem.Str → Option Value} {news₀ : List (Addr × Obj)}
theorem forI (J : Nat → (PySem.Str → Option Value) → List (Addr × Obj) → Prop) (W : Walks prog w A I fp [I] n P St)
    (hfp : ∀ b ∈ fp, b = I ∨ (∃ o, g.get? b = some o) ∨ ∃ o, ∀ i m news, J i m news → (b, o) ∈ news) (hIf : I ∈ fp)
    (hIL : I ≠ L) (hIg : g.get? I = none) (hst : St 0 s.heap) (hob : ∀ i h, St i h → ∃ o, h.get? I = some o)
    (ht : ∀ i v (s : Shared) (Q : Unit → Shared → Prop) (E : Value → Shared → Prop), St i s.heap → Q () s → wpAny (model prog w) A (letOwnedTupleGo target (.ref I) v) Q E s)
    (F : Fr g L s.heap m₀) (N : News g L s.heap news₀) (hn : ∀ p ∈ news₀, p.1 ≠ I) (hj : J 0 m₀ news₀)
    (turn : ∀ i v m news oI h tk, i < n → P i v → J i m news → (∀ p ∈ news, p.1 ≠ I) → Fr g L h m → News g L h ((I, oI) :: news) →
      wpAny (model prog w) A (assign target env v) (fun _ s₂ => wpAny (model prog w) A (execs body env) (fun f s₃ => match f with
        | .next | .cont => LEnd g L I (J (i + 1)) oI s s₃
        | .brk => R (.ok .next) s₃
        | .ret v => R (.ok (.ret v)) s₃) (fun _ _ => False) s₂) (fun _ _ => False) { s with heap := h, toks := tk })
    (done : ∀ m news h tk, J n m news → Fr g L h m → News g L h news → wpAny (model prog w) A (execs orelse env) (fun f s₃ => R (.ok f) s₃) (fun _ _ => False) { s with heap := h, toks := tk }) :
    codeAny (model prog w) A (.forLoop target (.ref I) body orelse env) R s := by
  refine codeAny_forLoop_any (fun k s' => ∃ i h tk m news, s' = { s with heap := h, toks := tk } ∧ St i h ∧ Fr g L h m ∧ News g L h news ∧ (∀ p ∈ news, p.1 ≠ I) ∧ J i m news ∧ i ≤ n ∧ k = n + 1 - i) ?_ (n + 1)
    ⟨0, s.heap, s.toks, m₀, news₀, rfl, hst, F, N, hn, hj, Nat.zero_le _, rfl⟩
  rintro k s' ⟨i, h, tk, m, news, rfl, hst', F', N', hn', hJ, hi, rfl⟩
  have kg : ∀ h₁ : Heap, (∀ b o, b ∉ [I] → h.get? b = some o → h₁.get? b = some o) → Fr g L h₁ m ∧ News g L h₁ news := fun h₁ hk =>
    ⟨⟨F'.ns.at' fun o e => hk L o (fun q => hIL (List.mem_singleton.mp q).symm) e, fun b o e => hk b o (fun q => by rw [List.mem_singleton.mp q, hIg] at e; cases e) (F'.keep b o e), F'.above⟩,
      fun p hp => ⟨hk _ _ (fun q => hn' p hp (List.mem_singleton.mp q)) (N' p hp).1, (N' p hp).2⟩⟩
  by_cases hlt : i < n
  · refine W.item i _ _ _ hlt hst' fun v h₁ tk₁ hP hst₁ hk => ?_
    obtain ⟨F₁, N₁⟩ := kg h₁ hk
    obtain ⟨oI, hI⟩ := hob _ _ hst₁
    refine ht (i + 1) v _ _ _ hst₁ ?_
    have NI : News g L h₁ ((I, oI) :: news) := fun p hp => by
      rcases List.mem_cons.mp hp with rfl | hp
      · exact ⟨hI, hIL, hIg⟩
      · exact N₁ p hp
    refine wpAny_mono (turn i v m news oI h₁ tk₁ hlt hP hJ hn' F₁ NI) (fun _ s₂ h₂ => wpAny_mono h₂ (fun f s₃ h₃ => ?_) fun _ _ x => x.elim) fun _ _ x => x.elim
    have fin : LEnd g L I (J (i + 1)) oI s s₃ → ∃ m, m < n + 1 - i ∧ ∃ i h tk m' news, s₃ = { s with heap := h, toks := tk } ∧ St i h ∧ Fr g L h m' ∧ News g L h news ∧ (∀ p ∈ news, p.1 ≠ I) ∧ J i m' news ∧ i ≤ n ∧ m = n + 1 - i := by
      rintro ⟨h₄, tk₄, m₄, news₄, rfl, F₄, N₄, hn₄, hJ₄⟩
      refine ⟨n + 1 - (i + 1), by omega, i + 1, h₄, tk₄, m₄, news₄, rfl, ?_, F₄, fun p hp => N₄ p (.tail _ hp), hn₄, hJ₄, hlt, rfl⟩
      refine W.frame _ _ _ hst₁ fun b hb o e => ?_
      rcases hfp b hb with rfl | ⟨o', ho'⟩ | ⟨o', ho'⟩
      · have e2 := (N₄ _ (.head _)).1
        rw [hI] at e; cases e; exact e2
      · have := F₁.keep _ _ ho'
        rw [e] at this; cases this
        exact F₄.keep _ _ ho'
      · have := (N₁ _ (ho' i m news hJ)).1
        have e1 : h₁.get? b = some o' := this
        rw [e] at e1; cases e1
        exact (N₄ _ (.tail _ (ho' _ _ _ hJ₄))).1
    cases f with
    | next => exact fin h₃
    | cont => exact fin h₃
    | brk => exact h₃
    | ret v => exact h₃
  · have hin : i = n := by omega
    subst hin
    refine W.done _ _ _ hst' fun h₁ tk₁ hk => ?_
    obtain ⟨F₁, N₁⟩ := kg h₁ hk
    exact wpAny_mono (done m news h₁ tk₁ hJ F₁ N₁) (fun _ _ x => x) fun _ _ x => x.elim
end
section
variable {prog : Program} {w : World} {A : Around} {E : Value → Shared → Prop} {Q : Flow → Shared → Prop} {s : Shared} {x : PySem.Str} {px pos : Pos} {iter : Expr} {body orelse : List Stmt} {env : Env} {g : Heap} {L : Addr} {m₀ : PySem.Str → Option Value} {news₀ : List (Addr × Obj)}
theorem ltName {A : Around} {Q : Unit → Shared → Prop} {E : Value → Shared → Prop} {s : Shared} {I : Addr} {v : Value} (h : Q () s) : wpAny (model prog w) A (letOwnedTupleGo (.Name x px) (.ref I) v) Q E s := wpAny_pure h
/-- for x in a text: the state behind the iter expression -/
theorem forStr {xt : PySem.Str} {tx : Tok} (J : Nat → (PySem.Str → Option Value) → List (Addr × Obj) → Prop) (hh : A.handled = none) (F : Fr g L s.heap m₀) (N : News g L s.heap news₀) (hj : J 0 m₀ news₀)
    (turn : ∀ i c t m news I oI h tk, xt.cps[i]? = some c → J i m news → (∀ p ∈ news, p.1 ≠ I) → s.heap.objs.size = I → Fr g L h m → News g L h ((I, oI) :: news) →
      wpAny (model prog w) A (assign (.Name x px) env (.str ⟨#[c]⟩ t)) (fun _ s₂ => wpAny (model prog w) A (execs body env) (fun f s₃ => match f with
        | .next | .cont => LEnd g L I (J (i + 1)) oI s s₃
        | .brk => Q .next s₃
        | .ret v => Q (.ret v) s₃) (fun _ _ => False) s₂) (fun _ _ => False) { s with heap := h, toks := tk })
    (done : ∀ m news h tk, J xt.cps.size m news → Fr g L h m → News g L h news → wpAny (model prog w) A (execs orelse env) (fun f s₃ => Q f s₃) (fun _ _ => False) { s with heap := h, toks := tk }) :
    wpAny (model prog w) A (pyIter (.str xt tx)) (fun it s₂ => codeAny (model prog w) A (.forLoop (.Name x px) it body orelse env) (fun r s' => match r with | .ok f => Q f s' | .error e => cameBackBy (model prog w) A env E e s') s₂) E s := by
  have key : ∀ (o : Obj) (St : Nat → Heap → Prop), Walks prog w A s.heap.objs.size [s.heap.objs.size] [s.heap.objs.size] xt.cps.size (SignAt xt) St → (∀ i h, St i h → ∃ o, h.get? s.heap.objs.size = some o) → St 0 (s.heap.push o) →
      codeAny (model prog w) A (.forLoop (.Name x px) (.ref s.heap.objs.size) body orelse env) (fun r s' => match r with | .ok f => Q f s' | .error e => cameBackBy (model prog w) A env E e s') { s with heap := s.heap.push o } := by
    intro o St W hob hst
    refine forI (s := { s with heap := s.heap.push o }) (fp := [s.heap.objs.size]) J W (fun b hb => .inl (List.mem_singleton.mp hb)) (.head _) (fun q => absurd F.ns.lt (q ▸ Nat.lt_irrefl _)) (next_is_new F) hst hob (fun i v s Q E _ h => ltName h) (F.push _) (fun p hp => ⟨Heap.get?_push_of_some _ (N p hp).1, (N p hp).2⟩) (fun p hp q => absurd (Heap.lt_size (N p hp).1) (q ▸ Nat.lt_irrefl _)) hj ?_ ?_
    · rintro i v m news oI h tk hi ⟨c, u, hc, rfl⟩ hJ hn F' N'
      exact turn i c u m news _ oI h tk hc hJ hn rfl F' N'
    · exact fun m news h tk hJ F' N' => done m news h tk hJ F' N'
  cases ha : xt.cps.all (· < 128)
  · exact wpAny_pyIter_wide ha (key _ _ (Walks.strWide hh _ xt tx) (fun _ _ st => let ⟨o, ho, _⟩ := st; ⟨o, ho⟩) ⟨_, Heap.get?_push_size _ rfl, rfl, rfl⟩)
  · exact wpAny_pyIter_ascii ha (key _ _ (Walks.strAscii hh _ xt tx) (fun _ _ st => let ⟨o, ho, _⟩ := st; ⟨o, ho⟩) ⟨_, Heap.get?_push_size _ rfl, rfl, rfl⟩)
theorem ltList {target : Expr} {A : Around} {Q : Unit → Shared → Prop} {E : Value → Shared → Prop} {s : Shared} {I l : Addr} {i : Nat} {v : Value} (hI : s.heap.IsListIter I l i) (h : Q () s) : wpAny (model prog w) A (letOwnedTupleGo target (.ref I) v) Q E s := by
  obtain ⟨o, ho, hc, hd⟩ := hI
  have key : ∀ a, wpAny (model prog w) A (do
      let o ← load I
      match o.cls, o.data with
      | .type n, .fields vs =>
        if ["enumerate", "zip", "dict_itemiterator", "dict_reverseitemiterator", "odict_iterator", "itertools.zip_longest", "itertools.pairwise"].contains n && vs[0]? == some (rawInt a) then
          rule "for.unpacks-the-owned-tuple"
          updateField I 0 .none
      | _, _ => pure ()) Q E s := fun a => by
    refine wpAny_bind (wpAny_load ho ?_)
    rw [hc, hd]
    dsimp only
    rw [if_neg (by
      rw [show (["enumerate", "zip", "dict_itemiterator", "dict_reverseitemiterator", "odict_iterator", "itertools.zip_longest", "itertools.pairwise"] : List String).contains "list_iterator" = false from by decide +kernel]
      simp)]
    exact wpAny_pure h
  unfold letOwnedTupleGo
  cases target <;> first | exact wpAny_pure h | (cases v <;> first | exact wpAny_pure h | exact key _)
/-- for .. in a list: the list stands in g or is of the ledger -/
theorem forLst {target : Expr} {l : Addr} {items : List Value} (J : Nat → (PySem.Str → Option Value) → List (Addr × Obj) → Prop) (hh : A.handled = none) (F : Fr g L s.heap m₀) (N : News g L s.heap news₀) (hl : s.heap.IsList l items.toArray)
    (hlk : (∃ o, g.get? l = some o) ∨ ∃ o, ∀ i m news, J i m news → (l, o) ∈ news) (hj : J 0 m₀ news₀)
    (turn : ∀ i v m news I oI h tk, items[i]? = some v → J i m news → (∀ p ∈ news, p.1 ≠ I) → s.heap.objs.size = I → Fr g L h m → News g L h ((I, oI) :: news) →
      wpAny (model prog w) A (assign target env v) (fun _ s₂ => wpAny (model prog w) A (execs body env) (fun f s₃ => match f with
        | .next | .cont => LEnd g L I (J (i + 1)) oI s s₃
        | .brk => Q .next s₃
        | .ret v => Q (.ret v) s₃) (fun _ _ => False) s₂) (fun _ _ => False) { s with heap := h, toks := tk })
    (done : ∀ m news h tk, J items.length m news → Fr g L h m → News g L h news → wpAny (model prog w) A (execs orelse env) (fun f s₃ => Q f s₃) (fun _ _ => False) { s with heap := h, toks := tk }) :
    wpAny (model prog w) A (pyIter (.ref l)) (fun it s₂ => codeAny (model prog w) A (.forLoop target it body orelse env) (fun r s' => match r with | .ok f => Q f s' | .error e => cameBackBy (model prog w) A env E e s') s₂) E s := by
  refine wpAny_pyIter_list hl ?_
  obtain ⟨ol, hol, _⟩ := id hl
  have hne : l ≠ s.heap.objs.size := Nat.ne_of_lt (Heap.lt_size hol)
  have W := Walks.list (prog := prog) (w := w) hh s.heap.objs.size l hne items.toArray
  have hlen : items.toArray.size = items.length := by simp
  rw [hlen] at W
  refine forI (s := { s with heap := s.heap.push _ }) J W ?_ (by simp) (fun q => absurd F.ns.lt (q ▸ Nat.lt_irrefl _)) (next_is_new F) ⟨⟨_, Heap.get?_push_size _ rfl, rfl, rfl⟩, hl.at fun o e => Heap.get?_push_of_some _ e⟩
    (fun i h st => let ⟨⟨o, ho, _⟩, _⟩ := st; ⟨o, ho⟩) (fun i v s Q E st h => ltList st.1 h) (F.push _) (fun p hp => ⟨Heap.get?_push_of_some _ (N p hp).1, (N p hp).2⟩) (fun p hp q => absurd (Heap.lt_size (N p hp).1) (q ▸ Nat.lt_irrefl _)) hj ?_ ?_
  · intro b hb
    simp only [List.mem_cons, List.not_mem_nil, or_false] at hb
    rcases hb with rfl | rfl
    · exact .inl rfl
    · exact .inr hlk
  · rintro i v m news oI h tk hi hP hJ hn F' N'
    exact turn i v m news _ oI h tk (by simpa using hP) hJ hn rfl F' N'
  · exact fun m news h tk hJ F' N' => done m news h tk hJ F' N'
end
end Mine

/- part CT -/
namespace Mine
set_option maxHeartbeats 4000000
local macro_rules | `(tactic| walk_at "MINE fill") => `(tactic| (w_top off; have : ∀ (P : Params) (h : Heap), (hd.heap_39 P).In h → PySem.Challenge.rw_ey0019_01.Holds → True := by (k_fill; intros; trivial)))
local macro_rules | `(tactic| k_room) => `(tactic| ((try simp only [depth_under_make, depth_under_kw, depth_in1, depth_deeper, depth_caller]); omega))
local macro_rules | `(tactic| walk_at "MINE enter") => `(tactic| (k_dflt (refine' enter (news := []) ?G ?kg ?sz ?N ?ho ?hcd ?hroom ?hbind ?hloc ?_ ?c1 ?c2 ?c3 ?c4; (case G => assumption); (case kg => exact fun _ _ e => e); (case sz => exact Nat.le_refl _); (case N => exact fun _ h => nomatch h); (case ho => k_is); (case hcd => k_is); (case hroom => omega); (case hbind => first | exact BindsTo.of_eq rfl | exact binds_K (Gd.K (by assumption)) rfl (by k_is) rfl rfl rfl); (case hloc => exact locs rfl); (case c1 => exact rfl); (case c2 => exact rfl); (case c3 => exact rfl); (case c4 => decide)); intro L' h₁ F' N' l1 kp X' T'; (try dsimp only); (try k_fold)))
open Builtin Builtin.ObjectAttr Builtin.Getset_descriptor
abbrev ctObj (t : Tok) (dx : Addr) : Obj := { cls := .ref 135, dict := some dx, data := .seq #[.str (Str.ofString "narrow") t, .ref 154, .ref 155] }
abbrev edict : Obj := { cls := .type "dict", data := .dict #[] }
def IsCT (x : Addr) (h : Heap) : Prop := ∃ t dx, h.get? x = some (ctObj t dx) ∧ h.get? dx = some edict

section
variable {w : World} {A : Around} {E : Value → Shared → Prop} {s : Shared} {Q : Value → Shared → Prop}
theorem ct_sub {M : Model} {h : Heap} (X : (hd.heap_39 w.params).In h) : Looks M h (isSubtype (.ref 135) (.type "tuple")) true := by
  walk_at "MINE fill"
  exact looks_subIn X (by k_is)
theorem ct_data {h : Heap} (X : (hd.heap_39 w.params).In h) : ∃ oc od cd sl, h.get? 135 = some ⟨oc, od, .cls cd, sl⟩ := by
  walk_at "MINE fill"
  exact ⟨_, _, _, _, X 135 _ (by k_is)⟩
theorem issub_nested {M : Model} {A : Around} {E : Value → Shared → Prop} {s : Shared} {dep : Int} {tk : Tok} {Q : Fin → Shared → Prop} (X : (hd.heap_39 w.params).In s.heap) (h : Q (.done (.ret (.bool true))) s) :
    wpAny M A (Builtin.«issubclass.nested» ⟨[.ref 135, .type "tuple", .int dep tk], []⟩) Q E s := by
  have L1 := ct_sub (M := M) X
  obtain ⟨oc, od, cd, sl, hC⟩ := ct_data X
  obtain ⟨hh, g, d, t, os⟩ := s
  have L2 : Looks M hh (typeOf (.type "tuple")) (.type "type") := Looks.of_pure (by kernel_rfl)
  unfold Builtin.«issubclass.nested»
  refine wpAny_bind (L2.at ?_)
  rw [if_pos (by decide)]
  k_delta "plainIsSubclass"
  unfold isType
  repeat lk
  exact h
theorem issub_ct (X : (hd.heap_39 w.params).In s.heap) (h : Q (.bool true) s) : wpAny (model PR w) A (call (.builtin "issubclass") [.ref 135, .type "tuple"]) Q E s :=
  call_issubclass (S := fun _ R s => (hd.heap_39 w.params).In s.heap ∧ R (.ok (.ret (.bool true))) s) (fun _ _ _ _ _ hs => issubclass_outer (issub_nested hs.1 hs.2)) ⟨X, h⟩
theorem ct_mro {M : Model} {h : Heap} (X : (hd.heap_39 w.params).In h) : Looks M h (mroOf (.ref 135)) [.ref 135, .type "tuple", .type "object"] := by
  walk_at "MINE fill"
  have L := looks_clsIn (M := M) X (C := 135) (by k_is)
  exact (L.andThen .now)
theorem ct_bases {M : Model} {h : Heap} (X : (hd.heap_39 w.params).In h) : ∃ cd, Looks M h (classData 135) cd ∧ cd.bases = [.type "tuple"] ∧ cd.hasDel = false ∧ cd.abstract = false := by
  walk_at "MINE fill"
  exact ⟨_, looks_clsIn (M := M) X (C := 135) (by k_is), rfl, rfl, rfl⟩
theorem ct_slots {h : Heap} (X : (hd.heap_39 w.params).In h) : ∃ oc od cd sl, h.get? 135 = some ⟨oc, od, .cls cd, sl⟩ ∧ (sl[4]?).join = some .none ∧ cd.hasDel = false ∧ cd.bases = [.type "tuple"] ∧ cd.abstract = false := by
  walk_at "MINE fill"
  exact ⟨_, _, _, _, X 135 _ (by k_is), rfl, rfl, rfl, rfl⟩
theorem ct_made {M : Model} {h : Heap} (X : (hd.heap_39 w.params).In h) : Looks M h (Bind.madeBy (.ref 135)) none := by
  obtain ⟨oc, od, cd, sl, hC, e4, _⟩ := ct_slots X
  intro A Q E s k q
  unfold Bind.madeBy
  refine wpAny_bind (ct_mro X A _ E s k ?_)
  rw [List.forIn_cons]
  refine wpAny_bind (wpAny_bind (wpAny_bind (wpAny_bind (wpAny_loadPart (k _ _ hC) (wpAny_pure ?_)))))
  dsimp only
  rw [e4]
  exact wpAny_pure (wpAny_pure (wpAny_pure q))
theorem tup_made {M : Model} {h : Heap} : Looks M h (Bind.madeBy (.type "tuple")) (some "tuple.__new__") := Looks.of_pure F.called_tuple.made
theorem tup_best : Slots.bestBase [.type "tuple"] = pure (.type "tuple") := by kernel_rfl
theorem ct_static {M : Model} {h : Heap} (X : (hd.heap_39 w.params).In h) : Looks M h (Bind.staticBase (.ref 135)) (.type "tuple") := by
  obtain ⟨cd, hb, e, _⟩ := ct_bases (M := M) X
  intro A Q E s k q
  unfold Bind.staticBase
  refine wpAny_bind (ct_mro X A _ E s k ?_)
  rw [List.forIn_cons]
  refine wpAny_bind (wpAny_bind (wpAny_bind (ct_made X A _ E s k ?_)))
  rw [if_neg (by simp)]
  refine wpAny_bind (hb A _ E s k ?_)
  rw [e, tup_best]
  refine wpAny_bind (wpAny_pure (wpAny_pure ?_))
  dsimp only
  rw [List.forIn_cons]
  refine wpAny_bind (wpAny_bind (tup_made (h := s.heap) A _ E s (fun _ _ e => e) ?_))
  rw [if_pos (by simp)]
  exact wpAny_pure (wpAny_pure (wpAny_pure q))
theorem ct_here {M : Model} {h : Heap} (X : (hd.heap_39 w.params).In h) : Looks M h (Bind.madeHere "tuple.__new__" (.ref 135)) () :=
  (ct_static X).andThen (tup_made.andThen (Looks.of_pure (by rw [if_neg (by simp)])))
theorem ct_init {M : Model} {h : Heap} (X : (hd.heap_39 w.params).In h) : Looks M h (typeLookup (.ref 135) "__init__") (some (.builtin "object.__init__")) := by
  walk_at "MINE fill"
  exact looks_findIn X (by k_is)
theorem tup_new {T : Addr} {xs : List Value} {n : Nat} (X : (hd.heap_39 w.params).In s.heap) (hT : s.heap.get? T = some ⟨.type "tuple", none, .seq xs.toArray n, #[]⟩) (hsz : xs.length ≤ 100)
    (h : ∀ x dx h', Kp s.heap h' → s.heap.get? x = none → h'.get? x = some ({ cls := .ref 135, dict := some dx, data := .seq xs.toArray } : Obj) → h'.get? dx = some edict → Q (.ref x) { s with heap := h' }) :
    wpAny (model PR w) A (call (.builtin "tuple.__new__") [.ref 135, .ref T]) Q E s := by
  obtain ⟨oc, od, cd, sl, hC, e4, e5, e6, e7⟩ := ct_slots X
  have hh := ct_here (M := model PR w) X
  have hi := ct_init (M := model PR w) X
  have hs := ct_sub (M := model PR w) X
  have hst := ct_static (M := model PR w) X
  obtain ⟨hp, g, d, t, os⟩ := s
  have htm := tup_made (M := model PR w) (h := hp)
  have kd : builtinKind "tuple.__new__" = some .builtinFn := by decide +kernel
  have sp : splitId "tuple.__new__" = some ("tuple", "__new__") := by decide +kernel
  have ha : argsOk "tuple.__new__" ⟨[.ref 135, .ref T], []⟩ := by unfold argsOk; kernel_rfl
  have L1 : Looks (model PR w) hp (isType (.ref 135)) true := (Looks.ld (part := some headPart) hC).andThen .now
  refine wpAny_call (codeAny_call_builtin_code (Code.quiet_builtin _ (by decide +kernel)) ?_)
  simp only [checkBuiltinCall, kd, sp]
  repeat lk
  refine codeAny_builtin F.entry_tuple_new ?_
  unfold Builtin.«tuple.__new__»
  repeat (first | (with_reducible refine wpAny_collect_seq (T := "tuple") T (.inr rfl) hT rfl rfl ?_ ?_) | lk)
  · intro h' k'
    refine wpAny_bind (wpAny_pure (wpAny_bind (wpAny_alloc ?_)))
    have e : xs.toArray.toList.toArray = xs.toArray := by simp
    rw [e]
    have hC' := Heap.get?_push_of_some ({ cls := .ref 135, dict := some h'.objs.size, data := .seq xs.toArray } : Obj) (Heap.get?_push_of_some edict (k' _ _ hC))
    unfold newObj
    dsimp only
    rw [if_neg (by simp only [List.size_toArray]; unfold sizeLine; omega)]
    unfold newObjAsIs classHasDel
    refine wpAny_bind (wpAny_bind (wpAny_alloc (wpAny_bind (wpAny_bind (wpAny_load hC' (wpAny_pure ?_))))))
    dsimp only
    rw [e5]
    refine wpAny_pure (wpAny_pure ?_)
    show Q _ _
    have hn : hp.get? (h'.push edict).objs.size = none := by
      cases q : hp.get? (h'.push edict).objs.size with
      | none => rfl
      | some o => exact absurd (Heap.lt_size (k' _ _ q)) (by rw [Heap.size_push]; exact Nat.not_lt.mpr (Nat.le_succ _))
    refine h _ h'.objs.size _ (fun b o e => Heap.get?_push_of_some _ (Heap.get?_push_of_some _ (k' _ _ e))) hn (Heap.get?_push_size _ rfl) (Heap.get?_push_of_some _ (Heap.get?_push_size _ rfl))
  · simp only [List.size_toArray]; unfold sizeLine; omega
end
end Mine

/- part CT2 -/
namespace Mine
set_option maxHeartbeats 4000000
local macro_rules | `(tactic| walk_at "MINE fill") => `(tactic| (w_top off; have : ∀ (P : Params) (h : Heap), (hd.heap_39 P).In h → PySem.Challenge.rw_ey0019_01.Holds → True := by (k_fill; intros; trivial)))
local macro_rules | `(tactic| k_room) => `(tactic| ((try simp only [depth_under_make, depth_under_kw, depth_in1, depth_deeper, depth_caller]); omega))
local macro_rules | `(tactic| walk_at "MINE enter") => `(tactic| (k_dflt (refine' enter (news := []) ?G ?kg ?sz ?N ?ho ?hcd ?hroom ?hbind ?hloc ?_ ?c1 ?c2 ?c3 ?c4; (case G => assumption); (case kg => exact fun _ _ e => e); (case sz => exact Nat.le_refl _); (case N => exact fun _ h => nomatch h); (case ho => k_is); (case hcd => k_is); (case hroom => omega); (case hbind => first | exact BindsTo.of_eq rfl | exact binds_K (Gd.K (by assumption)) rfl (by k_is) rfl rfl rfl); (case hloc => exact locs rfl); (case c1 => exact rfl); (case c2 => exact rfl); (case c3 => exact rfl); (case c4 => decide)); intro L' h₁ F' N' l1 kp X' T'; (try dsimp only); (try k_fold)))
open Builtin Builtin.ObjectAttr Builtin.Getset_descriptor
theorem fresh_of {h h' : Heap} {x : Addr} (k : Kp h h') (f : h'.get? x = none) : h.get? x = none := by
  cases q : h.get? x with
  | none => rfl
  | some o => have := k _ _ q; rw [f] at this; cases this
theorem meta_tuple : typeOf (.type "tuple") = pure (.type "type") := by kernel_rfl
local macro_rules | `(tactic| walk_at "getMethod type:tuple") => `(tactic| (k_here; refine' method_type ?F ?X ?m (by decide +kernel) ?e ?h ?_; (case F => k_asm); (case X => k_asm); (case m => exact meta_tuple); (case e => k_dflt k_is); (case h => k_handed)))
section
variable {w : World} {A : Around} {E : Value → Shared → Prop} {s : Shared} {Q : Value → Shared → Prop} {h₀ : Heap} {L : Addr} {m : PySem.Str → Option Value}
theorem tup_new' {T : Addr} {xs : List Value} {n : Nat} {news : List (Addr × Obj)} (F : Fr h₀ L s.heap m) (N : News h₀ L s.heap news) (X : (hd.heap_39 w.params).In h₀) (hT : (T, (⟨.type "tuple", none, .seq xs.toArray n, #[]⟩ : Obj)) ∈ news) (hsz : xs.length ≤ 100)
    (h : ∀ x dx h', Kp s.heap h' → h₀.get? x = none → h'.get? x = some ({ cls := .ref 135, dict := some dx, data := .seq xs.toArray } : Obj) → h'.get? dx = some edict → Fr h₀ L h' m → Q (.ref x) { s with heap := h' }) :
    wpAny (model PR w) A (call (.builtin "tuple.__new__") [.ref 135, .ref T]) Q E s :=
  tup_new (X.keeps F.keep) (N _ hT).1 hsz fun x dx h' k a b c => h x dx h' k (fresh_of F.keep a) b c (Fr.kp F k)
end
local macro_rules | `(tactic| walk_at "call builtin:tuple.__new__") => `(tactic| (k_here; k_dflt (refine' tup_new' ?F ?N ?X ?T ?z ?_; (case F => k_asm); (case N => k_asm); (case X => k_asm); (case T => k_mem); (case z => exact Nat.le_of_ble_eq_true rfl); k_whole); intro x9 dx9 h9 k9 f9 a9 b9 F9))
theorem c_new (w : World) (t : Tok) : PCall w 82 [.ref 135, .str (Str.ofString "narrow") t, .ref 154, .ref 155] 3 20 (fun _ => True) (fun v h h' => ∃ x t dx, v = .ref x ∧ h'.get? x = some (ctObj t dx) ∧ h'.get? dx = some edict ∧ h.get? x = none) := by
  walk_at "MINE fill"
  unfold PCall
  intro mean mg mb dp un fr gd s R hdp hun G ⟨⟩ hret
  walk_at "MINE enter"
  k_steps
  exact hret _ _ _ ⟨_, _, _, rfl, by assumption, by assumption, by assumption⟩ (Fr.keep (by assumption))
theorem wpAny_any_of_in1 : True := trivial
section
variable {w : World} {mean : ExcName → Option Value} {mg mb : PySem.Str → Option Value} {s : Shared} {dp un : Nat} {fr : Option (List Env)} {gd : Option (List PySem.Code)} {R : Result → Shared → Prop}
theorem ct_self {M : Model} {h : Heap} (X : (hd.heap_39 w.params).In h) : Looks M h (isSubtype (.ref 135) (.ref 135)) true ∧ Looks M h (isSubtype (.ref 135) (.type "object")) true ∧ Looks M h (specialOf (.ref 135) "__call__") (some (.builtin "type.__call__")) ∧ Looks M h (isInstance (.ref 135) (.type "type")) true := by
  walk_at "MINE fill"
  exact ⟨looks_mroIn X (by k_is), looks_mroIn X (by k_is), looks_specialIn X (by k_is), looks_instIn X (by k_is)⟩
theorem ct_newattr {A : Around} {E : Value → Shared → Prop} {Q : Value → Shared → Prop} (X : (hd.heap_39 w.params).In s.heap) (h : ∀ tk, Q (.ref 82) { s with toks := tk }) : wpAny (model PR w) A (getAttr (.ref 135) "__new__") Q E s := by
  walk_at "MINE fill"
  refine cls_bind X (mc := .type "type") (g := .builtin "staticmethod.__get__") (a := .ref 136) (obj := .none) (tp := .ref 135) (by k_is) (by k_is) (wpAny_call (sm_get (p := 136) (f := .ref 82) (rest := []) X (by k_is) (handed_on rfl (h _))))
theorem ct_call {t : Tok} (hdp : dp + 5 < recursionLimit) (hun : un + 40 < cLine) (G : Gd w mean mg mb s.heap)
    (hret : ∀ x t dx h' tk', h'.get? x = some (ctObj t dx) → h'.get? dx = some edict → s.heap.get? x = none → Kp s.heap h' → R (.ok (.ret (.ref x))) { s with heap := h', toks := tk' }) :
    codeAny (model PR w) ⟨none, dp, fr, gd, un⟩ (.call (.ref 135) ⟨[.str (Str.ofString "narrow") t, .ref 154, .ref 155], []⟩) R s := by
  obtain ⟨self, top, call, typ⟩ := ct_self (M := model PR w) G.K
  obtain ⟨oc, od, cd, sl, hC, e4, e5, e6, e7⟩ := ct_slots G.K
  have made := ct_made (M := model PR w) G.K
  have hm := ct_mro (M := model PR w) G.K
  have hi := ct_init (M := model PR w) G.K
  obtain ⟨hp, g, d, tk, os⟩ := s
  refine codeAny_of_tree ?_
  show wpAny _ _ (callAny (.ref 135) _) _ _ _
  refine nd_load hC ?_
  show wpAny _ _ (callAny.viaDunder (.ref 135) _) _ _ _
  unfold callAny.viaDunder
  refine wpAny_bind (call.at ?_)
  dsimp only
  rw [tc_bind]
  refine wpAny_bind (wpAny_pure (wpAny_bind (wpAny_pure ?_)))
  refine wpAny_pure (a := Fin.again (.call (.builtin "type.__call__") ⟨.ref 135 :: _, []⟩)) (And.intro rfl ?_)
  refine codeAny_call_builtin_at (Code.quiet_builtin _ (by decide +kernel)) entry_typeCall (check_slot tc_kind tc_split typ (tc_args _ _ _) ?_)
  unfold Builtin.«type.__call__»
  repeat (first | with_reducible refine ct_newattr G.K ?_ | lk)
  intro tk1
  repeat (first | with_reducible refine wpAny_call ?_ | lk)
  refine c_new w t mean mg mb _ _ _ _ _ _ ?_ ?_ G trivial ?_
  rotate_left 2
  · rintro v h' tk' ⟨x, t, dx, rfl, hx, hdx, hfr⟩ k
    have t1 : Looks (model PR w) h' (typeOf (.ref x)) (.ref 135) := (Looks.ld hx).andThen .now
    have s1 := self.keeps k
    have i1 := hi.keeps k
    unfold isInstance callSpecial? specialOf
    repeat (first | with_reducible refine wpAny_call ?_ | lk)
    have t2 : Looks (model PR w) h' (isInstance (.ref x) (.type "object")) true := t1.andThen (top.keeps k)
    have m1 := made.keeps k
    refine codeAny_call_builtin oi_plain entry_oi (@check_slot (model PR w) _ _ _ "object.__init__" "object" "__init__" (.ref x) _ [] _ oi_kind oi_split t2 (by unfold argsOk; kernel_rfl) ?_)
    unfold Builtin.«object.__init__»
    repeat lk
    exact hret _ _ _ _ _ hx hdx hfr k
  · show dp + 1 + 3 < recursionLimit
    omega
  · show un + 1 + 20 < cLine
    omega
end
end Mine

/- part CT3 -/
namespace Mine
set_option maxHeartbeats 4000000
local macro_rules | `(tactic| walk_at "MINE fill") => `(tactic| (w_top off; have : ∀ (P : Params) (h : Heap), (hd.heap_39 P).In h → PySem.Challenge.rw_ey0019_01.Holds → True := by (k_fill; intros; trivial)))
local macro_rules | `(tactic| k_room) => `(tactic| ((try simp only [depth_under_make, depth_under_kw, depth_in1, depth_deeper, depth_caller]); omega))
local macro_rules | `(tactic| walk_at "MINE enter") => `(tactic| (k_dflt (refine' enter (news := []) ?G ?kg ?sz ?N ?ho ?hcd ?hroom ?hbind ?hloc ?_ ?c1 ?c2 ?c3 ?c4; (case G => assumption); (case kg => exact fun _ _ e => e); (case sz => exact Nat.le_refl _); (case N => exact fun _ h => nomatch h); (case ho => k_is); (case hcd => k_is); (case hroom => omega); (case hbind => first | exact BindsTo.of_eq rfl | exact binds_K (Gd.K (by assumption)) rfl (by k_is) rfl rfl rfl); (case hloc => exact locs rfl); (case c1 => exact rfl); (case c2 => exact rfl); (case c3 => exact rfl); (case c4 => decide)); intro L' h₁ F' N' l1 kp X' T'; (try dsimp only); (try k_fold)))
local macro_rules | `(tactic| walk_at "MINE rm") => `(tactic| first | omega | ((try simp only [depth_deeper, depth_in1, units_deeper, units_in1]); (try dsimp only); omega))
open Builtin Builtin.ObjectAttr Builtin.Getset_descriptor
local macro_rules | `(tactic| walk_at "getMethod type:tuple") => `(tactic| (k_here; refine' method_type ?F ?X ?m (by decide +kernel) ?e ?h ?_; (case F => k_asm); (case X => k_asm); (case m => exact meta_tuple); (case e => k_dflt k_is); (case h => k_handed)))
section
variable {w : World} {mean : ExcName → Option Value} {mg mb : PySem.Str → Option Value} {A : Around} {E : Value → Shared → Prop} {s : Shared} {Q : Value → Shared → Prop} {h₀ : Heap} {L : Addr} {m : PySem.Str → Option Value} {dp un : Nat} {fr : Option (List Env)} {gd : Option (List PySem.Code)}
theorem ct_call' {t : Tok} (F : Fr h₀ L s.heap m) (X : (hd.heap_39 w.params).In h₀) (T : Top topProg LN mean mg mb h₀) (hdp : dp + 5 < recursionLimit) (hun : un + 40 < cLine)
    (h : ∀ x t dx h' tk', h'.get? x = some (ctObj t dx) → h'.get? dx = some edict → h₀.get? x = none → Kp s.heap h' → Fr h₀ L h' m → Q (.ref x) { s with heap := h', toks := tk' }) :
    wpAny (model PR w) ⟨none, dp, fr, gd, un⟩ (call (.ref 135) [.str (Str.ofString "narrow") t, .ref 154, .ref 155]) Q E s :=
  wpAny_call (ct_call hdp hun ⟨X.keeps F.keep, T.keeps F.keep⟩ fun x t dx h' tk' a b c k => h x t dx h' tk' a b (fresh_of F.keep c) k (Fr.kp F k))
end
local macro_rules | `(tactic| walk_at "call ref") => `(tactic| (k_here; k_dflt (refine' ct_call' ?F ?X ?T ?d ?u ?_; (case F => k_asm); (case X => k_asm); (case T => k_asm); (case d => walk_at "MINE rm"); (case u => walk_at "MINE rm"); k_whole); intro x9 t9 dx9 h9 tk9 a9 b9 c9 k9 F9))
theorem c_load (w : World) (x : PySem.Str) (tx : Tok) : PCall w 163 [.str x tx] 6 50 (fun _ => True) (fun v h h' => ∃ x t dx, v = .ref x ∧ h'.get? x = some (ctObj t dx) ∧ h'.get? dx = some edict ∧ h.get? x = none) := by
  walk_at "MINE fill"
  unfold PCall
  intro mean mg mb dp un fr gd s R hdp hun G _ hret
  walk_at "MINE enter"
  k_steps
  exact hret _ _ _ ⟨_, _, _, rfl, by assumption, by assumption, by assumption⟩ (Fr.keep (by assumption))
section
variable {w : World} {A : Around} {E : Value → Shared → Prop} {s : Shared} {Q : Value → Shared → Prop} {h₀ : Heap} {L : Addr} {m : PySem.Str → Option Value} {x dx : Addr} {t : Tok}
theorem ct_type (F : Fr h₀ L s.heap m) (hx : h₀.get? x = some (ctObj t dx)) (h : Q (.ref 135) s) : wpAny (model PR w) A (call (.type "type") [.ref x]) Q E s := by
  have hx' := F.keep _ _ hx
  obtain ⟨hh, g, d, tk, os⟩ := s
  exact call_type_obj hx' rfl h
theorem issub_ct' (F : Fr h₀ L s.heap m) (X : (hd.heap_39 w.params).In h₀) (h : Q (.bool true) s) : wpAny (model PR w) A (call (.builtin "issubclass") [.ref 135, .type "tuple"]) Q E s := issub_ct (X.keeps F.keep) h
theorem tg_kind : builtinKind "tuple.__getitem__" = some .slot := by decide +kernel
theorem tg_split : splitId "tuple.__getitem__" = some ("tuple", "__getitem__") := by decide +kernel
theorem int_index9 : typeLookup (.type "int") "__index__" = pure (some (.builtin "int.__index__")) := by rw [typeLookup_type, builtinLookup_eq_fast]; kernel_rfl
theorem ct_items {A : Around} {E : Value → Shared → Prop} {s : Shared} {Q : Array Value → Shared → Prop} {x dx : Addr} {t : Tok} (hx : s.heap.get? x = some (ctObj t dx)) (h : Q #[.str (Str.ofString "narrow") t, .ref 154, .ref 155] s) : wpAny (model PR w) A (Builtin.Tuple.tupleItemsOf (.ref x)) Q E s := by
  unfold Builtin.Tuple.tupleItemsOf
  obtain ⟨hh, g, d, t0, os⟩ := s
  repeat lk
  exact h
theorem ct_item {tk : Tok} (F : Fr h₀ L s.heap m) (X : (hd.heap_39 w.params).In h₀) (hx : h₀.get? x = some (ctObj t dx)) (h : Q (.ref 154) s) : wpAny (model PR w) A (call (.builtin "tuple.__getitem__") [.ref x, .int 1 tk]) Q E s := by
  have hx' := F.keep _ _ hx
  have X' := X.keeps F.keep
  obtain ⟨hh, g, d, t0, os⟩ := s
  have t1 : Looks (model PR w) hh (typeOf (.ref x)) (.ref 135) := (Looks.ld hx').andThen .now
  have i1 : Looks (model PR w) hh (isInstance (.ref x) (.type "tuple")) true := t1.andThen (ct_sub X')
  have j1 : Looks (model PR w) hh (typeLookup (.type "int") "__index__") (some (.builtin "int.__index__")) := Looks.of_pure int_index9
  have hq9 : (Code.builtin "tuple.__getitem__" ⟨[.ref x, .int 1 tk], []⟩).quiet = true := Code.quiet_builtin _ (by decide +kernel)
  refine wpAny_call ?_
  refine codeAny_call_builtin_at hq9 entry_tuple_getitem ?_
  refine @check_slot (model PR w) _ _ _ "tuple.__getitem__" "tuple" "__getitem__" (.ref x) [.int 1 tk] [] _ tg_kind tg_split i1 (args_tuple_getitem _ _) ?_
  show wpAny _ _ (Builtin.Tuple.tupleItemsOf (.ref x) >>= _) _ _ _
  refine wpAny_bind (ct_items hx' ?_)
  refine wpAny_bind (wpAny_typeOf (typeIs_int _ 1 tk) ?_)
  rw [if_neg (by decide)]
  refine wpAny_bind (wpAny_specialOf (T := "int") (typeIs_int _ 1 tk) int_index ?_)
  rw [if_neg (by simp)]
  refine wpAny_bind (wpAny_of_eq (a := 1) rfl ?_)
  rw [if_neg (by decide)]
  exact wpAny_pure h
end
local macro_rules | `(tactic| walk_at "call type:type") => `(tactic| (k_here; k_dflt (refine' ct_type ?F ?x ?_; (case F => k_asm); (case x => k_asm); k_whole)))
local macro_rules | `(tactic| walk_at "call builtin:issubclass") => `(tactic| (k_here; k_dflt (refine' issub_ct' ?F ?X ?_; (case F => k_asm); (case X => k_asm); k_whole)))
local macro_rules | `(tactic| walk_at "call builtin:tuple.__getitem__") => `(tactic| (k_here; k_dflt (refine' ct_item ?F ?X ?x ?_; (case F => k_asm); (case X => k_asm); (case x => k_asm); k_whole)))
theorem c_tget (w : World) (x dx : Addr) (t : Tok) : PCall w 43 [.ref 127, .ref x, .ref 135] 3 20 (fun h => h.get? x = some (ctObj t dx)) (fun v _ _ => v = .ref 154) := by
  walk_at "MINE fill"
  unfold PCall
  intro mean mg mb dp un fr gd s R hdp hun G hx hret
  walk_at "MINE enter"
  k_steps
  exact hret _ _ _ rfl (Fr.keep (by assumption))
end Mine

/- part G1 -/
namespace Mine
set_option maxHeartbeats 4000000
local macro_rules | `(tactic| walk_at "MINE fill") => `(tactic| (w_top off; have : ∀ (P : Params) (h : Heap), (hd.heap_39 P).In h → PySem.Challenge.rw_ey0019_01.Holds → True := by (k_fill; intros; trivial)))
local macro_rules | `(tactic| k_room) => `(tactic| ((try simp only [depth_under_make, depth_under_kw, depth_in1, depth_deeper, depth_caller]); omega))
local macro_rules | `(tactic| walk_at "MINE enter") => `(tactic| (k_dflt (refine' enter (news := []) ?G ?kg ?sz ?N ?ho ?hcd ?hroom ?hbind ?hloc ?_ ?c1 ?c2 ?c3 ?c4; (case G => assumption); (case kg => exact fun _ _ e => e); (case sz => exact Nat.le_refl _); (case N => exact fun _ h => nomatch h); (case ho => k_is); (case hcd => k_is); (case hroom => omega); (case hbind => first | exact BindsTo.of_eq rfl | exact binds_K (Gd.K (by assumption)) rfl (by k_is) rfl rfl rfl); (case hloc => exact locs rfl); (case c1 => exact rfl); (case c2 => exact rfl); (case c3 => exact rfl); (case c4 => decide)); intro L' h₁ F' N' l1 kp X' T'; (try dsimp only); (try k_fold)))
local macro_rules | `(tactic| walk_at "MINE rm") => `(tactic| first | omega | ((try simp only [depth_deeper, depth_in1, units_deeper, units_in1]); (try dsimp only); omega))
local macro_rules | `(tactic| walk_at "MINE enterB") => `(tactic| (k_dflt (refine' enter (news := []) ?G ?kg ?sz ?N ?ho ?hcd ?hroom ?hbind ?hloc ?_ ?c1 ?c2 ?c3 ?c4; (case G => assumption); (case kg => exact fun _ _ e => e); (case sz => exact Nat.le_refl _); (case N => exact fun _ h => nomatch h); (case ho => k_is); (case hcd => k_is); (case hroom => omega); (case hbind => assumption); (case hloc => exact locs rfl); (case c1 => exact rfl); (case c2 => exact rfl); (case c3 => exact rfl); (case c4 => decide)); intro L' h₁ F' N' l1 kp X' T'; (try dsimp only); (try k_fold)))
local macro_rules | `(tactic| walk_at "MINE bind") => `(tactic| (k_dflt (refine' bindsOf ?a ?b ?c; (case b => assumption); (case a => k_is)); k_dflt (first | exact BindsTo.of_eq rfl | exact binds_K (by assumption) rfl (by k_is) rfl rfl rfl)))
open Builtin Builtin.ObjectAttr Builtin.Getset_descriptor
section
variable {w : World} {mean : ExcName → Option Value} {mg mb : PySem.Str → Option Value} {A : Around} {E : Value → Shared → Prop} {s : Shared} {Q : Value → Shared → Prop} {h₀ : Heap} {L : Addr} {m : PySem.Str → Option Value} {dp un : Nat} {fr : Option (List Env)} {gd : Option (List PySem.Code)}
theorem ct_widths {x dx : Addr} {t : Tok} {ex : Bool} {news : List (Addr × Obj)} (F : Fr h₀ L s.heap m) (N : News h₀ L s.heap news) (X : (hd.heap_39 w.params).In h₀) (T : Top topProg LN mean mg mb h₀) (hx : s.heap.get? x = some (ctObj t dx)) (hdx : s.heap.get? dx = some edict) (hdp : dp + 3 < recursionLimit) (hun : un + 21 < cLine)
    (h : ∀ h' tk', Kp s.heap h' → Fr h₀ L h' m → News h₀ L h' news → Q (.ref 154) { s with heap := h', toks := tk' }) : wpAny (model PR w) ⟨none, dp, fr, gd, un⟩ (getAttr (.ref x) "widths" ex) Q E s := by
  walk_at "MINE fill"
  have X' := X.keeps F.keep
  have I : InstAt s.heap x (ctObj t dx) 135 (some (dictOf [] 0)) := ⟨hx, rfl, rfl, hdx⟩
  have L0 : Looks (model PR w) s.heap (typeOf (.ref x)) (.ref 135) := (Looks.ld hx).andThen .now
  have L1 : Looks (model PR w) s.heap (typeLookup (.ref 135) "__getattribute__") (some (.builtin "tuple.__getattribute__")) := looks_findIn X' (by k_is)
  have L2 : Looks (model PR w) s.heap (typeLookup (.ref 135) "__getattr__") none := looks_findIn X' (by k_is)
  have L3 : Looks (model PR w) s.heap (find (.ref x) (.ref 135) "widths") (.bind (.ref 43) (.ref 127)) := looks_find X' I (findObj_data (show isClsIn (hd.heap_39 w.params) 135 = true by k_is) (by k_is) (by k_is) (by k_is))
  have L4 : Looks (model PR w) s.heap (isInstance (.ref x) (.type "tuple")) true := L0.andThen (ct_sub X')
  have TK := T.keeps F.keep
  have hret : ∀ h' tk', Kp s.heap h' → Q (.ref 154) { s with heap := h', toks := tk' } := fun h' tk' k => h h' tk' k (Fr.kp F k) (News.kp N k)
  clear h
  obtain ⟨hh, g, d, tk, os⟩ := s
  unfold getAttr getAttrBy
  refine wpAny_bind (wpAny_mkText (wpAny_holding (wpAny_bind (L0.at (wpAny_bind (L1.at ?_))))))
  show wpAny _ _ (getAttrByItsOwn _ _ _ _ _ _) _ _ _
  unfold getAttrByItsOwn
  refine wpAny_bind (m := hookBefore (.ref 135)) (L2.at ?_)
  refine wpAny_bind (wpAny_attempt ?_)
  refine wpAny_holding ?_
  rw [show ∀ a b : Value, callGetattribute a b (.builtin "tuple.__getattribute__") ex = boundAndCalled (.builtin "tuple.__getattribute__") a b from fun a b => by cases ex <;> rfl]
  unfold boundAndCalled
  rw [PySem.F.slot_tuple_getattribute.bind]
  refine wpAny_bind (wpAny_pure ?_)
  have hq9 : (Code.builtin "tuple.__getattribute__" ⟨[.ref x, .str "widths" tk], []⟩).quiet = true := Code.quiet_builtin _ (by decide +kernel)
  refine wpAny_call (codeAny_call_builtin_at hq9 am_entry_tuple_getattribute (@check_slot (model PR w) _ _ _ "tuple.__getattribute__" "tuple" "__getattribute__" (.ref x) [.str "widths" tk] [] _ (by decide +kernel) (by decide +kernel) L4 (PySem.F.args_tuple_getattribute_2 _ _) ?_))
  unfold Builtin.«object.__getattribute__»
  repeat (first | (with_reducible refine wpAny_call ?_) | lk)
  refine c_tget w x dx t mean mg mb _ _ _ _ _ _ ?_ ?_ ⟨X', TK⟩ hx ?_
  · show dp + 0 + 3 < recursionLimit
    omega
  · show un + 1 + 20 < cLine
    omega
  · rintro v h' tk' rfl k
    exact wpAny_pure (handed_on rfl (hret h' tk' k))
end
local macro_rules | `(tactic| walk_at "call ref") => `(tactic| (k_here; k_dflt (refine' useP (c_load _ _ _) ?F ?N ?X ?T ?d ?u ?c ?_; (case F => k_asm); (case N => k_asm); (case X => k_asm); (case T => k_asm); (case d => walk_at "MINE rm"); (case u => walk_at "MINE rm"); (case c => exact trivial); k_whole); intro v9 h9 tk9 p9 k9 F9 N9; (obtain ⟨x9, t9, dx9, e9, hx9, hdx9, hf9⟩ := p9); subst e9; (try dsimp only)))
local macro_rules | `(tactic| walk_at "getAttr ref") => `(tactic| (k_here; k_dflt (refine' ct_widths ?F ?N ?X ?T ?x ?y ?d ?u ?_; (case F => k_asm); (case N => k_asm); (case X => k_asm); (case T => k_asm); (case x => k_asm); (case y => k_asm); (case d => walk_at "MINE rm"); (case u => walk_at "MINE rm"); k_whole); intro h9 tk9 k9 F9 N9; (try dsimp only)))


local macro_rules | `(tactic| walk_at "exec While") => `(tactic| (k_here; refine stop_of ?_))
local macro_rules | `(tactic| walk_at "exec While Compare cons nil") => `(tactic| (k_here; refine stop_of ?_))

def WT : List (Int × Int × Int) := [(0, 0, 0), (173, 173, 0), (768, 879, 0), (4352, 4447, 2), (8203, 8207, 0), (9200, 9203, 2), (11904, 12350, 2), (12353, 13311, 2), (19968, 40959, 2), (44032, 55203, 2), (65024, 65039, 0), (65281, 65376, 2), (127744, 127994, 2), (127995, 127999, 0), (128000, 128591, 2)]
def bs (c : Int) : Nat → Int → Int → Int
  | 0, _, _ => 1
  | n + 1, lo, hi => if lo ≤ hi then
      let i := (lo + hi) / 2
      let e := WT.getD i.toNat (0, 0, 0)
      if c < e.1 then bs c n lo (i - 1) else if e.2.1 < c then bs c n (i + 1) hi else e.2.2
    else 1

theorem wt_tup {w : World} {h : Heap} (X : (hd.heap_39 w.params).In h) {j : Nat} (hj : j < 15) : ∃ ta tb tw, IsTup h (139 + j) #[.int (WT.getD j (0, 0, 0)).1 ta, .int (WT.getD j (0, 0, 0)).2.1 tb, .int (WT.getD j (0, 0, 0)).2.2 tw] := by
  walk_at "MINE fill"
  have hc : j = 0 ∨ j = 1 ∨ j = 2 ∨ j = 3 ∨ j = 4 ∨ j = 5 ∨ j = 6 ∨ j = 7 ∨ j = 8 ∨ j = 9 ∨ j = 10 ∨ j = 11 ∨ j = 12 ∨ j = 13 ∨ j = 14 := by omega
  rcases hc with rfl | rfl | rfl | rfl | rfl | rfl | rfl | rfl | rfl | rfl | rfl | rfl | rfl | rfl | rfl
  · exact ⟨_, _, _, _, X 139 _ (by k_is), rfl, 0, rfl⟩
  · exact ⟨_, _, _, _, X 140 _ (by k_is), rfl, 0, rfl⟩
  · exact ⟨_, _, _, _, X 141 _ (by k_is), rfl, 0, rfl⟩
  · exact ⟨_, _, _, _, X 142 _ (by k_is), rfl, 0, rfl⟩
  · exact ⟨_, _, _, _, X 143 _ (by k_is), rfl, 0, rfl⟩
  · exact ⟨_, _, _, _, X 144 _ (by k_is), rfl, 0, rfl⟩
  · exact ⟨_, _, _, _, X 145 _ (by k_is), rfl, 0, rfl⟩
  · exact ⟨_, _, _, _, X 146 _ (by k_is), rfl, 0, rfl⟩
  · exact ⟨_, _, _, _, X 147 _ (by k_is), rfl, 0, rfl⟩
  · exact ⟨_, _, _, _, X 148 _ (by k_is), rfl, 0, rfl⟩
  · exact ⟨_, _, _, _, X 149 _ (by k_is), rfl, 0, rfl⟩
  · exact ⟨_, _, _, _, X 150 _ (by k_is), rfl, 0, rfl⟩
  · exact ⟨_, _, _, _, X 151 _ (by k_is), rfl, 0, rfl⟩
  · exact ⟨_, _, _, _, X 152 _ (by k_is), rfl, 0, rfl⟩
  · exact ⟨_, _, _, _, X 153 _ (by k_is), rfl, 0, rfl⟩
theorem wt_at {w : World} {h : Heap} (X : (hd.heap_39 w.params).In h) : IsTup h 154 #[.ref 139, .ref 140, .ref 141, .ref 142, .ref 143, .ref 144, .ref 145, .ref 146, .ref 147, .ref 148, .ref 149, .ref 150, .ref 151, .ref 152, .ref 153] := by
  walk_at "MINE fill"
  exact ⟨_, X 154 _ (by k_is), rfl, 0, rfl⟩
theorem wt_idx {k : Int} (h0 : 0 ≤ k) (h1 : k ≤ 14) : seqIndex? k 15 = some k.toNat ∧ #[Value.ref 139, .ref 140, .ref 141, .ref 142, .ref 143, .ref 144, .ref 145, .ref 146, .ref 147, .ref 148, .ref 149, .ref 150, .ref 151, .ref 152, .ref 153][k.toNat]? = some (.ref (139 + k.toNat)) := by
  have hc : k = 0 ∨ k = 1 ∨ k = 2 ∨ k = 3 ∨ k = 4 ∨ k = 5 ∨ k = 6 ∨ k = 7 ∨ k = 8 ∨ k = 9 ∨ k = 10 ∨ k = 11 ∨ k = 12 ∨ k = 13 ∨ k = 14 := by omega
  rcases hc with rfl | rfl | rfl | rfl | rfl | rfl | rfl | rfl | rfl | rfl | rfl | rfl | rfl | rfl | rfl <;> exact ⟨rfl, rfl⟩
theorem wt_item {w : World} {A : Around} {E : Value → Shared → Prop} {s : Shared} {Q : Value → Shared → Prop} {h₀ : Heap} {L : Addr} {m : PySem.Str → Option Value} {value slice : Expr} {k : Int} {u : Tok} (F : Fr h₀ L s.heap m) (X : (hd.heap_39 w.params).In h₀) (h0 : 0 ≤ k) (h1 : k ≤ 14)
    (h : ∀ ta tb tw, IsTup h₀ (139 + k.toNat) #[.int (WT.getD k.toNat (0, 0, 0)).1 ta, .int (WT.getD k.toNat (0, 0, 0)).2.1 tb, .int (WT.getD k.toNat (0, 0, 0)).2.2 tw] → Q (.ref (139 + k.toNat)) s)
    (hs : subscripted slice false (.ref 154) (.int k u) = operate [.ref 154, .int k u] (getItem (.ref 154) (.int k u))) :
    wpAny (model PR w) A (subscriptTail value slice (.ref 154) (.int k u)) Q E s := by
  obtain ⟨ta, tb, tw, ht⟩ := wt_tup X (j := k.toNat) (by omega)
  have i := wt_idx h0 h1
  exact item_tupleT (wt_at (X.keeps F.keep)) (by omega) (by omega) i.1 (by simpa using i.2) (h ta tb tw ht) hs
theorem half_eq (a : Int) : a.fdiv (2 ^ Int.toNat 1) = a / 2 := by
  rw [show (2 : Int) ^ Int.toNat 1 = 2 from rfl, Int.fdiv_eq_ediv_of_nonneg _ (by omega)]
local macro_rules | `(tactic| walk_at "subscriptTail") => `(tactic| (k_here; (with_reducible show wpAny _ _ (subscriptTail _ _ (Value.ref 154) (Value.int _ _)) _ _ _); (try simp only [half_eq]); k_dflt (refine' wt_item ?F ?X ?a ?b ?_ ?c; (case F => k_asm); (case X => k_asm); (case a => omega); (case b => omega); (case c => with_unfolding_all rfl); k_whole); intro ta9 tb9 tw9 ht9))
local macro_rules | `(tactic| walk_at "assign Tuple") => `(tactic| (k_here; (with_reducible show wpAny _ _ (assign (Expr.Tuple _ _ _) _ (Value.ref _)) _ _ _); k_dflt (refine' unpackN_ ?k1 ?k2 ?k3 ?k4 ?k5 ?k6 ?_; (case k1 => k_asm); (case k2 => k_asm); (case k3 => exact Fr.tup (by k_asm) (by assumption)); (case k4 => exact rfl); (case k5 => exact rfl); (case k6 => exact rfl); k_whole); intro h' F' N'; (try k_sweep)))

theorem bs_done {c lo hi : Int} {n : Nat} (h : ¬ lo ≤ hi) : bs c n lo hi = 1 := by
  cases n with
  | zero => rfl
  | succ n => rw [bs, if_neg h]
theorem bs_step {c lo hi : Int} {n : Nat} (h : lo ≤ hi) (hn : hi - lo + 1 < n) : bs c n lo hi = if c < (WT.getD ((lo + hi) / 2).toNat (0, 0, 0)).1 then bs c (n - 1) lo ((lo + hi) / 2 - 1) else if (WT.getD ((lo + hi) / 2).toNat (0, 0, 0)).2.1 < c then bs c (n - 1) ((lo + hi) / 2 + 1) hi else (WT.getD ((lo + hi) / 2).toNat (0, 0, 0)).2.2 := by
  cases n with
  | zero => exact absurd hn (by omega)
  | succ n => rw [bs, if_pos h]; rfl

/-- the loop's state -/
def WInv (c : Int) (g : Heap) (L : Addr) (s : Shared) (n : Nat) (s' : Shared) : Prop :=
  ∃ (lo hi : Int) (t1 t2 t3 : Tok) (h' : Heap) (tk' : Nat) (m' : PySem.Str → Option Value), s' = { s with heap := h', toks := tk' } ∧ Fr g L h' m' ∧
    (m' (PySem.Str.ofString "lower_bound") = some (.int lo t1) ∧ m' (PySem.Str.ofString "upper_bound") = some (.int hi t2) ∧ m' (PySem.Str.ofString "codepoint") = some (.int c t3) ∧ m' (PySem.Str.ofString "table") = some (.ref 154)) ∧
    0 ≤ lo ∧ hi ≤ 14 ∧ hi - lo + 1 < n ∧ bs c n lo hi = bs c 16 0 14

theorem bindsOf {K : Frag} {f : Addr} {oc oc' : Value} {od od' : Option Addr} {fd fd' : FuncData} {sl sl' : Array (Option Value)} {s : Shared} {args : Args} {binds : List (PySem.Str × Value)} (e : K.lookup f = some ⟨oc', od', .func fd', sl'⟩) (hl : K.lookup f = some ⟨oc, od, .func fd, sl⟩) (h : BindsTo s fd' args binds) : BindsTo s fd args binds := by
  rw [e] at hl; cases hl; exact h
def Binds (w : World) (f : Addr) (args : List Value) (binds : List (PySem.Str × Value)) : Prop :=
  ∀ oc od fd sl, (hd.heap_39 w.params).lookup f = some ⟨oc, od, .func fd, sl⟩ → ∀ s : Shared, (hd.heap_39 w.params).In s.heap → BindsTo s fd ⟨args, []⟩ binds
theorem Binds.use {w : World} {f : Addr} {args : List Value} {binds : List (PySem.Str × Value)} {oc : Value} {od : Option Addr} {fd : FuncData} {sl : Array (Option Value)} {s : Shared} (b : Binds w f args binds) (h : (hd.heap_39 w.params).lookup f = some ⟨oc, od, .func fd, sl⟩) (X : (hd.heap_39 w.params).In s.heap) : BindsTo s fd ⟨args, []⟩ binds := b _ _ _ _ h s X
theorem c_gccs (w : World) (c : Nat) (args : List Value) (x : PySem.Str) (tc tx : Tok) (hb : Binds w 185 args [("character", .str ⟨#[c]⟩ tc), ("unicode_version", .str x tx)]) (h1 : 32 ≤ (c : Int)) (h2 : (c : Int) < 127 ∨ 160 ≤ (c : Int)) (h3 : (c : Int) < 128000) : PCall w 185 args 8 80 (fun _ => True) (fun v h h' => ∃ t, v = .int (bs c 16 0 14) t) := by
  walk_at "MINE fill"
  unfold PCall
  intro mean mg mb dp un fr gd s R hdp hun G _ hret
  have hbind9 := hb.use (by k_is) G.K
  walk_at "MINE enterB"
  rename_i L1 H1 F1 N1 l1 kp1 X1 T1
  rcases h2 with h2 | h2
  all_goals k_steps
  any_goals (exfalso; omega)
  all_goals (
    unfold Stop
    refine wpAny_While (whileL (WInv c s.heap L1 s) ?turn 16 ?init)
    case init =>
      refine' ⟨0, 14, _, _, _, _, _, _, rfl, by assumption, ⟨rfl, rfl, rfl, rfl⟩, by omega, by omega, by omega, rfl⟩
    case turn =>
      rintro n s' ⟨lo, hi, t1, t2, t3, h', tk', m', rfl, F2, ⟨m1, m2, m3, m4⟩, hlo, hhi, hn, hbs⟩
      have F3 := Fr.force [(PySem.Str.ofString "lower_bound", Value.int lo t1), (PySem.Str.ofString "upper_bound", Value.int hi t2), (PySem.Str.ofString "codepoint", Value.int c t3), (PySem.Str.ofString "table", Value.ref 154)] F2 (by
        intro p hp
        simp only [List.mem_cons, List.not_mem_nil, or_false] at hp
        rcases hp with rfl | rfl | rfl | rfl <;> assumption)
      clear F2 m1 m2 m3 m4
      have N3 : News s.heap L1 h' [] := News.nil
      k_steps
      · show Again _ _ _
        have hs := bs_step (c := c) (lo := lo) (hi := hi) (n := n) (by assumption) hn
        have hh := half_eq (lo + hi)
        refine' ⟨n - 1, by omega, lo, (lo + hi).fdiv (2 ^ Int.toNat 1) - 1, _, _, _, _, _, _, rfl, by assumption, ⟨rfl, rfl, rfl, rfl⟩, by omega, by omega, by omega, _⟩
        rw [half_eq, ← hbs, hs, if_pos (by assumption)]
      · show Again _ _ _
        have hs := bs_step (c := c) (lo := lo) (hi := hi) (n := n) (by assumption) hn
        have hh := half_eq (lo + hi)
        refine' ⟨n - 1, by omega, (lo + hi).fdiv (2 ^ Int.toNat 1) + 1, hi, _, _, _, _, _, _, rfl, by assumption, ⟨rfl, rfl, rfl, rfl⟩, by omega, by omega, by omega, _⟩
        rw [half_eq, ← hbs, hs, if_neg (by assumption), if_pos (by assumption)]
      · have hs := bs_step (c := c) (lo := lo) (hi := hi) (n := n) (by assumption) hn
        rw [hbs, if_neg (by assumption), if_neg (by assumption)] at hs
        rw [← hs]
        exact hret _ _ _ ⟨_, rfl⟩ (Fr.keep (by assumption))
      · have hs := bs_done (c := c) (lo := lo) (hi := hi) (n := n) (by assumption)
        rw [hbs] at hs
        rw [← hs]
        exact hret _ _ _ ⟨_, rfl⟩ (Fr.keep (by assumption)))
end Mine

/- part G2 -/
namespace Mine
set_option maxHeartbeats 4000000
local macro_rules | `(tactic| walk_at "MINE fill") => `(tactic| (w_top off; have : ∀ (P : Params) (h : Heap), (hd.heap_39 P).In h → PySem.Challenge.rw_ey0019_01.Holds → True := by (k_fill; intros; trivial)))
local macro_rules | `(tactic| k_room) => `(tactic| ((try simp only [depth_under_make, depth_under_kw, depth_in1, depth_deeper, depth_caller]); omega))
local macro_rules | `(tactic| walk_at "MINE enter") => `(tactic| (k_dflt (refine' enter (news := []) ?G ?kg ?sz ?N ?ho ?hcd ?hroom ?hbind ?hloc ?_ ?c1 ?c2 ?c3 ?c4; (case G => assumption); (case kg => exact fun _ _ e => e); (case sz => exact Nat.le_refl _); (case N => exact fun _ h => nomatch h); (case ho => k_is); (case hcd => k_is); (case hroom => omega); (case hbind => first | exact BindsTo.of_eq rfl | exact binds_K (Gd.K (by assumption)) rfl (by k_is) rfl rfl rfl); (case hloc => exact locs rfl); (case c1 => exact rfl); (case c2 => exact rfl); (case c3 => exact rfl); (case c4 => decide)); intro L' h₁ F' N' l1 kp X' T'; (try dsimp only); (try k_fold)))
local macro_rules | `(tactic| walk_at "MINE rm") => `(tactic| first | omega | ((try simp only [depth_deeper, depth_in1, units_deeper, units_in1]); (try dsimp only); omega))
theorem c_gccs2 (w : World) (c : Nat) (x : PySem.Str) (tc tx : Tok) (h1 : 32 ≤ (c : Int)) (h2 : (c : Int) < 127 ∨ 160 ≤ (c : Int)) (h3 : (c : Int) < 128000) : PCall w 185 [.str ⟨#[c]⟩ tc, .str x tx] 8 80 (fun _ => True) (fun v h h' => ∃ t, v = .int (bs c 16 0 14) t) := by
  refine c_gccs w c _ x tc tx (fun oc od fd sl hl s X => ?_) h1 h2 h3
  walk_at "MINE fill"
  k_dflt (refine' bindsOf ?a ?b ?c; (case b => exact hl); (case a => k_is))
  k_dflt (first | exact BindsTo.of_eq rfl | exact binds_K X rfl (by k_is) rfl rfl rfl)
theorem c_gccs1 (w : World) (c : Nat) (tc : Tok) (h1 : 32 ≤ (c : Int)) (h2 : (c : Int) < 127 ∨ 160 ≤ (c : Int)) (h3 : (c : Int) < 128000) : PCall w 185 [.str ⟨#[c]⟩ tc] 8 80 (fun _ => True) (fun v h h' => ∃ t, v = .int (bs c 16 0 14) t) := by
  refine c_gccs w c _ "auto" tc 469 (fun oc od fd sl hl s X => ?_) h1 h2 h3
  walk_at "MINE fill"
  k_dflt (refine' bindsOf ?a ?b ?c; (case b => exact hl); (case a => k_is))
  k_dflt (first | exact BindsTo.of_eq rfl | exact binds_K X rfl (by k_is) rfl rfl rfl)
end Mine

/- part S1 -/
namespace Mine
set_option maxHeartbeats 4000000
local macro_rules | `(tactic| walk_at "MINE fill") => `(tactic| (w_top off; have : ∀ (P : Params) (h : Heap), (hd.heap_39 P).In h → PySem.Challenge.rw_ey0019_01.Holds → True := by (k_fill; intros; trivial)))
local macro_rules | `(tactic| k_room) => `(tactic| ((try simp only [depth_under_make, depth_under_kw, depth_in1, depth_deeper, depth_caller]); omega))
local macro_rules | `(tactic| walk_at "MINE enter") => `(tactic| (k_dflt (refine' enter (news := []) ?G ?kg ?sz ?N ?ho ?hcd ?hroom ?hbind ?hloc ?_ ?c1 ?c2 ?c3 ?c4; (case G => assumption); (case kg => exact fun _ _ e => e); (case sz => exact Nat.le_refl _); (case N => exact fun _ h => nomatch h); (case ho => k_is); (case hcd => k_is); (case hroom => omega); (case hbind => first | exact BindsTo.of_eq rfl | exact binds_K (Gd.K (by assumption)) rfl (by k_is) rfl rfl rfl); (case hloc => exact locs rfl); (case c1 => exact rfl); (case c2 => exact rfl); (case c3 => exact rfl); (case c4 => decide)); intro L' h₁ F' N' l1 kp X' T'; (try dsimp only); (try k_fold)))
local macro_rules | `(tactic| walk_at "MINE rm") => `(tactic| first | omega | ((try simp only [depth_deeper, depth_in1, units_deeper, units_in1]); (try dsimp only); omega))
local macro_rules | `(tactic| walk_at "exec For") => `(tactic| (k_here; refine stop_of ?_))
local macro_rules | `(tactic| walk_at "exec For Name Name cons nil") => `(tactic| (k_here; refine stop_of ?_))
local macro_rules | `(tactic| walk_at "exec For Tuple Name cons nil") => `(tactic| (k_here; refine stop_of ?_))
local macro_rules | `(tactic| walk_at "exec For Name Call cons nil") => `(tactic| (k_here; refine stop_of ?_))
local macro_rules | `(tactic| walk_at "exec While") => `(tactic| (k_here; refine stop_of ?_))
local macro_rules | `(tactic| walk_at "exec While Compare cons nil") => `(tactic| (k_here; refine stop_of ?_))
local macro_rules | `(tactic| walk_at "assign Tuple") => `(tactic| (k_here; (with_reducible show wpAny _ _ (assign (Expr.Tuple _ _ _) _ (Value.ref _)) _ _ _); k_dflt (refine' unpackN_ ?k1 ?k2 ?k3 ?k4 ?k5 ?k6 ?_; (case k1 => k_asm); (case k2 => k_asm); (case k3 => exact Fr.tup (by k_asm) (by assumption)); (case k4 => exact rfl); (case k5 => exact rfl); (case k6 => exact rfl); k_whole); intro h' F' N'; (try k_sweep)))

def SR : List (Int × Int) := [(32, 126), (160, 172), (174, 767), (880, 1154), (9472, 9724), (10240, 10495)]
def single (c : Int) : Bool := SR.any fun r => decide (r.1 ≤ c) && decide (c ≤ r.2)
theorem sr_list {w : World} {h : Heap} (X : (hd.heap_39 w.params).In h) : ∃ o, h.get? 170 = some o ∧ h.IsList 170 ([.ref 164, .ref 165, .ref 166, .ref 167, .ref 168, .ref 169] : List Value).toArray := by
  walk_at "MINE fill"
  exact ⟨_, X 170 _ (by k_is), _, X 170 _ (by k_is), rfl, 0, rfl⟩
theorem sr_tup {w : World} {h : Heap} (X : (hd.heap_39 w.params).In h) {i : Nat} {v : Value} (hv : ([.ref 164, .ref 165, .ref 166, .ref 167, .ref 168, .ref 169] : List Value)[i]? = some v) :
    i < 6 ∧ v = .ref (164 + i) ∧ ∃ ta tb, IsTup h (164 + i) #[.int (SR.getD i (0, 0)).1 ta, .int (SR.getD i (0, 0)).2 tb] := by
  walk_at "MINE fill"
  have hi : i < 6 := (List.getElem?_eq_some_iff.mp hv).1
  have hc : i = 0 ∨ i = 1 ∨ i = 2 ∨ i = 3 ∨ i = 4 ∨ i = 5 := by omega
  rcases hc with rfl | rfl | rfl | rfl | rfl | rfl <;> (cases hv; refine ⟨hi, rfl, ?_⟩)
  · exact ⟨_, _, _, X 164 _ (by k_is), rfl, 0, rfl⟩
  · exact ⟨_, _, _, X 165 _ (by k_is), rfl, 0, rfl⟩
  · exact ⟨_, _, _, X 166 _ (by k_is), rfl, 0, rfl⟩
  · exact ⟨_, _, _, X 167 _ (by k_is), rfl, 0, rfl⟩
  · exact ⟨_, _, _, X 168 _ (by k_is), rfl, 0, rfl⟩
  · exact ⟨_, _, _, X 169 _ (by k_is), rfl, 0, rfl⟩
theorem single_no {c : Int} (h : ∀ j, j < 6 → ¬ ((SR.getD j (0, 0)).1 ≤ c ∧ c ≤ (SR.getD j (0, 0)).2)) : single c = false := by
  have h0 := h 0 (by omega); have h1 := h 1 (by omega); have h2 := h 2 (by omega); have h3 := h 3 (by omega); have h4 := h 4 (by omega); have h5 := h 5 (by omega)
  simp only [SR, List.getD_cons_zero, List.getD_cons_succ] at h0 h1 h2 h3 h4 h5
  simp only [single, SR, List.any_cons, List.any_nil, Bool.or_false, Bool.or_eq_false_iff, Bool.and_eq_false_iff, decide_eq_false_iff_not]
  omega
theorem single_yes {c : Int} {j : Nat} (hj : j < 6) (h : (SR.getD j (0, 0)).1 ≤ c ∧ c ≤ (SR.getD j (0, 0)).2) : single c = true := by
  cases q : single c with
  | true => rfl
  | false =>
    have hc : j = 0 ∨ j = 1 ∨ j = 2 ∨ j = 3 ∨ j = 4 ∨ j = 5 := by omega
    simp only [single, SR, List.any_cons, List.any_nil, Bool.or_false, Bool.or_eq_false_iff, Bool.and_eq_false_iff, decide_eq_false_iff_not] at q
    rcases hc with rfl | rfl | rfl | rfl | rfl | rfl <;> (simp only [SR, List.getD_cons_zero, List.getD_cons_succ] at h; omega)
theorem all_false {l : List Nat} {i c : Nat} {p : Nat → Bool} (h : l[i]? = some c) (hp : p c = false) : l.all p = false := by
  cases q : l.all p with
  | false => rfl
  | true => rw [List.all_eq_true.mp q c (List.mem_of_getElem? h)] at hp; cases hp
theorem take_all {l : List Nat} {i c : Nat} {p : Nat → Bool} (h : l[i]? = some c) (hp : (l.take i).all p = true) (hc : p c = true) : (l.take (i + 1)).all p = true := by
  rw [List.take_add_one, h, List.all_append, hp, Bool.true_and]
  simp [hc]
theorem no_more {p : Nat → Prop} {k : Nat} (h : ∀ j, j < k → ¬ p j) (hk : ¬ p k) : ∀ j, j < k + 1 → ¬ p j := fun j hj => by
  rcases Nat.lt_or_eq_of_le (Nat.le_of_lt_succ hj) with q | rfl
  · exact h j q
  · exact hk
theorem c_single (w : World) (xt : PySem.Str) (tx : Tok) : PCall w 177 [.str xt tx] 3 30 (fun _ => True) (fun v _ _ => v = .bool (xt.cps.toList.all fun c => single c)) := by
  walk_at "MINE fill"
  unfold PCall
  intro mean mg mb dp un fr gd s R hdp hun G _ hret
  walk_at "MINE enter"
  rename_i L1 H1 F1 N1 l1 kp1 X1 T1
  k_steps
  unfold Stop
  refine wpAny_For ?_
  k_steps
  refine forStr (fun i m news => news = [] ∧ (xt.cps.toList.take i).all (fun c => single c) = true) rfl (by assumption) (by assumption) ⟨rfl, rfl⟩ ?turn ?done
  case done =>
    rintro m news h tk ⟨rfl, hj⟩ F N
    k_steps
    have e : (xt.cps.toList.all fun c => single c) = true := by
      rw [← hj, List.take_of_length_le (by simp)]
    exact hret _ _ _ (by rw [e]) (Fr.keep F)
  case turn =>
    rintro i c t m news I oI h tk hc ⟨rfl, hj⟩ hn rfl F N
    k_steps
    unfold Stop
    refine wpAny_For ?_
    k_steps
    obtain ⟨o170, hg, hl⟩ := sr_list X1
    have hcl : xt.cps.toList[i]? = some c := by simpa using hc
    refine forLst (items := [.ref 164, .ref 165, .ref 166, .ref 167, .ref 168, .ref 169]) (fun k m' news' => news' = [(_, oI)] ∧ (∃ t, m' (PySem.Str.ofString "codepoint") = some (.int c t)) ∧ ∀ j, j < k → ¬ ((SR.getD j (0, 0)).1 ≤ (c : Int) ∧ (c : Int) ≤ (SR.getD j (0, 0)).2)) rfl (by assumption) (by assumption) (Heap.IsList.at hl (Fr.keep (by assumption) _)) (.inl ⟨_, hg⟩) ⟨rfl, ⟨_, rfl⟩, fun j hj => absurd hj (Nat.not_lt_zero _)⟩ ?turn2 ?done2
    case done2 =>
      rintro m' news' h' tk' ⟨rfl, _, hno⟩ F' N'
      k_steps
      have e : (xt.cps.toList.all fun c => single c) = false := all_false hcl (single_no hno)
      exact hret _ _ _ (by rw [e]) (Fr.keep F')
    case turn2 =>
      rintro k v m' news' I' oI' h' tk' hv ⟨rfl, ⟨tc, hm⟩, hno⟩ hn' hI' F' N'
      obtain ⟨hk, rfl, ta, tb, hT⟩ := sr_tup X1 hv
      have F3 := Fr.force [(PySem.Str.ofString "codepoint", Value.int c tc)] F' (by
        intro p hp
        simp only [List.mem_cons, List.not_mem_nil, or_false] at hp
        rcases hp with rfl
        exact hm)
      clear F'
      k_steps
      · show LEnd _ _ _ _ _ _ _
        refine ⟨_, _, _, [], rfl, by assumption, fun p hp => ?_, fun p hp => (nomatch hp), rfl, take_all hcl hj (single_yes hk ⟨by assumption, by assumption⟩)⟩
        exact (by assumption : News _ _ _ _) p (.tail _ hp)
      · show LEnd _ _ _ _ _ _ _
        refine' ⟨_, _, _, _, rfl, by assumption, by assumption, hn', rfl, ⟨_, rfl⟩, no_more hno fun h => by omega⟩
      · show LEnd _ _ _ _ _ _ _
        refine' ⟨_, _, _, _, rfl, by assumption, by assumption, hn', rfl, ⟨_, rfl⟩, no_more hno fun h => by omega⟩
end Mine

/- part L1 -/
namespace Mine
set_option maxHeartbeats 4000000
section
variable {prog : Program} {w : World} {A : Around} {E : Value → Shared → Prop} {s : Shared} {h₀ : Heap} {L D : Addr} {m : PySem.Str → Option Value} {news news' : List (Addr × Obj)} {vs : List Value} {n : Nat} {t u : Tok} {v v' : Value}
theorem ledL (N : News h₀ L s.heap news) (hm : (D, W.listOf vs.toArray n) ∈ news) : s.heap.IsList D vs.toArray := PySem.IsL.isList (n := n) (N _ hm).1
theorem truthyL {Q : Bool → Shared → Prop} (N : News h₀ L s.heap news) (hm : (D, W.listOf vs.toArray n) ∈ news) (hlen : vs.length ≤ 1000) (h : Q (!vs.isEmpty) { s with toks := s.toks + 1 + 1 }) :
    wpAny (model prog w) A (truthy (.ref D)) Q E s := by
  refine wpAny_truthy_list (ledL N hm) (by rw [List.size_toArray]; omega) ?_
  rw [show (!(vs.toArray).isEmpty) = !vs.isEmpty by cases vs <;> rfl]; exact h
theorem lenL {Q : Value → Shared → Prop} (N : News h₀ L s.heap news) (hm : (D, W.listOf vs.toArray n) ∈ news) (hlen : vs.length ≤ 1000) (h : Q (.int vs.length (s.toks + 1)) { s with toks := s.toks + 1 + 1 }) :
    wpAny (model prog w) A (call (.builtin "len") [.ref D]) Q E s := by
  refine len_list (ledL N hm) (by rw [List.size_toArray]; omega) ?_
  rw [List.size_toArray]; exact h
theorem lastItem {value slice : Expr} {Q : Value → Shared → Prop} (N : News h₀ L s.heap news) (hm : (D, W.listOf (vs ++ [v]).toArray n) ∈ news) (h : Q v s)
    (hs : subscripted slice false (.ref D) (.int (-1) u) = operate [.ref D, .int (-1) u] (getItem (.ref D) (.int (-1) u)) := by with_unfolding_all rfl) (hg : ∀ r, letTemporaryGo value (.ref D) r = pure () := by intro _; with_unfolding_all rfl) :
    wpAny (model prog w) A (subscriptTail value slice (.ref D) (.int (-1) u)) Q E s := by
  have hl := ledL N hm
  refine subscriptTail_builtin hl.typeIs slot_list_getitem.lookup (wpAny_getItem_list_neg hl (by omega) (by simp; omega) (by omega) ?_ h) hs hg
  rw [List.size_toArray, List.length_append]
  simp only [List.length_cons, List.length_nil]
  rw [show (-1 + ((vs.length + (0 + 1) : Nat) : Int)).toNat = vs.length by omega]
  simp
theorem setL_snoc : ∀ vs : List Value, ki_setL (vs ++ [v]) vs.length v' = some (vs ++ [v'])
  | [] => rfl
  | a :: vs => by
    have e := setL_snoc vs
    show (match ki_setL (vs ++ [v]) vs.length v' with | some q => some (a :: q) | none => none) = _
    rw [e]; rfl
theorem setLast {Q : Unit → Shared → Prop} (F : Fr h₀ L s.heap m) (N : News h₀ L s.heap news) (U : Upd D (W.listOf (vs ++ [v]).toArray n) (W.listOf (vs ++ [v']).toArray n) news news')
    (h : ∀ h', Fr h₀ L h' m → News h₀ L h' news' → Q () { s with heap := h' }) : wpAny (model prog w) A (setItem (.ref D) (.int (-1) t) v') Q E s := by
  refine ki_setNeg (j := vs.length) (q := vs ++ [v']) F N (by omega) (by omega) ?_ (setL_snoc vs) U h
  have e : (vs ++ [v]).toArray.size = vs.length + 1 := by simp
  rw [e]
  have e2 : seqIndex? (-1) (vs.length + 1) = some vs.length := by
    unfold seqIndex?
    have e3 : (if (-1 : Int) < 0 then -1 + ((vs.length + 1 : Nat) : Int) else -1) = (vs.length : Int) := by rw [if_pos (by omega)]; omega
    simp only [e3]
    rw [if_pos (by simp; omega)]
    simp
  exact e2
/-- made new between h and h' -/
def Led (h h' : Heap) (news : List (Addr × Obj)) : Prop := ∀ p ∈ news, h.get? p.1 = none ∧ h'.get? p.1 = some p.2
theorem News.led {h : Heap} (N : News h₀ L h news) : Led h₀ h news := fun p hp => ⟨(N p hp).2.2, (N p hp).1⟩
theorem News.sub {h : Heap} (N : News h₀ L h news) (k : ∀ p ∈ news', p ∈ news) : News h₀ L h news' := fun p hp => N p (k p hp)
theorem Led.toN {h h' : Heap} {nw : List (Addr × Obj)} (K : Led h h' nw) (F : Fr h₀ L h m) : News h₀ L h' nw := fun p hp => by
  obtain ⟨h1, h2⟩ := K p hp
  refine ⟨h2, fun e => ?_, ?_⟩
  · obtain ⟨oL, es, ep, hL, _⟩ := F.ns
    rw [e, hL] at h1; cases h1
  · cases q : h₀.get? p.1 with
    | none => rfl
    | some o' => have := F.keep _ _ q; rw [h1] at this; cases this
theorem News.join {h : Heap} {nw : List (Addr × Obj)} (N' : News h₀ L h nw) (N : News h₀ L h news) : News h₀ L h (nw ++ news) := fun p hp => by
  rcases List.mem_append.mp hp with hp | hp
  · exact N' p hp
  · exact N p hp
theorem Led.off {h h' : Heap} {nw : List (Addr × Obj)} (K : Led h h' nw) (N : News h₀ L h news) : ∀ p ∈ nw, ∀ q ∈ news, p.1 ≠ q.1 := fun p hp q hq e => by
  have h1 := (K p hp).1
  rw [e, (N q hq).1] at h1; cases h1
def tupO (vs : List Value) (n : Nat) : Obj := { cls := .type "tuple", data := .seq vs.toArray n }
theorem ledTup (N : News h₀ L s.heap news) (hm : (D, ({ cls := .type "tuple", data := .seq vs.toArray n } : Obj)) ∈ news) : IsTup s.heap D vs.toArray := ⟨_, (N _ hm).1, rfl, n, rfl⟩
theorem tupItem {value slice : Expr} {k : Int} {j : Nat} {Q : Value → Shared → Prop} (N : News h₀ L s.heap news) (hm : (D, ({ cls := .type "tuple", data := .seq vs.toArray n } : Obj)) ∈ news)
    (hlo : -(2 ^ 63) ≤ k) (hhi : k < 2 ^ 63) (hj : seqIndex? k vs.length = some j) (hx : vs[j]? = some v) (h : Q v s)
    (hs : subscripted slice false (.ref D) (.int k u) = operate [.ref D, .int k u] (getItem (.ref D) (.int k u)) := by with_unfolding_all rfl) :
    wpAny (model prog w) A (subscriptTail value slice (.ref D) (.int k u)) Q E s := item_tupleT (ledTup N hm) hlo hhi hj hx h hs
end
end Mine

/- part SG -/
namespace Mine
set_option maxHeartbeats 1000000
local macro_rules | `(tactic| walk_at "MINE fill") => `(tactic| (w_top off; have : ∀ (P : Params) (h : Heap), (hd.heap_39 P).In h → PySem.Challenge.rw_ey0019_01.Holds → True := by (k_fill; intros; trivial)))
local macro_rules | `(tactic| k_room) => `(tactic| ((try simp only [depth_under_make, depth_under_kw, depth_in1, depth_deeper, depth_caller]); omega))
local macro_rules | `(tactic| walk_at "MINE enter") => `(tactic| (k_dflt (refine' enter (news := []) ?G ?kg ?sz ?N ?ho ?hcd ?hroom ?hbind ?hloc ?_ ?c1 ?c2 ?c3 ?c4; (case G => assumption); (case kg => exact fun _ _ e => e); (case sz => exact Nat.le_refl _); (case N => exact fun _ h => nomatch h); (case ho => k_is); (case hcd => k_is); (case hroom => omega); (case hbind => first | exact BindsTo.of_eq rfl | exact binds_K (Gd.K (by assumption)) rfl (by k_is) rfl rfl rfl); (case hloc => exact locs rfl); (case c1 => exact rfl); (case c2 => exact rfl); (case c3 => exact rfl); (case c4 => decide)); intro L' h₁ F' N' l1 kp X' T'; (try dsimp only); (try k_fold)))
local macro_rules | `(tactic| walk_at "MINE rm") => `(tactic| first | omega | ((try simp only [depth_deeper, depth_in1, units_deeper, units_in1]); (try dsimp only); omega))
local macro_rules | `(tactic| walk_at "exec For") => `(tactic| (k_here; refine stop_of ?_))
local macro_rules | `(tactic| walk_at "exec For Name Name cons nil") => `(tactic| (k_here; refine stop_of ?_))
local macro_rules | `(tactic| walk_at "exec For Tuple Name cons nil") => `(tactic| (k_here; refine stop_of ?_))
local macro_rules | `(tactic| walk_at "exec For Name Call cons nil") => `(tactic| (k_here; refine stop_of ?_))
local macro_rules | `(tactic| walk_at "exec While") => `(tactic| (k_here; refine stop_of ?_))
local macro_rules | `(tactic| walk_at "exec While Compare cons nil") => `(tactic| (k_here; refine stop_of ?_))
local macro_rules | `(tactic| walk_at "assign Tuple") => `(tactic| (k_here; (with_reducible show wpAny _ _ (assign (Expr.Tuple _ _ _) _ (Value.ref _)) _ _ _); k_dflt (refine' unpackN_ ?k1 ?k2 ?k3 ?k4 ?k5 ?k6 ?_; (case k1 => k_asm); (case k2 => k_asm); (case k3 => exact Fr.tup (by k_asm) (by assumption)); (case k4 => exact rfl); (case k5 => exact rfl); (case k6 => exact rfl); k_whole); intro h' F' N'; (try k_sweep)))

local macro_rules | `(tactic| walk_at "call ref") => `(tactic| (k_here; k_dflt (refine' useP (c_load _ _ _) ?F ?N ?X ?T ?d ?u ?c ?_; (case F => k_asm); (case N => k_asm); (case X => k_asm); (case T => k_asm); (case d => walk_at "MINE rm"); (case u => walk_at "MINE rm"); (case c => exact trivial); k_whole); intro v9 h9 tk9 p9 k9 F9 N9; (obtain ⟨x9, t9, dx9, e9, hx9, hdx9, hf9⟩ := p9); subst e9; (try dsimp only)))

def okCodes : List Nat := [97, 98, 32, 20013, 54620, 769, 233, 99, 65313, 8203, 100, 101]
def sz (c : Nat) : Int := bs c 16 0 14
theorem ok_facts {c : Nat} (h : c ∈ okCodes) : 32 ≤ (c : Int) ∧ ((c : Int) < 127 ∨ 160 ≤ (c : Int)) ∧ (c : Int) < 128000 ∧ c ≠ 8205 ∧ c ≠ 65039 := by
  simp only [okCodes, List.mem_cons, List.not_mem_nil, or_false] at h
  omega
abbrev Sp := Int × Int × Int
def spStep (st : List Sp) (i z : Int) : List Sp := if z ≠ 0 then st ++ [(i, i + 1, z)] else match st.getLast? with
  | some p => st.dropLast ++ [(p.1, i + 1, p.2.2)]
  | none => [(i, i + 1, 0)]
def spFold (l : List Nat) : List Sp := (l.foldl (fun (p : Int × List Sp) c => (p.1 + 1, spStep p.2 p.1 (sz c))) (0, [])).2
def spDat (p : Sp) : Dat := .tuple [.int p.1, .int p.2.1, .int p.2.2]
def SInv (xt : PySem.Str) (tx tu tcc : Tok) (d l : Addr) (od : Obj) (g : Heap) (L : Addr) (s : Shared) (n : Nat) (s' : Shared) : Prop :=
  ∃ (i : Nat) (ti tt : Tok) (vs : List Value) (ln : Nat) (tl : List (Addr × Obj)) (h' : Heap) (tk' : Nat) (m' : PySem.Str → Option Value), s' = { s with heap := h', toks := tk' } ∧ Fr g L h' m' ∧
    (m' (PySem.Str.ofString "text") = some (.str xt tx) ∧ m' (PySem.Str.ofString "unicode_version") = some (.str "auto" tu) ∧ m' (PySem.Str.ofString "codepoint_count") = some (.int xt.length tcc) ∧ m' (PySem.Str.ofString "index") = some (.int i ti) ∧
      m' (PySem.Str.ofString "total_width") = some (.int ((xt.cps.toList.take i).map sz).sum tt) ∧ m' (PySem.Str.ofString "spans") = some (.ref l) ∧ m' (PySem.Str.ofString "SPECIAL") = some (.ref d)) ∧
    News g L h' ((d, od) :: (l, W.listOf vs.toArray ln) :: tl) ∧ OwnOff tl [d, l] ∧ DatAll tl vs ((spFold (xt.cps.toList.take i)).map spDat) ∧ i ≤ xt.length ∧ n = xt.length - i

theorem spFold_pre (l : List Nat) (a : Int) (st : List Sp) : (l.foldl (fun (p : Int × List Sp) c => (p.1 + 1, spStep p.2 p.1 (sz c))) (a, st)).1 = a + l.length := by
  induction l generalizing a st with
  | nil => simp
  | cons c l ih => rw [List.foldl_cons, ih]; simp only [List.length_cons]; omega
theorem spFold_snoc (l : List Nat) (c : Nat) : spFold (l ++ [c]) = spStep (spFold l) l.length (sz c) := by
  unfold spFold
  rw [List.foldl_append, List.foldl_cons, List.foldl_nil, spFold_pre]
  simp
theorem spStep_len (st : List Sp) (i z : Int) : (spStep st i z).length ≤ st.length + 1 := by
  unfold spStep
  split
  · simp
  · split
    · simp
    · simp
theorem spFold_len (l : List Nat) : (spFold l).length ≤ l.length := by
  suffices ∀ (a : Int) (st : List Sp), (l.foldl (fun (p : Int × List Sp) c => (p.1 + 1, spStep p.2 p.1 (sz c))) (a, st)).2.length ≤ st.length + l.length by
    simpa [spFold] using this 0 []
  induction l with
  | nil => intro a st; simp
  | cons c l ih =>
    intro a st
    rw [List.foldl_cons]
    refine Nat.le_trans (ih _ _) ?_
    have := spStep_len st a (sz c)
    simp only [List.length_cons]; omega
theorem take_more {l : List Nat} {i c : Nat} (h : l[i]? = some c) : l.take (i + 1) = l.take i ++ [c] := by
  rw [List.take_add_one, h]; rfl
theorem sum_more {l : List Nat} {i c : Nat} (h : l[i]? = some c) : ((l.take (i + 1)).map sz).sum = ((l.take i).map sz).sum + sz c := by
  rw [take_more h, List.map_append, List.sum_append]; simp
theorem fold_more {l : List Nat} {i c : Nat} (h : l[i]? = some c) : spFold (l.take (i + 1)) = spStep (spFold (l.take i)) i (sz c) := by
  rw [take_more h, spFold_snoc, List.length_take]
  have := (List.getElem?_eq_some_iff.mp h).1
  rw [Nat.min_eq_left (by omega)]
theorem item_at {xt : PySem.Str} {i c : Nat} (h : xt.cps.toList[i]? = some c) : Txt.item xt (i : Int) = ⟨#[c]⟩ := by
  obtain ⟨h1, h2⟩ := List.getElem?_eq_some_iff.mp h
  have h3 : i < xt.cps.size := by simpa using h1
  rw [item_meets ⟨by omega, by show (i : Int) < (xt.cps.size : Nat); omega⟩]
  have : xt.cps.getD i 0 = c := by
    rw [Array.getD_eq_getD_getElem?, Array.getElem?_eq_getElem h3]
    simpa using h2
  simp [this]
theorem no_special {xt : PySem.Str} {i c : Nat} (h : xt.cps.toList[i]? = some c) (hc : c ∈ okCodes) : (false || decide (Txt.item xt (i : Int) = PySem.Str.ofString "\u200d") || decide (Txt.item xt (i : Int) = PySem.Str.ofString "\ufe0f")) = false := by
  rw [item_at h]
  have f := ok_facts hc
  have e1 : (⟨#[c]⟩ : PySem.Str) ≠ PySem.Str.ofString "\u200d" := fun e => f.2.2.2.1 (by
    have : (#[c] : Array Nat) = #[8205] := congrArg PySem.Str.cps e
    simpa using this)
  have e2 : (⟨#[c]⟩ : PySem.Str) ≠ PySem.Str.ofString "\ufe0f" := fun e => f.2.2.2.2 (by
    have : (#[c] : Array Nat) = #[65039] := congrArg PySem.Str.cps e
    simpa using this)
  rw [decide_eq_false e1, decide_eq_false e2]; rfl
theorem c_gccsI (w : World) {xt x : PySem.Str} {i c : Nat} (h : xt.cps.toList[i]? = some c) (hc : c ∈ okCodes) (tc tx : Tok) : PCall w 185 [.str (Txt.item xt (i : Int)) tc, .str x tx] 8 80 (fun _ => True) (fun v h h' => ∃ t, v = .int (sz c) t) := by
  rw [item_at h]
  have f := ok_facts hc
  exact c_gccs2 w c x tc tx f.1 f.2.1 f.2.2.1
local macro_rules | `(tactic| walk_at "call ref") => `(tactic| (k_here; (with_reducible show wpAny _ _ (call (.ref 185) _) _ _ _); k_dflt (refine' useP (c_gccsI _ (by assumption) (by assumption) _ _) ?F ?N ?X ?T ?d ?u ?c ?_; (case F => k_asm); (case N => k_asm); (case X => k_asm); (case T => k_asm); (case d => walk_at "MINE rm"); (case u => walk_at "MINE rm"); (case c => exact trivial); k_whole); intro v9 h9 tk9 p9 k9 F9 N9; (obtain ⟨t9, e9⟩ := p9); subst e9; (try dsimp only)))
local macro_rules | `(tactic| walk_at "truthy ref") => `(tactic| first | (k_here; exfalso; have e9 := no_special (by assumption) (by assumption); rename (_ || _) = true => q9; rw [e9] at q9; cases q9) | (k_here; (try dsimp only); k_dflt (refine' truthyL ?N ?m ?l ?_; (case N => k_asm); (case m => k_mem); (case l => assumption); k_whole)))
local macro_rules | `(tactic| walk_at "truthy snd") => `(tactic| (k_here; exfalso; have e9 := no_special (by assumption) (by assumption); rename (_ || _) = true => q9; rw [e9] at q9; cases q9))
local macro_rules | `(tactic| walk_at "subscriptTail") => `(tactic| (k_here; k_dflt (refine' lastItem ?N ?m ?_ ?c; (case N => k_asm); (case m => k_mem); (case c => with_unfolding_all rfl); k_whole)))
local macro_rules | `(tactic| walk_at "subscriptTail Name UnaryOp ref int") => `(tactic| (k_here; k_dflt (refine' lastItem ?N ?m ?_ ?c; (case N => k_asm); (case m => k_mem); (case c => with_unfolding_all rfl); k_whole)))
local macro_rules | `(tactic| walk_at "setItem ref int") => `(tactic| (k_here; k_dflt (refine' setLast ?F ?N ?U ?_; (case F => k_asm); (case N => k_asm); (case U => k_upd); k_whole); intro h9 F9 N9; (try dsimp only [List.nil_append, List.cons_append] at N9)))
local macro_rules | `(tactic| walk_at "assign Tuple") => `(tactic| (k_here; (with_reducible show wpAny _ _ (assign (Expr.Tuple _ _ _) _ (Value.ref _)) _ _ _); k_dflt (refine' unpackN_ ?k1 ?k2 ?k3 ?k4 ?k5 ?k6 ?_; (case k1 => k_asm); (case k2 => k_asm); (case k3 => exact ledTup (by k_asm) (by repeat (first | assumption | apply List.Mem.tail))); (case k4 => exact rfl); (case k5 => exact rfl); (case k6 => exact rfl); k_whole); intro h' F' N'; (try k_sweep)))
theorem sp_shape {g h : Heap} {L D d l : Addr} {oD od ol : Obj} {tl : List (Addr × Obj)} (N : News g L h ((D, oD) :: (d, od) :: (l, ol) :: tl)) : News g L h ((d, od) :: (l, ol) :: (D, oD) :: tl) :=
  News.sub N fun p hp => by
    simp only [List.mem_cons] at hp ⊢
    rcases hp with rfl | rfl | rfl | hp
    · exact .inr (.inl rfl)
    · exact .inr (.inr (.inl rfl))
    · exact .inl rfl
    · exact .inr (.inr (.inr hp))
theorem sp_off {D d l : Addr} {oD : Obj} {tl : List (Addr × Obj)} (hoff : OwnOff tl [d, l]) (hlt : d < D ∧ l < D ∧ AllLt D tl) : OwnOff ((D, oD) :: tl) [d, l] := fun p hp b hb => by
  rcases List.mem_cons.mp hp with rfl | hp
  · simp only [List.mem_cons, List.not_mem_nil, or_false] at hb
    rcases hb with rfl | rfl
    · exact fun e => absurd hlt.1 (e ▸ Nat.lt_irrefl _)
    · exact fun e => absurd hlt.2.1 (e ▸ Nat.lt_irrefl _)
  · exact hoff p hp b hb
theorem sp_dat {D : Addr} {a b z : Int} {ta tb tz : Tok} {k : Nat} {tl : List (Addr × Obj)} {vs : List Value} {st : List Sp} (hd : DatAll tl vs (st.map spDat)) :
    DatAll ((D, ({ cls := .type "tuple", data := .seq #[.int a ta, .int b tb, .int z tz] k } : Obj)) :: tl) (vs ++ [.ref D]) ((st ++ [(a, b, z)]).map spDat) := by
  rw [List.map_append]
  exact DatAll.append (DatAll.mono (fun p hp => .tail _ hp) hd) (DatAll.one (.tuple (vs := [.int a ta, .int b tb, .int z tz]) (.head _) (.cons (.int _ _) (.cons (.int _ _) (.cons (.int _ _) .nil)))))
theorem spStep_yes {st : List Sp} {i z : Int} (h : z ≠ 0) : spStep st i z = st ++ [(i, i + 1, z)] := by
  unfold spStep; rw [if_pos h]
theorem spStep_nil {i : Int} : spStep [] i 0 = [] ++ [(i, i + 1, 0)] := rfl
theorem spStep_no {st : List Sp} {a b z i : Int} : spStep (st ++ [(a, b, z)]) i 0 = st ++ [(a, i + 1, z)] := by
  unfold spStep; simp
theorem push_list (vs : List Value) (x : Value) : vs.toArray.push x = (vs ++ [x]).toArray := by simp
local macro_rules | `(tactic| walk_at "MINE enterB") => `(tactic| (k_dflt (refine' enter (news := []) ?G ?kg ?sz ?N ?ho ?hcd ?hroom ?hbind ?hloc ?_ ?c1 ?c2 ?c3 ?c4; (case G => assumption); (case kg => exact fun _ _ e => e); (case sz => exact Nat.le_refl _); (case N => exact fun _ h => nomatch h); (case ho => k_is); (case hcd => k_is); (case hroom => omega); (case hbind => assumption); (case hloc => exact locs rfl); (case c1 => exact rfl); (case c2 => exact rfl); (case c3 => exact rfl); (case c4 => decide)); intro L' h₁ F' N' l1 kp X' T'; (try dsimp only); (try k_fold)))
theorem c_splitG (w : World) (args : List Value) (xt : PySem.Str) (tx tu9 : Tok) (hb : Binds w 216 args [(PySem.Str.ofString "text", .str xt tx), (PySem.Str.ofString "unicode_version", .str (PySem.Str.ofString "auto") tu9)]) (hlen : xt.length ≤ 100) (hok : ∀ c ∈ xt.cps.toList, c ∈ okCodes) : PCall w 216 args 12 130 (fun _ => True) (fun v h h' => ∃ tl, Led h h' tl ∧ DatIn tl v (.tuple [.list ((spFold xt.cps.toList).map spDat), .int ((xt.cps.toList.map sz).sum)])) := by
  walk_at "MINE fill"
  unfold PCall
  intro mean mg mb dp un fr gd s R hdp hun G _ hret
  have hbind9 := hb.use (by k_is) G.K
  walk_at "MINE enterB"
  rename_i L1 H1 F1 N1 l1 kp1 X1 T1
  k_steps
  unfold Stop
  rename News _ _ _ [(_, _), (_, _)] => N2
  rename Obj.SetObjOf _ _ _ _ => hset
  rename Fr _ _ _ _ => F2
  refine' wpAny_While (whileL (SInv xt tx ?tu ?tcc ?d ?l ?od s.heap L1 s) ?turn xt.length ?init)
  case init =>
    refine' ⟨0, _, _, [], 0, [], _, _, _, rfl, F2, ⟨rfl, rfl, rfl, rfl, rfl, rfl, rfl⟩, N2, fun p hp => (nomatch hp), DatAll.nil, Nat.zero_le _, (Nat.sub_zero _).symm⟩
  case turn =>
    rintro n s' ⟨i, ti, tt, vs, ln, tl, h', tk', m', rfl, F3, ⟨m1, m2, m3, m4, m5, m6, m7⟩, N3, hoff, hd, hi, hn⟩
    have F4 := Fr.force [(PySem.Str.ofString "text", Value.str xt tx), (PySem.Str.ofString "unicode_version", Value.str "auto" _), (PySem.Str.ofString "codepoint_count", Value.int xt.length _), (PySem.Str.ofString "index", Value.int i ti), (PySem.Str.ofString "total_width", Value.int ((xt.cps.toList.take i).map sz).sum tt), (PySem.Str.ofString "spans", Value.ref _), (PySem.Str.ofString "SPECIAL", Value.ref _)] F3 (by
      intro p hp
      simp only [List.mem_cons, List.not_mem_nil, or_false] at hp
      rcases hp with rfl | rfl | rfl | rfl | rfl | rfl | rfl <;> assumption)
    clear F3 F2 N2
    by_cases hilt : i < xt.length
    · obtain ⟨c, hc⟩ : ∃ c, xt.cps.toList[i]? = some c := by
        have : i < xt.cps.toList.length := by have : i < xt.cps.size := hilt; simpa using this
        exact ⟨_, List.getElem?_eq_getElem this⟩
      have hcok : c ∈ okCodes := hok c (List.mem_of_getElem? hc)
      have hvl : vs.length ≤ 1000 := by
        rw [hd.length, List.length_map]
        have := spFold_len (xt.cps.toList.take i)
        rw [List.length_take] at this
        omega
      have hdl := hd.length
      rcases (show vs = [] ∨ ∃ ws v, vs = ws ++ [v] by rcases List.eq_nil_or_concat vs with e | ⟨ws, v, e⟩; exact .inl e; exact .inr ⟨ws, v, by rw [e, List.concat_eq_append]⟩) with rfl | ⟨vs, v, rfl⟩
      · have hz0 : spFold (xt.cps.toList.take i) = [] := by
          have : (spFold (xt.cps.toList.take i)).length = 0 := by simpa using hdl.symm
          exact List.length_eq_zero_iff.mp this
        have hf := fold_more hc
        have hsum := sum_more hc
        rw [hz0] at hf hd
        k_steps
        · show Again _ _ _
          rw [spStep_yes (by assumption)] at hf
          refine' ⟨n - 1, by omega, i + 1, _, _, _, _, _, _, _, _, rfl, by assumption, ⟨rfl, rfl, rfl, rfl, by rw [hsum]; rfl, rfl, rfl⟩, sp_shape (by assumption), sp_off hoff (by assumption), _, by omega, by omega⟩
          rw [hf]
          exact sp_dat hd
        · show Again _ _ _
          rename sz c = 0 => hsz
          rw [hsz, spStep_nil] at hf
          refine' ⟨n - 1, by omega, i + 1, _, _, _, _, _, _, _, _, rfl, by assumption, ⟨rfl, rfl, rfl, rfl, by rw [hsum, hsz, Int.add_zero]; rfl, rfl, rfl⟩, sp_shape (by assumption), sp_off hoff (by assumption), _, by omega, by omega⟩
          rw [hf]
          exact sp_dat hd
      · obtain ⟨ds, d0, hde, hd1, hdv⟩ := hd.snoc
        obtain ⟨st, p0, hst, hds, hdp0⟩ : ∃ st p0, spFold (xt.cps.toList.take i) = st ++ [p0] ∧ ds = st.map spDat ∧ d0 = spDat p0 := by
          rcases List.eq_nil_or_concat (spFold (xt.cps.toList.take i)) with e | ⟨st, p0, e⟩
          · rw [e] at hde; simp at hde
          · rw [List.concat_eq_append] at e
            refine ⟨st, p0, e, ?_⟩
            rw [e, List.map_append] at hde
            have := List.append_inj' hde rfl
            exact ⟨this.1.symm, by simpa using this.2.symm⟩
        subst hds hdp0
        obtain ⟨pa, pb, pz⟩ := p0
        have hf := fold_more hc
        have hsum := sum_more hc
        rw [hst] at hf hd
        cases hdv with
        | tuple hmv hal =>
        cases hal with
        | cons q1 hal =>
        cases q1
        cases hal with
        | cons q2 hal =>
        cases q2
        cases hal with
        | cons q3 hal =>
        cases q3
        cases hal
        k_steps
        · show Again _ _ _
          rw [spStep_yes (by assumption)] at hf
          rename News _ _ _ ((_, _) :: (_, _) :: (_, W.listOf (Array.push _ _) _) :: _) => N9
          rw [push_list] at N9
          refine' ⟨n - 1, by omega, i + 1, _, _, _, _, _, _, _, _, rfl, by assumption, ⟨rfl, rfl, rfl, rfl, by rw [hsum]; rfl, rfl, rfl⟩, sp_shape N9, sp_off hoff (by assumption), _, by omega, by omega⟩
          rw [hf]
          exact sp_dat hd
        · exfalso
          rename List.isEmpty _ = true => q9
          simp at q9
        · show Again _ _ _
          rename sz c = 0 => hsz
          rw [hsz, spStep_no] at hf
          refine' ⟨n - 1, by omega, i + 1, _, _, _, _, _, _, _, _, rfl, by assumption, ⟨rfl, rfl, rfl, rfl, by rw [hsum, hsz, Int.add_zero]; rfl, rfl, rfl⟩, sp_shape (by assumption), sp_off hoff (by assumption), _, by omega, by omega⟩
          rw [hf]
          exact sp_dat hd1
    · have hie : i = xt.length := by omega
      have htk : xt.cps.toList.take i = xt.cps.toList := List.take_of_length_le (by rw [hie]; simp [PySem.Str.length])
      rw [htk] at hd
      k_steps
      rename News _ _ _ ((_, _) :: _) => N9
      rename Fr _ _ _ _ => F9
      refine hret _ _ _ ⟨_, News.led N9, ?_⟩ (Fr.keep F9)
      rw [htk]
      exact .tuple (vs := [.ref _, .int _ _]) (.head _) (.cons (.list (vs := vs) (.tail _ (.tail _ (.head _))) (DatAll.mono (fun p hp => .tail _ (.tail _ (.tail _ hp))) hd)) (.cons (.int _ _) .nil))
theorem c_split (w : World) (xt : PySem.Str) (tx : Tok) (hlen : xt.length ≤ 100) (hok : ∀ c ∈ xt.cps.toList, c ∈ okCodes) : PCall w 216 [.str xt tx] 12 130 (fun _ => True) (fun v h h' => ∃ tl, Led h h' tl ∧ DatIn tl v (.tuple [.list ((spFold xt.cps.toList).map spDat), .int ((xt.cps.toList.map sz).sum)])) := by
  refine c_splitG w _ xt tx 526 (fun oc od fd sl hl s X => ?_) hlen hok
  walk_at "MINE fill"
  k_dflt (refine' bindsOf ?a ?b ?c; (case b => exact hl); (case a => k_is))
  k_dflt (first | exact BindsTo.of_eq rfl | exact binds_K X rfl (by k_is) rfl rfl rfl)
theorem c_split2 (w : World) (xt : PySem.Str) (tx tu : Tok) (hlen : xt.length ≤ 100) (hok : ∀ c ∈ xt.cps.toList, c ∈ okCodes) : PCall w 216 [.str xt tx, .str (PySem.Str.ofString "auto") tu] 12 130 (fun _ => True) (fun v h h' => ∃ tl, Led h h' tl ∧ DatIn tl v (.tuple [.list ((spFold xt.cps.toList).map spDat), .int ((xt.cps.toList.map sz).sum)])) := by
  refine c_splitG w _ xt tx tu (fun oc od fd sl hl s X => ?_) hlen hok
  walk_at "MINE fill"
  k_dflt (refine' bindsOf ?a ?b ?c; (case b => exact hl); (case a => k_is))
  k_dflt (first | exact BindsTo.of_eq rfl | exact binds_K X rfl (by k_is) rfl rfl rfl)
end Mine

/- part M1 -/
namespace Mine
set_option maxHeartbeats 4000000
section
variable {w : World} {mean : ExcName → Option Value} {mg mb : PySem.Str → Option Value} {dp un : Nat} {fr : Option (List Env)} {gd : Option (List PySem.Code)} {s : Shared} {g : Heap} {news : List (Addr × Obj)} {R : Result → Shared → Prop}
  {name qual : PySem.Str} {params : Arguments} {body : List Stmt} {scope : Scope} {dV kV doc pm cdv ct oc : Value} {an od : Option Addr} {osl : Array (Option Value)} {f : Addr} {args : Args} {binds : List (PySem.Str × Value)}
theorem enterC (G : Gd w mean mg mb g) (kg : Kp g s.heap) (sz : g.objs.size ≤ s.heap.objs.size) (N : ∀ p ∈ news, s.heap.get? p.1 = some p.2 ∧ g.get? p.1 = none)
    (ho : (hd.heap_39 w.params).lookup f = some ⟨oc, od, .func (fnOf name qual params body scope dV kV doc pm an cdv ct), osl⟩) (hcd : codeIn (hd.heap_39 w.params) cdv qual = true) (hroom : dp < recursionLimit)
    (hbind : BindsTo s (fnOf name qual params body scope dV kV doc pm an cdv ct) args binds) (hkind : (binds.all fun y => scope.names.lookup y.1 == some .local || scope.names.lookup y.1 == some .cell) = true)
    (hnd : ((cellsFrom 0 scope.names []).map (·.1)).Nodup)
    (h : ∀ L' h₁ tk cells, Fr g L' h₁ (bindL (envOfC qual scope L' f cdv).kindOf binds fun _ => none) → News g L' h₁ (cells ++ news) →
      CellsAre (bindC (envOfC qual scope L' f cdv).kindOf binds fun _ => none) (cellsFrom (L' + 1) scope.names []) cells → (∀ p ∈ news, p.1 < L') → Kp s.heap h₁ → (hd.heap_39 w.params).In g → Top topProg LN mean mg mb g →
      wpAny (model PR w) (Around.deeper ⟨none, dp, fr, gd, un⟩ (envOfC qual scope L' f cdv)) (execs body (envOfC qual scope L' f cdv))
        (fun fl s' => R (.ok (.ret (match fl with | .ret v => v | _ => .none))) s') (fun _ _ => False) { s with heap := h₁, toks := tk })
    (hco : scope.isCoroutine = false) (hgen : scope.isGenerator = false) (hk : scope.kind = .function) : codeAny (model PR w) ⟨none, dp, fr, gd, un⟩ (.call (.ref f) args) R s := by
  refine codeAny_call_function hroom (kg _ _ (G.K _ _ ho)) rfl hco hgen rfl (codeRec_of (G.K.keeps kg) hcd) (hbind _ _ _ _ ?_)
  refine wpAny_newFunctionEnv_cells hk (kindsX hkind _) fun env' he s' x => ?_
  subst he
  refine ⟨(G.T.nolimit.keeps kg).keeps x.toInCall.keep, codeAny_func ?_⟩
  obtain ⟨h₁, tk, rfl, _⟩ := x.done
  have hk₁ := x.toInCall.keep
  obtain ⟨cells, NC, Y⟩ := Cl.news (h₀ := g) sz fun n c hm => ⟨x.cell n c (lookup_of_mem_nodup (cellsFrom_names scope.names 0 (s.heap.objs.size + 1) [] [] rfl ▸ hnd) hm), x.above n c hm⟩
  refine wpAny_mono (h s.heap.objs.size h₁ tk cells ⟨x.toInCall.ns, fun b o e => hk₁ b o (kg _ _ e), sz⟩ (fun p hp => ?_) Y (fun p hp => Heap.lt_size (N p hp).1) hk₁ G.K G.T) (fun fl s' hl => hl) fun _ _ y => y.elim
  rcases List.mem_append.mp hp with hp | hp
  · exact NC p hp
  · exact ⟨hk₁ _ _ (N p hp).1, Nat.ne_of_lt (Heap.lt_size (N p hp).1), (N p hp).2⟩
end

/-- the code table of the def with a generator expression -/
def CTab (h : Heap) : Prop := ∃ ps, CodeHd h 207 203 ∧ h.get? 203 = some (tabObj ps) ∧ TriplesOk ps.toList
/-- a call that may write the code table and leave generators -/
def GCall (w : World) (f : Addr) (args : List Value) (nd nu : Nat) (P : Value → Prop) : Prop :=
  ∀ (mean : ExcName → Option Value) (mg mb : PySem.Str → Option Value) (dp un : Nat) (fr : Option (List Env)) (gd : Option (List PySem.Code)) (s : Shared) (g : Heap) (R : Result → Shared → Prop),
    dp + nd < recursionLimit → un + nu < cLine → Gd w mean mg mb g → Kp g s.heap → g.objs.size ≤ s.heap.objs.size → g.get? 203 = none → CTab s.heap → AllBare s.gens →
    (∀ v s', P v → (∀ b o, b ≠ 203 → s.heap.get? b = some o → s'.heap.get? b = some o) → CTab s'.heap → AllBare s'.gens → s'.os = s.os → R (.ok (.ret v)) s') →
    codeAny (model PR w) ⟨none, dp, fr, gd, un⟩ (.call (.ref f) ⟨args, []⟩) R s
theorem ghostBase {w : World} {mean : ExcName → Option Value} {mg mb : PySem.Str → Option Value} {g h : Heap} {a : Addr} (G : Gd w mean mg mb g) (kg : Kp g h) (hn : g.get? a = none) :
    ∃ g₂, Gd w mean mg mb g₂ ∧ Kp g₂ h ∧ g₂.objs.size ≤ h.objs.size ∧ g₂.get? a = none ∧ ∀ b o, b ≠ a → h.get? b = some o → g₂.get? b = some o := by
  have hk : ∀ b o, b ≠ a → h.get? b = some o → (hideAll h [a]).get? b = some o := fun b o hb e => hideAll_get _ e (fun q => hb (List.mem_singleton.mp q))
  exact ⟨hideAll h [a], G.keeps fun b o e => hk b o (fun q => by rw [q, hn] at e; cases e) (kg _ _ e), fun b o e => of_hideAll _ e, Nat.le_of_eq (hideAll_size _ _), hideAll_none _ (.head _), hk⟩
theorem codeHd_but {h h' : Heap} (C : CodeHd h 207 203) (k : ∀ b o, b ≠ 203 → h.get? b = some o → h'.get? b = some o) : CodeHd h' 207 203 :=
  let ⟨o, vs, file, tf, flags, tg, inF, text, tt, e, r⟩ := C; ⟨o, vs, file, tf, flags, tg, inF, text, tt, k _ _ (by decide) e, r⟩
section
variable {w : World} {mean : ExcName → Option Value} {mg mb : PySem.Str → Option Value} {dp un nd nu : Nat} {fr : Option (List Env)} {gd : Option (List PySem.Code)} {s : Shared} {h₀ : Heap} {L : Addr} {m : PySem.Str → Option Value} {pre post : List (Addr × Obj)}
  {f : Addr} {args : List Value} {P : Value → Prop} {Q E : Value → Shared → Prop} {ps : Array Value}
theorem useG (c : GCall w f args nd nu P) (F : Fr h₀ L s.heap m) (N : News h₀ L s.heap (pre ++ (203, tabObj ps) :: post)) (hpre : ∀ p ∈ pre, p.1 ≠ 203) (hpost : ∀ p ∈ post, p.1 ≠ 203) (C : CodeHd h₀ 207 203) (ht : TriplesOk ps.toList) (X : (hd.heap_39 w.params).In h₀) (T : Top topProg LN mean mg mb h₀)
    (hg : AllBare s.gens) (hdp : dp + nd < recursionLimit) (hun : un + nu < cLine)
    (h : ∀ v s' ps', P v → AllBare s'.gens → s'.os = s.os → TriplesOk ps'.toList → Fr h₀ L s'.heap m → News h₀ L s'.heap (pre ++ (203, tabObj ps') :: post) → Q v s') :
    wpAny (model PR w) ⟨none, dp, fr, gd, un⟩ (call (.ref f) args) Q E s := by
  have n3 := N (203, tabObj ps) (List.mem_append_right _ (.head _))
  have sz : h₀.objs.size ≤ s.heap.objs.size := Nat.le_trans F.above (Nat.le_of_lt F.ns.lt)
  refine wpAny_call (c mean mg mb dp un fr gd s h₀ _ hdp hun ⟨X, T⟩ F.keep sz n3.2.2 ⟨ps, C.keeps F.keep, n3.1, ht⟩ hg ?_)
  rintro v s' p k ⟨ps', C', h3, ht'⟩ hg' hos
  refine h v s' ps' p hg' hos ht' ⟨F.ns.at' fun o e => k _ _ (Ne.symm n3.2.1) e, fun b o e => k _ _ (fun q => by rw [q, n3.2.2] at e; cases e) (F.keep b o e), F.above⟩ fun p hp => ?_
  rcases List.mem_append.mp hp with hp | hp
  · have := N p (List.mem_append_left _ hp)
    exact ⟨k _ _ (hpre p hp) this.1, this.2⟩
  · rcases List.mem_cons.mp hp with rfl | hp
    · exact ⟨h3, n3.2⟩
    · have := N p (List.mem_append_right _ (.tail _ hp))
      exact ⟨k _ _ (hpost p hp) this.1, this.2⟩
end
end Mine

/- part GE -/
namespace Mine
set_option maxHeartbeats 4000000
theorem ltA {a b c : Nat} (h1 : a < b) (h2 : b ≤ c) : a ≠ c := by omega
theorem passing_all (n : Nat) : passing (fun _ => true) n 0 = List.range n := by
  unfold passing; simp
section
variable {w : World} {mean : ExcName → Option Value} {mg mb : PySem.Str → Option Value} {A : Around} {s : Shared} {g : Heap} {L : Addr} {m : PySem.Str → Option Value} {pre post : List (Addr × Obj)} {ps : Array Value} {E : Value → Shared → Prop}
theorem genStr {env : Env} {elt iter : Expr} {x : PySem.Str} {px : Pos} {scope : Scope} {cl : List (PySem.Str × Addr)} {pos : Pos} {Q : Value → Shared → Prop} {xt : PySem.Str} {tx : Tok} (Fv : Nat → Value → Prop)
    (F : Fr g L s.heap m) (T : Top topProg LN mean mg mb g) (N : News g L s.heap (pre ++ (203, tabObj ps) :: post)) (hpre : ∀ p ∈ pre, p.1 ≠ 203) (hpost : ∀ p ∈ post, p.1 ≠ 203) (C : CodeHd g 207 203) (ht : TriplesOk ps.toList) (hg : AllBare s.gens)
    (hcode : env.code = .ref 207) (hgl : env.globals = mainGlobals)
    (hh : A.handled = none) (hco : scope.isCoroutine = false) (hclos : closureFor scope env = pure cl) (hcell : ∀ y ∈ scope.names, y.2 ≠ .cell) (h0 : scope.names.lookup (".0" : PySem.Str) = some NameKind.local)
    (hx : scope.names.lookup x = some .local) (hkind : scope.kind = .function) (hroom : A.depth < recursionLimit)
    (hiter : ∀ Q : Value → Shared → Prop, Q (.str xt tx) s → wpAny (model PR w) A (eval iter env) Q E s) (hs : ∀ x, genFold iter env x = pure x)
    (helt : ∀ (C' : Addr) (code : Value) (A' : Around) E' i c t (t₂ : Shared) m₂, A'.handled = none → A'.depth ≤ A.depth + 1 → A'.units ≤ A.units + 8 → xt.cps[i]? = some c → Fr g C' t₂.heap m₂ → News g C' t₂.heap (pre ++ post) → m₂ x = some (.str ⟨#[c]⟩ t) →
      wpAny (model PR w) A' (eval elt (genEnv scope cl C' code builtinsNs env)) (fun y s₃ => Fv i y ∧ Keeps t₂ s₃) E' t₂)
    (hQ : ∀ a K s₅ ps', TriplesOk ps'.toList → Fr g L s₅.heap m → News g L s₅.heap (pre ++ (203, tabObj ps') :: post) → AllBare s₅.gens → s₅.os = s.os → K + 1 = s.heap.objs.size →
      (∀ b o, b ≠ 203 → s.heap.get? b = some o → s₅.heap.get? b = some o) → Gen PR w A K a xt.cps.size Fv s₅ → Q (.ref a) s₅) :
    wpAny (model PR w) A (eval (.GeneratorExp elt [⟨.Name x px, iter, [], 0⟩] scope pos) env) Q E s := by
  obtain ⟨bm, ob, M⟩ := bmod_of_top T
  have hlim : s.heap.NoLimit := T.nolimit.keeps F.keep
  have hL : L < s.heap.objs.size := F.ns.lt
  have n3 := N (203, tabObj ps) (List.mem_append_right _ (.head _))
  have key : ∀ (o : Obj) (St : Nat → Heap → Prop), (∀ A' : Around, A'.handled = none → Walks PR w A' s.heap.objs.size [s.heap.objs.size] [s.heap.objs.size] xt.cps.size (SignAt xt) St) → St 0 (s.heap.push o) →
      ({ s with heap := s.heap.push o } : Shared).heap.NoLimit ∧ wpAny (model PR w) A (genexprCode env pos (env.qual ++ "<genexpr>") scope) (fun code s₃ => wpAny (model PR w) A (builtinsFor env.globals env.builtins) (fun bi s₄ =>
        ∃ I fp wr n₀ P St₀ pz F, (.ref s.heap.objs.size : Value) = .ref I ∧ (∀ A' : Around, A'.handled = none → Walks PR w A' I fp wr n₀ P St₀) ∧ St₀ 0 s₄.heap ∧ (∀ b ∈ fp, b < s₄.heap.objs.size) ∧ s₄.heap.NoLimit ∧ cStatics ∉ wr ∧
          (∀ href : Heap, (∀ b o, s₄.heap.get? b = some o → href.get? b = some o) →
            QuietGenD PR w (genEnv scope cl s₄.heap.objs.size code bi env) x [] elt (List.range s₄.heap.objs.size) wr P pz F href (A.depth + 1) (A.units + 8)) ∧
          (∀ a h₅ tk gs, gs.bare = true → s₄.heap.objs.size < a → h₅.objs.size = a + 1 → (∀ b o, s₄.heap.get? b = some o → h₅.get? b = some o) →
            WalksS PR w A.in4 a (a :: s₄.heap.objs.size :: List.range s₄.heap.objs.size) (s₄.heap.objs.size :: wr) (GenOnlyQ s₄.gens.size) (passing pz n₀ 0).length
              (fun j y => ∃ i, (passing pz n₀ 0)[j]? = some i ∧ F i y) (GenAt PR w A.in4 a s₄.gens.size s₄.heap.objs.size (List.range s₄.heap.objs.size) wr pz n₀ F) →
            GenAt PR w A.in4 a s₄.gens.size s₄.heap.objs.size (List.range s₄.heap.objs.size) wr pz n₀ F 0 { s₄ with gens := s₄.gens.push gs, toks := tk, heap := h₅ } →
            Q (.ref a) { s₄ with gens := s₄.gens.push gs, toks := tk, heap := h₅ })) E s₃) E { s with heap := s.heap.push o } := by
    intro o St W hst
    have kp0 : ∀ b ob, s.heap.get? b = some ob → (s.heap.push o).get? b = some ob := fun b ob e => Heap.get?_push_of_some _ e
    refine ⟨hlim.keeps kp0, ?_⟩
    have C0 : CodeHd (s.heap.push o) 207 203 := (C.keeps F.keep).keeps kp0
    have h203 : (s.heap.push o).get? 203 = some (tabObj ps) := kp0 _ _ n3.1
    have fin : ∀ (code : Value) (h₃ : Heap) (tk₃ : Nat) (ps' : Array Value), (∀ b ob, b ≠ 203 → (s.heap.push o).get? b = some ob → h₃.get? b = some ob) → (s.heap.push o).objs.size ≤ h₃.objs.size → h₃.get? 203 = some (tabObj ps') → TriplesOk ps'.toList →
        wpAny (model PR w) A (builtinsFor env.globals env.builtins) (fun bi s₄ =>
        ∃ I fp wr n₀ P St₀ pz F, (.ref s.heap.objs.size : Value) = .ref I ∧ (∀ A' : Around, A'.handled = none → Walks PR w A' I fp wr n₀ P St₀) ∧ St₀ 0 s₄.heap ∧ (∀ b ∈ fp, b < s₄.heap.objs.size) ∧ s₄.heap.NoLimit ∧ cStatics ∉ wr ∧
          (∀ href : Heap, (∀ b o, s₄.heap.get? b = some o → href.get? b = some o) →
            QuietGenD PR w (genEnv scope cl s₄.heap.objs.size code bi env) x [] elt (List.range s₄.heap.objs.size) wr P pz F href (A.depth + 1) (A.units + 8)) ∧
          (∀ a h₅ tk gs, gs.bare = true → s₄.heap.objs.size < a → h₅.objs.size = a + 1 → (∀ b o, s₄.heap.get? b = some o → h₅.get? b = some o) →
            WalksS PR w A.in4 a (a :: s₄.heap.objs.size :: List.range s₄.heap.objs.size) (s₄.heap.objs.size :: wr) (GenOnlyQ s₄.gens.size) (passing pz n₀ 0).length
              (fun j y => ∃ i, (passing pz n₀ 0)[j]? = some i ∧ F i y) (GenAt PR w A.in4 a s₄.gens.size s₄.heap.objs.size (List.range s₄.heap.objs.size) wr pz n₀ F) →
            GenAt PR w A.in4 a s₄.gens.size s₄.heap.objs.size (List.range s₄.heap.objs.size) wr pz n₀ F 0 { s₄ with gens := s₄.gens.push gs, toks := tk, heap := h₅ } →
            Q (.ref a) { s₄ with gens := s₄.gens.push gs, toks := tk, heap := h₅ })) E { s with heap := h₃, toks := tk₃ } := by
      intro code h₃ tk₃ ps' hk₃ hsz₃ h203' ht'
      have hk3 : ∀ b ob, b ≠ 203 → s.heap.get? b = some ob → h₃.get? b = some ob := fun b ob hb e => hk₃ b ob hb (kp0 _ _ e)
      have gk : ∀ b ob, g.get? b = some ob → h₃.get? b = some ob := fun b ob e => hk3 b ob (fun q => by rw [q, n3.2.2] at e; cases e) (F.keep b ob e)
      have M₃ : BMod h₃ env.globals mg bm ob := by rw [hgl]; exact M.keeps gk
      have hsz : s.heap.objs.size + 1 ≤ h₃.objs.size := by rw [Heap.size_push] at hsz₃; exact hsz₃
      refine wpAny_builtinsFor M₃.ns M₃.name M₃.ne M₃.obj M₃.cls M₃.dict M₃.data ?_
      have l203 : 203 < s.heap.objs.size := Heap.lt_size n3.1
      refine ⟨s.heap.objs.size, [s.heap.objs.size], [s.heap.objs.size], xt.cps.size, SignAt xt, St, fun _ => true, Fv, rfl, W, (W A hh).frame _ _ _ hst (fun b hb ob e => hk₃ b ob (fun q => absurd ((List.mem_singleton.mp hb).symm.trans q).symm (Nat.ne_of_lt l203)) e),
        (fun b hb => by rw [List.mem_singleton.mp hb]; exact Nat.lt_of_succ_le hsz), T.nolimit.keeps gk, ?_, ?_, ?_⟩
      · intro hm
        obtain ⟨_, hns, _⟩ := hlim
        have := hns.lt
        rw [← List.mem_singleton.mp hm] at this
        exact Nat.lt_irrefl _ this
      · intro href hhref
        have inB : ∀ (t : Shared) m₂, t.heap.Ns h₃.objs.size m₂ → (∀ b ∈ List.range h₃.objs.size, b ∉ [s.heap.objs.size] → ∀ o, href.get? b = some o → t.heap.get? b = some o) →
            Fr g h₃.objs.size t.heap m₂ ∧ News g h₃.objs.size t.heap (pre ++ post) := fun t m₂ hn hkp => by
          have kk : ∀ b ob, b < s.heap.objs.size → h₃.get? b = some ob → t.heap.get? b = some ob := fun b ob hb e =>
            hkp b (List.mem_range.mpr (Heap.lt_size e)) (fun q => by rw [List.mem_singleton.mp q] at hb; exact Nat.lt_irrefl _ hb) ob (hhref b ob e)
          refine ⟨⟨hn, fun b ob e => kk b ob (Heap.lt_size (F.keep b ob e)) (gk b ob e), ?_⟩, fun p hp => ?_⟩
          · exact Nat.le_trans F.above (Nat.le_trans (Nat.le_of_lt hL) (Nat.le_trans (Nat.le_succ _) hsz))
          · have hp' : p ∈ pre ++ (203, tabObj ps) :: post ∧ p.1 ≠ 203 := by
              rcases List.mem_append.mp hp with q | q
              · exact ⟨List.mem_append_left _ q, hpre p q⟩
              · exact ⟨List.mem_append_right _ (.tail _ q), hpost p q⟩
            have n := N p hp'.1
            have hlt := Heap.lt_size n.1
            exact ⟨kk _ _ hlt (hk3 _ _ hp'.2 n.1), ltA hlt (Nat.le_trans (Nat.le_succ _) hsz), n.2.2⟩
        refine ⟨fun A' E' i v t m₂ hA hD hU hP hn hm hkp => ?_, fun A' E' i v t m₂ hA hD hU hP _ hn hm hkp => ?_⟩
        · exact wpAny_pure ⟨rfl, _, _, rfl, fun _ _ e => e⟩
        · obtain ⟨c, u, hc, rfl⟩ := hP
          exact helt _ _ A' E' i c u t m₂ hA hD hU hc (inB t m₂ hn hkp).1 (inB t m₂ hn hkp).2 hm
      · intro a h₅ tk gs hgb hag hsz₅ hk₅ W5 hat
        have k5 : ∀ b ob, b ≠ 203 → s.heap.get? b = some ob → h₅.get? b = some ob := fun b ob hb e => hk₅ _ _ (hk3 _ _ hb e)
        rw [passing_all] at W5
        rw [List.length_range] at W5
        refine hQ a (s.heap.objs.size - 1) _ ps' ht' ⟨F.ns.at' fun ob e => k5 _ _ (Ne.symm n3.2.1) e, fun b ob e => hk₅ _ _ (gk _ _ e), F.above⟩ (fun p hp => ?_) (hg.push hgb) rfl (by omega) k5
          ⟨_, _, _, _, W5.imp ?_, hat, (fun i s' st => st.1.typeIs), List.mem_cons_self, ?_, ?_⟩
        · rcases List.mem_append.mp hp with q | q
          · have n := N p (List.mem_append_left _ q)
            exact ⟨k5 _ _ (hpre p q) n.1, n.2⟩
          · rcases List.mem_cons.mp q with rfl | q
            · exact ⟨hk₅ _ _ h203', n3.2⟩
            · have n := N p (List.mem_append_right _ (.tail _ q))
              exact ⟨k5 _ _ (hpost p q) n.1, n.2⟩
        · rintro i v ⟨j, hj, hv⟩
          have : j = i := by
            rw [List.getElem?_range] at hj
            · exact (Option.some.inj hj).symm
            · exact Nat.lt_of_not_le fun hc => by
                rw [List.getElem?_eq_none (by simpa using hc)] at hj; cases hj
          rw [← this]; exact hv
        · intro b hb
          show b < h₅.objs.size
          rw [hsz₅]
          have hag' : h₃.objs.size < a := hag
          rcases List.mem_cons.mp hb with rfl | hb
          · exact Nat.lt_succ_self _
          · rcases List.mem_cons.mp hb with rfl | hb
            · exact Nat.lt_succ_of_lt hag'
            · exact Nat.lt_succ_of_lt (Nat.lt_trans (List.mem_range.mp hb) hag')
        · intro b hb
          rcases List.mem_cons.mp hb with rfl | hb
          · show s.heap.objs.size - 1 < h₃.objs.size
            omega
          · rw [List.mem_singleton.mp hb]
            exact Nat.sub_lt (Nat.lt_of_le_of_lt (Nat.zero_le _) l203) Nat.one_pos
    cases hnf : codeAmong pos ps.toList with
    | some cv => exact wpAny_genexprCode_hit hcode (C0.code h203 ht) hnf (fin cv _ _ ps (fun _ _ _ e => e) (Nat.le_refl _) h203 ht)
    | none =>
      refine wpAny_genexprCodeX hcode (C0.code h203 ht) (C0.tab h203) hnf fun c' h₃ tk₃ hx₃ hge hlt hcode₃ _ htab₃ _ => ?_
      exact fin _ h₃ tk₃ _ hx₃ (Nat.le_trans hge (Nat.le_of_lt hlt)) htab₃.2 (by obtain ⟨o, vs, file, tf, flags, tg, inF, text, tt, op, _, _, _, _, _, _, _, _, _, h4, _⟩ := hcode₃; exact h4)
  refine wpAny_GeneratorExp_walksQD hh hco hclos hcell h0 hx hkind hroom (hiter _ ?_) hs
  cases ha : xt.cps.all (· < 128)
  · exact wpAny_pyIter_wide ha (key _ _ (fun A' hA => Walks.strWide hA _ xt tx) ⟨_, Heap.get?_push_size _ rfl, rfl, rfl⟩)
  · exact wpAny_pyIter_ascii ha (key _ _ (fun A' hA => Walks.strAscii hA _ xt tx) ⟨_, Heap.get?_push_size _ rfl, rfl, rfl⟩)
end
end Mine

/- part CL -/
namespace Mine
set_option maxHeartbeats 1000000
local macro_rules | `(tactic| walk_at "MINE fill") => `(tactic| (w_top off; have : ∀ (P : Params) (h : Heap), (hd.heap_39 P).In h → PySem.Challenge.rw_ey0019_01.Holds → True := by (k_fill; intros; trivial)))
local macro_rules | `(tactic| k_room) => `(tactic| ((try simp only [depth_under_make, depth_under_kw, depth_in1, depth_deeper, depth_caller]); omega))
local macro_rules | `(tactic| walk_at "MINE enter") => `(tactic| (k_dflt (refine' enter (news := []) ?G ?kg ?sz ?N ?ho ?hcd ?hroom ?hbind ?hloc ?_ ?c1 ?c2 ?c3 ?c4; (case G => assumption); (case kg => exact fun _ _ e => e); (case sz => exact Nat.le_refl _); (case N => exact fun _ h => nomatch h); (case ho => k_is); (case hcd => k_is); (case hroom => omega); (case hbind => first | exact BindsTo.of_eq rfl | exact binds_K (Gd.K (by assumption)) rfl (by k_is) rfl rfl rfl); (case hloc => exact locs rfl); (case c1 => exact rfl); (case c2 => exact rfl); (case c3 => exact rfl); (case c4 => decide)); intro L' h₁ F' N' l1 kp X' T'; (try dsimp only); (try k_fold)))
local macro_rules | `(tactic| walk_at "MINE rm") => `(tactic| first | omega | ((try simp only [depth_deeper, depth_in1, units_deeper, units_in1]); (try dsimp only); omega))
local macro_rules | `(tactic| walk_at "exec For") => `(tactic| (k_here; refine stop_of ?_))
local macro_rules | `(tactic| walk_at "exec For Name Name cons nil") => `(tactic| (k_here; refine stop_of ?_))
local macro_rules | `(tactic| walk_at "exec For Tuple Name cons nil") => `(tactic| (k_here; refine stop_of ?_))
local macro_rules | `(tactic| walk_at "exec For Name Call cons nil") => `(tactic| (k_here; refine stop_of ?_))
local macro_rules | `(tactic| walk_at "exec While") => `(tactic| (k_here; refine stop_of ?_))
local macro_rules | `(tactic| walk_at "exec While Compare cons nil") => `(tactic| (k_here; refine stop_of ?_))
local macro_rules | `(tactic| walk_at "assign Tuple") => `(tactic| (k_here; (with_reducible show wpAny _ _ (assign (Expr.Tuple _ _ _) _ (Value.ref _)) _ _ _); k_dflt (refine' unpackN_ ?k1 ?k2 ?k3 ?k4 ?k5 ?k6 ?_; (case k1 => k_asm); (case k2 => k_asm); (case k3 => exact Fr.tup (by k_asm) (by assumption)); (case k4 => exact rfl); (case k5 => exact rfl); (case k6 => exact rfl); k_whole); intro h' F' N'; (try k_sweep)))
local macro_rules | `(tactic| walk_at "call ref") => `(tactic| (k_here; (with_reducible show wpAny _ _ (call (.ref 177) _) _ _ _); k_dflt (refine' useP (c_single _ _ _) ?F ?N ?X ?T ?d ?u ?c ?_; (case F => k_asm); (case N => k_asm); (case X => k_asm); (case T => k_asm); (case d => walk_at "MINE rm"); (case u => walk_at "MINE rm"); (case c => exact trivial); k_whole); intro v9 h9 tk9 p9 k9 F9 N9; (try dsimp only at p9); subst p9; (try dsimp only)))
local macro_rules | `(tactic| walk_at "eval GeneratorExp") => `(tactic| (k_here; refine stop_of ?_))
theorem no_occ {xt : PySem.Str} {c : Nat} (h : c ∉ xt.cps.toList) : (Builtin.Str.occurrences xt ⟨#[c]⟩ 0 xt.length 1).isEmpty = true := by
  have := StrLaws.found_one xt c
  rw [decide_eq_false h] at this
  simpa using this
theorem no_occ' {xt : PySem.Str} (hok : ∀ c ∈ xt.cps.toList, c ∈ okCodes) : (Builtin.Str.occurrences xt (PySem.Str.ofString "\u200d") 0 xt.length 1).isEmpty = true ∧ (Builtin.Str.occurrences xt (PySem.Str.ofString "\ufe0f") 0 xt.length 1).isEmpty = true := by
  refine ⟨no_occ (c := 8205) fun h => ?_, no_occ (c := 65039) fun h => ?_⟩
  · exact (ok_facts (hok _ h)).2.2.2.1 rfl
  · exact (ok_facts (hok _ h)).2.2.2.2 rfl
theorem getItem_lt {xs : Array Nat} {j c : Nat} (h : xs[j]? = some c) : xs.toList[j]? = some c := by simpa using h
theorem single_sz {c : Nat} (h : c ∈ okCodes) (hs : single c = true) : sz c = 1 := by
  simp only [okCodes, List.mem_cons, List.not_mem_nil, or_false] at h
  rcases h with rfl | rfl | rfl | rfl | rfl | rfl | rfl | rfl | rfl | rfl | rfl | rfl <;> first | (revert hs; decide) | decide
theorem sum_single : ∀ {l : List Nat}, (∀ c ∈ l, c ∈ okCodes) → (l.all fun c => single (c : Int)) = true → (l.map sz).sum = l.length
  | [], _, _ => rfl
  | c :: l, h, hs => by
    rw [List.all_cons, Bool.and_eq_true] at hs
    rw [List.map_cons, List.sum_cons, single_sz (h c (.head _)) hs.1, sum_single (fun c hc => h c (.tail _ hc)) hs.2, List.length_cons]
    omega
local macro_rules | `(tactic| walk_at "eval Name") => `(tactic| (k_here; (show wpAny _ _ (eval (.Name _ _) (genEnv _ _ _ _ _ _)) _ _ _); first
  | k_dflt (refine' wpAny_Name (wpAny_loadName_local ?k1 ?k2 (Fr.ns (by assumption)) ?k3 ?_) ?k4; (case k1 => exact rfl); (case k2 => exact rfl); (case k3 => assumption); (case k4 => decide))
  | k_dflt (refine' wpAny_Name (wpAny_loadName_free ?k1 ?k2 ?k3 ⟨_, News.get (by assumption) (List.Mem.head _), by assumption⟩ ?_ ?k5) ?k4; (case k1 => exact rfl); (case k2 => exact rfl); (case k3 => exact rfl); (case k4 => decide); (case k5 => decide))
  | k_dflt (refine' Name_function_global ?k1 ?k2 (loadGlobal_global (Heap.Ns.keeps (Top.g (by assumption)) (Fr.keep (by assumption))) (mg_of (by assumption) (Top.g (by assumption)) ?k3) ?_) ?k4; (case k1 => exact rfl); (case k2 => exact rfl); (case k3 => k_is); (case k4 => decide))))
theorem c_celllen0 (w : World) (xt : PySem.Str) (tx tu : Tok) (hlen : xt.length ≤ 100) (hok : ∀ c ∈ xt.cps.toList, c ∈ okCodes) : GCall w 208 [.str xt tx, .str "auto" tu] 16 160 (fun v => ∃ t, v = .int ((xt.cps.toList.map sz).sum) t) := by
  walk_at "MINE fill"
  unfold GCall
  intro mean mg mb dp un fr gd s g R hdp hun G kg hsz h203 hct hgens hret
  obtain ⟨ps, hC, h3, ht⟩ := hct
  obtain ⟨g, G, kg, hsz, h203, kback⟩ := ghostBase G kg h203
  have hC0 : CodeHd g 207 203 := codeHd_but hC kback
  k_dflt (refine' enterC (news := [(203, tabObj ps)]) G kg hsz ?N ?ho ?hcd ?hroom ?hbind ?hkind ?hnd ?_ ?c1 ?c2 ?c3; (case N => intro p hp; rw [List.mem_singleton.mp hp]; exact ⟨h3, h203⟩); (case ho => k_is); (case hcd => k_is); (case hroom => omega); (case hbind => first | exact BindsTo.of_eq rfl | exact binds_K (Gd.K (by assumption)) rfl (by k_is) rfl rfl rfl); (case hkind => exact rfl); (case hnd => decide +kernel); (case c1 => exact rfl); (case c2 => exact rfl); (case c3 => exact rfl))
  intro L1 h1 tk1 cells F1 N1 Y l1 kp X1 T1
  have l203 : 203 < L1 := l1 _ (.head _)
  k_cells Y
  (try dsimp only [List.cons_append, List.nil_append] at N1)
  (try k_fold)
  obtain ⟨o2, o3⟩ := no_occ' hok
  generalize hm : (bindL _ _ _ : PySem.Str → Option Value) = mm at F1
  have F2 := Fr.force [(PySem.Str.ofString "text", Value.str xt tx)] F1 (by
    intro p hp
    rw [List.mem_singleton.mp hp, ← hm]; rfl)
  clear F1 hm
  k_steps
  · rename (List.all _ _) = true => q9
    rename Fr _ _ _ _ => F9
    rename News _ _ _ _ => N9
    refine hret _ _ ⟨_, by rw [sum_single hok q9]; simp [PySem.Str.length]; rfl⟩ (fun b o hb e => Fr.keep F9 _ _ (kback b o hb e)) ⟨ps, hC0.keeps (Fr.keep F9), (N9 _ (.tail _ (.head _))).1, ht⟩ hgens rfl
  · unfold Stop
    rename Fr _ _ _ _ => F9
    rename News _ _ _ _ => N9
    rename Obj.data _ = Data.cell _ => d9
    refine' genStr (xt := xt) (tx := tx) (pre := [(L1 + 1, _)]) (post := []) (fun i y => ∃ c t, xt.cps[i]? = some c ∧ y = .int (sz c) t) F9 T1 N9 ?pre ?post hC0 ht hgens rfl rfl rfl rfl rfl ?cell rfl rfl rfl ?room ?iter (fun x => rfl) ?elt ?Q
    case pre => intro p hp; rw [List.mem_singleton.mp hp]; exact fun q => absurd (show (203 : Nat) < L1 from l203) (by have q1 : L1 + 1 = 203 := q; exact Nat.not_lt.mpr (q1 ▸ Nat.le_succ _))
    case post => exact fun p hp => nomatch hp
    case cell => decide
    case room => walk_at "MINE rm"
    case iter =>
      intro Q9 hq
      k_steps
      exact hq
    case elt =>
      rintro C' code ⟨_, dp', fr', gd', un'⟩ E' i c t t₂ m₂ hA hD hU hc FC NC hm
      cases hA
      have hdp' : dp' + 9 < recursionLimit := by
        have q : dp' ≤ _ := hD
        simp only [depth_deeper] at q
        omega
      have hun' : un' + 90 < cLine := by
        have q : un' ≤ _ := hU
        simp only [units_deeper] at q
        omega
      obtain ⟨hh2, hg2, hd2, htk2, hos2⟩ := t₂
      dsimp only at FC NC
      have hcl : xt.cps.toList[i]? = some c := by simpa using hc
      have fc := ok_facts (hok c (List.mem_of_getElem? hcl))
      k_steps
      refine useP (c_gccs2 w c _ t tu fc.1 fc.2.1 fc.2.2.1) FC NC X1 T1 (by omega) (by omega) trivial ?_
      rintro v h' tk' ⟨t9, rfl⟩ k _ _
      exact ⟨⟨c, t9, hc, rfl⟩, _, _, rfl, k⟩
    case Q =>
      intro a K s5 ps' ht' F5 N5 hg5 hos5 hK hk5 X5
      k_steps
      refine sum_rowsKA F5 hg5 X5 ?hLK (fun j => ((xt.cps.toList.map sz).getD j 0)) ?hval ?hQ
      case hLK =>
        have := F9.ns.lt
        dsimp only at hK this
        rw [← hK] at this
        exact Nat.le_of_lt_succ this
      case hval =>
        rintro j v ⟨c, t, hc, rfl⟩
        have hcl : xt.cps.toList[j]? = some c := by simpa using hc
        refine ⟨t, ?_⟩
        rw [List.getD_eq_getElem?_getD, List.getElem?_map, hcl]; rfl
      case hQ =>
        intro s6 t6 F6 hg6 hos6 hk6
        have lk : ∀ p ∈ [(L1 + 1, (_ : Obj)), (203, tabObj ps)], p.1 ≤ K := fun p hp => by
          have := Heap.lt_size (N9 p hp).1
          dsimp only at hK this
          rw [← hK] at this
          exact Nat.le_of_lt_succ this
        refine hret _ _ ⟨t6, ?_⟩ (fun b o hb e => Fr.keep F6 _ _ (kback b o hb e)) ⟨ps', hC0.keeps (Fr.keep F6), hk6 _ _ (lk (203, tabObj ps) (.tail _ (.head _))) (N5 _ (.tail _ (.head _))).1, ht'⟩ hg6 (by rw [hos6, hos5])
        rw [preSum_getD, List.take_of_length_le (by simp)]
theorem c_cached0 (w : World) (xt : PySem.Str) (tx tu : Tok) (hlen : xt.length ≤ 100) (hok : ∀ c ∈ xt.cps.toList, c ∈ okCodes) : GCall w 193 [.str xt tx, .str "auto" tu] 18 170 (fun v => ∃ t, v = .int ((xt.cps.toList.map sz).sum) t) := by
  walk_at "MINE fill"
  unfold GCall
  intro mean mg mb dp un fr gd s g R hdp hun G kg hsz h203 hct hgens hret
  obtain ⟨ps, hC, h3, ht⟩ := hct
  obtain ⟨g, G, kg, hsz, h203, kback⟩ := ghostBase G kg h203
  have hC0 : CodeHd g 207 203 := codeHd_but hC kback
  k_dflt (refine' enter (news := [(203, tabObj ps)]) G kg hsz ?N ?ho ?hcd ?hroom ?hbind ?hloc ?_ ?c1 ?c2 ?c3 ?c4; (case N => intro p hp; rw [List.mem_singleton.mp hp]; exact ⟨h3, h203⟩); (case ho => k_is); (case hcd => k_is); (case hroom => omega); (case hbind => first | exact BindsTo.of_eq rfl | exact binds_K (G.K.keeps kg) rfl (by k_is) rfl rfl rfl); (case hloc => exact locs rfl); (case c1 => exact rfl); (case c2 => exact rfl); (case c3 => exact rfl); (case c4 => decide))
  intro L1 h1 F1 N1 l1 kp X1 T1
  (try dsimp only)
  (try k_fold)
  k_steps
  refine useG (pre := []) (post := []) (c_celllen0 w xt tx tu hlen hok) F1 N1 (fun p hp => nomatch hp) (fun p hp => nomatch hp) hC0 ht X1 T1 hgens (by walk_at "MINE rm") (by walk_at "MINE rm") ?_
  intro v s' ps' hv hg' hos' ht' F' N'
  exact hret _ _ hv (fun b o hb e => Fr.keep F' _ _ (kback b o hb e)) ⟨ps', hC0.keeps (Fr.keep F'), (N' _ (.head _)).1, ht'⟩ hg' hos'
theorem c_celllen (w : World) (xt : PySem.Str) (tx : Tok) (hlen : xt.length ≤ 100) (hok : ∀ c ∈ xt.cps.toList, c ∈ okCodes) : GCall w 201 [.str xt tx] 20 190 (fun v => ∃ t, v = .int ((xt.cps.toList.map sz).sum) t) := by
  walk_at "MINE fill"
  unfold GCall
  intro mean mg mb dp un fr gd s g R hdp hun G kg hsz h203 hct hgens hret
  obtain ⟨ps, hC, h3, ht⟩ := hct
  obtain ⟨g, G, kg, hsz, h203, kback⟩ := ghostBase G kg h203
  have hC0 : CodeHd g 207 203 := codeHd_but hC kback
  k_dflt (refine' enter (news := [(203, tabObj ps)]) G kg hsz ?N ?ho ?hcd ?hroom ?hbind ?hloc ?_ ?c1 ?c2 ?c3 ?c4; (case N => intro p hp; rw [List.mem_singleton.mp hp]; exact ⟨h3, h203⟩); (case ho => k_is); (case hcd => k_is); (case hroom => omega); (case hbind => first | exact BindsTo.of_eq rfl | exact binds_K (G.K.keeps kg) rfl (by k_is) rfl rfl rfl); (case hloc => exact locs rfl); (case c1 => exact rfl); (case c2 => exact rfl); (case c3 => exact rfl); (case c4 => decide))
  intro L1 h1 F1 N1 l1 kp X1 T1
  (try dsimp only)
  (try k_fold)
  k_steps
  refine useG (pre := []) (post := []) (c_cached0 w xt tx _ hlen hok) F1 N1 (fun p hp => nomatch hp) (fun p hp => nomatch hp) hC0 ht X1 T1 hgens (by walk_at "MINE rm") (by walk_at "MINE rm") ?_
  intro v s' ps' hv hg' hos' ht' F' N'
  exact hret _ _ hv (fun b o hb e => Fr.keep F' _ _ (kback b o hb e)) ⟨ps', hC0.keeps (Fr.keep F'), (N' _ (.head _)).1, ht'⟩ hg' hos'
end Mine

/- part LS -/
namespace Mine
set_option maxHeartbeats 1000000
local macro_rules | `(tactic| walk_at "MINE fill") => `(tactic| (w_top off; have : ∀ (P : Params) (h : Heap), (hd.heap_39 P).In h → PySem.Challenge.rw_ey0019_01.Holds → True := by (k_fill; intros; trivial)))
local macro_rules | `(tactic| k_room) => `(tactic| ((try simp only [depth_under_make, depth_under_kw, depth_in1, depth_deeper, depth_caller]); omega))
local macro_rules | `(tactic| walk_at "MINE enter") => `(tactic| (k_dflt (refine' enter (news := []) ?G ?kg ?sz ?N ?ho ?hcd ?hroom ?hbind ?hloc ?_ ?c1 ?c2 ?c3 ?c4; (case G => assumption); (case kg => exact fun _ _ e => e); (case sz => exact Nat.le_refl _); (case N => exact fun _ h => nomatch h); (case ho => k_is); (case hcd => k_is); (case hroom => omega); (case hbind => first | exact BindsTo.of_eq rfl | exact binds_K (Gd.K (by assumption)) rfl (by k_is) rfl rfl rfl); (case hloc => exact locs rfl); (case c1 => exact rfl); (case c2 => exact rfl); (case c3 => exact rfl); (case c4 => decide)); intro L' h₁ F' N' l1 kp X' T'; (try dsimp only); (try k_fold)))
local macro_rules | `(tactic| walk_at "MINE rm") => `(tactic| first | omega | ((try simp only [depth_deeper, depth_in1, units_deeper, units_in1]); (try dsimp only); omega))
local macro_rules | `(tactic| walk_at "exec For") => `(tactic| (k_here; refine stop_of ?_))
local macro_rules | `(tactic| walk_at "exec For Name Name cons nil") => `(tactic| (k_here; refine stop_of ?_))
local macro_rules | `(tactic| walk_at "exec For Tuple Name cons nil") => `(tactic| (k_here; refine stop_of ?_))
local macro_rules | `(tactic| walk_at "exec For Name Call cons nil") => `(tactic| (k_here; refine stop_of ?_))
local macro_rules | `(tactic| walk_at "exec While") => `(tactic| (k_here; refine stop_of ?_))
local macro_rules | `(tactic| walk_at "exec While Compare cons nil") => `(tactic| (k_here; refine stop_of ?_))
local macro_rules | `(tactic| walk_at "assign Tuple") => `(tactic| (k_here; (with_reducible show wpAny _ _ (assign (Expr.Tuple _ _ _) _ (Value.ref _)) _ _ _); k_dflt (refine' unpackN_ ?k1 ?k2 ?k3 ?k4 ?k5 ?k6 ?_; (case k1 => k_asm); (case k2 => k_asm); (case k3 => exact Fr.tup (by k_asm) (by assumption)); (case k4 => exact rfl); (case k5 => exact rfl); (case k6 => exact rfl); k_whole); intro h' F' N'; (try k_sweep)))
theorem ls2 {c : Nat} (hc : c ∈ okCodes) (h : ([PySem.Str.ofString "中", PySem.Str.ofString "한", PySem.Str.ofString "Ａ"].any fun x => x == ⟨#[c]⟩) = true) : 2 = sz c := by
  simp only [okCodes, List.mem_cons, List.not_mem_nil, or_false] at hc
  rcases hc with rfl | rfl | rfl | rfl | rfl | rfl | rfl | rfl | rfl | rfl | rfl | rfl <;> first | exact absurd h (by decide +kernel) | decide +kernel
theorem ls0 {c : Nat} (hc : c ∈ okCodes) (h : ([PySem.Str.ofString "́", PySem.Str.ofString "\u200b"].any fun x => x == ⟨#[c]⟩) = true) : 0 = sz c := by
  simp only [okCodes, List.mem_cons, List.not_mem_nil, or_false] at hc
  rcases hc with rfl | rfl | rfl | rfl | rfl | rfl | rfl | rfl | rfl | rfl | rfl | rfl <;> first | exact absurd h (by decide +kernel) | decide +kernel
theorem ls1 {c : Nat} (hc : c ∈ okCodes) (h2 : ([PySem.Str.ofString "中", PySem.Str.ofString "한", PySem.Str.ofString "Ａ"].any fun x => x == ⟨#[c]⟩) = false) (h : ([PySem.Str.ofString "́", PySem.Str.ofString "\u200b"].any fun x => x == ⟨#[c]⟩) = false) : 1 = sz c := by
  simp only [okCodes, List.mem_cons, List.not_mem_nil, or_false] at hc
  rcases hc with rfl | rfl | rfl | rfl | rfl | rfl | rfl | rfl | rfl | rfl | rfl | rfl <;> first | exact absurd h (by decide +kernel) | exact absurd h2 (by decide +kernel) | decide +kernel
theorem c_law_size (w : World) (c : Nat) (hc : c ∈ okCodes) (tx : Tok) : PCall w 241 [.str ⟨#[c]⟩ tx] 3 40 (fun _ => True) (fun v _ _ => ∃ t, v = .int (sz c) t) := by
  walk_at "MINE fill"
  unfold PCall
  intro mean mg mb dp un fr gd s R hdp hun G _ hret
  walk_at "MINE enter"
  rename_i L1 H1 F1 N1 l1 kp1 X1 T1
  generalize hx : (⟨#[c]⟩ : PySem.Str) = x at *
  k_steps
  all_goals subst hx
  · exact hret _ _ _ ⟨_, by rw [← ls2 hc (by assumption)]⟩ (Fr.keep (by assumption))
  · exact hret _ _ _ ⟨_, by rw [← ls0 hc (by assumption)]⟩ (Fr.keep (by assumption))
  · exact hret _ _ _ ⟨_, by rw [← ls1 hc (by assumption) (by assumption)]⟩ (Fr.keep (by assumption))
end Mine

/- part LP -/
namespace Mine
set_option maxHeartbeats 1000000
local macro_rules | `(tactic| walk_at "MINE fill") => `(tactic| (w_top off; have : ∀ (P : Params) (h : Heap), (hd.heap_39 P).In h → PySem.Challenge.rw_ey0019_01.Holds → True := by (k_fill; intros; trivial)))
local macro_rules | `(tactic| k_room) => `(tactic| ((try simp only [depth_under_make, depth_under_kw, depth_in1, depth_deeper, depth_caller]); omega))
local macro_rules | `(tactic| walk_at "MINE enter") => `(tactic| (k_dflt (refine' enter (news := []) ?G ?kg ?sz ?N ?ho ?hcd ?hroom ?hbind ?hloc ?_ ?c1 ?c2 ?c3 ?c4; (case G => assumption); (case kg => exact fun _ _ e => e); (case sz => exact Nat.le_refl _); (case N => exact fun _ h => nomatch h); (case ho => k_is); (case hcd => k_is); (case hroom => omega); (case hbind => first | exact BindsTo.of_eq rfl | exact binds_K (Gd.K (by assumption)) rfl (by k_is) rfl rfl rfl); (case hloc => exact locs rfl); (case c1 => exact rfl); (case c2 => exact rfl); (case c3 => exact rfl); (case c4 => decide)); intro L' h₁ F' N' l1 kp X' T'; (try dsimp only); (try k_fold)))
local macro_rules | `(tactic| walk_at "MINE rm") => `(tactic| first | omega | ((try simp only [depth_deeper, depth_in1, units_deeper, units_in1]); (try dsimp only); omega))
local macro_rules | `(tactic| walk_at "exec For") => `(tactic| (k_here; refine stop_of ?_))
local macro_rules | `(tactic| walk_at "exec For Name Name cons nil") => `(tactic| (k_here; refine stop_of ?_))
local macro_rules | `(tactic| walk_at "exec For Tuple Name cons nil") => `(tactic| (k_here; refine stop_of ?_))
local macro_rules | `(tactic| walk_at "exec For Name Call cons nil") => `(tactic| (k_here; refine stop_of ?_))
local macro_rules | `(tactic| walk_at "exec While") => `(tactic| (k_here; refine stop_of ?_))
local macro_rules | `(tactic| walk_at "exec While Compare cons nil") => `(tactic| (k_here; refine stop_of ?_))
local macro_rules | `(tactic| walk_at "assign Tuple") => `(tactic| (k_here; (with_reducible show wpAny _ _ (assign (Expr.Tuple _ _ _) _ (Value.ref _)) _ _ _); k_dflt (refine' unpackN_ ?k1 ?k2 ?k3 ?k4 ?k5 ?k6 ?_; (case k1 => k_asm); (case k2 => k_asm); (case k3 => exact Fr.tup (by k_asm) (by assumption)); (case k4 => exact rfl); (case k5 => exact rfl); (case k6 => exact rfl); k_whole); intro h' F' N'; (try k_sweep)))
abbrev Pc := PySem.Str × Int
def pcStep (st : List Pc) (c : Nat) : List Pc := match st.getLast? with
  | some p => if sz c = 0 then st.dropLast ++ [(p.1 ++ ⟨#[c]⟩, p.2)] else st ++ [(⟨#[c]⟩, sz c)]
  | none => st ++ [(⟨#[c]⟩, sz c)]
def pcFold (l : List Nat) : List Pc := l.foldl pcStep []
def pcDat (p : Pc) : Dat := .tuple [.str p.1, .int p.2]
theorem pc_more {l : List Nat} {i c : Nat} (h : l[i]? = some c) : pcFold (l.take (i + 1)) = pcStep (pcFold (l.take i)) c := by
  rw [take_more h, pcFold, List.foldl_append]; rfl
theorem pcStep_nil {c : Nat} : pcStep [] c = [] ++ [(⟨#[c]⟩, sz c)] := rfl
theorem pcStep_new {st : List Pc} {c : Nat} (h : sz c ≠ 0) : pcStep st c = st ++ [(⟨#[c]⟩, sz c)] := by
  unfold pcStep; split
  · rw [if_neg h]
  · rfl
theorem pcStep_add {st : List Pc} {x : PySem.Str} {z : Int} {c : Nat} (h : sz c = 0) : pcStep (st ++ [(x, z)]) c = st ++ [(x ++ ⟨#[c]⟩, z)] := by
  unfold pcStep; simp [h]
theorem pcStep_len (st : List Pc) (c : Nat) : (pcStep st c).length ≤ st.length + 1 := by
  unfold pcStep; split
  · split
    · simp
    · simp
  · simp
theorem pcFold_len (l : List Nat) : (pcFold l).length ≤ l.length := by
  suffices ∀ st : List Pc, (l.foldl pcStep st).length ≤ st.length + l.length by simpa [pcFold] using this []
  induction l with
  | nil => intro st; simp
  | cons c l ih =>
    intro st
    have := ih (pcStep st c)
    have := pcStep_len st c
    simp only [List.foldl_cons, List.length_cons]; omega
theorem str_app_len (x y : PySem.Str) : (x ++ y).length = x.length + y.length := by
  show (x.cps ++ y.cps).size = _
  rw [Array.size_append]; rfl
theorem pcFold_txt (l : List Nat) : ∀ n : Nat, (∀ p ∈ pcFold (l.take n), p.1.length ≤ (l.take n).length) := by
  intro n
  induction n with
  | zero => intro p hp; simp [pcFold] at hp
  | succ n ih =>
    cases hc : l[n]? with
    | none =>
      have e : l.take (n + 1) = l.take n := by rw [List.take_add_one, hc]; simp
      rw [e]; exact ih
    | some c =>
      rw [pc_more hc, take_more hc]
      intro p hp
      rw [List.length_append, List.length_singleton]
      unfold pcStep at hp
      have one : (⟨#[c]⟩ : PySem.Str).length = 1 := rfl
      split at hp
      · rename_i q hq
        have hm := ih q (List.mem_of_getLast? hq)
        split at hp
        · rcases List.mem_append.mp hp with hp | hp
          · have := ih p (List.dropLast_subset _ hp); omega
          · rw [List.mem_singleton.mp hp]
            show (q.1 ++ _ : PySem.Str).length ≤ _
            rw [str_app_len]; omega
        · rcases List.mem_append.mp hp with hp | hp
          · have := ih p hp; omega
          · rw [List.mem_singleton.mp hp]; show (⟨#[c]⟩ : PySem.Str).length ≤ _; omega
      · rcases List.mem_append.mp hp with hp | hp
        · have := ih p hp; omega
        · rw [List.mem_singleton.mp hp]; show (⟨#[c]⟩ : PySem.Str).length ≤ _; omega
theorem pc_dat {D : Addr} {x : PySem.Str} {z : Int} {tx tz : Tok} {k : Nat} {tl : List (Addr × Obj)} {vs : List Value} {st : List Pc} (hd : DatAll tl vs (st.map pcDat)) :
    DatAll ((D, ({ cls := .type "tuple", data := .seq #[.str x tx, .int z tz] k } : Obj)) :: tl) (vs ++ [.ref D]) ((st ++ [(x, z)]).map pcDat) := by
  rw [List.map_append]
  exact DatAll.append (DatAll.mono (fun p hp => .tail _ hp) hd) (DatAll.one (.tuple (vs := [.str x tx, .int z tz]) (.head _) (.cons (.str _ _) (.cons (.int _ _) .nil))))
local macro_rules | `(tactic| walk_at "call ref") => `(tactic| (k_here; (with_reducible show wpAny _ _ (call (.ref 241) _) _ _ _); k_dflt (refine' useP (c_law_size _ _ (by assumption) _) ?F ?N ?X ?T ?d ?u ?c ?_; (case F => k_asm); (case N => k_asm); (case X => k_asm); (case T => k_asm); (case d => walk_at "MINE rm"); (case u => walk_at "MINE rm"); (case c => exact trivial); k_whole); intro v9 h9 tk9 p9 k9 F9 N9; (obtain ⟨t9, e9⟩ := p9); subst e9; (try dsimp only)))
local macro_rules | `(tactic| walk_at "truthy ref") => `(tactic| (k_here; (try dsimp only); k_dflt (refine' truthyL ?N ?m ?l ?_; (case N => k_asm); (case m => k_mem); (case l => assumption); k_whole)))
local macro_rules | `(tactic| walk_at "subscriptTail") => `(tactic| (k_here; k_dflt (refine' lastItem ?N ?m ?_ ?c; (case N => k_asm); (case m => k_mem); (case c => with_unfolding_all rfl); k_whole)))
local macro_rules | `(tactic| walk_at "subscriptTail Name UnaryOp ref int") => `(tactic| (k_here; k_dflt (refine' lastItem ?N ?m ?_ ?c; (case N => k_asm); (case m => k_mem); (case c => with_unfolding_all rfl); k_whole)))
local macro_rules | `(tactic| walk_at "subscriptTail Subscript Name UnaryOp Constant ref int") => `(tactic| (k_here; k_dflt (refine' tupItem ?N ?m ?a ?b ?c ?d ?_ ?e; (case N => k_asm); (case m => repeat (first | assumption | apply List.Mem.tail)); (case a => decide); (case b => decide); (case c => exact rfl); (case d => exact rfl); (case e => with_unfolding_all rfl); k_whole)))
local macro_rules | `(tactic| walk_at "setItem ref int") => `(tactic| (k_here; k_dflt (refine' setLast ?F ?N ?U ?_; (case F => k_asm); (case N => k_asm); (case U => k_upd); k_whole); intro h9 F9 N9; (try dsimp only [List.nil_append, List.cons_append] at N9)))
theorem lp_off {D I l : Addr} {oD : Obj} {tl : List (Addr × Obj)} (hoff : OwnOff tl [l]) (hlt : I < D ∧ l < D ∧ AllLt D tl) : OwnOff ((D, oD) :: tl) [l] := fun p hp b hb => by
  rcases List.mem_cons.mp hp with rfl | hp
  · rw [List.mem_singleton.mp hb]
    exact fun e => absurd hlt.2.1 (e ▸ Nat.lt_irrefl _)
  · exact hoff p hp b hb
theorem lp_ne {D I l : Addr} {oD o o' : Obj} {tl : List (Addr × Obj)} (hn : ∀ p ∈ (l, o) :: tl, p.1 ≠ I) (hlt : I < D ∧ l < D ∧ AllLt D tl) : ∀ p ∈ (l, o') :: (D, oD) :: tl, p.1 ≠ I := fun p hp => by
  rcases List.mem_cons.mp hp with rfl | hp
  · exact hn (l, o) (.head _)
  · rcases List.mem_cons.mp hp with rfl | hp
    · exact fun e => absurd hlt.1 (e ▸ Nat.lt_irrefl _)
    · exact hn _ (.tail _ hp)
theorem c_pieces (w : World) (xt : PySem.Str) (tx : Tok) (hlen : xt.length ≤ 100) (hok : ∀ c ∈ xt.cps.toList, c ∈ okCodes) : PCall w 253 [.str xt tx] 5 60 (fun _ => True) (fun v h h' => ∃ tl, Led h h' tl ∧ DatIn tl v (.list ((pcFold xt.cps.toList).map pcDat))) := by
  walk_at "MINE fill"
  unfold PCall
  intro mean mg mb dp un fr gd s R hdp hun G _ hret
  walk_at "MINE enter"
  rename_i L1 H1 F1 N1 l1 kp1 X1 T1
  k_steps
  unfold Stop
  refine wpAny_For ?_
  k_steps
  rename News _ _ _ [(_, _)] => N2
  rename Fr _ _ _ _ => F2
  refine' forStr (fun i m news => ∃ vs n tl, news = (?l, W.listOf vs.toArray n) :: tl ∧ OwnOff tl [?l] ∧ DatAll tl vs ((pcFold (xt.cps.toList.take i)).map pcDat) ∧ m (PySem.Str.ofString "found") = some (.ref ?l)) rfl F2 N2 ⟨[], 0, [], rfl, fun p hp => (nomatch hp), DatAll.nil, rfl⟩ ?turn ?done
  case done =>
    rintro m news h tk ⟨vs, n, tl, rfl, hoff, hd, hm⟩ F N
    have F3 := Fr.force [(PySem.Str.ofString "found", Value.ref _)] F (by
      intro p hp
      rw [List.mem_singleton.mp hp]; exact hm)
    clear F
    k_steps
    rw [List.take_of_length_le (by simp)] at hd
    exact hret _ _ _ ⟨_, News.led N, .list (.head _) (DatAll.mono (fun p hp => .tail _ hp) hd)⟩ (Fr.keep F3)
  case turn =>
    rintro i c t m news I oI h tk hi ⟨vs, n, tl, rfl, hoff, hd, hm⟩ hn hI F N
    have F3 := Fr.force [(PySem.Str.ofString "found", Value.ref _)] F (by
      intro p hp
      rw [List.mem_singleton.mp hp]; exact hm)
    clear F F2 N2
    have hcl : xt.cps.toList[i]? = some c := by simpa using hi
    have hcok : c ∈ okCodes := hok c (List.mem_of_getElem? hcl)
    have hIl : @Ne Nat I _ := neN (Ne.symm (hn _ (.head _)))
    have hdl := hd.length
    have hvl : vs.length ≤ 1000 := by
      rw [hdl, List.length_map]
      have := pcFold_len (xt.cps.toList.take i)
      have h2 : (xt.cps.toList.take i).length ≤ xt.length := by rw [List.length_take]; simp [PySem.Str.length]; omega
      omega
    have hf := pc_more hcl
    rcases (show vs = [] ∨ ∃ ws v, vs = ws ++ [v] by rcases List.eq_nil_or_concat vs with e | ⟨ws, v, e⟩; exact .inl e; exact .inr ⟨ws, v, by rw [e, List.concat_eq_append]⟩) with rfl | ⟨vs, v, rfl⟩
    · have hz0 : pcFold (xt.cps.toList.take i) = [] := by
        have : (pcFold (xt.cps.toList.take i)).length = 0 := by simpa using hdl.symm
        exact List.length_eq_zero_iff.mp this
      rw [hz0] at hf hd
      k_steps
      show LEnd _ _ _ _ _ _ _
      rw [pcStep_nil] at hf
      refine' ⟨_, _, _, _, rfl, by assumption, sp_shape (by assumption), lp_ne hn (by assumption), ⟨_, _, _, rfl, lp_off hoff (by assumption), _, rfl⟩⟩
      rw [hf]
      exact pc_dat hd
    · obtain ⟨ds, d0, hde, hd1, hdv⟩ := hd.snoc
      obtain ⟨st, p0, hst, hds, hdp0⟩ : ∃ st p0, pcFold (xt.cps.toList.take i) = st ++ [p0] ∧ ds = st.map pcDat ∧ d0 = pcDat p0 := by
        rcases List.eq_nil_or_concat (pcFold (xt.cps.toList.take i)) with e | ⟨st, p0, e⟩
        · rw [e] at hde; simp at hde
        · rw [List.concat_eq_append] at e
          refine ⟨st, p0, e, ?_⟩
          rw [e, List.map_append] at hde
          have := List.append_inj' hde rfl
          exact ⟨this.1.symm, by simpa using this.2.symm⟩
      subst hds hdp0
      obtain ⟨px, pz⟩ := p0
      have hpl : px.length ≤ 100 := by
        have h1 := pcFold_txt xt.cps.toList i (px, pz) (by rw [hst]; simp)
        have h2 : (xt.cps.toList.take i).length ≤ xt.length := by rw [List.length_take]; simp [PySem.Str.length]; omega
        exact Nat.le_trans h1 (Nat.le_trans h2 hlen)
      rw [hst] at hf hd
      cases hdv with
      | tuple hmv hal =>
      cases hal with
      | cons q1 hal =>
      cases q1
      cases hal with
      | cons q2 hal =>
      cases q2
      cases hal
      k_steps
      · exfalso
        rename List.isEmpty _ = true => q9
        simp at q9
      · show LEnd _ _ _ _ _ _ _
        rw [pcStep_add (by assumption)] at hf
        refine' ⟨_, _, _, _, rfl, by assumption, sp_shape (by assumption), lp_ne hn (by assumption), ⟨_, _, _, rfl, lp_off hoff (by assumption), _, rfl⟩⟩
        rw [hf]
        exact pc_dat hd1
      · show LEnd _ _ _ _ _ _ _
        rw [pcStep_new (by assumption)] at hf
        rename News _ _ _ ((_, _) :: (_, _) :: (_, W.listOf (Array.push _ _) _) :: _) => N9
        rw [push_list] at N9
        refine' ⟨_, _, _, _, rfl, by assumption, sp_shape N9, lp_ne hn (by assumption), ⟨_, _, _, rfl, lp_off hoff (by assumption), _, rfl⟩⟩
        rw [hf]
        exact pc_dat hd
end Mine

/- part LL -/
namespace Mine
set_option maxHeartbeats 1000000
local macro_rules | `(tactic| walk_at "MINE fill") => `(tactic| (w_top off; have : ∀ (P : Params) (h : Heap), (hd.heap_39 P).In h → PySem.Challenge.rw_ey0019_01.Holds → True := by (k_fill; intros; trivial)))
local macro_rules | `(tactic| k_room) => `(tactic| ((try simp only [depth_under_make, depth_under_kw, depth_in1, depth_deeper, depth_caller]); omega))
local macro_rules | `(tactic| walk_at "MINE enter") => `(tactic| (k_dflt (refine' enter (news := []) ?G ?kg ?sz ?N ?ho ?hcd ?hroom ?hbind ?hloc ?_ ?c1 ?c2 ?c3 ?c4; (case G => assumption); (case kg => exact fun _ _ e => e); (case sz => exact Nat.le_refl _); (case N => exact fun _ h => nomatch h); (case ho => k_is); (case hcd => k_is); (case hroom => omega); (case hbind => first | exact BindsTo.of_eq rfl | exact binds_K (Gd.K (by assumption)) rfl (by k_is) rfl rfl rfl); (case hloc => exact locs rfl); (case c1 => exact rfl); (case c2 => exact rfl); (case c3 => exact rfl); (case c4 => decide)); intro L' h₁ F' N' l1 kp X' T'; (try dsimp only); (try k_fold)))
local macro_rules | `(tactic| walk_at "MINE rm") => `(tactic| first | omega | ((try simp only [depth_deeper, depth_in1, units_deeper, units_in1]); (try dsimp only); omega))
local macro_rules | `(tactic| walk_at "exec For") => `(tactic| (k_here; refine stop_of ?_))
local macro_rules | `(tactic| walk_at "exec For Name Name cons nil") => `(tactic| (k_here; refine stop_of ?_))
local macro_rules | `(tactic| walk_at "exec For Tuple Name cons nil") => `(tactic| (k_here; refine stop_of ?_))
local macro_rules | `(tactic| walk_at "exec For Name Call cons nil") => `(tactic| (k_here; refine stop_of ?_))
local macro_rules | `(tactic| walk_at "exec While") => `(tactic| (k_here; refine stop_of ?_))
local macro_rules | `(tactic| walk_at "exec While Compare cons nil") => `(tactic| (k_here; refine stop_of ?_))
local macro_rules | `(tactic| walk_at "assign Tuple") => `(tactic| (k_here; (with_reducible show wpAny _ _ (assign (Expr.Tuple _ _ _) _ (Value.ref _)) _ _ _); k_dflt (refine' unpackN_ ?k1 ?k2 ?k3 ?k4 ?k5 ?k6 ?_; (case k1 => k_asm); (case k2 => k_asm); (case k3 => exact Fr.tup (by k_asm) (by assumption)); (case k4 => exact rfl); (case k5 => exact rfl); (case k6 => exact rfl); k_whole); intro h' F' N'; (try k_sweep)))
structure LnSt where
  lines : List PySem.Str
  line : PySem.Str
  size : Int
def lnStep (w : Int) (st : LnSt) (p : Pc) : LnSt := if st.size + p.2 > w then ⟨st.lines ++ [st.line], PySem.Str.ofString "" ++ p.1, 0 + p.2⟩ else ⟨st.lines, st.line ++ p.1, st.size + p.2⟩
def lnFold (w : Int) (ps : List Pc) : LnSt := ps.foldl (lnStep w) ⟨[], PySem.Str.ofString "", 0⟩
def lnEnd (st : LnSt) : List PySem.Str := if st.size > 0 then st.lines ++ [st.line] else st.lines
theorem ln_more {w : Int} {ps : List Pc} {i : Nat} {p : Pc} (h : ps[i]? = some p) : lnFold w (ps.take (i + 1)) = lnStep w (lnFold w (ps.take i)) p := by
  have e : ps.take (i + 1) = ps.take i ++ [p] := by rw [List.take_add_one, h]; rfl
  rw [e, lnFold, List.foldl_append]; rfl
theorem datAll_get {news : List (Addr × Obj)} {vs : List Value} {ds : List Dat} (h : DatAll news vs ds) {i : Nat} {v : Value} (hv : vs[i]? = some v) : ∃ d, ds[i]? = some d ∧ DatIn news v d := by
  obtain ⟨h1, h2⟩ := List.getElem?_eq_some_iff.mp hv
  have hk : i < ds.length := by rw [← h.length]; exact h1
  obtain ⟨v', e, d⟩ := h.get hk
  rw [hv] at e; cases e
  exact ⟨_, List.getElem?_eq_getElem hk, d⟩
theorem c_lines (w : World) (V : Value) (ps : List Pc) (width : Int) (tw : Tok) (hps : ps.length ≤ 100) (hw : -1000 ≤ width ∧ width ≤ 1000) (hln : ∀ i, (lnFold width (ps.take i)).line.length ≤ 100 ∧ (lnFold width (ps.take i)).lines.length ≤ 100) (hpl : ∀ p ∈ ps, p.1.length ≤ 100) :
    PCall w 260 [V, .int width tw] 3 40 (fun h => ∃ tl, (∀ p ∈ tl, h.get? p.1 = some p.2) ∧ DatIn tl V (.list (ps.map pcDat))) (fun v h h' => ∃ tl, Led h h' tl ∧ DatIn tl v (.list ((lnEnd (lnFold width ps)).map .str))) := by
  walk_at "MINE fill"
  unfold PCall
  rintro mean mg mb dp un fr gd s R hdp hun G ⟨tlp, htl, hV⟩ hret
  cases hV with
  | list hml hal =>
  rename_i lp vp np
  have hpg := htl _ hml
  walk_at "MINE enter"
  rename_i L1 H1 F1 N1 l1 kp1 X1 T1
  k_steps
  unfold Stop
  refine wpAny_For ?_
  k_steps
  rename News _ _ _ _ => N2
  rename Fr _ _ _ _ => F2
  have N3 := News.sub (news' := [(_, W.listOf #[] 0)]) N2 (fun p hp => .tail _ hp)
  clear N2
  have hsz : vp.length = ps.length := by have := hal.length; simpa using this
  refine' forLst (items := vp) (fun i m news => ∃ vs n t1 t2, news = [(?l, W.listOf vs.toArray n)] ∧ DatAll [] vs ((lnFold width (ps.take i)).lines.map .str) ∧ m (PySem.Str.ofString "lines") = some (.ref ?l) ∧ m (PySem.Str.ofString "line") = some (.str (lnFold width (ps.take i)).line t1) ∧ m (PySem.Str.ofString "size") = some (.int (lnFold width (ps.take i)).size t2) ∧ m (PySem.Str.ofString "width") = some (.int width tw)) rfl F2 N3 (PySem.IsL.isList (n := np) (Fr.keep F2 _ _ hpg)) (.inl ⟨_, hpg⟩) ⟨[], 0, _, _, rfl, DatAll.nil, rfl, rfl, rfl, rfl⟩ ?turn ?done
  case done =>
    rintro m news h tk ⟨vs, n, t1, t2, rfl, hd, m1, m2, m3, m4⟩ F N
    rw [hsz, List.take_length] at hd m2 m3
    have hl2 := (hln ps.length)
    rw [List.take_length] at hl2
    have F3 := Fr.force [(PySem.Str.ofString "lines", Value.ref _), (PySem.Str.ofString "line", Value.str (lnFold width ps).line t1), (PySem.Str.ofString "size", Value.int (lnFold width ps).size t2)] F (by
      intro p hp
      simp only [List.mem_cons, List.not_mem_nil, or_false] at hp
      rcases hp with rfl | rfl | rfl <;> assumption)
    clear F m1 m2 m3
    have hdl : vs.length ≤ 1000 := by rw [hd.length, List.length_map]; omega
    generalize hst : lnFold width ps = st at *
    obtain ⟨sl, s1, sz1⟩ := st
    dsimp only at hd
    k_steps
    · rename 0 < _ => hgt
      have e : lnEnd ⟨sl, s1, sz1⟩ = sl ++ [s1] := by unfold lnEnd; rw [if_pos hgt]
      refine hret _ _ _ ⟨_, News.led (by assumption), ?_⟩ (Fr.keep (by assumption))
      rw [e, List.map_append]
      exact .list (vs := vs ++ [.str s1 t1]) (.head _) (DatAll.append (DatAll.mono (fun p hp => absurd hp List.not_mem_nil) hd) (DatAll.one (.str _ _)))
    · rename ¬ 0 < _ => hgt
      have e : lnEnd ⟨sl, s1, sz1⟩ = sl := by unfold lnEnd; rw [if_neg hgt]
      refine hret _ _ _ ⟨_, News.led N, ?_⟩ (Fr.keep F3)
      rw [e]
      exact .list (vs := vs) (.head _) (DatAll.mono (fun p hp => absurd hp List.not_mem_nil) hd)
  case turn =>
    rintro i v m news I oI h tk hv ⟨vs, n, t1, t2, rfl, hd, m1, m2, m3, m4⟩ hn hI F N
    obtain ⟨d, hd0, hdv⟩ := datAll_get hal hv
    rw [List.getElem?_map] at hd0
    obtain ⟨p, hp, rfl⟩ := Option.map_eq_some_iff.mp hd0
    have hlm := ln_more (w := width) hp
    have hl2 := hln i
    have hl3 := hpl p (List.mem_of_getElem? hp)
    generalize hst : lnFold width (ps.take i) = st at *
    obtain ⟨sl, s1, sz1⟩ := st
    obtain ⟨px, pz⟩ := p
    have F3 := Fr.force [(PySem.Str.ofString "lines", Value.ref _), (PySem.Str.ofString "line", Value.str s1 t1), (PySem.Str.ofString "size", Value.int sz1 t2), (PySem.Str.ofString "width", Value.int width tw)] F (by
      intro p hp
      simp only [List.mem_cons, List.not_mem_nil, or_false] at hp
      rcases hp with rfl | rfl | rfl | rfl <;> assumption)
    clear F m1 m2 m3 m4
    have hIl : @Ne Nat I _ := neN (Ne.symm (hn _ (.head _)))
    cases hdv with
    | tuple hmv hal2 =>
    cases hal2 with
    | cons q1 hal2 =>
    cases q1
    cases hal2 with
    | cons q2 hal2 =>
    cases q2
    cases hal2
    have hT := htl _ hmv
    dsimp only at hT hl2 hl3
    have hT' : IsTup s.heap _ #[.str px _, .int pz _] := ⟨_, hT, rfl, _, rfl⟩
    clear hT
    dsimp only at hd
    have hvl : vs.length ≤ 1000 := by rw [hd.length, List.length_map]; omega
    k_steps
    · show LEnd _ _ _ _ _ _ _
      rename _ < _ => hgt
      have hs : lnStep width ⟨sl, s1, sz1⟩ (px, pz) = ⟨sl ++ [s1], PySem.Str.ofString "" ++ px, 0 + pz⟩ := by unfold lnStep; rw [if_pos hgt]
      rw [hs] at hlm
      rename News _ _ _ (_ :: _) => N9
      rw [push_list] at N9
      refine' ⟨_, _, _, _, rfl, by assumption, News.sub N9 (fun p hp => .tail _ (.tail _ hp)), (fun p hp => by rw [List.mem_singleton.mp hp]; exact hn (_, W.listOf vs.toArray n) (.head _)), ⟨_, _, _, _, rfl, by rw [hlm, List.map_append]; exact DatAll.append hd (DatAll.one (.str _ _)), rfl, by rw [hlm]; rfl, by rw [hlm]; rfl, rfl⟩⟩
    · show LEnd _ _ _ _ _ _ _
      rename ¬ _ < _ => hgt
      have hs : lnStep width ⟨sl, s1, sz1⟩ (px, pz) = ⟨sl, s1 ++ px, sz1 + pz⟩ := by unfold lnStep; rw [if_neg hgt]
      rw [hs] at hlm
      refine' ⟨_, _, _, _, rfl, by assumption, News.sub (by assumption) (fun p hp => .tail _ hp), hn, ⟨_, _, _, _, rfl, by rw [hlm]; exact hd, rfl, by rw [hlm]; rfl, by rw [hlm]; rfl, rfl⟩⟩
end Mine

/- part CJ -/
namespace Mine
set_option maxHeartbeats 4000000
open LCg
section
variable {prog : Program} {w : World} {A : Around} {E : Value → Shared → Prop} {s : Shared} {h₀ : Heap} {L : Addr} {m : PySem.Str → Option Value} {env : Env}
def CTurn (prog : Program) (w : World) (A : Around) (h₀ : Heap) (L : Addr) (m : PySem.Str → Option Value) (env : Env) (elt : Expr) (x : PySem.Str) (scope : Scope) (cl : List (PySem.Str × Addr)) (J : Nat → List Value → List (Addr × Obj) → Prop) (n : Nat) (P : Nat → Value → Prop) (s : Shared) : Prop :=
  ∀ i v ys news I oI C oC D m₂ h tk (E' : Value → Shared → Prop), i < n → P i v → J i ys news → NsObj oC m₂ → m₂ x = some v → Fr h₀ L h m → News h₀ L h ((I, oI) :: (C, oC) :: (D, lst ys) :: news) → Off3 I C D news → ((@Ne Nat I C) ∧ (@Ne Nat I D) ∧ (@Ne Nat C D)) →
    wpAny (model prog w) A (eval elt (compEnvC scope cl C env)) (CompEnd h₀ L m { s with heap := h, toks := tk } I oI C oC D (lst ys) (fun _ => True) (fun y news' => J (i + 1) (ys ++ [y]) news')) E' { s with heap := h, toks := tk }
theorem compRest_of {elt : Expr} {x : PySem.Str} {scope : Scope} {cl : List (PySem.Str × Addr)} {J : Nat → List Value → List (Addr × Obj) → Prop} {n : Nat} {P : Nat → Value → Prop} (turn : CTurn prog w A h₀ L m env elt x scope cl J n P s) (Fin : List Value → List (Addr × Obj) → Prop) (done : ∀ ys news, J n ys news → Fin ys news) :
    ∀ k i ys news, i + k = n → J i ys news → CompRest prog w A h₀ L m env elt x scope cl s (fun _ => True) P Fin k i ys news := by
  intro k
  induction k with
  | zero =>
    intro i ys news hi hj
    have : i = n := by omega
    subst this
    exact CompRest.zero (done _ _ hj)
  | succ k ih =>
    intro i ys news hi hj
    refine CompRest.succ fun v I oI C oC D m₂ h tk E' hP hC hm F N off ne => ?_
    refine wpAny_mono (turn i v ys news I oI C oC D m₂ h tk E' (by omega) hP hj hC hm F N off ne) (fun y s₂ h₂ => ?_) fun _ _ e => e
    obtain ⟨h', tk', news', rfl, F', N', off', _, hj'⟩ := h₂
    exact ⟨h', tk', news', rfl, F', N', off', trivial, ih _ _ _ (by omega) hj'⟩
/-- the comprehension's iterator, after the iterable -/
def CIter (prog : Program) (w : World) (A : Around) (h₀ : Heap) (L : Addr) (m : PySem.Str → Option Value) (env : Env) (elt : Expr) (x : PySem.Str) (scope : Scope) (cl : List (PySem.Str × Addr)) (J : Nat → List Value → List (Addr × Obj) → Prop) (Q : Value → Shared → Prop) (it : Value) (s₂ : Shared) : Prop :=
  ∃ I n P St news, it = .ref I ∧ Walks prog w A I [I] [I] n P St ∧ n ≤ sizeLine ∧ (∀ i h, St i h → ∃ o, h.get? I = some o) ∧ (∀ i h h' o, St i h → h.get? I = some o → h'.get? I = some o → St i h') ∧ St 0 s₂.heap ∧ I < s₂.heap.objs.size ∧ Fr h₀ L s₂.heap m ∧ News h₀ L s₂.heap news ∧ L ≠ I ∧ h₀.get? I = none ∧ (∀ p ∈ news, p.1 ≠ I) ∧ J 0 [] news ∧
    CTurn prog w A h₀ L m env elt x scope cl J n P s₂ ∧ (∀ ys D h tk news, J n ys news → Fr h₀ L h m → News h₀ L h ((D, lst ys) :: news) → Off1 D news → Q (.ref D) { s₂ with heap := h, toks := tk })
theorem compJ {elt iter : Expr} {x : PySem.Str} {px : Pos} {scope : Scope} {cl : List (PySem.Str × Addr)} {pos : Pos} {Q : Value → Shared → Prop} (J : Nat → List Value → List (Addr × Obj) → Prop)
    (hclos : closureFor scope env = pure cl) (hcell : ∀ y ∈ scope.names, y.2 ≠ .cell) (hkind : scope.kind = .function)
    (hnames : ∀ y ∈ scope.names, y.2 = .local → scope.names.lookup y.1 = some .local) (hx : scope.names.lookup x = some .local)
    (h : wpAny (model prog w) A (eval iter env) (fun xv s₁ => wpAny (model prog w) A (pyIter xv) (CIter prog w A h₀ L m env elt x scope cl J Q) E s₁) E s)
    (hs : ∀ x, foldedSetIterable iter env x = pure x := by intro _; rfl) :
    wpAny (model prog w) A (eval (.ListComp elt [⟨.Name x px, iter, [], 0⟩] scope pos) env) Q E s := by
  rw [eval_ListComp]
  refine wpAny_comprehension_free (use := none) rfl hs hclos hkind hnames (wpAny_mono h (fun xv s₁ h₁ => wpAny_mono h₁ (fun it s₂ h₂ => ?_) fun _ _ e => e) fun _ _ e => e)
  obtain ⟨I, n, P, St, news, rfl, W, hsz, hIo, hSt, hst, hIlt, F, N, hIL, hI₀, off, hj, turn, done⟩ := h₂
  refine block_U (S := fun _ => True) (Fin := fun ys news => J n ys news) W hsz hIo (fun i h h' o nw st e e' _ _ _ => hSt i h h' o st e e') hcell hkind hx hst (fun b hb => by rw [List.mem_singleton.mp hb]; exact hIlt) F N hIL hI₀ off trivial
    (compRest_of turn _ (fun _ _ hj => hj) n 0 [] news (by omega) hj) ?_
  intro D C h tk m' ys news' F' N' o1 hn hC₀ hD₀ hCL hDL hCD offC fin
  refine ⟨m', hn, fun h'' hs'' => done ys D h'' tk news' fin (F'.change hs'' hCL hC₀) (fun p hp => ?_) o1⟩
  refine ⟨hs''.extBut _ _ ?_ (N' p hp).1, (N' p hp).2⟩
  rcases List.mem_cons.mp hp with rfl | hp
  · exact Ne.symm hCD
  · exact offC p hp
theorem cStr {elt : Expr} {x : PySem.Str} {scope : Scope} {cl : List (PySem.Str × Addr)} {Q : Value → Shared → Prop} {J : Nat → List Value → List (Addr × Obj) → Prop} {xt : PySem.Str} {tx : Tok} {news : List (Addr × Obj)} (hh : A.handled = none) (hlen : xt.length ≤ 1000) (F : Fr h₀ L s.heap m) (N : News h₀ L s.heap news) (hj : J 0 [] news)
    (turn : ∀ g, CTurn prog w A h₀ L m env elt x scope cl J xt.cps.size (SignAt xt) { s with heap := g })
    (done : ∀ ys D h tk news, J xt.cps.size ys news → Fr h₀ L h m → News h₀ L h ((D, lst ys) :: news) → Off1 D news → Q (.ref D) { s with heap := h, toks := tk }) :
    wpAny (model prog w) A (pyIter (.str xt tx)) (CIter prog w A h₀ L m env elt x scope cl J Q) E s := by
  have hsz : xt.cps.size ≤ sizeLine := Nat.le_trans hlen (Nat.le_of_ble_eq_true (by with_unfolding_all rfl))
  have key : ∀ (o : Obj) (St : Nat → Heap → Prop), Walks prog w A s.heap.objs.size [s.heap.objs.size] [s.heap.objs.size] xt.cps.size (SignAt xt) St → (∀ i h, St i h → ∃ o, h.get? s.heap.objs.size = some o) → (∀ i h h' o, St i h → h.get? s.heap.objs.size = some o → h'.get? s.heap.objs.size = some o → St i h') → St 0 (s.heap.push o) →
      CIter prog w A h₀ L m env elt x scope cl J Q (.ref s.heap.objs.size) { s with heap := s.heap.push o } := by
    intro o St W hob hSt hst
    exact ⟨_, _, _, St, news, rfl, W, hsz, hob, hSt, hst, by show _ < (s.heap.push o).objs.size; rw [Heap.size_push]; exact Nat.lt_succ_self _, F.push _, fun p hp => ⟨Heap.get?_push_of_some _ (N p hp).1, (N p hp).2⟩, Nat.ne_of_lt F.ns.lt, next_is_new F,
      fun p hp => Nat.ne_of_lt (Heap.lt_size (N p hp).1), hj, turn _, done⟩
  cases ha : xt.cps.all (· < 128)
  · exact wpAny_pyIter_wide ha (key _ _ (Walks.strWide hh _ xt tx) (fun _ _ st => let ⟨o, ho, _⟩ := st; ⟨o, ho⟩) (fun i h h' o st e e' => let ⟨o', q, r⟩ := st; by rw [e] at q; cases q; exact ⟨o, e', r⟩) ⟨_, Heap.get?_push_size _ rfl, rfl, rfl⟩)
  · exact wpAny_pyIter_ascii ha (key _ _ (Walks.strAscii hh _ xt tx) (fun _ _ st => let ⟨o, ho, _⟩ := st; ⟨o, ho⟩) (fun i h h' o st e e' => let ⟨o', q, r⟩ := st; by rw [e] at q; cases q; exact ⟨o, e', r⟩) ⟨_, Heap.get?_push_size _ rfl, rfl, rfl⟩)
theorem cRange {elt : Expr} {x : PySem.Str} {scope : Scope} {cl : List (PySem.Str × Addr)} {Q : Value → Shared → Prop} {J : Nat → List Value → List (Addr × Obj) → Prop} {r : Addr} {a b c : Int} {t u v : Tok} {n : Nat} {news : List (Addr × Obj)} (hh : A.handled = none)
    (hr : IsRange s.heap r a b c t u v) (hsm : Builtin.Range.small a b c = true) (hn : Builtin.Range.rangeSize a b c = ((n : Nat) : Int)) (hlen : n ≤ 1000) (F : Fr h₀ L s.heap m) (N : News h₀ L s.heap news) (hj : J 0 [] news)
    (turn : ∀ g, CTurn prog w A h₀ L m env elt x scope cl J n (fun i v => ∃ t, v = .int (a + i * c) t) { s with heap := g })
    (done : ∀ ys D h tk news, J n ys news → Fr h₀ L h m → News h₀ L h ((D, lst ys) :: news) → Off1 D news → Q (.ref D) { s with heap := h, toks := tk }) :
    wpAny (model prog w) A (pyIter (.ref r)) (CIter prog w A h₀ L m env elt x scope cl J Q) E s := by
  have hsz : n ≤ sizeLine := Nat.le_trans hlen (Nat.le_of_ble_eq_true (by with_unfolding_all rfl))
  refine wpAny_pyIter_range hr hsm ?_
  refine ⟨_, n, _, _, news, rfl, Walks.range hh s.heap.objs.size a c n, hsz, (fun i h st => ⟨_, st⟩), (fun i h h' o st e e' => ?_), ?_, by show _ < (s.heap.push _).objs.size; rw [Heap.size_push]; exact Nat.lt_succ_self _, F.push _, fun p hp => ⟨Heap.get?_push_of_some _ (N p hp).1, (N p hp).2⟩, Nat.ne_of_lt F.ns.lt, next_is_new F,
      fun p hp => Nat.ne_of_lt (Heap.lt_size (N p hp).1), hj, turn _, done⟩
  · have st' : h.get? s.heap.objs.size = some _ := st
    show h'.get? s.heap.objs.size = some _
    rw [e', ← e]; exact st'
  · show IsRangeIter _ _ _ _ _
    rw [hn]; simpa using Heap.get?_push_size _ rfl
end
end Mine

/- part CH -/
namespace Mine
set_option maxHeartbeats 1000000
local macro_rules | `(tactic| walk_at "MINE fill") => `(tactic| (w_top off; have : ∀ (P : Params) (h : Heap), (hd.heap_39 P).In h → PySem.Challenge.rw_ey0019_01.Holds → True := by (k_fill; intros; trivial)))
local macro_rules | `(tactic| k_room) => `(tactic| ((try simp only [depth_under_make, depth_under_kw, depth_in1, depth_deeper, depth_caller]); omega))
local macro_rules | `(tactic| walk_at "MINE enter") => `(tactic| (k_dflt (refine' enter (news := []) ?G ?kg ?sz ?N ?ho ?hcd ?hroom ?hbind ?hloc ?_ ?c1 ?c2 ?c3 ?c4; (case G => assumption); (case kg => exact fun _ _ e => e); (case sz => exact Nat.le_refl _); (case N => exact fun _ h => nomatch h); (case ho => k_is); (case hcd => k_is); (case hroom => omega); (case hbind => first | exact BindsTo.of_eq rfl | exact binds_K (Gd.K (by assumption)) rfl (by k_is) rfl rfl rfl); (case hloc => exact locs rfl); (case c1 => exact rfl); (case c2 => exact rfl); (case c3 => exact rfl); (case c4 => decide)); intro L' h₁ F' N' l1 kp X' T'; (try dsimp only); (try k_fold)))
local macro_rules | `(tactic| walk_at "MINE rm") => `(tactic| first | omega | ((try simp only [depth_deeper, depth_in1, units_deeper, units_in1]); (try dsimp only); omega))
local macro_rules | `(tactic| walk_at "exec For") => `(tactic| (k_here; refine stop_of ?_))
local macro_rules | `(tactic| walk_at "exec For Name Name cons nil") => `(tactic| (k_here; refine stop_of ?_))
local macro_rules | `(tactic| walk_at "exec For Tuple Name cons nil") => `(tactic| (k_here; refine stop_of ?_))
local macro_rules | `(tactic| walk_at "exec For Name Call cons nil") => `(tactic| (k_here; refine stop_of ?_))
local macro_rules | `(tactic| walk_at "exec While") => `(tactic| (k_here; refine stop_of ?_))
local macro_rules | `(tactic| walk_at "exec While Compare cons nil") => `(tactic| (k_here; refine stop_of ?_))
local macro_rules | `(tactic| walk_at "assign Tuple") => `(tactic| (k_here; (with_reducible show wpAny _ _ (assign (Expr.Tuple _ _ _) _ (Value.ref _)) _ _ _); k_dflt (refine' unpackN_ ?k1 ?k2 ?k3 ?k4 ?k5 ?k6 ?_; (case k1 => k_asm); (case k2 => k_asm); (case k3 => exact Fr.tup (by k_asm) (by assumption)); (case k4 => exact rfl); (case k5 => exact rfl); (case k6 => exact rfl); k_whole); intro h' F' N'; (try k_sweep)))
local macro_rules | `(tactic| walk_at "call ref") => `(tactic| (k_here; (with_reducible show wpAny _ _ (call (.ref 177) _) _ _ _); k_dflt (refine' useP (c_single _ _ _) ?F ?N ?X ?T ?d ?u ?c ?_; (case F => k_asm); (case N => k_asm); (case X => k_asm); (case T => k_asm); (case d => walk_at "MINE rm"); (case u => walk_at "MINE rm"); (case c => exact trivial); k_whole); intro v9 h9 tk9 p9 k9 F9 N9; (try dsimp only at p9); subst p9; (try dsimp only)))
local macro_rules | `(tactic| walk_at "eval ListComp") => `(tactic| (k_here; refine stop_of ?_))
local macro_rules | `(tactic| walk_at "eval Name") => `(tactic| (k_here; (with_reducible show wpAny _ _ (eval (.Name _ _) (compEnvC _ _ _ _)) _ _ _); first
  | k_dflt (refine' LCgL.ld_own ?N ?m ?C ?x ?_ ?a ?b ?c; (case a => exact rfl); (case b => exact rfl); (case c => decide); (case N => k_asm); (case C => assumption); (case m => k_mem); (case x => assumption))
  | k_dflt (refine' lcf_cell ?N ?c ?m ?d ?_ ?a ?b; (case a => exact rfl); (case b => exact rfl); (case N => k_asm); (case c => exact rfl); (case m => k_mem); (case d => assumption); k_whole)))
def cutN (len : Nat) (width : Int) : Nat := ((len + width - 1) / width).toNat
theorem cut_len {len : Nat} {width : Int} (h : len ≤ 100) (hw : 2 ≤ width ∧ width ≤ 20) : cutN len width ≤ 1000 := by
  unfold cutN
  have : ((len : Int) + width - 1) / width ≤ (len + width - 1) := Int.ediv_le_self _ (by omega)
  omega
theorem cut_size {len : Nat} {width : Int} (hw : 2 ≤ width ∧ width ≤ 20) : Builtin.Range.rangeSize 0 (len : Int) width = (cutN len width : Nat) := by
  unfold Builtin.Range.rangeSize cutN
  rw [if_pos (by omega)]
  by_cases h : (0 : Int) < len
  · rw [if_pos h]
    have e : (len : Int) + width - 1 = (len - 0 - 1) + 1 * width := by omega
    rw [e, Int.add_mul_ediv_right _ _ (by omega)]
    have : 0 ≤ ((len : Int) - 0 - 1) / width := Int.ediv_nonneg (by omega) (by omega)
    omega
  · rw [if_neg h]
    have e : (len : Int) + width - 1 = width - 1 := by omega
    rw [e, Int.ediv_eq_zero_of_lt (by omega) (by omega)]
    rfl
theorem cut_small {len : Nat} {width : Int} (h : len ≤ 100) (hw : 2 ≤ width ∧ width ≤ 20) : Builtin.Range.small 0 (len : Int) width = true := by
  have h1 := cut_size (len := len) hw
  have h2 := cut_len h hw
  unfold Builtin.Range.small
  rw [h1]
  simp only [Builtin.Range.rangeFitsLong, Bool.and_eq_true, Bool.or_eq_true, decide_eq_true_eq, beq_iff_eq, show width > 0 by omega, if_true]
  omega
def cutAt (xt : PySem.Str) (width : Int) (j : Nat) : PySem.Str := Txt.slice xt (some (0 + (j : Int) * width)) (some (0 + (j : Int) * width + width))
def cuts (xt : PySem.Str) (width : Int) : List PySem.Str := (List.range (cutN xt.length width)).map (cutAt xt width)
structure ChSt where
  lines : List PySem.Str
  size : Int
  off : Int
def chStep (xt : PySem.Str) (w : Int) (st : ChSt) (p : Sp) : ChSt := if st.size + p.2.2 > w then ⟨st.lines ++ [Txt.slice xt (some st.off) (some p.1)], 0 + p.2.2, p.1⟩ else ⟨st.lines, st.size + p.2.2, st.off⟩
def chFold (xt : PySem.Str) (w : Int) (l : List Sp) : ChSt := l.foldl (chStep xt w) ⟨[], 0, 0⟩
def chEnd (xt : PySem.Str) (st : ChSt) : List PySem.Str := if st.size ≠ 0 then st.lines ++ [Txt.slice xt (some st.off) none] else st.lines
def chopL (xt : PySem.Str) (w : Int) : List PySem.Str := if (xt.cps.toList.all fun c => single c) = true then cuts xt w else chEnd xt (chFold xt w (spFold xt.cps.toList))
theorem ch_more {xt : PySem.Str} {w : Int} {ps : List Sp} {i : Nat} {p : Sp} (h : ps[i]? = some p) : chFold xt w (ps.take (i + 1)) = chStep xt w (chFold xt w (ps.take i)) p := by
  have e : ps.take (i + 1) = ps.take i ++ [p] := by rw [List.take_add_one, h]; rfl
  rw [e, chFold, List.foldl_append]; rfl
theorem ch_len {xt : PySem.Str} {w : Int} (ps : List Sp) : (chFold xt w ps).lines.length ≤ ps.length := by
  suffices ∀ st : ChSt, (ps.foldl (chStep xt w) st).lines.length ≤ st.lines.length + ps.length by
    have := this ⟨[], 0, 0⟩; simpa [chFold] using this
  induction ps with
  | nil => intro st; simp
  | cons p ps ih =>
    intro st
    have h1 := ih (chStep xt w st p)
    have h2 : (chStep xt w st p).lines.length ≤ st.lines.length + 1 := by unfold chStep; split <;> simp
    simp only [List.foldl_cons, List.length_cons]; omega
local macro_rules | `(tactic| walk_at "assign Tuple") => `(tactic| (k_here; (with_reducible show wpAny _ _ (assign (Expr.Tuple _ _ _) _ (Value.ref _)) _ _ _); k_dflt (refine' unpackN_ ?k1 ?k2 ?k3 ?k4 ?k5 ?k6 ?_; (case k1 => k_asm); (case k2 => k_asm); (case k3 => exact ledTup (by k_asm) (by repeat (first | assumption | apply List.Mem.tail))); (case k4 => exact rfl); (case k5 => exact rfl); (case k6 => exact rfl); k_whole); intro h' F' N'; (try k_sweep)))
theorem allLt_off {D : Addr} : ∀ {tl : List (Addr × Obj)}, AllLt D tl → OwnOff tl [D]
  | [], _ => fun p hp => nomatch hp
  | q :: r, h => fun p hp b hb => by
    rcases List.mem_cons.mp hp with rfl | hp
    · rw [List.mem_singleton.mp hb]; exact Nat.ne_of_lt h.1
    · exact allLt_off h.2 p hp b hb
theorem c_chop (w : World) (xt : PySem.Str) (tx tw : Tok) (width : Int) (hw : 2 ≤ width ∧ width ≤ 20) (hlen : xt.length ≤ 100) (hok : ∀ c ∈ xt.cps.toList, c ∈ okCodes) : PCall w 222 [.str xt tx, .int width tw] 14 150 (fun _ => True) (fun v h h' => ∃ tl, Led h h' tl ∧ DatIn tl v (.list ((chopL xt width).map .str))) := by
  walk_at "MINE fill"
  unfold PCall
  intro mean mg mb dp un fr gd s R hdp hun G _ hret
  k_dflt (refine' enterC (news := []) G (fun _ _ e => e) (Nat.le_refl _) ?N ?ho ?hcd ?hroom ?hbind ?hkind ?hnd ?_ ?c1 ?c2 ?c3; (case N => exact fun p hp => nomatch hp); (case ho => k_is); (case hcd => k_is); (case hroom => omega); (case hbind => first | exact BindsTo.of_eq rfl | exact binds_K (Gd.K (by assumption)) rfl (by k_is) rfl rfl rfl); (case hkind => exact rfl); (case hnd => decide +kernel); (case c1 => exact rfl); (case c2 => exact rfl); (case c3 => exact rfl))
  intro L1 h1 tk1 cells F1 N1 Y l1 kp X1 T1
  k_cells Y
  rename_i o2 o1 d2 d1
  replace d2 : o2.data = .cell (some (.int width tw)) := d2
  replace d1 : o1.data = .cell (some (.str xt tx)) := d1
  (try dsimp only [List.cons_append, List.nil_append] at N1)
  generalize hm : (bindL _ _ _ : PySem.Str → Option Value) = mm at F1
  have F2 := Fr.force [(PySem.Str.ofString "unicode_version", Value.str (PySem.Str.ofString "auto") 548)] F1 (by
    intro p hp
    simp only [List.mem_cons, List.not_mem_nil, or_false] at hp
    rcases hp with rfl; rw [← hm]; rfl)
  clear F1 hm
  k_steps
  · unfold Stop
    rename Fr _ _ _ _ => F9
    rename News _ _ _ _ => N9
    refine compJ (L := L1) (h₀ := s.heap) (m := kstB mm [(PySem.Str.ofString "unicode_version", Value.str (PySem.Str.ofString "auto") 548)]) (fun i ys news => news = [(L1 + 1 + 1, o2), (L1 + 1, o1)] ∧ DatAll [] ys (((List.range i).map (cutAt xt width)).map .str)) rfl (by decide) rfl (by decide) rfl ?_
    k_steps
    refine cRange (n := cutN xt.length width) rfl (by assumption) (cut_small hlen hw) (cut_size hw) (cut_len hlen hw) (by assumption) (by assumption) ⟨rfl, DatAll.nil⟩ ?turn ?done
    case done =>
      rintro ys D h tk news ⟨rfl, hys⟩ F N _
      refine hret _ _ _ ⟨_, News.led N, ?_⟩ (Fr.keep F)
      rename (List.all _ _) = true => q9
      unfold chopL; rw [if_pos q9]
      exact .list (.head _) (DatAll.mono (fun p hp => absurd hp List.not_mem_nil) hys)
    case turn =>
      rintro g9 i v ys news I oI C oC D m₂ h tk E' hi ⟨t, rfl⟩ ⟨rfl, hys⟩ hoC hm F N off ⟨n1, n2, n3⟩
      k_steps
      refine ⟨_, _, _, rfl, by assumption, by assumption, off, trivial, rfl, ?_⟩
      rw [List.range_succ, List.map_append, List.map_append]
      exact DatAll.append hys (DatAll.one (.str _ _))
  · rename Fr _ _ _ _ => F9
    rename News _ _ _ _ => N9
    rename (List.all _ _) = false => q9
    refine useP (c_split2 w xt tx 548 hlen hok) F9 N9 X1 T1 (by walk_at "MINE rm") (by walk_at "MINE rm") trivial ?_
    rintro v h9 tk9 ⟨tl, K9, D9⟩ k9 F10 N10
    have NT := Led.toN K9 F9
    have hofd := Led.off K9 N9
    have N11 : News s.heap L1 h9 ((L1 + 1 + 1, o2) :: (L1 + 1, o1) :: tl) := News.join N10 NT
    clear F9 N9 N10 NT F2 N1
    cases D9 with
    | tuple hmD hal =>
    cases hal with
    | cons d1' hal =>
    cases d1' with
    | list hml halp =>
    cases hal with
    | cons q2 hal =>
    cases q2
    cases hal
    rename_i lsp vsp nsp tsum
    have hspl : (spFold xt.cps.toList).length ≤ 100 := Nat.le_trans (spFold_len _) (by simpa [PySem.Str.length] using hlen)
    have hvsl : vsp.length = (spFold xt.cps.toList).length := by have := halp.length; simpa using this
    k_steps
    unfold Stop
    refine wpAny_For ?_
    k_steps
    rename Fr _ _ _ _ => F12
    rename News _ _ _ _ => N12
    rename _ ∧ _ ∧ AllLt _ _ => hlt9
    have hoff := allLt_off hlt9.2.2
    refine' forLst (items := vsp) (fun i m news => ∃ vs n t1 t2, news = (?l, W.listOf vs.toArray n) :: (L1 + 1 + 1, o2) :: (L1 + 1, o1) :: tl ∧ DatAll [] vs ((chFold xt width ((spFold xt.cps.toList).take i)).lines.map .str) ∧ m (PySem.Str.ofString "lines") = some (.ref ?l) ∧ m (PySem.Str.ofString "line_size") = some (.int (chFold xt width ((spFold xt.cps.toList).take i)).size t1) ∧ m (PySem.Str.ofString "line_offset") = some (.int (chFold xt width ((spFold xt.cps.toList).take i)).off t2)) rfl F12 N12 (ledL N12 (.tail _ (.tail _ (.tail _ hml)))) (.inr ⟨W.listOf vsp.toArray nsp, ?hlk⟩) ⟨[], 0, _, _, rfl, DatAll.nil, rfl, rfl, rfl⟩ ?turn ?done
    case hlk =>
      rintro i m news ⟨vs, n, t1, t2, rfl, _⟩
      exact .tail _ (.tail _ (.tail _ hml))
    case done =>
      rintro m news h tk ⟨vs, n, t1, t2, rfl, hd, m1, m2, m3⟩ F N
      rw [hvsl, List.take_length] at hd m2 m3
      have hl2 := ch_len (xt := xt) (w := width) (spFold xt.cps.toList)
      have F3 := Fr.force [(PySem.Str.ofString "lines", Value.ref _), (PySem.Str.ofString "line_size", Value.int (chFold xt width (spFold xt.cps.toList)).size t1), (PySem.Str.ofString "line_offset", Value.int (chFold xt width (spFold xt.cps.toList)).off t2)] F (by
        intro p hp
        simp only [List.mem_cons, List.not_mem_nil, or_false] at hp
        rcases hp with rfl | rfl | rfl <;> assumption)
      clear F m1 m2 m3 F12 N12
      have hdl : vs.length ≤ 1000 := by rw [hd.length, List.length_map]; omega
      have hch : chopL xt width = chEnd xt (chFold xt width (spFold xt.cps.toList)) := by unfold chopL; rw [if_neg (by rw [q9]; decide)]
      generalize chFold xt width (spFold xt.cps.toList) = st at *
      obtain ⟨sl, s1, sz1⟩ := st
      dsimp only at hd hl2
      k_steps
      · rename _ ≠ (0 : Int) => hne
        rename Fr _ _ _ _ => F9
        rename News _ _ _ _ => N9
        rw [push_list] at N9
        have e : chEnd xt ⟨sl, s1, sz1⟩ = sl ++ [Txt.slice xt (some sz1) none] := by unfold chEnd; rw [if_pos hne]
        refine hret _ _ _ ⟨_, News.led N9, ?_⟩ (Fr.keep F9)
        rw [hch, e, List.map_append]
        exact .list (.head _) (DatAll.append (DatAll.mono (fun p hp => absurd hp List.not_mem_nil) hd) (DatAll.one (.str _ _)))
      · rename _ = (0 : Int) => hne
        have e : chEnd xt ⟨sl, s1, sz1⟩ = sl := by unfold chEnd; rw [if_neg (fun q => q hne)]
        refine hret _ _ _ ⟨_, News.led N, ?_⟩ (Fr.keep F3)
        rw [hch, e]
        exact .list (.head _) (DatAll.mono (fun p hp => absurd hp List.not_mem_nil) hd)
    case turn =>
      rintro i v m news I oI h tk hv ⟨vs, n, t1, t2, rfl, hd, m1, m2, m3⟩ hn hI F N
      obtain ⟨d, hd0, hdv⟩ := datAll_get halp hv
      rw [List.getElem?_map] at hd0
      obtain ⟨p, hp, rfl⟩ := Option.map_eq_some_iff.mp hd0
      have hlm := ch_more (xt := xt) (w := width) hp
      have hl2 := ch_len (xt := xt) (w := width) ((spFold xt.cps.toList).take i)
      have hl3 : ((spFold xt.cps.toList).take i).length ≤ 100 := by rw [List.length_take]; omega
      generalize chFold xt width ((spFold xt.cps.toList).take i) = st at *
      obtain ⟨sl, s1, sz1⟩ := st
      obtain ⟨pa, pb, pz⟩ := p
      have F3 := Fr.force [(PySem.Str.ofString "lines", Value.ref _), (PySem.Str.ofString "line_size", Value.int s1 t1), (PySem.Str.ofString "line_offset", Value.int sz1 t2)] F (by
        intro p hp
        simp only [List.mem_cons, List.not_mem_nil, or_false] at hp
        rcases hp with rfl | rfl | rfl <;> assumption)
      clear F m1 m2 m3 F12 N12
      have hIl : @Ne Nat I _ := neN (Ne.symm (hn _ (.head _)))
      cases hdv with
      | tuple hmv hal2 =>
      cases hal2 with
      | cons q1 hal2 =>
      cases q1
      cases hal2 with
      | cons q2 hal2 =>
      cases q2
      cases hal2 with
      | cons q3 hal2 =>
      cases q3
      cases hal2
      dsimp only at hd hl2
      have hvl : vs.length ≤ 1000 := by rw [hd.length, List.length_map]; omega
      k_steps
      · show LEnd _ _ _ _ _ _ _
        rename _ < _ + _ => hgt
        have hs : chStep xt width ⟨sl, s1, sz1⟩ (pa, pb, pz) = ⟨sl ++ [Txt.slice xt (some sz1) (some pa)], 0 + pz, pa⟩ := by unfold chStep; rw [if_pos hgt]
        rw [hs] at hlm
        rename News _ _ _ _ => N9
        rw [push_list] at N9
        refine' ⟨_, _, _, _, rfl, by assumption, N9, fun p hp => ?_, ⟨_, _, _, _, rfl, by rw [hlm, List.map_append]; exact DatAll.append hd (DatAll.one (.str _ _)), rfl, by rw [hlm]; rfl, by rw [hlm]; rfl⟩⟩
        rcases List.mem_cons.mp hp with rfl | hp
        · exact hn (_, W.listOf vs.toArray n) (.head _)
        · exact hn p (.tail _ hp)
      · show LEnd _ _ _ _ _ _ _
        rename ¬ _ < _ + _ => hgt
        have hs : chStep xt width ⟨sl, s1, sz1⟩ (pa, pb, pz) = ⟨sl, s1 + pz, sz1⟩ := by unfold chStep; rw [if_neg hgt]
        rw [hs] at hlm
        refine' ⟨_, _, _, _, rfl, by assumption, by assumption, hn, ⟨_, _, _, _, rfl, by rw [hlm]; exact hd, rfl, by rw [hlm]; rfl, by rw [hlm]; rfl⟩⟩
end Mine

/- part LD -/
namespace Mine
set_option maxHeartbeats 1000000
local macro_rules | `(tactic| walk_at "MINE fill") => `(tactic| (w_top off; have : ∀ (P : Params) (h : Heap), (hd.heap_39 P).In h → PySem.Challenge.rw_ey0019_01.Holds → True := by (k_fill; intros; trivial)))
local macro_rules | `(tactic| k_room) => `(tactic| ((try simp only [depth_under_make, depth_under_kw, depth_in1, depth_deeper, depth_caller]); omega))
local macro_rules | `(tactic| walk_at "MINE enter") => `(tactic| (k_dflt (refine' enter (news := []) ?G ?kg ?sz ?N ?ho ?hcd ?hroom ?hbind ?hloc ?_ ?c1 ?c2 ?c3 ?c4; (case G => assumption); (case kg => exact fun _ _ e => e); (case sz => exact Nat.le_refl _); (case N => exact fun _ h => nomatch h); (case ho => k_is); (case hcd => k_is); (case hroom => omega); (case hbind => first | exact BindsTo.of_eq rfl | exact binds_K (Gd.K (by assumption)) rfl (by k_is) rfl rfl rfl); (case hloc => exact locs rfl); (case c1 => exact rfl); (case c2 => exact rfl); (case c3 => exact rfl); (case c4 => decide)); intro L' h₁ F' N' l1 kp X' T'; (try dsimp only); (try k_fold)))
local macro_rules | `(tactic| walk_at "MINE rm") => `(tactic| first | omega | ((try simp only [depth_deeper, depth_in1, units_deeper, units_in1]); (try dsimp only); omega))
local macro_rules | `(tactic| walk_at "exec For") => `(tactic| (k_here; refine stop_of ?_))
local macro_rules | `(tactic| walk_at "exec For Name Name cons nil") => `(tactic| (k_here; refine stop_of ?_))
local macro_rules | `(tactic| walk_at "exec For Tuple Name cons nil") => `(tactic| (k_here; refine stop_of ?_))
local macro_rules | `(tactic| walk_at "exec For Name Call cons nil") => `(tactic| (k_here; refine stop_of ?_))
local macro_rules | `(tactic| walk_at "exec While") => `(tactic| (k_here; refine stop_of ?_))
local macro_rules | `(tactic| walk_at "exec While Compare cons nil") => `(tactic| (k_here; refine stop_of ?_))
local macro_rules | `(tactic| walk_at "assign Tuple") => `(tactic| (k_here; (with_reducible show wpAny _ _ (assign (Expr.Tuple _ _ _) _ (Value.ref _)) _ _ _); k_dflt (refine' unpackN_ ?k1 ?k2 ?k3 ?k4 ?k5 ?k6 ?_; (case k1 => k_asm); (case k2 => k_asm); (case k3 => exact Fr.tup (by k_asm) (by assumption)); (case k4 => exact rfl); (case k5 => exact rfl); (case k6 => exact rfl); k_whole); intro h' F' N'; (try k_sweep)))
def drawV (cells : List Int) (k : Nat) (many : Int) : Int := if k < cells.length then cells.getD k 0 % many else 0
def drawK (cells : List Int) (k : Nat) : Nat := if k < cells.length then k + 1 else k
/-- the script's state: the list of the cells, and how many were taken -/
theorem c_draw (w : World) (S cl : Addr) (cells : List Int) (vs : List Value) (k : Nat) (tk0 : Tok) (n ncl : Nat) (many : Int) (tm : Tok) (hmany : 1 ≤ many ∧ many ≤ 1000) (hk : k ≤ cells.length) (hlen : cells.length ≤ 40) (hi : IntsAre vs cells) (hrng : ∀ x ∈ cells, 0 ≤ x ∧ x < 1000003) : 
   ∀ (mean : ExcName → Option Value) (mg mb : PySem.Str → Option Value) (dp un : Nat) (fr : Option (List Env)) (gd : Option (List PySem.Code)) (s : Shared) (g : Heap) (R : Result → Shared → Prop),
    dp + 3 < recursionLimit → un + 40 < cLine → Gd w mean mg mb g → Kp g s.heap → g.objs.size ≤ s.heap.objs.size → g.get? S = none → S ≠ cl → 
    s.heap.get? S = some (W.listOf [.ref cl, .int k tk0].toArray n) → s.heap.get? cl = some (W.listOf vs.toArray ncl) → 
    (∀ (x kk : Int) (t : Tok) (h' : Heap) (tk' : Nat) (tk1 : Tok) (n' : Nat), x = drawV cells k many → kk = (drawK cells k : Nat) → h'.get? S = some (W.listOf [.ref cl, .int kk tk1].toArray n') → (∀ b o, b ≠ S → s.heap.get? b = some o → h'.get? b = some o) → R (.ok (.ret (.int x t))) { s with heap := h', toks := tk' }) →
    codeAny (model PR w) ⟨none, dp, fr, gd, un⟩ (.call (.ref 229) ⟨[.ref S, .int many tm], []⟩) R s := by
  walk_at "MINE fill"
  intro mean mg mb dp un fr gd s g R hdp hun G kg hsz hS hne h1 h2 hret
  obtain ⟨g, G, kg, hsz, hS, kback⟩ := ghostBase G kg hS
  have hIL : g.IsList cl vs.toArray := PySem.IsL.isList (n := ncl) (kback _ _ (Ne.symm hne) h2)
  k_dflt (refine' enter (news := [(S, W.listOf [.ref cl, .int k tk0].toArray n)]) G kg hsz ?N ?ho ?hcd ?hroom ?hbind ?hloc ?_ ?c1 ?c2 ?c3 ?c4; (case N => intro p hp; rw [List.mem_singleton.mp hp]; exact ⟨h1, hS⟩); (case ho => k_is); (case hcd => k_is); (case hroom => omega); (case hbind => first | exact BindsTo.of_eq rfl | exact binds_K (G.K.keeps kg) rfl (by k_is) rfl rfl rfl); (case hloc => exact locs rfl); (case c1 => exact rfl); (case c2 => exact rfl); (case c3 => exact rfl); (case c4 => decide))
  intro L1 h1 F1 N1 l1 kp X1 T1
  (try dsimp only)
  (try k_fold)
  k_steps
  · have hc : ¬ k < cells.length := by omega
    refine hret _ _ _ _ _ _ _ ?_ ?_ ((by assumption : News _ _ _ [_]) _ (.head _)).1 (fun b o hb e => Fr.keep (by assumption) _ _ (kback b o hb e))
    · unfold drawV; rw [if_neg hc]
    · unfold drawK; rw [if_neg hc]
  · have hc : k < cells.length := by omega
    refine hret _ _ _ _ _ _ _ ?_ ?_ ((by assumption : News _ _ _ [_]) _ (.head _)).1 (fun b o hb e => Fr.keep (by assumption) _ _ (kback b o hb e))
    · unfold drawV; rw [if_pos hc, Int.toNat_natCast, Int.fmod_eq_emod_of_nonneg _ (by omega)]
    · unfold drawK; rw [if_pos hc]; simp
end Mine

/- part LT -/
namespace Mine
set_option maxHeartbeats 1000000
local macro_rules | `(tactic| walk_at "MINE fill") => `(tactic| (w_top off; have : ∀ (P : Params) (h : Heap), (hd.heap_39 P).In h → PySem.Challenge.rw_ey0019_01.Holds → True := by (k_fill; intros; trivial)))
local macro_rules | `(tactic| k_room) => `(tactic| ((try simp only [depth_under_make, depth_under_kw, depth_in1, depth_deeper, depth_caller]); omega))
local macro_rules | `(tactic| walk_at "MINE enter") => `(tactic| (k_dflt (refine' enter (news := []) ?G ?kg ?sz ?N ?ho ?hcd ?hroom ?hbind ?hloc ?_ ?c1 ?c2 ?c3 ?c4; (case G => assumption); (case kg => exact fun _ _ e => e); (case sz => exact Nat.le_refl _); (case N => exact fun _ h => nomatch h); (case ho => k_is); (case hcd => k_is); (case hroom => omega); (case hbind => first | exact BindsTo.of_eq rfl | exact binds_K (Gd.K (by assumption)) rfl (by k_is) rfl rfl rfl); (case hloc => exact locs rfl); (case c1 => exact rfl); (case c2 => exact rfl); (case c3 => exact rfl); (case c4 => decide)); intro L' h₁ F' N' l1 kp X' T'; (try dsimp only); (try k_fold)))
local macro_rules | `(tactic| walk_at "MINE rm") => `(tactic| first | omega | ((try simp only [depth_deeper, depth_in1, units_deeper, units_in1]); (try dsimp only); omega))
local macro_rules | `(tactic| walk_at "exec For") => `(tactic| (k_here; refine stop_of ?_))
local macro_rules | `(tactic| walk_at "exec For Name Name cons nil") => `(tactic| (k_here; refine stop_of ?_))
local macro_rules | `(tactic| walk_at "exec For Tuple Name cons nil") => `(tactic| (k_here; refine stop_of ?_))
local macro_rules | `(tactic| walk_at "exec For Name Call cons nil") => `(tactic| (k_here; refine stop_of ?_))
local macro_rules | `(tactic| walk_at "exec While") => `(tactic| (k_here; refine stop_of ?_))
local macro_rules | `(tactic| walk_at "exec While Compare cons nil") => `(tactic| (k_here; refine stop_of ?_))
local macro_rules | `(tactic| walk_at "assign Tuple") => `(tactic| (k_here; (with_reducible show wpAny _ _ (assign (Expr.Tuple _ _ _) _ (Value.ref _)) _ _ _); k_dflt (refine' unpackN_ ?k1 ?k2 ?k3 ?k4 ?k5 ?k6 ?_; (case k1 => k_asm); (case k2 => k_asm); (case k3 => exact Fr.tup (by k_asm) (by assumption)); (case k4 => exact rfl); (case k5 => exact rfl); (case k6 => exact rfl); k_whole); intro h' F' N'; (try k_sweep)))
def cellsOf (zs : List Int) : List Int := (zs.take 40).map fun k => k.fmod 1000003
theorem cellsOf_len (zs : List Int) : (cellsOf zs).length ≤ 40 := by unfold cellsOf; simp; omega
theorem cellsOf_rng (zs : List Int) : ∀ x ∈ cellsOf zs, 0 ≤ x ∧ x < 1000003 := by
  intro x hx
  obtain ⟨k, _, rfl⟩ := List.mem_map.mp hx
  have e : k.fmod 1000003 = k % 1000003 := Int.fmod_eq_emod_of_nonneg _ (by omega)
  rw [e]; omega
theorem led_two {h h' : Heap} {a b c : Addr × Obj} (K : Led h h' [a, b, c]) : Led h h' [a, b] := fun p hp => K p (by
  simp only [List.mem_cons, List.not_mem_nil, or_false] at hp ⊢
  rcases hp with rfl | rfl
  · exact .inl rfl
  · exact .inr (.inl rfl))
theorem c_state (w : World) (l : Addr) (vs : List Value) (zs : List Int) (hi : IntsAre vs zs) (hlen : zs.length ≤ 63) : PCall w 234 [.ref l] 5 60 (fun h => h.IsList l vs.toArray)
    (fun v h h' => ∃ S cl ys n t, v = .ref S ∧ Led h h' [(S, W.listOf [.ref cl, .int 0 t].toArray n), (cl, W.listOf ys.toArray ys.length)] ∧ @LT.lt Nat _ cl S ∧ IntsAre ys (cellsOf zs)) := by
  walk_at "MINE fill"
  unfold PCall
  intro mean mg mb dp un fr gd s R hdp hun G hl hret
  walk_at "MINE enter"
  rename_i L1 H1 F1 N1 l1 kp1 X1 T1
  k_steps
  rename _ ∧ _ => lt9
  rename IntsAre _ (List.map _ _) => i9
  rename News _ _ _ _ => N9
  exact hret _ _ _ ⟨_, _, _, _, _, rfl, led_two (News.led N9), lt9.1, i9⟩ (Fr.keep (by assumption))
theorem drawK_le {cells : List Int} {k : Nat} (h : k ≤ cells.length) : drawK cells k ≤ cells.length := by
  unfold drawK; split <;> omega
theorem drawV_rng {cells : List Int} {k : Nat} {many : Int} (hm : 1 ≤ many) : 0 ≤ drawV cells k many ∧ drawV cells k many < many := by
  unfold drawV; split
  · exact ⟨Int.emod_nonneg _ (by omega), Int.emod_lt_of_pos _ (by omega)⟩
  · omega
section
variable {w : World} {mean : ExcName → Option Value} {mg mb : PySem.Str → Option Value} {dp un : Nat} {fr : Option (List Env)} {gd : Option (List PySem.Code)} {s : Shared} {h₀ : Heap} {L : Addr} {m : PySem.Str → Option Value} {news : List (Addr × Obj)}
  {Q E : Value → Shared → Prop} {S cl : Addr} {cells : List Int} {vs : List Value} {k n ncl : Nat} {tk0 tm : Tok} {many : Int} {u : Obj → List (Addr × Obj)}
theorem setL_upd {h h' : Heap} {o o' : Obj} (U : UpdF S o news u) (F : Fr h₀ L h m) (N : News h₀ L h news) (hS : h'.get? S = some o') (k : ∀ b o, b ≠ S → h.get? b = some o → h'.get? b = some o) : Fr h₀ L h' m ∧ News h₀ L h' (u o') := by
  obtain ⟨own, rest, rfl, hg, h1, h2⟩ := U.split
  have hmem := N (S, o) (List.mem_append_right _ (.head _))
  refine ⟨⟨F.ns.at' fun o e => k _ _ (Ne.symm hmem.2.1) e, fun b o e => k _ _ (fun q => by rw [q, hmem.2.2] at e; cases e) (F.keep b o e), F.above⟩, ?_⟩
  rw [hg]
  intro p hp
  rcases List.mem_append.mp hp with hp | hp
  · have := N p (List.mem_append_left _ hp)
    exact ⟨k _ _ (h1 p hp) this.1, this.2⟩
  · rcases List.mem_cons.mp hp with rfl | hp
    · exact ⟨hS, hmem.2⟩
    · have := N p (List.mem_append_right _ (.tail _ hp))
      exact ⟨k _ _ (h2 p hp) this.1, this.2⟩
theorem upd_mem {o : Obj} (U : UpdF S o news u) : (S, o) ∈ news := by
  obtain ⟨own, rest, rfl, hg, h1, h2⟩ := U.split
  exact List.mem_append_right _ (.head _)
theorem useD (F : Fr h₀ L s.heap m) (N : News h₀ L s.heap news) (U : UpdF S (W.listOf [.ref cl, .int (k : Nat) tk0].toArray n) news u) (hcl : s.heap.get? cl = some (W.listOf vs.toArray ncl)) (hne : S ≠ cl) (X : (hd.heap_39 w.params).In h₀) (T : Top topProg LN mean mg mb h₀)
    (hmany : 1 ≤ many ∧ many ≤ 1000) (hk : k ≤ cells.length) (hlen : cells.length ≤ 40) (hi : IntsAre vs cells) (hrng : ∀ x ∈ cells, 0 ≤ x ∧ x < 1000003) (hdp : dp + 3 < recursionLimit) (hun : un + 40 < cLine)
    (h : ∀ (x : Int) (k' : Nat) (t : Tok) (h' : Heap) (tk' : Nat) (tk1 : Tok) (n' : Nat), 0 ≤ x → x < many → k' ≤ cells.length → Fr h₀ L h' m → News h₀ L h' (u (W.listOf [.ref cl, .int (k' : Nat) tk1].toArray n')) → Q (.int x t) { s with heap := h', toks := tk' }) :
    wpAny (model PR w) ⟨none, dp, fr, gd, un⟩ (call (.ref 229) [.ref S, .int many tm]) Q E s := by
  have sz : h₀.objs.size ≤ s.heap.objs.size := Nat.le_trans F.above (Nat.le_of_lt F.ns.lt)
  have nS := N _ (upd_mem U)
  refine wpAny_call (c_draw w S cl cells vs k tk0 n ncl many tm hmany hk hlen hi hrng mean mg mb dp un fr gd s h₀ _ hdp hun ⟨X, T⟩ F.keep sz nS.2.2 hne nS.1 hcl ?_)
  rintro x kk t h' tk' tk1 n' rfl rfl hS' kp
  obtain ⟨F', N'⟩ := setL_upd U F N hS' kp
  exact h _ _ t h' tk' tk1 n' (drawV_rng hmany.1).1 (drawV_rng hmany.1).2 (drawK_le hk) F' N'
end
local macro_rules | `(tactic| walk_at "call ref") => `(tactic| (k_here; (with_reducible show wpAny _ _ (call (.ref 229) _) _ _ _); k_dflt (refine' useD ?F ?N ?U ?cl ?ne ?X ?T ?many ?hk ?len ?hi ?rng ?d ?u ?_; (case F => k_asm); (case N => k_asm); (case U => k_updF); (case cl => exact Fr.keep (by k_asm) _ _ (by assumption)); (case ne => assumption); (case X => k_asm); (case T => k_asm); (case many => omega); (case hk => assumption); (case hi => assumption); (case len => assumption); (case rng => assumption); (case d => walk_at "MINE rm"); (case u => walk_at "MINE rm"); k_whole); intro x9 k9 t9 h9 tk9 tk8 n9 hx0 hx1 hk9 F9 N9; (try dsimp only at N9); (try dsimp only)))
local macro_rules | `(tactic| walk_at "eval ListComp") => `(tactic| (k_here; refine stop_of ?_))
local macro_rules | `(tactic| walk_at "eval Name") => `(tactic| (k_here; (with_reducible show wpAny _ _ (eval (.Name _ _) (compEnvC _ _ _ _)) _ _ _); first
  | k_dflt (refine' LCgL.ld_own ?N ?m ?C ?x ?_ ?a ?b ?c; (case a => exact rfl); (case b => exact rfl); (case c => decide); (case N => k_asm); (case C => assumption); (case m => k_mem); (case x => assumption))
  | k_dflt (refine' lcf_cell ?N ?c ?m ?d ?_ ?a ?b; (case a => exact rfl); (case b => exact rfl); (case N => k_asm); (case c => exact rfl); (case m => k_mem); (case d => assumption); k_whole)))
def SgOk (sgv : List Value) : Prop := ∀ x : Int, 0 ≤ x → x < 10 → ∃ c t, c ∈ okCodes ∧ sgv[x.toNat]? = some (.str ⟨#[c]⟩ t)
theorem sg_ok (t0 t1 t2 t3 t4 t5 t6 t7 t8 t9 : Tok) : SgOk [.str (PySem.Str.ofString "a") t0, .str (PySem.Str.ofString "b") t1, .str (PySem.Str.ofString " ") t2, .str (PySem.Str.ofString "中") t3, .str (PySem.Str.ofString "한") t4, .str (PySem.Str.ofString "́") t5, .str (PySem.Str.ofString "é") t6, .str (PySem.Str.ofString "c") t7, .str (PySem.Str.ofString "Ａ") t8, .str (PySem.Str.ofString "\u200b") t9] := by
  intro x h0 h1
  have hc : x = 0 ∨ x = 1 ∨ x = 2 ∨ x = 3 ∨ x = 4 ∨ x = 5 ∨ x = 6 ∨ x = 7 ∨ x = 8 ∨ x = 9 := by omega
  rcases hc with rfl | rfl | rfl | rfl | rfl | rfl | rfl | rfl | rfl | rfl
  · exact ⟨97, t0, by decide, rfl⟩
  · exact ⟨98, t1, by decide, rfl⟩
  · exact ⟨32, t2, by decide, rfl⟩
  · exact ⟨20013, t3, by decide, rfl⟩
  · exact ⟨54620, t4, by decide, rfl⟩
  · exact ⟨769, t5, by decide, rfl⟩
  · exact ⟨233, t6, by decide, rfl⟩
  · exact ⟨99, t7, by decide, rfl⟩
  · exact ⟨65313, t8, by decide, rfl⟩
  · exact ⟨8203, t9, by decide, rfl⟩
theorem rangeSize_up {n : Nat} {b : Int} (hn : n = b.toNat) (h : 0 ≤ b) : Builtin.Range.rangeSize 0 b 1 = ((n : Nat) : Int) := by
  unfold Builtin.Range.rangeSize
  rw [if_pos (by omega)]
  split
  · rw [Int.ediv_one]; omega
  · omega
theorem sgItem {prog : Program} {w : World} {A : Around} {E : Value → Shared → Prop} {s : Shared} {h₀ : Heap} {L D : Addr} {news : List (Addr × Obj)} {value slice : Expr} {Q : Value → Shared → Prop} {sgv : List Value} {n : Nat} {x : Int} {u : Tok} (N : News h₀ L s.heap news) (hm : (D, W.listOf sgv.toArray n) ∈ news) (hsg : SgOk sgv) (h0 : 0 ≤ x) (h1 : x < 10)
    (h : ∀ c t, c ∈ okCodes → Q (.str ⟨#[c]⟩ t) s) (hs : subscripted slice false (.ref D) (.int x u) = operate [.ref D, .int x u] (getItem (.ref D) (.int x u)) := by with_unfolding_all rfl) :
    wpAny (model prog w) A (subscriptTail value slice (.ref D) (.int x u)) Q E s := by
  obtain ⟨c, t, hc, e⟩ := hsg x h0 h1
  have hl := ledL N hm
  exact tail_any hl.typeIs slot_list_getitem.lookup (wpAny_getItem_list hl h0 (by omega) (by simpa using e) (h c t hc)) hs
local macro_rules | `(tactic| walk_at "subscriptTail") => `(tactic| (k_here; k_dflt (refine' sgItem ?N ?m ?sg ?a ?b ?_ ?c; (case N => k_asm); (case m => k_mem); (case sg => assumption); (case a => assumption); (case b => assumption); (case c => with_unfolding_all rfl); k_whole); intro c9 t9 hc9))
theorem sum_ones (x : PySem.Str) : ((signs x).map (·.length)).sum = x.cps.toList.length := by
  unfold signs
  generalize x.cps.toList = l
  induction l with
  | nil => rfl
  | cons c l ih => rw [List.map_cons, List.map_cons, List.sum_cons, ih, List.length_cons]; show 1 + l.length = _; omega
theorem strs_snoc {c : Nat} {t : Tok} : ∀ {vs : List Value} {xs : List PySem.Str}, StrsAre vs xs → StrsAre (vs ++ [.str ⟨#[c]⟩ t]) (xs ++ [⟨#[c]⟩])
  | _, _, .nil => .cons _ _ .nil
  | _, _, .cons a b r => .cons a b (strs_snoc r)
theorem c_text (w : World) (S cl : Addr) (cells : List Int) (vs : List Value) (k : Nat) (tk0 : Tok) (n ncl : Nat) (tm : Tok) (hk : k ≤ cells.length) (hlen : cells.length ≤ 40) (hi : IntsAre vs cells) (hrng : ∀ x ∈ cells, 0 ≤ x ∧ x < 1000003) : 
   ∀ (mean : ExcName → Option Value) (mg mb : PySem.Str → Option Value) (dp un : Nat) (fr : Option (List Env)) (gd : Option (List PySem.Code)) (s : Shared) (g : Heap) (R : Result → Shared → Prop),
    dp + 6 < recursionLimit → un + 80 < cLine → Gd w mean mg mb g → Kp g s.heap → g.objs.size ≤ s.heap.objs.size → g.get? S = none → S ≠ cl → 
    s.heap.get? S = some (W.listOf [.ref cl, .int (k : Nat) tk0].toArray n) → s.heap.get? cl = some (W.listOf vs.toArray ncl) → 
    (∀ (xt : PySem.Str) (k' : Nat) (t : Tok) (h' : Heap) (tk' : Nat) (tk1 : Tok) (n' : Nat), (∀ c ∈ xt.cps.toList, c ∈ okCodes) → xt.length ≤ 100 → k' ≤ cells.length → h'.get? S = some (W.listOf [.ref cl, .int (k' : Nat) tk1].toArray n') → (∀ b o, b ≠ S → s.heap.get? b = some o → h'.get? b = some o) → R (.ok (.ret (.str xt t))) { s with heap := h', toks := tk' }) →
    codeAny (model PR w) ⟨none, dp, fr, gd, un⟩ (.call (.ref 246) ⟨[.ref S, .int 12 tm], []⟩) R s := by
  walk_at "MINE fill"
  intro mean mg mb dp un fr gd s g R hdp hun G kg hsz hS hne h1 h2 hret
  obtain ⟨g, G, kg, hsz, hS, kback⟩ := ghostBase G kg hS
  have hclg := kback _ _ (Ne.symm hne) h2
  k_dflt (refine' enterC (news := [(S, W.listOf [.ref cl, .int (k : Nat) tk0].toArray n)]) G kg hsz ?N ?ho ?hcd ?hroom ?hbind ?hkind ?hnd ?_ ?c1 ?c2 ?c3; (case N => intro p hp; rw [List.mem_singleton.mp hp]; exact ⟨h1, hS⟩); (case ho => k_is); (case hcd => k_is); (case hroom => omega); (case hbind => first | exact BindsTo.of_eq rfl | exact binds_K (G.K.keeps kg) rfl (by k_is) rfl rfl rfl); (case hkind => exact rfl); (case hnd => decide +kernel); (case c1 => exact rfl); (case c2 => exact rfl); (case c3 => exact rfl))
  intro L1 h3 tk1 cells' F1 N1 Y l1 kp X1 T1
  have lS : @LT.lt Nat _ S L1 := l1 _ (.head _)
  clear h1 h2
  k_cells Y
  (try dsimp only [List.cons_append, List.nil_append] at N1)
  generalize hm : (bindL _ _ _ : PySem.Str → Option Value) = mm at F1
  have F2 := Fr.force [(PySem.Str.ofString "most", Value.int 12 tm)] F1 (by
    intro p hp
    simp only [List.mem_cons, List.not_mem_nil, or_false] at hp
    rcases hp with rfl; rw [← hm]; rfl)
  clear F1 hm
  rename_i o1 o2 d1 d2
  replace d2 : o2.data = .cell (some (.ref S)) := d2
  k_steps
  unfold Stop
  rename_i l9 h8 lt9 h9 o9 F9 N8 d9
  obtain ⟨sgv, hsg, N9⟩ : ∃ sgv : List Value, SgOk sgv ∧ News g L1 h9 [(l9, W.listOf sgv.toArray 0), (L1 + 1 + 1, o9), (L1 + 1, o2), (S, W.listOf [.ref cl, .int (k : Nat) tk0].toArray n)] := by
    refine ⟨_, ?_, N8⟩
    exact sg_ok _ _ _ _ _ _ _ _ _ _
  clear N8
  refine compJ (L := L1) (h₀ := g) (m := kstB mm [(PySem.Str.ofString "most", Value.int 12 tm)]) (fun i ys news => ∃ (k : Nat) (tk0 : Tok) (n : Nat) (cs : List Nat), news = [(l9, W.listOf sgv.toArray 0), (L1 + 1 + 1, o9), (L1 + 1, o2), (S, W.listOf [.ref cl, .int (k : Nat) tk0].toArray n)] ∧ k ≤ cells.length ∧ cs.length = i ∧ (∀ c ∈ cs, c ∈ okCodes) ∧ StrsAre ys (cs.map fun c => (⟨#[c]⟩ : PySem.Str))) rfl (by decide) rfl (by decide) rfl ?_
  k_steps
  rename ∀ (b : Addr) (o : Obj), _ => kk9
  clear kk9
  rename 0 ≤ _ => hx0
  rename _ < (12 + 1 : Int) => hx1
  have e1 := rangeSize_up (n := Int.toNat _) (b := _) rfl hx0
  refine cRange (n := Int.toNat _) rfl (by assumption) (small_one (by omega) (by omega) (by omega) (by omega)) e1 (by omega) (by assumption) (by assumption) ⟨_, _, _, [], rfl, by assumption, rfl, (fun c hc => nomatch hc), StrsAre.nil⟩ ?turn ?done
  case done =>
    rintro ys D h tk news ⟨k8, tk8, n8, cs, rfl, hk8, hcs, hcok, hys⟩ F N off
    k_steps
    have hsl : cs.length ≤ 20 := by omega
    have hj : (⟨cs.toArray⟩ : PySem.Str).cps.toList = cs := rfl
    have hys' : StrsAre ys (signs ⟨cs.toArray⟩) := hys
    refine join_list (ledL N (.head _)) (by simpa using hys') (by rw [sum_ones, show (signs (⟨cs.toArray⟩ : PySem.Str)).length = cs.length by simp [signs], show (PySem.Str.ofString "").length = 0 from rfl]; show cs.length + cs.length * 0 ≤ _; omega) ?_
    intro t' kk
    have hjn : Txt.join (PySem.Str.ofString "") (signs ⟨cs.toArray⟩) = ⟨cs.toArray⟩ := by
      rw [eq_of_beq (join_closes (sep := PySem.Str.ofString "") (sep' := ⟨#[]⟩) rfl), join_nil_signs]
    rw [hjn]
    exact hret _ _ _ _ _ _ _ (by rw [hj]; exact hcok) (by show cs.toArray.size ≤ 100; simp; omega) hk8 (N _ (.tail _ (.tail _ (.tail _ (.tail _ (.head _)))))).1 (fun b o hb e => Fr.keep F _ _ (kback b o hb e))
  case turn =>
    rintro g9 i v ys news I oI C oC D m₂ h tk E' hi ⟨t, rfl⟩ ⟨k8, tk8, n8, cs, rfl, hk8, hcs, hcok, hys⟩ hoC hm F N off ⟨n1, n2, n3⟩
    obtain ⟨q1, q2, q3⟩ : @Ne Nat S I ∧ @Ne Nat S C ∧ @Ne Nat S D := LCg.Off3.mem off (S, _) (.tail _ (.tail _ (.tail _ (.head _))))
    k_steps
    rename_i c9 t9 hc9
    rename News _ _ _ _ => N9
    refine ⟨_, _, _, rfl, by assumption, N9, by exact off, trivial, _, _, _, cs ++ [c9], rfl, by assumption, by simp [hcs], ?_, ?_⟩
    · intro c hc
      rcases List.mem_append.mp hc with hc | hc
      · exact hcok c hc
      · rw [List.mem_singleton.mp hc]; exact hc9
    · rw [List.map_append]
      exact strs_snoc hys
end Mine

/- part CK -/
namespace Mine
set_option maxHeartbeats 4000000
open LCg
section
variable {prog : Program} {w : World} {A : Around} {E : Value → Shared → Prop} {s : Shared} {h₀ : Heap} {L : Addr} {m : PySem.Str → Option Value} {env : Env} {news n₁ n₂ : List (Addr × Obj)} {Q : Value → Shared → Prop}
theorem dat_shaped {d : Dat} (hk : kqdOk 8 d = true) : PySem.SeqAt.shaped (kqdP d) = true := by
  have la := kqd_lay 8 d hk
  unfold PySem.SeqAt.shaped; rw [la.1, Bool.true_and]; exact decide_eq_true (Nat.le_trans la.2 (by decide))
theorem datNe {a b : Value} {d : Dat} (N : News h₀ L s.heap news) (Da : DatIn n₁ a d) (sa : ∀ p ∈ n₁, p ∈ news) (Db : DatIn n₂ b d) (sb : ∀ p ∈ n₂, p ∈ news) (hk : kqdOk 8 d = true) (hu : A.units + 64 < cLine)
    (h : Q (.bool false) s) : wpAny (model prog w) A (compareOp .NotEq a b) Q E s := by
  obtain ⟨as, ra⟩ := kqd_in N 8 (Da.mono sa) hk
  obtain ⟨bs, rb⟩ := kqd_in N 8 (Db.mono sb) hk
  refine ne_dataH ra rb (dat_shaped hk) (dat_shaped hk) hu ?_
  rw [(kqd_eqv 8 d d 8 hk hk).mpr rfl]; exact h
theorem datEq {a b : Value} {d : Dat} (N : News h₀ L s.heap news) (Da : DatIn n₁ a d) (sa : ∀ p ∈ n₁, p ∈ news) (Db : DatIn n₂ b d) (sb : ∀ p ∈ n₂, p ∈ news) (hk : kqdOk 8 d = true) (hu : A.units + 64 < cLine)
    (h : Q (.bool true) s) : wpAny (model prog w) A (compareOp .Eq a b) Q E s := by
  obtain ⟨as, ra⟩ := kqd_in N 8 (Da.mono sa) hk
  obtain ⟨bs, rb⟩ := kqd_in N 8 (Db.mono sb) hk
  refine eq_dataH ra rb (dat_shaped hk) (dat_shaped hk) hu ?_
  rw [(kqd_eqv 8 d d 8 hk hk).mpr rfl]; exact h
theorem ints_snoc {z : Int} {t : Tok} : ∀ {vs : List Value} {xs : List Int}, IntsAre vs xs → IntsAre (vs ++ [.int z t]) (xs ++ [z])
  | _, _, .nil => .cons _ _ .nil
  | _, _, .cons a b r => .cons a b (ints_snoc r)
/-- [f(x) for x in text] -/
theorem compText {elt iter : Expr} {x : PySem.Str} {px : Pos} {scope : Scope} {cl : List (PySem.Str × Addr)} {pos : Pos} {xt : PySem.Str} {tx : Tok} (f : Nat → Int) (hh : A.handled = none) (F : Fr h₀ L s.heap m) (N : News h₀ L s.heap news) (hlen : xt.length ≤ 1000)
    (hclos : closureFor scope env = pure cl) (hcell : ∀ y ∈ scope.names, y.2 ≠ .cell) (hkind : scope.kind = .function)
    (hnames : ∀ y ∈ scope.names, y.2 = .local → scope.names.lookup y.1 = some .local) (hx : scope.names.lookup x = some .local)
    (hiter : ∀ Q : Value → Shared → Prop, Q (.str xt tx) s → wpAny (model prog w) A (eval iter env) Q E s)
    (helt : ∀ C oC m₂ c t (h : Heap) (tk : Nat) (Q' : Value → Shared → Prop) (E' : Value → Shared → Prop), c ∈ xt.cps.toList → NsObj oC m₂ → m₂ x = some (.str ⟨#[c]⟩ t) → Fr h₀ L h m → News h₀ L h ((C, oC) :: news) →
      (∀ tv h' tk', Kp h h' → Q' (.int (f c) tv) { s with heap := h', toks := tk' }) → wpAny (model prog w) A (eval elt (compEnvC scope cl C env)) Q' E' { s with heap := h, toks := tk })
    (done : ∀ ys D h tk, IntsAre ys (xt.cps.toList.map f) → Fr h₀ L h m → News h₀ L h ((D, lst ys) :: news) → Off1 D news → Q (.ref D) { s with heap := h, toks := tk })
    (hs : ∀ x, foldedSetIterable iter env x = pure x := by intro _; rfl) :
    wpAny (model prog w) A (eval (.ListComp elt [⟨.Name x px, iter, [], 0⟩] scope pos) env) Q E s := by
  refine compJ (L := L) (h₀ := h₀) (m := m) (fun i ys nw => nw = news ∧ IntsAre ys ((xt.cps.toList.take i).map f)) hclos hcell hkind hnames hx (hiter _ ?_) hs
  refine cStr hh hlen F N ⟨rfl, .nil⟩ (fun g => ?_) ?_
  · rintro i v ys nw I oI C oC D m₂ h tk E' hi ⟨c, u, hc, rfl⟩ ⟨rfl, hys⟩ hoC hm F' N' off ⟨n1, n2, n3⟩
    have hcl : xt.cps.toList[i]? = some c := by simpa using hc
    refine helt C oC m₂ c u h tk _ _ (List.mem_of_getElem? hcl) hoC hm F' (fun p hp => ?_) fun tv h' tk' k => ?_
    · rcases List.mem_cons.mp hp with rfl | hp
      · exact N' _ (.tail _ (.head _))
      · exact N' _ (.tail _ (.tail _ (.tail _ hp)))
    · refine ⟨h', tk', nw, rfl, Fr.kp F' k, News.kp N' k, off, trivial, rfl, ?_⟩
      have e : xt.cps.toList.take (i + 1) = xt.cps.toList.take i ++ [c] := by rw [List.take_add_one, hcl]; rfl
      rw [e, List.map_append]
      exact ints_snoc hys
  · rintro ys D h tk nw ⟨rfl, hys⟩ F' N' off
    rw [List.take_of_length_le (by simp)] at hys
    exact done ys D h tk hys F' N' off
/-- the state with its code table -/
def GSt (h₀ : Heap) (L : Addr) (m : PySem.Str → Option Value) (os : OsState) (pre post : List (Addr × Obj)) (s : Shared) : Prop :=
  ∃ ps, TriplesOk ps.toList ∧ Fr h₀ L s.heap m ∧ News h₀ L s.heap (pre ++ (203, tabObj ps) :: post) ∧ AllBare s.gens ∧ s.os = os
def TPost (G : Shared → Prop) (b : Bool) (s : Shared) : Prop := b = false ∧ G s
def GEnd (h₀ : Heap) (L : Addr) (os : OsState) (I : Addr) (oI : Obj) (J : (PySem.Str → Option Value) → List (Addr × Obj) → Prop) (s : Shared) : Prop :=
  ∃ m pre, GSt h₀ L m os ((I, oI) :: pre) [] s ∧ (∀ p ∈ pre, p.1 ≠ I) ∧ J m pre
theorem GSt.move {os : OsState} {pre pre' post : List (Addr × Obj)} {s' : Shared} (G : GSt h₀ L m os pre post s) (hg : s'.gens = s.gens) (ho : s'.os = s.os) (kF : Fr h₀ L s.heap m → Fr h₀ L s'.heap m)
    (hpre : ∀ p ∈ pre', s'.heap.get? p.1 = some p.2 ∧ p.1 ≠ L ∧ h₀.get? p.1 = none) (k : ∀ ps, ∀ p ∈ (203, tabObj ps) :: post, s.heap.get? p.1 = some p.2 → s'.heap.get? p.1 = some p.2) : GSt h₀ L m os pre' post s' := by
  obtain ⟨ps, ht, F, N, hb, e⟩ := G
  refine ⟨ps, ht, kF F, fun p hp => ?_, by rw [hg]; exact hb, ho.trans e⟩
  rcases List.mem_append.mp hp with hp | hp
  · exact hpre p hp
  · have n := N p (List.mem_append_right _ hp)
    exact ⟨k ps p hp n.1, n.2⟩
theorem compNone {elt iter test : Expr} {x : PySem.Str} {px : Pos} {scope : Scope} {cl : List (PySem.Str × Addr)} {pos : Pos} {l : Addr} {vs : List Value} {nl : Nat} {os : OsState} {pre post : List (Addr × Obj)} (hh : A.handled = none) (G : GSt h₀ L m os pre post s) (hl : (l, W.listOf vs.toArray nl) ∈ pre)
    (hclos : closureFor scope env = pure cl) (hcell : ∀ y ∈ scope.names, y.2 ≠ .cell) (hkind : scope.kind = .function)
    (hnames : ∀ y ∈ scope.names, y.2 = .local → scope.names.lookup y.1 = some .local) (hx : scope.names.lookup x = some .local)
    (hiter : ∀ Q : Value → Shared → Prop, Q (.ref l) s → wpAny (model prog w) A (eval iter env) Q E s)
    (htest : ∀ v C oC m₂ I oI D (t₂ : Shared) (E' : Value → Shared → Prop), v ∈ vs → NsObj oC m₂ → m₂ x = some v → GSt h₀ L m os ((I, oI) :: (C, oC) :: (D, lst []) :: pre) post t₂ → (@Ne Nat I 203) ∧ (@Ne Nat C 203) ∧ (@Ne Nat D 203) →
      wpAny (model prog w) A (isTrue test (compEnvC scope cl C env) (eval test (compEnvC scope cl C env))) (fun b s₃ => TPost (GSt h₀ L m os ((I, oI) :: (C, oC) :: (D, lst []) :: pre) post) b s₃) E' t₂)
    (done : ∀ D s', GSt h₀ L m os ((D, lst []) :: pre) post s' → Q (.ref D) s')
    (hs : ∀ x, foldedSetIterable iter env x = pure x := by intro _; rfl) :
    wpAny (model prog w) A (eval (.ListComp elt [⟨.Name x px, iter, [test], 0⟩] scope pos) env) Q E s := by
  rw [eval_ListComp]
  refine wpAny_comprehension_free (use := none) rfl hs hclos hkind hnames (hiter _ ?_)
  obtain ⟨ps0, ht0, F0, N0, hb0, he0⟩ := id G
  have hll : s.heap.IsList l vs.toArray := ledL N0 (List.mem_append_left _ hl)
  have hllt : l < s.heap.objs.size := by obtain ⟨_, e, _⟩ := hll; exact Heap.lt_size e
  refine wpAny_pyIter_list hll ?_
  have W := Walks.list (prog := prog) (w := w) (A := A) hh s.heap.objs.size l (Nat.ne_of_lt hllt) vs.toArray
  generalize hI : s.heap.objs.size = I at W
  generalize hH1 : s.heap.push { cls := .type "list_iterator", data := .fields #[.ref l, .int 0 0] } = H1
  have hH1s : H1.objs.size = I + 1 := by rw [← hH1, Heap.size_push, hI]
  have k1 : ∀ b o, s.heap.get? b = some o → H1.get? b = some o := fun b o e => hH1 ▸ Heap.get?_push_of_some _ e
  have eI : H1.get? I = some { cls := .type "list_iterator", data := .fields #[.ref l, .int 0 0] } := by rw [← hH1, ← hI]; exact Heap.get?_push_size _ rfl
  refine wpAny_newObj_type (wpAny_newFunctionEnv hcell (by intro y hy; simp at hy) (fun h₁ hns₁ hsb₁ => ?_) hkind)
  dsimp only at hns₁ hsb₁ ⊢
  generalize hH2 : H1.push { cls := .type "list", dict := none, data := .seq ([] : List Value).toArray } = H2 at hns₁ hsb₁ ⊢
  have hC : H2.objs.size = H1.objs.size + 1 := by rw [← hH2, Heap.size_push]
  have k2 : ∀ b o, H1.get? b = some o → h₁.get? b = some o := fun b o e => hsb₁.extBut b o (Nat.ne_of_lt (by rw [hC]; exact Nat.lt_succ_of_lt (Heap.lt_size e))) (Heap.get?_push_of_some _ (hH2 ▸ Heap.get?_push_of_some _ e))
  have hacc : h₁.get? H1.objs.size = some (lst []) := hsb₁.extBut _ _ (by rw [hC]; exact Nat.ne_of_lt (Nat.lt_succ_self _)) (Heap.get?_push_of_some _ (hH2 ▸ Heap.get?_push_size _ rfl))
  generalize hDe : H1.objs.size = D at hacc hC hH1s
  generalize hCe : H2.objs.size = C at hns₁ hsb₁ hC
  have k3 : ∀ b o, s.heap.get? b = some o → h₁.get? b = some o := fun b o e => k2 b o (k1 b o e)
  have fresh : ∀ a, s.heap.objs.size ≤ a → h₀.get? a = none := fun a ha => by
    cases e : h₀.get? a with
    | none => rfl
    | some o' => exact absurd (Heap.lt_size (F0.keep a o' e)) (Nat.not_lt.mpr ha)
  have hLlt : L < I := hI ▸ F0.ns.lt
  have h203 : (203 : Addr) < I := hI ▸ Heap.lt_size (N0 (203, tabObj ps0) (List.mem_append_right _ (.head _))).1
  have iI : I < D := by rw [hH1s]; exact Nat.lt_succ_self _
  have iD : D < C := by rw [hC]; exact Nat.lt_succ_self _
  have h0I : h₀.get? I = none := fresh _ (Nat.le_of_eq hI)
  have h0D : h₀.get? D = none := fresh _ (by rw [hI]; exact Nat.le_of_lt iI)
  have h0C : h₀.get? C = none := fresh _ (by rw [hI]; exact Nat.le_of_lt (Nat.lt_trans iI iD))
  have old : ∀ (N : ∀ p ∈ pre, p.1 < I) , True := fun _ => trivial
  have preI : ∀ p ∈ pre ++ post, p.1 < I := fun p hp => by
    have : p ∈ pre ++ (203, tabObj ps0) :: post := by
      rcases List.mem_append.mp hp with q | q
      · exact List.mem_append_left _ q
      · exact List.mem_append_right _ (.tail _ q)
    exact hI ▸ Heap.lt_size (N0 p this).1
  have tailI : ∀ ps, ∀ p ∈ (203, tabObj ps) :: post, p.1 < I := fun ps p hp => by
    rcases List.mem_cons.mp hp with rfl | hp
    · exact h203
    · exact preI p (List.mem_append_right _ hp)
  have hst1 : h₁.IsListIter I l 0 ∧ h₁.IsList l vs.toArray := ⟨⟨_, k2 _ _ eI, rfl, rfl⟩, hll.at fun o e => k3 _ _ e⟩
  have G1 : ∀ tk, GSt h₀ L m os ((D, lst []) :: pre) post { s with heap := h₁, toks := tk } := fun tk => G.move rfl rfl (fun F => F.keeps k3) (fun p hp => by
    rcases List.mem_cons.mp hp with rfl | hp
    · exact ⟨hacc, Nat.ne_of_gt (Nat.lt_trans hLlt iI), h0D⟩
    · have n := N0 p (List.mem_append_left _ hp)
      exact ⟨k3 _ _ n.1, n.2⟩) (fun ps p hp e => k3 _ _ e)
  have loop : ∀ s₃ : Shared, s₃ = { s with heap := h₁, toks := s.toks + ([] : List (PySem.Str × Value)).length } →
      codeAny (model prog w) A (.compLoop (.ListComp elt [⟨.Name x px, iter, [test], 0⟩] scope pos) 0 (.ref I) (.ref D) (compEnvC scope cl C env)) (compPost (model prog w) A E none Q (.ref D) C) s₃ := by
    rintro s₃ rfl
    refine codeAny_compLoop_tests (fun k s' => ∃ i m', i ≤ vs.length ∧ k = vs.length + 1 - i ∧ (s'.heap.IsListIter I l i ∧ s'.heap.IsList l vs.toArray) ∧ s'.heap.Ns C m' ∧ GSt h₀ L m os ((D, lst []) :: pre) post s') ?_ (vs.length + 1) ⟨0, _, Nat.zero_le _, rfl, hst1, hns₁, G1 _⟩
    rintro k s' ⟨i, m', hi, rfl, hst', hn', G'⟩
    have hsz : vs.toArray.size = vs.length := by simp
    have neI : ∀ b, b < I → b ∉ [I] := fun b hb q => by rw [List.mem_singleton.mp q] at hb; exact Nat.lt_irrefl _ hb
    obtain ⟨ps1, ht1, F1, N1, hb1, he1⟩ := id G'
    by_cases hlt : i < vs.length
    · refine W.item i _ _ _ (by rw [hsz]; exact hlt) hst' fun v h₂ tk₂ hPv hst₂ hk₂ => ?_
      refine wpAny_assign_Name (wpAny_storeName_local (lookup_relabel_local hx) (hn'.at' fun o e => hk₂ _ o (fun q => by rw [List.mem_singleton.mp q] at iD; exact Nat.lt_irrefl _ (Nat.lt_trans iI iD)) e) (fun h₃ hn₃ hs₃ => ?_) (by simp [compEnvC, relabel, hkind]))
      refine wpAny_tests_one ?_
      obtain ⟨oC, heC, hoC⟩ := ns_obj hn₃
      have ne3 : ∀ b, b < C → b ≠ C := fun b hb => Nat.ne_of_lt hb
      have hst₃ : h₃.IsListIter I l (i + 1) ∧ h₃.IsList l vs.toArray := ⟨by obtain ⟨o, e, r⟩ := hst₂.1; exact ⟨o, hs₃.extBut _ _ (ne3 _ (Nat.lt_trans iI iD)) e, r⟩, hst₂.2.at fun o e => hs₃.extBut _ _ (ne3 _ (Nat.lt_trans (hI ▸ hllt) (Nat.lt_trans iI iD))) e⟩
      obtain ⟨oI, heI, hrI⟩ := hst₃.1
      have kk : ∀ b o, b < I → s'.heap.get? b = some o → h₃.get? b = some o := fun b o hb e => hs₃.extBut _ _ (ne3 _ (Nat.lt_trans hb (Nat.lt_trans iI iD))) (hk₂ _ _ (neI b hb) e)
      have hD3 : h₃.get? D = some (lst []) := hs₃.extBut _ _ (ne3 _ iD) (hk₂ _ _ (fun q => by rw [List.mem_singleton.mp q] at iI; exact Nat.lt_irrefl _ iI) (N1 (D, lst []) (.head _)).1)
      have F3 : Fr h₀ L s'.heap m → Fr h₀ L h₃ m := fun F => ⟨F.ns.at' fun o e => kk _ _ hLlt e, fun b o e => kk b o (Nat.lt_of_lt_of_le (Heap.lt_size e) (Nat.le_trans F0.above (Nat.le_of_lt hLlt))) (F.keep b o e), F.above⟩
      have G3 : ∀ tk, GSt h₀ L m os ((I, oI) :: (C, oC) :: (D, lst []) :: pre) post { s' with heap := h₃, toks := tk } := fun tk => G'.move rfl rfl F3 (fun p hp => by
        rcases List.mem_cons.mp hp with rfl | hp
        · exact ⟨heI, Nat.ne_of_gt hLlt, h0I⟩
        · rcases List.mem_cons.mp hp with rfl | hp
          · exact ⟨heC, Nat.ne_of_gt (Nat.lt_trans hLlt (Nat.lt_trans iI iD)), h0C⟩
          · rcases List.mem_cons.mp hp with rfl | hp
            · exact ⟨hD3, Nat.ne_of_gt (Nat.lt_trans hLlt iI), h0D⟩
            · have n := N1 p (List.mem_append_left _ (.tail _ hp))
              exact ⟨kk _ _ (preI p (List.mem_append_left _ hp)) n.1, n.2⟩) (fun ps p hp e => kk _ _ (tailI ps p hp) e)
      have hv : v ∈ vs := List.mem_of_getElem? (by simpa using hPv)
      refine wpAny_mono (htest v C oC _ I oI D _ _ hv hoC (by simp) (G3 _) ⟨Nat.ne_of_gt h203, Nat.ne_of_gt (Nat.lt_trans h203 (Nat.lt_trans iI iD)), Nat.ne_of_gt (Nat.lt_trans h203 iI)⟩) (fun b s₄ h₄ => ?_) fun _ _ e => e
      obtain ⟨rfl, G4⟩ := h₄
      simp only [Bool.false_eq_true, if_false]
      obtain ⟨ps4, ht4, F4, N4, hb4, he4⟩ := id G4
      refine ⟨vs.length + 1 - (i + 1), by omega, i + 1, _, hlt, rfl, ⟨⟨oI, (N4 (I, oI) (.head _)).1, hrI⟩, ledL N4 (.tail _ (.tail _ (.tail _ (List.mem_append_left _ hl))))⟩, hoC.ns (N4 (C, oC) (.tail _ (.head _))).1, ps4, ht4, F4, fun p hp => N4 p ?_, hb4, he4⟩
      exact .tail _ (.tail _ hp)
    · obtain rfl : i = vs.length := Nat.le_antisymm hi (Nat.not_lt.mp hlt)
      refine W.done _ _ _ (by rw [hsz]; exact hst') fun h₂ tk₂ hk₂ => ?_
      refine ⟨m', hn'.at' fun o e => hk₂ _ o (fun q => by rw [List.mem_singleton.mp q] at iD; exact Nat.lt_irrefl _ (Nat.lt_trans iI iD)) e, fun h'' hs'' => done D _ ?_⟩
      have kk : ∀ b o, b < I → s'.heap.get? b = some o → h''.get? b = some o := fun b o hb e => hs''.extBut _ _ (Nat.ne_of_lt (Nat.lt_trans hb (Nat.lt_trans iI iD))) (hk₂ _ _ (neI b hb) e)
      refine G'.move rfl rfl (fun F => ⟨F.ns.at' fun o e => kk _ _ hLlt e, fun b o e => kk b o (Nat.lt_of_lt_of_le (Heap.lt_size e) (Nat.le_trans F0.above (Nat.le_of_lt hLlt))) (F.keep b o e), F.above⟩) (fun p hp => ?_) (fun ps p hp e => kk _ _ (tailI ps p hp) e)
      have n := N1 p (List.mem_append_left _ hp)
      refine ⟨?_, n.2⟩
      rcases List.mem_cons.mp hp with rfl | hp
      · exact hs''.extBut _ _ (Nat.ne_of_lt iD) (hk₂ _ _ (fun q => Nat.lt_irrefl I (by have q' : D = I := List.mem_singleton.mp q; rw [q'] at iI; exact iI)) n.1)
      · exact kk _ _ (preI p (List.mem_append_left _ hp)) n.1
  exact codeAny_compStart_list (loop _ rfl) (W.self 0 _ _ _ hst1 (loop _ rfl))
theorem forG {x : PySem.Str} {px : Pos} {body orelse : List Stmt} {Q : Flow → Shared → Prop} {os : OsState} {pre₀ : List (Addr × Obj)} {m₀ : PySem.Str → Option Value} {r : Addr} {n : Nat} {t u v : Tok} (J : Nat → (PySem.Str → Option Value) → List (Addr × Obj) → Prop) (hh : A.handled = none) (G : GSt h₀ L m₀ os pre₀ [] s)
    (hr : IsRange s.heap r 0 (n : Int) 1 t u v) (hn : n ≤ 1000) (hj : J 0 m₀ pre₀)
    (turn : ∀ i t m pre I oI (s' : Shared), i < n → J i m pre → (∀ p ∈ pre, p.1 ≠ I) → @Ne Nat I 203 → GSt h₀ L m os ((I, oI) :: pre) [] s' →
      wpAny (model prog w) A (assign (.Name x px) env (.int (i : Nat) t)) (fun _ s₂ => wpAny (model prog w) A (execs body env) (fun f s₃ => match f with
        | .next | .cont => GEnd h₀ L os I oI (J (i + 1)) s₃
        | .brk => Q .next s₃
        | .ret v => Q (.ret v) s₃) (fun _ _ => False) s₂) (fun _ _ => False) s')
    (done : ∀ m pre s', J n m pre → GSt h₀ L m os pre [] s' → wpAny (model prog w) A (execs orelse env) (fun f s₃ => Q f s₃) (fun _ _ => False) s') :
    wpAny (model prog w) A (pyIter (.ref r)) (fun it s₂ => codeAny (model prog w) A (.forLoop (.Name x px) it body orelse env) (fun r s' => match r with | .ok f => Q f s' | .error e => cameBackBy (model prog w) A env E e s') s₂) E s := by
  obtain ⟨ps0, ht0, F0, N0, hb0, he0⟩ := id G
  have hrs : Builtin.Range.rangeSize 0 (n : Int) 1 = ((n : Nat) : Int) := by
    unfold Builtin.Range.rangeSize
    rw [if_pos (by omega)]
    split
    · rw [Int.ediv_one]; omega
    · omega
  refine wpAny_pyIter_range hr (small_one (by omega) (by omega) (by omega) (by omega)) ?_
  have W := Walks.range (prog := prog) (w := w) (A := A) hh s.heap.objs.size 0 1 n
  generalize hI : s.heap.objs.size = I at W
  have eI : (s.heap.push { cls := .type "range_iterator", data := .fields #[rawInt 0, rawInt (Builtin.Range.rangeSize 0 (n : Int) 1), rawInt 1] }).get? I = some { cls := .type "range_iterator", data := .fields #[rawInt 0, rawInt (Builtin.Range.rangeSize 0 (n : Int) 1), rawInt 1] } := by rw [← hI]; exact Heap.get?_push_size _ rfl
  have k1 : ∀ b o, s.heap.get? b = some o → (s.heap.push { cls := .type "range_iterator", data := .fields #[rawInt 0, rawInt (Builtin.Range.rangeSize 0 (n : Int) 1), rawInt 1] }).get? b = some o := fun b o e => Heap.get?_push_of_some _ e
  have hLlt : L < I := hI ▸ F0.ns.lt
  have h203 : (203 : Addr) < I := hI ▸ Heap.lt_size (N0 (203, tabObj ps0) (List.mem_append_right _ (.head _))).1
  have h0I : h₀.get? I = none := by
    cases e : h₀.get? I with
    | none => rfl
    | some o' => exact absurd (Heap.lt_size (F0.keep I o' e)) (by rw [hI]; exact Nat.lt_irrefl _)
  refine codeAny_forLoop_any (fun k s' => ∃ i m pre, i ≤ n ∧ k = n + 1 - i ∧ IsRangeIter s'.heap I (0 + (i : Nat) * 1) ((n : Int) - (i : Nat)) 1 ∧ GSt h₀ L m os pre [] s' ∧ (∀ p ∈ pre, p.1 ≠ I) ∧ J i m pre) ?_ (n + 1)
    ⟨0, m₀, pre₀, Nat.zero_le _, rfl, by have q : IsRangeIter _ I 0 _ 1 := eI; rw [hrs] at q; rw [show (0 : Int) + ((0 : Nat) : Int) * 1 = 0 by omega, show (n : Int) - ((0 : Nat) : Int) = n by omega, hrs]; exact q, G.move rfl rfl (fun F => F.keeps k1) (fun p hp => ⟨k1 _ _ (N0 p (List.mem_append_left _ hp)).1, (N0 p (List.mem_append_left _ hp)).2⟩) (fun ps p hp e => k1 _ _ e), fun p hp => Nat.ne_of_lt (hI ▸ Heap.lt_size (N0 p (List.mem_append_left _ hp)).1), hj⟩
  rintro k s' ⟨i, m', pre, hi, rfl, hst', G', hp', hJ⟩
  obtain ⟨ps1, ht1, F1, N1, hb1, he1⟩ := id G'
  have kg : ∀ (h₂ : Heap) tk₂, (∀ b o, b ∉ [I] → s'.heap.get? b = some o → h₂.get? b = some o) → GSt h₀ L m' os pre [] { s' with heap := h₂, toks := tk₂ } := fun h₂ tk₂ hk => by
    have hk' : ∀ b o, b ≠ I → s'.heap.get? b = some o → h₂.get? b = some o := fun b o hb e => hk b o (fun q => hb (List.mem_singleton.mp q)) e
    refine G'.move rfl rfl (fun F => ⟨F.ns.at' fun o e => hk' _ _ (Nat.ne_of_lt hLlt) e, fun b o e => hk' b o (fun q => by rw [q, h0I] at e; cases e) (F.keep b o e), F.above⟩) (fun p hp => ⟨hk' _ _ (hp' p hp) (N1 p (List.mem_append_left _ hp)).1, (N1 p (List.mem_append_left _ hp)).2⟩) (fun ps p hp e => hk' _ _ (by rw [List.mem_singleton.mp hp]; exact Nat.ne_of_lt h203) e)
  by_cases hlt : i < n
  · refine W.item i _ _ _ hlt hst' fun v₉ h₂ tk₂ hP hst₂ hk₂ => ?_
    obtain ⟨t9, rfl⟩ := hP
    have G2 := kg h₂ tk₂ hk₂
    obtain ⟨oI9, hoI9, G3⟩ : ∃ oI9 : Obj, oI9 = ({ cls := .type "range_iterator", dict := none, data := .fields #[rawInt (0 + ((i + 1 : Nat) : Int) * 1), rawInt ((n : Int) - ((i + 1 : Nat) : Int)), rawInt 1], slots := #[] } : Obj) ∧ GSt h₀ L m' os ((I, oI9) :: pre) [] { s' with heap := h₂, toks := tk₂ } := ⟨_, rfl, G2.move rfl rfl id (fun p hp => by
      rcases List.mem_cons.mp hp with rfl | hp
      · exact ⟨hst₂, Nat.ne_of_gt hLlt, h0I⟩
      · obtain ⟨ps2, _, _, N2, _⟩ := G2
        exact N2 p (List.mem_append_left _ hp)) (fun _ _ _ e => e)⟩
    refine ltName ?_
    rw [show (0 : Int) + (i : Int) * 1 = (i : Nat) by omega]
    refine wpAny_mono (turn i t9 m' pre I _ _ hlt hJ hp' (Nat.ne_of_gt h203) G3) (fun _ s₂ h₂ => wpAny_mono h₂ (fun f s₃ h₃ => ?_) fun _ _ x => x.elim) fun _ _ x => x.elim
    have fin : (∃ m pre, GSt h₀ L m os ((I, oI9) :: pre) [] s₃ ∧ (∀ p ∈ pre, p.1 ≠ I) ∧ J (i + 1) m pre) → ∃ m, m < n + 1 - i ∧ ∃ i m' pre, i ≤ n ∧ m = n + 1 - i ∧ IsRangeIter s₃.heap I (0 + (i : Nat) * 1) ((n : Int) - (i : Nat)) 1 ∧ GSt h₀ L m' os pre [] s₃ ∧ (∀ p ∈ pre, p.1 ≠ I) ∧ J i m' pre := by
      rintro ⟨m4, pre4, ⟨ps4, ht4, F4, N4, hb4, he4⟩, hp4, hJ4⟩
      exact ⟨n + 1 - (i + 1), by omega, i + 1, m4, pre4, hlt, rfl, (by have q := (N4 _ (.head _)).1; rw [hoI9] at q; exact q), ⟨ps4, ht4, F4, fun p hp => N4 p (.tail _ hp), hb4, he4⟩, hp4, hJ4⟩
    cases f with
    | next => exact fin h₃
    | cont => exact fin h₃
    | brk => exact h₃
    | ret v => exact h₃
  · obtain rfl : i = n := by omega
    refine W.done _ _ _ hst' fun h₂ tk₂ hk₂ => ?_
    exact wpAny_mono (done m' pre _ hJ (kg h₂ tk₂ hk₂)) (fun _ _ x => x) fun _ _ x => x.elim
end
end Mine

/- part PU -/
namespace Mine
set_option maxHeartbeats 4000000
structure LwSt where
  spans : List Sp
  place : Int
  total : Int
def lwStep (st : LwSt) (p : Pc) : LwSt := ⟨st.spans ++ [(st.place, st.place + p.1.length, p.2)], st.place + p.1.length, st.total + p.2⟩
def lwFold (ps : List Pc) : LwSt := ps.foldl lwStep ⟨[], 0, 0⟩
theorem lw_more {ps : List Pc} {i : Nat} {p : Pc} (h : ps[i]? = some p) : lwFold (ps.take (i + 1)) = lwStep (lwFold (ps.take i)) p := by
  have e : ps.take (i + 1) = ps.take i ++ [p] := by rw [List.take_add_one, h]; rfl
  rw [e, lwFold, List.foldl_append]; rfl
theorem lw_len (ps : List Pc) : (lwFold ps).spans.length = ps.length := by
  suffices ∀ st : LwSt, (ps.foldl lwStep st).spans.length = st.spans.length + ps.length by
    have := this ⟨[], 0, 0⟩; simpa [lwFold] using this
  induction ps with
  | nil => intro st; simp
  | cons p ps ih => intro st; rw [List.foldl_cons, ih]; simp [lwStep]; omega
theorem piece_len (l : List Nat) : ∀ p ∈ pcFold l, p.1.length ≤ l.length := by
  have := pcFold_txt l l.length
  rwa [List.take_length] at this
end Mine

/- part PU1 -/
namespace Mine
set_option maxHeartbeats 4000000
theorem lw_snoc (ps : List Pc) (p : Pc) : lwFold (ps ++ [p]) = lwStep (lwFold ps) p := by
  unfold lwFold; rw [List.foldl_append]; rfl
theorem pc_snoc (l : List Nat) (c : Nat) : pcFold (l ++ [c]) = pcStep (pcFold l) c := by
  unfold pcFold; rw [List.foldl_append]; rfl
theorem sz_vals (c : Nat) : True := trivial
theorem eq_nil_or_snoc {α : Type} (l : List α) : l = [] ∨ ∃ l' a, l = l' ++ [a] := by
  rcases List.eq_nil_or_concat l with h | ⟨l', a, h⟩
  · exact .inl h
  · exact .inr ⟨l', a, by rw [h, List.concat_eq_append]⟩
/-- induction from the right -/
theorem snoc_ind {α : Type} {P : List α → Prop} (h0 : P []) (h1 : ∀ l a, P l → P (l ++ [a])) : ∀ l, P l := by
  intro l
  have : ∀ n, ∀ l : List α, l.length = n → P l := by
    intro n
    induction n with
    | zero => intro l hl; rw [List.length_eq_zero_iff.mp hl]; exact h0
    | succ n ih =>
      intro l hl
      rcases eq_nil_or_snoc l with rfl | ⟨l', a, rfl⟩
      · simp at hl
      · exact h1 _ _ (ih _ (by simpa using hl))
  exact this _ l rfl
theorem lw_all (l : List Nat) : (lwFold (pcFold l)).spans = spFold l ∧ (lwFold (pcFold l)).total = (l.map sz).sum ∧ (lwFold (pcFold l)).place = l.length := by
  refine snoc_ind (P := fun l => (lwFold (pcFold l)).spans = spFold l ∧ (lwFold (pcFold l)).total = (l.map sz).sum ∧ (lwFold (pcFold l)).place = l.length) ⟨rfl, rfl, rfl⟩ (fun l c ih => ?_) l
  obtain ⟨i1, i2, i3⟩ := ih
  rw [pc_snoc, spFold_snoc]
  have hlen : (⟨#[c]⟩ : PySem.Str).length = 1 := rfl
  rcases eq_nil_or_snoc (pcFold l) with e | ⟨st, ⟨x, z⟩, e⟩
  · rw [e] at i1 i2 i3 ⊢
    have hsp : spFold l = [] := i1.symm
    have hl0 : (l.length : Int) = 0 := i3.symm
    rw [pcStep_nil, hsp]
    have ll : l = [] := List.length_eq_zero_iff.mp (by omega)
    subst ll
    by_cases hz : sz c = 0
    · refine ⟨?_, ?_, ?_⟩
      · show [((0 : Int), (0 : Int) + ((⟨#[c]⟩ : PySem.Str).length : Int), sz c)] = spStep [] 0 (sz c)
        rw [hz, hlen]; rfl
      · show (0 : Int) + sz c = ([c].map sz).sum
        simp
      · show (0 : Int) + ((⟨#[c]⟩ : PySem.Str).length : Int) = 1
        rw [hlen]; rfl
    · refine ⟨?_, ?_, ?_⟩
      · show [((0 : Int), (0 : Int) + ((⟨#[c]⟩ : PySem.Str).length : Int), sz c)] = spStep [] 0 (sz c)
        rw [spStep_yes hz, hlen]; rfl
      · show (0 : Int) + sz c = ([c].map sz).sum
        simp
      · show (0 : Int) + ((⟨#[c]⟩ : PySem.Str).length : Int) = 1
        rw [hlen]; rfl
  · by_cases hz : sz c = 0
    · rw [e, lw_snoc] at i1 i2 i3
      rw [e, pcStep_add hz, lw_snoc, ← i1]
      have hxl : (x ++ ⟨#[c]⟩ : PySem.Str).length = x.length + 1 := str_app_len _ _
      refine ⟨?_, ?_, ?_⟩
      · show (lwFold st).spans ++ [((lwFold st).place, (lwFold st).place + ((x ++ ⟨#[c]⟩ : PySem.Str).length : Int), z)] = spStep ((lwFold st).spans ++ [((lwFold st).place, (lwFold st).place + (x.length : Int), z)]) l.length (sz c)
        have i3' : (lwFold st).place + (x.length : Int) = l.length := i3
        rw [hz, spStep_no, hxl, ← i3']
        have e9 : (lwFold st).place + ((x.length + 1 : Nat) : Int) = (lwFold st).place + (x.length : Int) + 1 := by omega
        rw [e9]
      · show (lwFold st).total + z = ((l ++ [c]).map sz).sum
        have i2' : (lwFold st).total + z = (l.map sz).sum := i2
        rw [i2', List.map_append, List.sum_append]; simp [hz]
      · show (lwFold st).place + ((x ++ ⟨#[c]⟩ : PySem.Str).length : Int) = (l ++ [c]).length
        have i3' : (lwFold st).place + (x.length : Int) = l.length := i3
        rw [hxl, List.length_append, List.length_singleton]
        push_cast
        omega
    · rw [pcStep_new hz, lw_snoc]
      refine ⟨?_, ?_, ?_⟩
      · show (lwFold (pcFold l)).spans ++ [((lwFold (pcFold l)).place, (lwFold (pcFold l)).place + ((⟨#[c]⟩ : PySem.Str).length : Int), sz c)] = _
        rw [spStep_yes hz, i1, i3, hlen]; rfl
      · show (lwFold (pcFold l)).total + sz c = _
        rw [i2, List.map_append, List.sum_append]; simp
      · show (lwFold (pcFold l)).place + ((⟨#[c]⟩ : PySem.Str).length : Int) = _
        rw [i3, hlen, List.length_append, List.length_singleton]; rfl
end Mine

/- part PU2 -/
namespace Mine
set_option maxHeartbeats 1000000
theorem sz_rng {c : Nat} (h : c ∈ okCodes) : 0 ≤ sz c ∧ sz c ≤ 2 := by
  simp only [okCodes, List.mem_cons, List.not_mem_nil, or_false] at h
  rcases h with rfl | rfl | rfl | rfl | rfl | rfl | rfl | rfl | rfl | rfl | rfl | rfl <;> decide
def flat (ps : List Pc) : List Nat := (ps.map fun p => p.1.cps.toList).flatten
theorem flat_snoc (ps : List Pc) (p : Pc) : flat (ps ++ [p]) = flat ps ++ p.1.cps.toList := by
  unfold flat; simp
theorem app_list (x y : PySem.Str) : (x ++ y).cps.toList = x.cps.toList ++ y.cps.toList := by
  show (x.cps ++ y.cps).toList = _
  simp
theorem pc_flat (l : List Nat) : flat (pcFold l) = l := by
  refine snoc_ind (P := fun l => flat (pcFold l) = l) rfl (fun l c ih => ?_) l
  rw [pc_snoc]
  rcases eq_nil_or_snoc (pcFold l) with e | ⟨st, ⟨x, z⟩, e⟩
  · rw [e, pcStep_nil, flat_snoc, ← e, ih]
  · by_cases hz : sz c = 0
    · rw [e, pcStep_add hz, flat_snoc]
      rw [e, flat_snoc] at ih
      dsimp only at ih ⊢
      rw [app_list, ← List.append_assoc, ih]
    · rw [pcStep_new hz, flat_snoc, ih]
def PcOk (p : Pc) : Prop := p.2 = (p.1.cps.toList.map sz).sum ∧ 0 ≤ p.2 ∧ p.2 ≤ 2
theorem pc_ok (l : List Nat) (hok : ∀ c ∈ l, c ∈ okCodes) : ∀ p ∈ pcFold l, PcOk p := by
  have one : ∀ c ∈ okCodes, PcOk (⟨#[c]⟩, sz c) := fun c hc => ⟨by simp, (sz_rng hc).1, (sz_rng hc).2⟩
  refine snoc_ind (P := fun l => (∀ c ∈ l, c ∈ okCodes) → ∀ p ∈ pcFold l, PcOk p) (fun _ p hp => by simp [pcFold] at hp) (fun l c ih => ?_) l hok
  intro hok p hp
  have ih' := ih fun c hc => hok c (List.mem_append_left _ hc)
  have hc : c ∈ okCodes := hok c (by simp)
  rw [pc_snoc] at hp
  rcases eq_nil_or_snoc (pcFold l) with e | ⟨st, ⟨x, z⟩, e⟩
  · rw [e, pcStep_nil, List.nil_append] at hp
    rw [List.mem_singleton.mp hp]; exact one c hc
  · by_cases hz : sz c = 0
    · rw [e, pcStep_add hz] at hp
      rcases List.mem_append.mp hp with hp | hp
      · exact ih' p (by rw [e]; exact List.mem_append_left _ hp)
      · rw [List.mem_singleton.mp hp]
        obtain ⟨h1, h2, h3⟩ := ih' (x, z) (by rw [e]; simp)
        refine ⟨?_, h2, h3⟩
        dsimp only at h1 ⊢
        rw [app_list, List.map_append, List.sum_append, ← h1]; simp [hz]
    · rw [pcStep_new hz] at hp
      rcases List.mem_append.mp hp with hp | hp
      · exact ih' p hp
      · rw [List.mem_singleton.mp hp]; exact one c hc
theorem ln_snoc (w : Int) (ps : List Pc) (p : Pc) : lnFold w (ps ++ [p]) = lnStep w (lnFold w ps) p := by
  unfold lnFold; rw [List.foldl_append]; rfl
theorem ch_snoc (xt : PySem.Str) (w : Int) (ps : List Sp) (p : Sp) : chFold xt w (ps ++ [p]) = chStep xt w (chFold xt w ps) p := by
  unfold chFold; rw [List.foldl_append]; rfl
theorem str_ext {x y : PySem.Str} (h : x.cps.toList = y.cps.toList) : x = y := by
  cases x; cases y
  congr 1
  exact Array.toList_inj.mp h
theorem empty_app (x : PySem.Str) : (PySem.Str.ofString "" ++ x).cps.toList = x.cps.toList := by
  rw [app_list]; rfl
/-- the lines' measures -/
def LineOk (w : Int) (l : List Nat) (x : PySem.Str) : Prop := (∀ c ∈ x.cps.toList, c ∈ l) ∧ x.cps.toList.length ≤ l.length ∧ (x.cps.toList.map sz).sum ≤ w
theorem ln_inv (w : Int) (hw : 2 ≤ w) : ∀ ps : List Pc, (∀ p ∈ ps, PcOk p) → (∀ x ∈ (lnFold w ps).lines, LineOk w (flat ps) x) ∧ LineOk w (flat ps) (lnFold w ps).line ∧ (lnFold w ps).size = ((lnFold w ps).line.cps.toList.map sz).sum ∧ (lnFold w ps).lines.length ≤ ps.length := by
  refine snoc_ind ?_ ?_
  · intro _
    refine ⟨fun x hx => by simp [lnFold] at hx, ⟨fun c hc => ?_, ?_, ?_⟩, rfl, Nat.le_refl _⟩
    · exact absurd hc List.not_mem_nil
    · exact Nat.le_refl _
    · show (0 : Int) ≤ w; omega
  · intro ps p ih hok
    obtain ⟨i1, i2, i3, i4⟩ := ih fun q hq => hok q (List.mem_append_left _ hq)
    obtain ⟨p1, p2, p3⟩ := hok p (by simp)
    have grow : ∀ x, LineOk w (flat ps) x → LineOk w (flat (ps ++ [p])) x := fun x ⟨h1, h2, h3⟩ => by
      rw [flat_snoc]
      refine ⟨fun c hc => List.mem_append_left _ (h1 c hc), ?_, h3⟩
      rw [List.length_append]; omega
    rw [ln_snoc]
    unfold lnStep
    by_cases hgt : (lnFold w ps).size + p.2 > w
    · rw [if_pos hgt]
      refine ⟨fun x hx => ?_, ?_, ?_, ?_⟩
      · rcases List.mem_append.mp hx with hx | hx
        · exact grow x (i1 x hx)
        · rw [List.mem_singleton.mp hx]; exact grow _ i2
      · refine ⟨fun c hc => ?_, ?_, ?_⟩
        · rw [empty_app] at hc; rw [flat_snoc]; exact List.mem_append_right _ hc
        · rw [empty_app, flat_snoc, List.length_append]; omega
        · rw [empty_app, ← p1]; omega
      · show 0 + p.2 = _
        rw [empty_app, ← p1]; omega
      · rw [List.length_append, List.length_append, List.length_singleton, List.length_singleton]; omega
    · rw [if_neg hgt]
      refine ⟨fun x hx => grow x (i1 x hx), ?_, ?_, ?_⟩
      · obtain ⟨h1, h2, h3⟩ := i2
        refine ⟨fun c hc => ?_, ?_, ?_⟩
        · rw [app_list] at hc; rw [flat_snoc]
          rcases List.mem_append.mp hc with hc | hc
          · exact List.mem_append_left _ (h1 c hc)
          · exact List.mem_append_right _ hc
        · rw [app_list, flat_snoc, List.length_append, List.length_append]; omega
        · rw [app_list, List.map_append, List.sum_append, ← i3, ← p1]; omega
      · show (lnFold w ps).size + p.2 = _
        rw [app_list, List.map_append, List.sum_append, ← i3, ← p1]
      · rw [List.length_append, List.length_singleton]
        show (lnFold w ps).lines.length ≤ _
        omega
end Mine

/- part PU3 -/
namespace Mine
set_option maxHeartbeats 1000000
theorem slice_nat {xt : PySem.Str} {a b : Nat} (h1 : a ≤ b) (h2 : b ≤ xt.cps.toList.length) : (Txt.slice xt (some (a : Int)) (some (b : Int))).cps.toList = (xt.cps.toList.drop a).take (b - a) := by
  have e := StrLaws.sliceText_plain (x := xt) (i := (a : Int)) (j := (b : Int)) ⟨by omega, by omega, by omega⟩
  show (StrLaws.sliceText xt (some (a : Int)) (some (b : Int))).cps.toList = _
  rw [e]
  show (xt.cps.toList.drop (a : Int).toNat).take ((b : Int) - a).toNat = _
  rw [show (a : Int).toNat = a by omega, show ((b : Int) - a).toNat = b - a by omega]
theorem slice_nat_from {xt : PySem.Str} {a : Nat} (h1 : a ≤ xt.cps.toList.length) : (Txt.slice xt (some (a : Int)) none).cps.toList = xt.cps.toList.drop a := by
  have e := StrLaws.sliceText_from (x := xt) (i := (a : Int)) ⟨by omega, by omega⟩
  show (StrLaws.sliceText xt (some (a : Int)) none).cps.toList = _
  rw [e]
  show (xt.cps.toList.drop (a : Int).toNat).take ((xt.cps.toList.length : Int) - a).toNat = _
  rw [show (a : Int).toNat = a by omega, show ((xt.cps.toList.length : Int) - a).toNat = xt.cps.toList.length - a by omega]
  exact List.take_of_length_le (by simp)
/-- the two folds step together -/
theorem ch_inv (xt : PySem.Str) (w : Int) : ∀ (ps : List Pc), (∃ r, xt.cps.toList = flat ps ++ r) → (lwFold ps).place = (flat ps).length ∧ (chFold xt w (lwFold ps).spans).lines = (lnFold w ps).lines ∧ (chFold xt w (lwFold ps).spans).size = (lnFold w ps).size ∧
    ∃ a : Nat, (chFold xt w (lwFold ps).spans).off = (a : Int) ∧ a ≤ (flat ps).length ∧ (lnFold w ps).line.cps.toList = (flat ps).drop a := by
  refine snoc_ind ?_ ?_
  · intro _
    exact ⟨rfl, rfl, rfl, 0, rfl, Nat.le_refl _, rfl⟩
  · rintro ps ⟨px, pz⟩ ih ⟨r, hr⟩
    have hr' : xt.cps.toList = flat ps ++ (px.cps.toList ++ r) := by rw [hr, flat_snoc, List.append_assoc]
    obtain ⟨i0, i1, i2, a, i3, i4, i5⟩ := ih ⟨_, hr'⟩
    have hpl : px.length = px.cps.toList.length := by simp [PySem.Str.length]
    have hs : (lwFold (ps ++ [(px, pz)])).spans = (lwFold ps).spans ++ [((lwFold ps).place, (lwFold ps).place + px.length, pz)] := by rw [lw_snoc]; rfl
    have hp : (lwFold (ps ++ [(px, pz)])).place = (lwFold ps).place + px.length := by rw [lw_snoc]; rfl
    rw [hs, hp, ch_snoc, ln_snoc, flat_snoc]
    have hn : (flat ps).length ≤ xt.cps.toList.length := by rw [hr', List.length_append]; omega
    have hline : Txt.slice xt (some (a : Int)) (some ((flat ps).length : Int)) = (lnFold w ps).line := by
      refine str_ext ?_
      rw [slice_nat i4 hn, i5, hr', List.drop_append_of_le_length i4]
      rw [List.take_append_of_le_length (by rw [List.length_drop]; omega)]
      exact List.take_of_length_le (by rw [List.length_drop]; omega)
    dsimp only
    refine ⟨by rw [i0, hpl, List.length_append]; omega, ?_⟩
    unfold chStep lnStep
    dsimp only
    rw [i1, i2, i3]
    by_cases hgt : (lnFold w ps).size + pz > w
    · rw [if_pos hgt, if_pos hgt]
      dsimp only
      rw [i0]
      refine ⟨by rw [hline], rfl, (flat ps).length, rfl, by rw [List.length_append]; omega, ?_⟩
      rw [empty_app, List.drop_left]
    · rw [if_neg hgt, if_neg hgt]
      dsimp only
      refine ⟨rfl, rfl, a, rfl, by rw [List.length_append]; omega, ?_⟩
      rw [app_list, i5, List.drop_append_of_le_length i4]
theorem sum_nonneg {l : List Nat} (h : ∀ c ∈ l, c ∈ okCodes) : 0 ≤ (l.map sz).sum := by
  induction l with
  | nil => exact Int.le_refl _
  | cons c l ih =>
    rw [List.map_cons, List.sum_cons]
    have := (sz_rng (h c (.head _))).1
    have := ih fun c hc => h c (.tail _ hc)
    omega
theorem chop_wide (xt : PySem.Str) (w : Int) (hw : 2 ≤ w) (hok : ∀ c ∈ xt.cps.toList, c ∈ okCodes) : chEnd xt (chFold xt w (spFold xt.cps.toList)) = lnEnd (lnFold w (pcFold xt.cps.toList)) := by
  have hf := pc_flat xt.cps.toList
  obtain ⟨i0, i1, i2, a, i3, i4, i5⟩ := ch_inv xt w (pcFold xt.cps.toList) ⟨[], by rw [hf]; simp⟩
  obtain ⟨_, ⟨l1, _, _⟩, l3, _⟩ := ln_inv w hw (pcFold xt.cps.toList) (pc_ok _ hok)
  rw [(lw_all _).1] at i1 i2 i3
  rw [hf] at i4 i5 l1
  have h0 : 0 ≤ (lnFold w (pcFold xt.cps.toList)).size := by rw [l3]; exact sum_nonneg fun c hc => hok c (l1 c hc)
  unfold chEnd lnEnd
  rw [i1, i2, i3]
  by_cases hz : (lnFold w (pcFold xt.cps.toList)).size = 0
  · rw [if_neg (fun q => q hz), if_neg (by omega)]
  · rw [if_pos hz, if_pos (by omega)]
    congr 2
    refine str_ext ?_
    rw [slice_nat_from i4, i5]
end Mine

/- part PU4 -/
namespace Mine
set_option maxHeartbeats 1000000
theorem pc_single (l : List Nat) (h : ∀ c ∈ l, sz c = 1) : pcFold l = l.map fun c => (⟨#[c]⟩, 1) := by
  refine snoc_ind (P := fun l => (∀ c ∈ l, sz c = 1) → pcFold l = l.map fun c => (⟨#[c]⟩, 1)) (fun _ => rfl) (fun l c ih => ?_) l h
  intro h
  have hc : sz c = 1 := h c (by simp)
  rw [pc_snoc, ih fun c hc => h c (List.mem_append_left _ hc), pcStep_new (by rw [hc]; decide), List.map_append, hc]; rfl
/-- the cut between two places -/
def seg (l : List Nat) (a b : Nat) : PySem.Str := ⟨((l.drop a).take (b - a)).toArray⟩
theorem seg_list (l : List Nat) (a b : Nat) : (seg l a b).cps.toList = (l.drop a).take (b - a) := rfl
theorem unit_inv (W : Nat) (hW : 2 ≤ W) (l : List Nat) : ∀ n, n ≤ l.length → ∃ q r, n = q * W + r ∧ r ≤ W ∧ (n ≠ 0 → 1 ≤ r) ∧ (n = 0 → q = 0) ∧
    (lnFold W ((l.take n).map fun c => (⟨#[c]⟩, 1))).lines = (List.range q).map (fun j => seg l (j * W) (j * W + W)) ∧ (lnFold W ((l.take n).map fun c => (⟨#[c]⟩, 1))).line.cps.toList = (l.drop (q * W)).take r ∧ (lnFold W ((l.take n).map fun c => (⟨#[c]⟩, 1))).size = r := by
  intro n
  induction n with
  | zero =>
    intro _
    refine ⟨0, 0, by omega, by omega, fun h => absurd rfl h, fun _ => rfl, rfl, ?_, rfl⟩
    show ([] : List Nat) = _
    simp
  | succ n ih =>
    intro hn
    obtain ⟨q, r, e, hr, hr1, hq0, h1, h2, h3⟩ := ih (by omega)
    have hlt : n < l.length := by omega
    have hget : l[n]? = some l[n] := List.getElem?_eq_getElem hlt
    have ht : l.take (n + 1) = l.take n ++ [l[n]] := by rw [List.take_add_one, hget]; rfl
    rw [ht, List.map_append, List.map_cons, List.map_nil, ln_snoc]
    unfold lnStep
    dsimp only
    rw [h3]
    by_cases hgt : (r : Int) + 1 > W
    · rw [if_pos hgt]
      have hrW : r = W := by omega
      refine ⟨q + 1, 1, by rw [Nat.add_mul]; omega, by omega, fun _ => by omega, fun h => by omega, ?_, ?_, rfl⟩
      · dsimp only
        rw [h1, List.range_succ, List.map_append]
        congr 1
        rw [List.map_cons, List.map_nil]
        congr 1
        refine str_ext ?_
        rw [h2, seg_list, hrW]
        congr 1
        omega
      · rw [empty_app]
        have e2 : (q + 1) * W = n := by rw [Nat.add_mul]; omega
        rw [e2]
        show [l[n]] = _
        rw [List.take_one, List.head?_drop, hget]; rfl
    · rw [if_neg hgt]
      refine ⟨q, r + 1, by omega, by omega, fun _ => by omega, fun h => by omega, h1, ?_, ?_⟩
      · rw [app_list, h2]
        show _ ++ [l[n]] = _
        rw [List.take_add_one, List.getElem?_drop, ← e, hget]; rfl
      · dsimp only; omega
theorem clip_slice {xt : PySem.Str} {a b : Nat} (h1 : a ≤ b) (h2 : a ≤ xt.cps.toList.length) : (Txt.slice xt (some (a : Int)) (some (b : Int))).cps.toList = (xt.cps.toList.drop a).take (b - a) := by
  by_cases h : b ≤ xt.cps.toList.length
  · exact slice_nat h1 h
  · have hl : xt.length = xt.cps.toList.length := by simp [PySem.Str.length]
    have e : Txt.slice xt (some (a : Int)) (some (b : Int)) = Txt.slice xt (some (a : Int)) (some ((xt.cps.toList.length : Nat) : Int)) := by
      show StrLaws.sliceText xt (some (a : Int)) (some (b : Int)) = StrLaws.sliceText xt (some (a : Int)) (some ((xt.cps.toList.length : Nat) : Int))
      unfold StrLaws.sliceText
      have e2 : Builtin.Str.strSliceIndices (some (a : Int)) (some (b : Int)) 1 xt.length = Builtin.Str.strSliceIndices (some (a : Int)) (some ((xt.cps.toList.length : Nat) : Int)) 1 xt.length := by
        have c1 : ¬ ((b : Int) < 0) := by omega
        have c2 : ¬ (((xt.cps.toList.length : Nat) : Int) < 0) := by omega
        have c3 : min (b : Int) ((xt.length : Nat) : Int) = ((xt.length : Nat) : Int) := by omega
        have c4 : min ((xt.cps.toList.length : Nat) : Int) ((xt.length : Nat) : Int) = ((xt.length : Nat) : Int) := by omega
        unfold Builtin.Str.strSliceIndices
        simp only [c1, c2, c3, c4, if_false, show ((1 : Int) > 0) = True by simp, if_true]
      rw [e2]
    rw [e, slice_nat h2 (Nat.le_refl _)]
    rw [List.take_of_length_le (by rw [List.length_drop]; omega), List.take_of_length_le (by rw [List.length_drop]; omega)]
theorem chop_thin (xt : PySem.Str) (w : Int) (hw : 2 ≤ w ∧ w ≤ 20) (hlen : xt.length ≤ 100) (h : ∀ c ∈ xt.cps.toList, sz c = 1) : cuts xt w = lnEnd (lnFold w (pcFold xt.cps.toList)) := by
  obtain ⟨W, rfl⟩ : ∃ W : Nat, w = W := ⟨w.toNat, by omega⟩
  have hW : 2 ≤ W := by omega
  rw [pc_single _ h]
  have hL : xt.length = xt.cps.toList.length := by simp [PySem.Str.length]
  obtain ⟨q, r, e, hr, hr1, hq0, h1, h2, h3⟩ := unit_inv W hW xt.cps.toList xt.cps.toList.length (Nat.le_refl _)
  rw [List.take_length] at h1 h2 h3
  unfold lnEnd
  rw [h1, h3]
  have cut : ∀ j, j * W ≤ xt.cps.toList.length → (cutAt xt W j).cps.toList = (xt.cps.toList.drop (j * W)).take W := fun j hj => by
    unfold cutAt
    have e1 : (0 : Int) + (j : Int) * (W : Int) = ((j * W : Nat) : Int) := by rw [Int.zero_add]; exact (Int.natCast_mul j W).symm
    have e2 : ((j * W : Nat) : Int) + (W : Int) = ((j * W + W : Nat) : Int) := (Int.natCast_add _ _).symm
    rw [e1, e2, clip_slice (by omega) hj]
    congr 1; omega
  have hmul : ∀ j, j < q → j * W + W ≤ q * W := fun j hj => by
    have : (j + 1) * W ≤ q * W := Nat.mul_le_mul_right W hj
    rw [Nat.add_mul] at this; omega
  have hq : (List.range q).map (cutAt xt W) = (List.range q).map (fun j => seg xt.cps.toList (j * W) (j * W + W)) := by
    refine List.map_congr_left fun j hj => ?_
    have hj' := hmul j (List.mem_range.mp hj)
    refine str_ext ?_
    rw [cut j (by omega), seg_list]
    congr 1; omega
  by_cases h0 : xt.cps.toList.length = 0
  · have hr0 : r = 0 := by omega
    have hq' := hq0 h0
    subst hr0 hq'
    rw [if_neg (by omega)]
    unfold cuts cutN
    rw [hL, h0]
    have : (((0 : Nat) : Int) + (W : Int) - 1) / (W : Int) = 0 := Int.ediv_eq_zero_of_lt (by omega) (by omega)
    rw [this]; rfl
  · have hr1' := hr1 h0
    rw [if_pos (by omega)]
    have hcn : cutN xt.length W = q + 1 := by
      unfold cutN
      rw [hL, e]
      have e3 : ((q * W + r : Nat) : Int) + (W : Int) - 1 = ((r : Int) - 1) + ((q : Int) + 1) * (W : Int) := by
        rw [Int.natCast_add, Int.natCast_mul, Int.add_mul]; omega
      rw [e3, Int.add_mul_ediv_right _ _ (by omega), Int.ediv_eq_zero_of_lt (by omega) (by omega)]
      omega
    unfold cuts
    rw [hcn, List.range_succ, List.map_append, hq, List.map_cons, List.map_nil]
    congr 2
    refine str_ext ?_
    rw [cut q (by omega), h2]
    rw [List.take_of_length_le (by rw [List.length_drop]; omega), List.take_of_length_le (by rw [List.length_drop]; omega)]
theorem chop_eq (xt : PySem.Str) (w : Int) (hw : 2 ≤ w ∧ w ≤ 20) (hlen : xt.length ≤ 100) (hok : ∀ c ∈ xt.cps.toList, c ∈ okCodes) : chopL xt w = lnEnd (lnFold w (pcFold xt.cps.toList)) := by
  unfold chopL
  split
  · rename_i hs
    exact chop_thin xt w hw hlen fun c hc => single_sz (hok c hc) (List.all_eq_true.mp hs c hc)
  · exact chop_wide xt w hw.1 hok
theorem chop_fit (xt : PySem.Str) (w : Int) (hw : 2 ≤ w ∧ w ≤ 20) (hlen : xt.length ≤ 100) (hok : ∀ c ∈ xt.cps.toList, c ∈ okCodes) : ∀ x ∈ chopL xt w, (∀ c ∈ x.cps.toList, c ∈ okCodes) ∧ x.length ≤ 100 ∧ (x.cps.toList.map sz).sum ≤ w := by
  rw [chop_eq xt w hw hlen hok]
  obtain ⟨i1, i2, _, _⟩ := ln_inv w hw.1 (pcFold xt.cps.toList) (pc_ok _ hok)
  rw [pc_flat] at i1 i2
  have ok : ∀ x, LineOk w xt.cps.toList x → (∀ c ∈ x.cps.toList, c ∈ okCodes) ∧ x.length ≤ 100 ∧ (x.cps.toList.map sz).sum ≤ w := fun x ⟨h1, h2, h3⟩ =>
    ⟨fun c hc => hok c (h1 c hc), by have : x.length = x.cps.toList.length := by simp [PySem.Str.length]
                                     have : xt.length = xt.cps.toList.length := by simp [PySem.Str.length]
                                     omega, h3⟩
  intro x hx
  unfold lnEnd at hx
  split at hx
  · rcases List.mem_append.mp hx with hx | hx
    · exact ok x (i1 x hx)
    · rw [List.mem_singleton.mp hx]; exact ok _ i2
  · exact ok x (i1 x hx)
theorem ln_bounds (l : List Nat) (w : Int) (hw : 2 ≤ w) (hok : ∀ c ∈ l, c ∈ okCodes) (h : l.length ≤ 100) : ∀ i, (lnFold w ((pcFold l).take i)).line.length ≤ 100 ∧ (lnFold w ((pcFold l).take i)).lines.length ≤ 100 := by
  intro i
  obtain ⟨_, ⟨_, i2, _⟩, _, i4⟩ := ln_inv w hw ((pcFold l).take i) fun p hp => pc_ok l hok p (List.mem_of_mem_take hp)
  have h1 : (flat ((pcFold l).take i)).length ≤ l.length := by
    have e : flat (pcFold l) = flat ((pcFold l).take i) ++ flat ((pcFold l).drop i) := by
      unfold flat
      rw [← List.flatten_append, ← List.map_append, List.take_append_drop]
    have e2 := congrArg List.length e
    rw [pc_flat, List.length_append] at e2; omega
  have h2 : ((pcFold l).take i).length ≤ (pcFold l).length := by rw [List.length_take]; omega
  have h3 := pcFold_len l
  have h4 : (lnFold w ((pcFold l).take i)).line.length = (lnFold w ((pcFold l).take i)).line.cps.toList.length := by simp [PySem.Str.length]
  omega
theorem lw_spans (l : List Nat) : (lwFold (pcFold l)).spans = spFold l ∧ (lwFold (pcFold l)).total = (l.map sz).sum := ⟨(lw_all l).1, (lw_all l).2.1⟩
end Mine

/- part LW -/
namespace Mine
set_option maxHeartbeats 1000000
local macro_rules | `(tactic| walk_at "MINE fill") => `(tactic| (w_top off; have : ∀ (P : Params) (h : Heap), (hd.heap_39 P).In h → PySem.Challenge.rw_ey0019_01.Holds → True := by (k_fill; intros; trivial)))
local macro_rules | `(tactic| k_room) => `(tactic| ((try simp only [depth_under_make, depth_under_kw, depth_in1, depth_deeper, depth_caller]); omega))
local macro_rules | `(tactic| walk_at "MINE enter") => `(tactic| (k_dflt (refine' enter (news := []) ?G ?kg ?sz ?N ?ho ?hcd ?hroom ?hbind ?hloc ?_ ?c1 ?c2 ?c3 ?c4; (case G => assumption); (case kg => exact fun _ _ e => e); (case sz => exact Nat.le_refl _); (case N => exact fun _ h => nomatch h); (case ho => k_is); (case hcd => k_is); (case hroom => omega); (case hbind => first | exact BindsTo.of_eq rfl | exact binds_K (Gd.K (by assumption)) rfl (by k_is) rfl rfl rfl); (case hloc => exact locs rfl); (case c1 => exact rfl); (case c2 => exact rfl); (case c3 => exact rfl); (case c4 => decide)); intro L' h₁ F' N' l1 kp X' T'; (try dsimp only); (try k_fold)))
local macro_rules | `(tactic| walk_at "MINE rm") => `(tactic| first | omega | ((try simp only [depth_deeper, depth_in1, units_deeper, units_in1]); (try dsimp only); omega))
local macro_rules | `(tactic| walk_at "exec For") => `(tactic| (k_here; refine stop_of ?_))
local macro_rules | `(tactic| walk_at "exec For Name Name cons nil") => `(tactic| (k_here; refine stop_of ?_))
local macro_rules | `(tactic| walk_at "exec For Tuple Name cons nil") => `(tactic| (k_here; refine stop_of ?_))
local macro_rules | `(tactic| walk_at "exec For Name Call cons nil") => `(tactic| (k_here; refine stop_of ?_))
local macro_rules | `(tactic| walk_at "exec While") => `(tactic| (k_here; refine stop_of ?_))
local macro_rules | `(tactic| walk_at "exec While Compare cons nil") => `(tactic| (k_here; refine stop_of ?_))
local macro_rules | `(tactic| walk_at "assign Tuple") => `(tactic| (k_here; (with_reducible show wpAny _ _ (assign (Expr.Tuple _ _ _) _ (Value.ref _)) _ _ _); k_dflt (refine' unpackN_ ?k1 ?k2 ?k3 ?k4 ?k5 ?k6 ?_; (case k1 => k_asm); (case k2 => k_asm); (case k3 => exact Fr.tup (by k_asm) (by assumption)); (case k4 => exact rfl); (case k5 => exact rfl); (case k6 => exact rfl); k_whole); intro h' F' N'; (try k_sweep)))
section
variable {w : World} {mean : ExcName → Option Value} {mg mb : PySem.Str → Option Value} {dp un : Nat} {fr : Option (List Env)} {gd : Option (List PySem.Code)} {s : Shared} {h₀ : Heap} {L : Addr} {m : PySem.Str → Option Value} {news : List (Addr × Obj)}
  {Q E : Value → Shared → Prop} {S cl : Addr} {cells : List Int} {vs : List Value} {k n ncl : Nat} {tk0 tm : Tok} {u : Obj → List (Addr × Obj)}
theorem useT (F : Fr h₀ L s.heap m) (N : News h₀ L s.heap news) (U : UpdF S (W.listOf [.ref cl, .int (k : Nat) tk0].toArray n) news u) (hcl : s.heap.get? cl = some (W.listOf vs.toArray ncl)) (hne : S ≠ cl) (X : (hd.heap_39 w.params).In h₀) (T : Top topProg LN mean mg mb h₀)
    (hk : k ≤ cells.length) (hlen : cells.length ≤ 40) (hi : IntsAre vs cells) (hrng : ∀ x ∈ cells, 0 ≤ x ∧ x < 1000003) (hdp : dp + 6 < recursionLimit) (hun : un + 80 < cLine)
    (h : ∀ (xt : PySem.Str) (k' : Nat) (t : Tok) (h' : Heap) (tk' : Nat) (tk1 : Tok) (n' : Nat), (∀ c ∈ xt.cps.toList, c ∈ okCodes) → xt.length ≤ 100 → k' ≤ cells.length → Fr h₀ L h' m → News h₀ L h' (u (W.listOf [.ref cl, .int (k' : Nat) tk1].toArray n')) → Q (.str xt t) { s with heap := h', toks := tk' }) :
    wpAny (model PR w) ⟨none, dp, fr, gd, un⟩ (call (.ref 246) [.ref S, .int 12 tm]) Q E s := by
  have sz : h₀.objs.size ≤ s.heap.objs.size := Nat.le_trans F.above (Nat.le_of_lt F.ns.lt)
  have nS := N _ (upd_mem U)
  refine wpAny_call (c_text w S cl cells vs k tk0 n ncl tm hk hlen hi hrng mean mg mb dp un fr gd s h₀ _ hdp hun ⟨X, T⟩ F.keep sz nS.2.2 hne nS.1 hcl ?_)
  rintro xt k' t h' tk' tk1 n' hok hl hk' hS' kp
  obtain ⟨F', N'⟩ := setL_upd U F N hS' kp
  exact h _ _ t h' tk' tk1 n' hok hl hk' F' N'
end
local macro_rules | `(tactic| walk_at "eval ListComp") => `(tactic| (k_here; refine stop_of ?_))
theorem off_six {tl : List (Addr × Obj)} {lS I S a cl b : Addr} {o1 o2 o3 o4 o5 : Obj} (h : AllLt lS tl) (h2 : ∀ p ∈ tl, ∀ q ∈ [(I, o1), (S, o2), (a, o3), (cl, o4), (b, o5)], p.1 ≠ q.1) : OwnOff tl [lS, I, S, a, cl, b] := fun p hp c hc => by
  simp only [List.mem_cons, List.not_mem_nil, or_false] at hc
  rcases hc with rfl | rfl | rfl | rfl | rfl | rfl
  · exact allLt_off h p hp _ (.head _)
  · exact h2 p hp (_, o1) (.head _)
  · exact h2 p hp (_, o2) (.tail _ (.head _))
  · exact h2 p hp (_, o3) (.tail _ (.tail _ (.head _)))
  · exact h2 p hp (_, o4) (.tail _ (.tail _ (.tail _ (.head _))))
  · exact h2 p hp (_, o5) (.tail _ (.tail _ (.tail _ (.tail _ (.head _)))))
local macro_rules | `(tactic| walk_at "assign Tuple") => `(tactic| (k_here; (with_reducible show wpAny _ _ (assign (Expr.Tuple _ _ _) _ (Value.ref _)) _ _ _); k_dflt (refine' unpackN_ ?k1 ?k2 ?k3 ?k4 ?k5 ?k6 ?_; (case k1 => k_asm); (case k2 => k_asm); (case k3 => exact ledTup (by k_asm) (by repeat (first | assumption | apply List.Mem.tail))); (case k4 => exact rfl); (case k5 => exact rfl); (case k6 => exact rfl); k_whole); intro h' F' N'; (try k_sweep)))
theorem lw_shape {g h : Heap} {L D0 D I2 lS I S a cl b : Addr} {o0 oD oI2 ol oI oS oa oc ob : Obj} {tl : List (Addr × Obj)} (N : News g L h ((D0, o0) :: (D, oD) :: (I2, oI2) :: (lS, ol) :: (I, oI) :: (S, oS) :: (a, oa) :: (cl, oc) :: (b, ob) :: tl)) :
    News g L h ((I2, oI2) :: (lS, ol) :: (I, oI) :: (S, oS) :: (a, oa) :: (cl, oc) :: (b, ob) :: (D, oD) :: tl) := News.sub N fun p hp => by
  simp only [List.mem_cons] at hp ⊢
  rcases hp with h | h | h | h | h | h | h | h | h <;> simp [h]
theorem lw_ne {D I2 lS I S a cl b : Addr} {oD ol ol' oI oS oa oc ob : Obj} {tl : List (Addr × Obj)} (hn : ∀ p ∈ (lS, ol) :: (I, oI) :: (S, oS) :: (a, oa) :: (cl, oc) :: (b, ob) :: tl, p.1 ≠ I2) (hlt : I2 < D ∧ lS < D ∧ I < D ∧ S < D ∧ a < D ∧ cl < D ∧ b < D ∧ AllLt D tl) :
    ∀ p ∈ (lS, ol') :: (I, oI) :: (S, oS) :: (a, oa) :: (cl, oc) :: (b, ob) :: (D, oD) :: tl, p.1 ≠ I2 := fun p hp => by
  simp only [List.mem_cons] at hp
  rcases hp with rfl | h | h | h | h | h | h | h
  · exact hn (lS, ol) (.head _)
  · exact hn p (by simp [h])
  · exact hn p (by simp [h])
  · exact hn p (by simp [h])
  · exact hn p (by simp [h])
  · exact hn p (by simp [h])
  · rw [h]; exact fun e => absurd hlt.1 (e ▸ Nat.lt_irrefl _)
  · exact hn p (by simp [h])
theorem lw_off {D I2 lS I S a cl b : Addr} {oD : Obj} {tl : List (Addr × Obj)} (hoff : OwnOff tl [lS, I, S, a, cl, b]) (hlt : I2 < D ∧ lS < D ∧ I < D ∧ S < D ∧ a < D ∧ cl < D ∧ b < D ∧ AllLt D tl) : OwnOff ((D, oD) :: tl) [lS, I, S, a, cl, b] := fun p hp c hc => by
  rcases List.mem_cons.mp hp with rfl | hp
  · simp only [List.mem_cons, List.not_mem_nil, or_false] at hc
    rcases hc with rfl | rfl | rfl | rfl | rfl | rfl
    · exact fun e => absurd hlt.2.1 (e ▸ Nat.lt_irrefl _)
    · exact fun e => absurd hlt.2.2.1 (e ▸ Nat.lt_irrefl _)
    · exact fun e => absurd hlt.2.2.2.1 (e ▸ Nat.lt_irrefl _)
    · exact fun e => absurd hlt.2.2.2.2.1 (e ▸ Nat.lt_irrefl _)
    · exact fun e => absurd hlt.2.2.2.2.2.1 (e ▸ Nat.lt_irrefl _)
    · exact fun e => absurd hlt.2.2.2.2.2.2.1 (e ▸ Nat.lt_irrefl _)
  · exact hoff p hp c hc
theorem ints_dat : ∀ {vs : List Value} {zs : List Int}, IntsAre vs zs → DatAll [] vs (zs.map Dat.int)
  | _, _, .nil => .nil
  | _, _, .cons _ _ r => .cons (.int _ _) (ints_dat r)
local macro_rules | `(tactic| walk_at "eval Name") => `(tactic| (k_here; (with_reducible show wpAny _ _ (eval (.Name _ _) (compEnvC _ _ _ _)) _ _ _); first
  | k_dflt (refine' LCgL.ld_own ?N ?m ?C ?x ?_ ?a ?b ?c; (case a => exact rfl); (case b => exact rfl); (case c => decide); (case N => k_asm); (case C => assumption); (case m => k_mem); (case x => assumption))
  | k_dflt (refine' lcf_cell ?N ?c ?m ?d ?_ ?a ?b; (case a => exact rfl); (case b => exact rfl); (case N => k_asm); (case c => exact rfl); (case m => k_mem); (case d => assumption); k_whole)))
theorem five_ne {lS I S a cl : Addr} {o1 o2 o3 o4 o5 : Obj} (h1 : lS ≠ 203) (h2 : I ≠ 203) (h3 : S ≠ 203) (h4 : a ≠ 203) (h5 : cl ≠ 203) : ∀ p ∈ [(lS, o1), (I, o2), (S, o3), (a, o4), (cl, o5)], p.1 ≠ 203 := fun p hp => by
  simp only [List.mem_cons, List.not_mem_nil, or_false] at hp
  rcases hp with rfl | rfl | rfl | rfl | rfl <;> assumption
theorem ints_ok (zs : List Int) : kqdOk 8 (.list (zs.map Dat.int)) = true := by
  simp only [kqdOk, List.all_eq_true]
  intro d hd
  obtain ⟨z, _, rfl⟩ := List.mem_map.mp hd
  rfl
theorem sp_ok (st : List Sp) (z : Int) : kqdOk 8 (.tuple [.list (st.map spDat), .int z]) = true := by
  simp only [kqdOk, List.all_cons, List.all_nil, Bool.and_true, List.all_eq_true]
  refine fun d hd => ?_
  obtain ⟨p, _, rfl⟩ := List.mem_map.mp hd
  rfl
theorem strs_ok {ls : List PySem.Str} (h : ∀ x ∈ ls, ∀ c ∈ x.cps.toList, c ∈ okCodes) : kqdOk 8 (.list (ls.map Dat.str)) = true := by
  simp only [kqdOk, List.all_eq_true]
  intro d hd
  obtain ⟨x, hx, rfl⟩ := List.mem_map.mp hd
  show PyData.strOk x = true
  unfold PyData.strOk
  rw [Array.all_eq_true']
  intro c hc
  have f := ok_facts (h x hx c (by simpa using hc))
  simp; omega
local macro_rules | `(tactic| walk_at "compareOp NotEq ref ref") => `(tactic| (k_here; refine stop_of ?_))
theorem t7 {α : Type} {a b c d e f g p : α} {l : List α} (h : p ∈ l) : p ∈ a :: b :: c :: d :: e :: f :: g :: l := .tail _ (.tail _ (.tail _ (.tail _ (.tail _ (.tail _ (.tail _ h))))))
theorem dat_mem {tl : List (Addr × Obj)} : ∀ {vl : List Value} {LL : List PySem.Str} {v : Value}, DatAll tl vl (LL.map Dat.str) → v ∈ vl → ∃ x t, v = .str x t ∧ x ∈ LL
  | _ :: _, x :: _, _, .cons h r, hv => by
    rcases List.mem_cons.mp hv with rfl | hv
    · cases h; exact ⟨_, _, rfl, .head _⟩
    · obtain ⟨y, t, e, hy⟩ := dat_mem r hv
      exact ⟨y, t, e, .tail _ hy⟩
theorem eight_ne {a b c d e f g h : Addr} {o1 o2 o3 o4 o5 o6 o7 o8 : Obj} (h1 : a ≠ 203) (h2 : b ≠ 203) (h3 : c ≠ 203) (h4 : d ≠ 203) (h5 : e ≠ 203) (h6 : f ≠ 203) (h7 : g ≠ 203) (h8 : h ≠ 203) : ∀ p ∈ [(a, o1), (b, o2), (c, o3), (d, o4), (e, o5), (f, o6), (g, o7), (h, o8)], p.1 ≠ 203 := fun p hp => by
  simp only [List.mem_cons, List.not_mem_nil, or_false] at hp
  rcases hp with rfl | rfl | rfl | rfl | rfl | rfl | rfl | rfl <;> assumption
local macro_rules | `(tactic| walk_at "compareOp Eq ref ref") => `(tactic| (k_here; refine stop_of ?_))
theorem t5 {α : Type} {a b c d e p : α} {l : List α} (h : p ∈ l) : p ∈ a :: b :: c :: d :: e :: l := .tail _ (.tail _ (.tail _ (.tail _ (.tail _ h))))
theorem news_six {g h : Heap} {L : Addr} {a b c d e f : Addr × Obj} {l : List (Addr × Obj)} (N : News g L h (a :: b :: c :: d :: e :: l)) (hf : f ∈ l) : News g L h ([a, b, c, d, f] ++ e :: []) := News.sub N fun p hp => by
  simp only [List.cons_append, List.nil_append, List.mem_cons, List.not_mem_nil, or_false] at hp
  rcases hp with h | h | h | h | h | h
  · rw [h]; exact .head _
  · rw [h]; exact .tail _ (.head _)
  · rw [h]; exact .tail _ (.tail _ (.head _))
  · rw [h]; exact .tail _ (.tail _ (.tail _ (.head _)))
  · rw [h]; exact t5 hf
  · rw [h]; exact .tail _ (.tail _ (.tail _ (.tail _ (.head _))))
theorem c_law (w : World) (l : Addr) (vs0 : List Value) (zs : List Int) (hi0 : IntsAre vs0 zs) (hlen0 : zs.length ≤ 63) :
  ∀ (mean : ExcName → Option Value) (mg mb : PySem.Str → Option Value) (dp un : Nat) (fr : Option (List Env)) (gd : Option (List PySem.Code)) (s : Shared) (g : Heap) (R : Result → Shared → Prop),
    dp + 40 < recursionLimit → un + 400 < cLine → Gd w mean mg mb g → Kp g s.heap → g.objs.size ≤ s.heap.objs.size → g.get? 203 = none → CTab s.heap → AllBare s.gens → s.heap.IsList l vs0.toArray →
    (∀ s', (∀ b o, b ≠ 203 → s.heap.get? b = some o → s'.heap.get? b = some o) → CTab s'.heap → AllBare s'.gens → s'.os = s.os → R (.ok (.ret (.bool true))) s') →
    codeAny (model PR w) ⟨none, dp, fr, gd, un⟩ (.call (.ref 265) ⟨[.ref l], []⟩) R s := by
  walk_at "MINE fill"
  intro mean mg mb dp un fr gd s g R hdp hun G kg hsz h203 hct hgens hl hret
  obtain ⟨ps, hC, h3, ht⟩ := hct
  have hlne : l ≠ 203 := fun q => by obtain ⟨o, e, hc, _⟩ := hl; rw [q, h3] at e; cases e; cases hc
  obtain ⟨g, G, kg, hsz, h203, kback⟩ := ghostBase G kg h203
  have hC0 : CodeHd g 207 203 := codeHd_but hC kback
  have hl0 : g.IsList l vs0.toArray := hl.at fun o e => kback _ _ hlne e
  k_dflt (refine' enterC (news := [(203, tabObj ps)]) G kg hsz ?N ?ho ?hcd ?hroom ?hbind ?hkind ?hnd ?_ ?c1 ?c2 ?c3; (case N => intro p hp; rw [List.mem_singleton.mp hp]; exact ⟨h3, h203⟩); (case ho => k_is); (case hcd => k_is); (case hroom => omega); (case hbind => first | exact BindsTo.of_eq rfl | exact binds_K (G.K.keeps kg) rfl (by k_is) rfl rfl rfl); (case hkind => exact rfl); (case hnd => decide +kernel); (case c1 => exact rfl); (case c2 => exact rfl); (case c3 => exact rfl))
  intro L1 h1 tk1 cells' F1 N1 Y l1 kp X1 T1
  have l203 : @LT.lt Nat _ 203 L1 := l1 _ (.head _)
  clear h3 l1
  k_cells Y
  (try dsimp only [List.cons_append, List.nil_append] at N1)
  generalize hm : (bindL _ _ _ : PySem.Str → Option Value) = mm at F1
  have F2 := Fr.force [(PySem.Str.ofString "script", Value.ref l)] F1 (by
    intro p hp
    simp only [List.mem_cons, List.not_mem_nil, or_false] at hp
    rcases hp with rfl; rw [← hm]; rfl)
  clear F1 hm
  rename_i ow dw
  k_steps
  refine useP (c_state w l vs0 zs hi0 hlen0) (by assumption) (by assumption) X1 T1 (by walk_at "MINE rm") (by walk_at "MINE rm") (hl0.at fun o e => Fr.keep (by assumption) _ _ e) ?_
  rintro v h9 tk9 ⟨S, cl, ys, n9, t9, rfl, K9, hcS, hys⟩ k9 F9 N9
  have NT := Led.toN K9 (by assumption)
  have hoff9 := Led.off K9 (by assumption)
  have ne1 : @Ne Nat S (L1 + 1) := hoff9 (S, _) (.head _) (L1 + 1, ow) (.head _)
  have ne2 : @Ne Nat S 203 := hoff9 (S, _) (.head _) (203, tabObj ps) (.tail _ (.head _))
  have ne3 : @Ne Nat cl (L1 + 1) := hoff9 (cl, _) (.tail _ (.head _)) (L1 + 1, ow) (.head _)
  have ne4 : @Ne Nat cl 203 := hoff9 (cl, _) (.tail _ (.head _)) (203, tabObj ps) (.tail _ (.head _))
  have ne5 : @Ne Nat (L1 + 1) 203 := Nat.ne_of_gt (Nat.lt_succ_of_lt l203)
  have N10 : News g L1 h9 [(S, W.listOf [.ref cl, .int ((0 : Nat) : Int) t9].toArray n9), (L1 + 1, ow), (cl, W.listOf ys.toArray ys.length), (203, tabObj ps)] := News.sub (News.join NT N9) (fun p hp => by
    simp only [List.mem_cons, List.cons_append, List.nil_append, List.not_mem_nil, or_false] at hp ⊢
    rcases hp with rfl | rfl | rfl | rfl
    · exact .inl rfl
    · exact .inr (.inr (.inl rfl))
    · exact .inr (.inl rfl)
    · exact .inr (.inr (.inr rfl)))
  clear N9 NT hoff9 K9 N1 F2
  have hrng := cellsOf_rng zs
  have hclen := cellsOf_len zs
  generalize cellsOf zs = cells at hys hrng hclen
  k_steps
  unfold Stop
  refine wpAny_For ?_
  k_steps
  rename Fr _ _ _ _ => F11
  rename News _ _ _ _ => N11
  refine forG (L := L1) (h₀ := g) (os := s.os) (n := 2) (pre₀ := [(S, W.listOf [.ref cl, .int ((0 : Nat) : Int) t9].toArray n9), (L1 + 1, ow), (cl, W.listOf ys.toArray ys.length)])
    (fun i m pre => ∃ ow k tk0 n, pre = [(S, W.listOf [.ref cl, .int (k : Nat) tk0].toArray n), (L1 + 1, ow), (cl, W.listOf ys.toArray ys.length)] ∧ (∃ v, ow.data = .cell v) ∧ k ≤ cells.length ∧ m (PySem.Str.ofString "state") = some (.ref S)) rfl ⟨ps, ht, F11, N11, hgens, rfl⟩ (by assumption) (by omega) ⟨ow, 0, t9, n9, rfl, ⟨_, dw⟩, Nat.zero_le _, rfl⟩ ?turn ?done
  case done =>
    rintro m pre ⟨hh, gg, dd, tt, oo⟩ ⟨ow, k, tk0, n, rfl, ⟨v0, hv0⟩, hk, hm⟩ ⟨ps, ht, F, N, hb, hos⟩
    (try dsimp only [List.cons_append, List.nil_append] at N)
    dsimp only at F N hb hos
    k_steps
    refine useP (c_chop w (PySem.Str.ofString "a中b") _ _ 2 (by omega) (by decide +kernel) (by decide +kernel)) F N X1 T1 (by walk_at "MINE rm") (by walk_at "MINE rm") trivial ?_
    rintro v h4 tk4 ⟨tl4, K4, D4⟩ k4 F4 N4
    have N5 : News g L1 h4 ((S, W.listOf [.ref cl, .int (k : Nat) tk0].toArray n) :: (L1 + 1, ow) :: (cl, W.listOf ys.toArray ys.length) :: (203, tabObj ps) :: tl4) := News.join N4 (Led.toN K4 F)
    have e4 : chopL (PySem.Str.ofString "a中b") 2 = [PySem.Str.ofString "a", PySem.Str.ofString "中", PySem.Str.ofString "b"] := by decide +kernel
    rw [e4] at D4
    clear N4 K4 k4 N F
    have hD4 := D4
    cases D4 with
    | list hm4 hal4 =>
    k_steps
    unfold Stop
    rename News _ _ _ _ => N6
    refine datEq (d := .list ([PySem.Str.ofString "a", PySem.Str.ofString "中", PySem.Str.ofString "b"].map Dat.str)) N6 hD4 (fun p hp => t5 hp) (.list (vs := [.str _ _, .str _ _, .str _ _]) (.head _) (.cons (.str _ _) (.cons (.str _ _) (.cons (.str _ _) .nil)))) (fun p hp => hp) (by decide +kernel) (by walk_at "MINE rm") ?_
    have N7 := News.sub (news' := (S, W.listOf [.ref cl, .int (k : Nat) tk0].toArray n) :: (L1 + 1, ow) :: (cl, W.listOf ys.toArray ys.length) :: (203, tabObj ps) :: []) N6 (fun p hp => by
      simp only [List.mem_cons, List.not_mem_nil, or_false] at hp ⊢
      rcases hp with rfl | rfl | rfl | rfl <;> simp)
    clear N6 hD4 hm4 hal4
    k_steps
    rename News _ _ _ _ => N8
    rename Fr _ _ _ _ => F8
    refine useP (c_chop w (PySem.Str.ofString "abcde") _ _ 2 (by omega) (by decide +kernel) (by decide +kernel)) F8 N8 X1 T1 (by walk_at "MINE rm") (by walk_at "MINE rm") trivial ?_
    rintro v h9 tk9 ⟨tl9, K9, D9⟩ k9 F9 N9
    have N10 : News g L1 h9 ((S, W.listOf [.ref cl, .int (k : Nat) tk0].toArray n) :: (L1 + 1, ow) :: (cl, W.listOf ys.toArray ys.length) :: (203, tabObj ps) :: tl9) := News.join N9 (Led.toN K9 F8)
    have e9 : chopL (PySem.Str.ofString "abcde") 2 = [PySem.Str.ofString "ab", PySem.Str.ofString "cd", PySem.Str.ofString "e"] := by decide +kernel
    rw [e9] at D9
    clear N9 K9 k9 N8 F8
    have hD9 := D9
    cases D9 with
    | list hm9 hal9 =>
    k_steps
    unfold Stop
    rename News _ _ _ _ => N11
    rename Fr _ _ _ _ => F11
    refine datEq (d := .list ([PySem.Str.ofString "ab", PySem.Str.ofString "cd", PySem.Str.ofString "e"].map Dat.str)) N11 hD9 (fun p hp => t5 hp) (.list (vs := [.str _ _, .str _ _, .str _ _]) (.head _) (.cons (.str _ _) (.cons (.str _ _) (.cons (.str _ _) .nil)))) (fun p hp => hp) (by decide +kernel) (by walk_at "MINE rm") ?_
    k_steps
    exact hret _ (fun b o hb e => Fr.keep F11 _ _ (kback b o hb e)) ⟨ps, hC0.keeps (Fr.keep F11), (N11 (203, tabObj ps) (by simp)).1, ht⟩ hb hos
  case turn =>
    rintro i t m pre I oI ⟨hh, gg, dd, tt, oo⟩ hi ⟨ow, k, tk0, n, rfl, ⟨v0, hv0⟩, hk, hm⟩ hpI hI203 ⟨ps, ht, F, N, hb, hos⟩
    have F3 := Fr.force [(PySem.Str.ofString "state", Value.ref S)] F (by
      intro p hp
      rw [List.mem_singleton.mp hp]; exact hm)
    clear F hm
    have nI1 : @Ne Nat S I := hpI _ (.head _)
    have nI2 : @Ne Nat (L1 + 1) I := hpI _ (.tail _ (.head _))
    have nI3 : @Ne Nat cl I := hpI _ (.tail _ (.tail _ (.head _)))
    (try dsimp only [List.cons_append, List.nil_append] at N)
    dsimp only at F3 N hos hb
    k_steps
    refine useT (vs := ys) (ncl := ys.length) (by assumption) (by assumption) (by k_updF) ((by assumption : News _ _ _ _) (cl, _) (.tail _ (.tail _ (.tail _ (.head _))))).1 (fun q => absurd hcS (q ▸ Nat.lt_irrefl _)) X1 T1 hk hclen hys hrng (by walk_at "MINE rm") (by walk_at "MINE rm") ?_
    intro xt k1 t1 h1 tk1 tk8 n1 hok hxl hk1 F4 N4
    dsimp only at N4
    k_steps
    refine useD (vs := ys) (ncl := ys.length) (cells := cells) (by assumption) N4 (by k_updF) (N4 (cl, _) (.tail _ (.tail _ (.tail _ (.head _))))).1 (fun q => absurd hcS (q ▸ Nat.lt_irrefl _)) X1 T1 (by omega) hk1 hclen hys hrng (by walk_at "MINE rm") (by walk_at "MINE rm") ?_
    intro x2 k2 t2 h2 tk2 tk7 n2 hx20 hx21 hk2 F5 N5
    dsimp only at N5
    have hw : 2 ≤ 2 + x2 ∧ 2 + x2 ≤ 20 := by omega
    have hd9 := hv0
    k_steps
    rename Fr _ _ _ _ => F6
    rename News _ _ _ _ => N6
    rename Obj.data _ = Data.cell (some (Value.int _ _)) => dw6
    obtain ⟨o6, dw6, N6⟩ : ∃ o6 : Obj, o6.data = .cell (some (.int (2 + x2) tk2)) ∧ News g L1 _ [(I, oI), (S, W.listOf [.ref cl, .int (k2 : Nat) tk7].toArray n2), (L1 + 1, o6), (cl, W.listOf ys.toArray ys.length), (203, tabObj ps)] := ⟨_, dw6, News.sub N6 (fun p hp => .tail _ hp)⟩
    refine useP (c_pieces w xt t1 hxl hok) F6 N6 X1 T1 (by walk_at "MINE rm") (by walk_at "MINE rm") trivial ?_
    rintro v h7 tk7' ⟨tlp, K7, D7⟩ k7 F7 N7
    have NT := Led.toN K7 F6
    have off7 := Led.off K7 N6
    have N8 : News g L1 h7 ((I, oI) :: (S, W.listOf [.ref cl, .int (k2 : Nat) tk7].toArray n2) :: (L1 + 1, o6) :: (cl, W.listOf ys.toArray ys.length) :: (203, tabObj ps) :: tlp) := News.join N7 NT
    clear N7 NT N6 F6 K7 k7
    cases D7 with
    | list hml halp =>
    rename_i lp vp np
    have hpl := piece_len xt.cps.toList
    have hpcl : (pcFold xt.cps.toList).length ≤ 100 := Nat.le_trans (pcFold_len _) (by simpa [PySem.Str.length] using hxl)
    have hpsz : vp.length = (pcFold xt.cps.toList).length := by have := halp.length; simpa using this
    k_steps
    unfold Stop
    refine wpAny_For ?_
    k_steps
    rename I < _ ∧ _ => lt9
    rename Fr _ _ _ _ => F9
    rename News _ _ _ _ => N9
    have N10 := News.sub N9 (fun p hp => List.Mem.tail _ hp)
    clear N9
    have offS : OwnOff tlp [_, I, S, L1 + 1, cl, 203] := off_six lt9.2.2.2.2.2 off7
    refine' forLst (items := vp) (fun i m news => ∃ vs n tl tp tt, news = (?l, W.listOf vs.toArray n) :: (I, oI) :: (S, W.listOf [.ref cl, .int (k2 : Nat) tk7].toArray n2) :: (L1 + 1, o6) :: (cl, W.listOf ys.toArray ys.length) :: (203, tabObj ps) :: tl ∧ (∀ p ∈ tlp, p ∈ tl) ∧ OwnOff tl [?l, I, S, L1 + 1, cl, 203] ∧ DatAll tl vs ((lwFold ((pcFold xt.cps.toList).take i)).spans.map spDat) ∧
      m (PySem.Str.ofString "spans") = some (.ref ?l) ∧ m (PySem.Str.ofString "place") = some (.int (lwFold ((pcFold xt.cps.toList).take i)).place tp) ∧ m (PySem.Str.ofString "total") = some (.int (lwFold ((pcFold xt.cps.toList).take i)).total tt) ∧ m (PySem.Str.ofString "text") = some (.str xt t1) ∧ m (PySem.Str.ofString "pieces") = some (.ref lp) ∧ m (PySem.Str.ofString "state") = some (.ref S))
      rfl F9 N10 (ledL N10 (.tail _ (.tail _ (.tail _ (.tail _ (.tail _ (.tail _ hml)))))))  (.inr ⟨W.listOf vp.toArray np, ?hlk⟩) ⟨[], 0, tlp, _, _, rfl, fun _ h => h, offS, DatAll.nil, rfl, rfl, rfl, rfl, rfl, rfl⟩ ?turn2 ?done2
    case hlk =>
      rintro i m news ⟨vs, n, tl, tp, tt, rfl, hsub, _⟩
      exact .tail _ (.tail _ (.tail _ (.tail _ (.tail _ (.tail _ (hsub _ hml))))))
    case turn2 =>
      rintro i2 v m2 news I2 oI2 h tk hv ⟨vs, n, tl, tp, tt, rfl, hsub, hoff, hd, m3, m4, m5, m6, m7, m8⟩ hn hI F N
      obtain ⟨d, hd0, hdv⟩ := datAll_get halp hv
      rw [List.getElem?_map] at hd0
      obtain ⟨p, hp, rfl⟩ := Option.map_eq_some_iff.mp hd0
      have hlm := lw_more hp
      have hl3 := hpl p (List.mem_of_getElem? hp)
      have hsl := lw_len ((pcFold xt.cps.toList).take i2)
      have hsl2 : ((pcFold xt.cps.toList).take i2).length ≤ 100 := by rw [List.length_take]; omega
      generalize lwFold ((pcFold xt.cps.toList).take i2) = st at *
      obtain ⟨sp1, pl1, to1⟩ := st
      obtain ⟨px, pz⟩ := p
      have F3 := Fr.force [(PySem.Str.ofString "spans", Value.ref _), (PySem.Str.ofString "place", Value.int pl1 tp), (PySem.Str.ofString "total", Value.int to1 tt), (PySem.Str.ofString "text", Value.str xt t1), (PySem.Str.ofString "pieces", Value.ref lp), (PySem.Str.ofString "state", Value.ref S)] F (by
        intro p hp
        simp only [List.mem_cons, List.not_mem_nil, or_false] at hp
        rcases hp with rfl | rfl | rfl | rfl | rfl | rfl <;> assumption)
      clear F m3 m4 m5 m6 m7 m8
      have hIl : @Ne Nat I2 _ := neN (Ne.symm (hn _ (.head _)))
      cases hdv with
      | tuple hmv hal2 =>
      cases hal2 with
      | cons q1 hal2 =>
      cases q1
      cases hal2 with
      | cons q2 hal2 =>
      cases q2
      cases hal2
      have hmv' := hsub _ hmv
      dsimp only at hd hsl hl3 hmv'
      have hpx : px.length ≤ 100 := Nat.le_trans hl3 (by simpa [PySem.Str.length] using hxl)
      have hvl : vs.length ≤ 1000 := by rw [hd.length, List.length_map]; omega
      k_steps
      show LEnd _ _ _ _ _ _ _
      rename I2 < _ ∧ _ => lt1
      rename Fr _ _ _ _ => F19
      rename News _ _ _ _ => N19
      rw [push_list] at N19
      have hs : lwStep ⟨sp1, pl1, to1⟩ (px, pz) = ⟨sp1 ++ [(pl1, pl1 + px.length, pz)], pl1 + px.length, to1 + pz⟩ := rfl
      rw [hs] at hlm
      refine' ⟨_, _, _, _, rfl, F19, lw_shape N19, lw_ne hn lt1, ⟨_, _, _, _, _, rfl, fun p hp => .tail _ (hsub p hp), lw_off hoff lt1, by rw [hlm]; exact sp_dat hd, rfl, by rw [hlm]; rfl, by rw [hlm]; rfl, rfl, rfl, rfl⟩⟩
    case done2 =>
      rintro m2 news h tk ⟨vs, n, tl, tp, tt, rfl, hsub, hoff, hd, m3, m4, m5, m6, m7, m8⟩ F N
      rw [hpsz, List.take_length, (lw_spans _).1] at hd
      rw [hpsz, List.take_length, (lw_spans _).2] at m5
      have F3 := Fr.force [(PySem.Str.ofString "spans", Value.ref _), (PySem.Str.ofString "total", Value.int ((xt.cps.toList.map sz).sum) tt), (PySem.Str.ofString "text", Value.str xt t1), (PySem.Str.ofString "pieces", Value.ref lp), (PySem.Str.ofString "state", Value.ref S)] F (by
        intro p hp
        simp only [List.mem_cons, List.not_mem_nil, or_false] at hp
        rcases hp with rfl | rfl | rfl | rfl | rfl <;> assumption)
      clear F m3 m4 m5 m6 m7 m8 F9 N10
      have hmp := hsub _ hml
      have halp' := DatAll.mono hsub halp
      clear hml halp hsub offS off7
      k_steps
      unfold Stop
      have hxl' : xt.length ≤ 1000 := Nat.le_trans hxl (by omega)
      refine compText (xt := xt) (tx := t1) sz rfl F3 N hxl' rfl (by decide) rfl (by decide) rfl ?iter1 ?elt1 ?done1
      case iter1 =>
        intro Q9 hq
        k_steps
        exact hq
      case elt1 =>
        intro C oC m₂ c t h' tk' Q' E' hc hoC hm FC NC hk
        have fc := ok_facts (hok c hc)
        clear F3 N
        k_steps
        refine useP (c_gccs1 w c t fc.1 fc.2.1 fc.2.2.1) FC NC X1 T1 (by walk_at "MINE rm") (by walk_at "MINE rm") trivial ?_
        rintro v h'' tk'' ⟨t9, rfl⟩ kk _ _
        exact hk _ _ _ kk
      intro ys1 D1 h tk hys1 F4 N4 off1
      clear F3 N
      k_steps
      unfold Stop
      refine compText (xt := xt) (tx := t1) sz rfl F4 N4 hxl' rfl (by decide) rfl (by decide) rfl ?iter2 ?elt2 ?done3
      case iter2 =>
        intro Q9 hq
        k_steps
        exact hq
      case elt2 =>
        intro C oC m₂ c t h' tk' Q' E' hc hoC hm FC NC hk
        clear F4 N4
        k_steps
        refine useP (c_law_size w c (hok c hc) t) FC NC X1 T1 (by walk_at "MINE rm") (by walk_at "MINE rm") trivial ?_
        rintro v h'' tk'' ⟨t9, rfl⟩ kk _ _
        exact hk _ _ _ kk
      intro ys2 D2 h tk hys2 F5 N5 off2
      clear F4 N4
      have dI1 := ints_dat hys1
      have dI2 := ints_dat hys2
      k_steps
      unfold Stop
      refine datNe (d := .list ((xt.cps.toList.map sz).map Dat.int)) N5 (.list (.tail _ (.head _)) (dI1.mono (fun p hp => absurd hp List.not_mem_nil))) (fun p hp => hp) (.list (.head _) (dI2.mono (fun p hp => absurd hp List.not_mem_nil))) (fun p hp => hp) (ints_ok _) (by walk_at "MINE rm") ?_
      k_steps
      have N6 : News g L1 _ ([(_, W.listOf vs.toArray n), (I, oI), (S, W.listOf [.ref cl, .int (k2 : Nat) tk7].toArray n2), (L1 + 1, o6), (cl, W.listOf ys.toArray ys.length)] ++ (203, tabObj ps) :: tl) := News.sub N5 (fun p hp => .tail _ (.tail _ hp))
      clear N5 off1 off2
      have hpre203 : ∀ p ∈ [(_, W.listOf vs.toArray n), (I, oI), (S, W.listOf [.ref cl, .int (k2 : Nat) tk7].toArray n2), (L1 + 1, o6), (cl, W.listOf ys.toArray ys.length)], p.1 ≠ 203 := five_ne (Nat.ne_of_gt lt9.2.2.2.2.1) hI203 ne2 ne5 ne4
      refine useG (c_celllen w xt t1 hxl hok) F5 N6 hpre203 (fun p hp => hoff p hp 203 (by simp)) hC0 ht X1 T1 hb (by walk_at "MINE rm") (by walk_at "MINE rm") ?_
      rintro v ⟨hh5, gg5, dd5, tt5, oo5⟩ ps5 ⟨t5, rfl⟩ hb5 hos5 ht5 F7 N7
      dsimp only at hb5 hos5 F7
      (try dsimp only [List.cons_append, List.nil_append] at N7)
      clear N6 F5 ht hb
      k_steps
      · exfalso
        rename _ ≠ _ => q9
        exact q9 rfl
      refine useP (c_split w xt t1 hxl hok) F7 N7 X1 T1 (by walk_at "MINE rm") (by walk_at "MINE rm") trivial ?_
      rintro v h8 tk8' ⟨tls, K8, D8⟩ k8 F8 N8
      have N8J : News g L1 h8 ((_, W.listOf vs.toArray n) :: (I, oI) :: (S, W.listOf [.ref cl, .int (k2 : Nat) tk7].toArray n2) :: (L1 + 1, o6) :: (cl, W.listOf ys.toArray ys.length) :: (203, tabObj ps5) :: (tl ++ tls)) := News.join N8 (Led.toN K8 F7)
      clear K8 k8 F7 N7 N8
      have hD8 := D8
      cases D8 with
      | tuple hm8 hal8 =>
      k_steps
      unfold Stop
      rename News _ _ _ _ => N9
      rename Fr _ _ _ _ => F9
      refine datNe (d := .tuple [.list ((spFold xt.cps.toList).map spDat), .int ((xt.cps.toList.map sz).sum)]) N9 hD8 (fun p hp => t7 (List.mem_append_right _ hp)) (.tuple (vs := [.ref _, .int _ tt]) (.head _) (.cons (.list (vs := vs) (.tail _ (.head _)) (hd.mono fun p hp => t7 (List.mem_append_left _ hp))) (.cons (.int _ _) .nil))) (fun p hp => hp) (sp_ok _ _) (by walk_at "MINE rm") ?_
      have N10 : News g L1 _ ([(I, oI), (S, W.listOf [.ref cl, .int (k2 : Nat) tk7].toArray n2), (L1 + 1, o6), (cl, W.listOf ys.toArray ys.length), (203, tabObj ps5)] ++ tl) := News.sub N9 (fun p hp => by
        simp only [List.mem_append, List.mem_cons, List.not_mem_nil, or_false] at hp ⊢
        rcases hp with (rfl | rfl | rfl | rfl | rfl) | hp <;> simp [*])
      clear N9 hD8 hm8 hal8
      (try dsimp only [List.cons_append, List.nil_append] at N10)
      k_steps
      rename News _ _ _ _ => N11
      rename Fr _ _ _ _ => F11
      refine useP (c_chop w xt t1 _ (2 + x2) hw hxl hok) F11 N11 X1 T1 (by walk_at "MINE rm") (by walk_at "MINE rm") trivial ?_
      rintro v h10 tk10 ⟨tlc, K10, D10⟩ k10 F10 N12
      have hfit := chop_fit xt (2 + x2) hw hxl hok
      rw [chop_eq xt (2 + x2) hw hxl hok] at hfit D10
      have offc := Led.off K10 N11
      have N13 : News g L1 h10 ((I, oI) :: (S, W.listOf [.ref cl, .int (k2 : Nat) tk7].toArray n2) :: (L1 + 1, o6) :: (cl, W.listOf ys.toArray ys.length) :: (203, tabObj ps5) :: (tl ++ tlc)) := News.join N12 (Led.toN K10 F11)
      clear N12 N11 F11 K10 k10
      have hD10 := D10
      cases D10 with
      | list hmc halc =>
      rename_i ll vl nl
      k_steps
      rename News _ _ _ _ => N14
      rename Fr _ _ _ _ => F14
      refine useP (c_lines w (.ref lp) (pcFold xt.cps.toList) (2 + x2) _ hpcl (by omega) (ln_bounds xt.cps.toList (2 + x2) hw.1 hok (by simpa [PySem.Str.length] using hxl)) (fun p hp => Nat.le_trans (hpl p hp) (by simpa [PySem.Str.length] using hxl))) F14 N14 X1 T1 (by walk_at "MINE rm") (by walk_at "MINE rm")
        ⟨tl ++ tlc, fun p hp => (N14 p (.tail _ (.tail _ (.tail _ (.tail _ (.tail _ hp)))))).1, .list (List.mem_append_left _ hmp) (halp'.mono fun p hp => List.mem_append_left _ hp)⟩ ?_
      rintro v h15 tk15 ⟨tle, K15, D15⟩ k15 F15 N15
      have N16 := News.join N15 (Led.toN K15 F14)
      have hD15 := D15
      cases D15 with
      | list hme hale =>
      generalize hLL : lnEnd (lnFold (2 + x2) (pcFold xt.cps.toList)) = LL at *
      clear K15 k15 F14 N14
      k_steps
      unfold Stop
      refine datNe (d := .list (LL.map Dat.str)) N16 hD10 (fun p hp => List.mem_append_left _ (.tail _ (.tail _ (.tail _ (.tail _ (.tail _ (List.mem_append_right _ hp))))))) hD15 (fun p hp => List.mem_append_right _ hp) (strs_ok fun x hx => (hfit x hx).1) (by walk_at "MINE rm") ?_
      k_steps
      unfold Stop
      have N17 := news_six N15 (List.mem_append_right tl hmc)
      have G9 : ∀ tk9, GSt g L1 _ s.os [(I, oI), (S, W.listOf [.ref cl, .int (k2 : Nat) tk7].toArray n2), (L1 + 1, o6), (cl, W.listOf ys.toArray ys.length), (ll, W.listOf vl.toArray nl)] [] { heap := h15, gens := gg5, drawn := dd5, toks := tk9, os := oo5 } := fun _ => ⟨ps5, ht5, F15, N17, hb5, (by rw [← hos, ← hos5])⟩
      have nell : @Ne Nat ll 203 := offc _ hmc (203, tabObj ps5) (by simp)
      clear N15 N16 N17 hD10 hD15 hale hme
      refine compNone (l := ll) (vs := vl) (nl := nl) (os := s.os) (pre := [(I, oI), (S, W.listOf [.ref cl, .int (k2 : Nat) tk7].toArray n2), (L1 + 1, o6), (cl, W.listOf ys.toArray ys.length), (ll, W.listOf vl.toArray nl)]) (post := []) rfl (G9 _) (by simp) rfl (by decide) rfl (by decide) rfl ?iter5 ?test5 ?done5
      case iter5 =>
        intro Q9 hq
        obtain ⟨ps9, ht9, FC, NC, hb9, hos9⟩ := G9 0
        (try dsimp only [List.cons_append, List.nil_append] at NC)
        k_steps
        exact hq
      case test5 =>
        rintro v C oC m₂ I3 oI3 D3 ⟨hh9, gg9, dd9, tt9, oo9⟩ E' hv hoC hm ⟨ps9, ht9, FC, NC, hb9, hos9⟩ ⟨q1, q2, q3⟩
        obtain ⟨x, tx9, rfl, hx⟩ := dat_mem halc hv
        obtain ⟨hx1, hx2, hx3⟩ := hfit x hx
        (try dsimp only [List.cons_append, List.nil_append] at NC)
        dsimp only at FC NC hb9 hos9
        clear F15 G9
        k_steps
        refine useG (pre := [(I3, oI3), (C, oC), (D3, LCg.lst []), (I, oI), (S, W.listOf [.ref cl, .int (k2 : Nat) tk7].toArray n2), (L1 + 1, o6), (cl, W.listOf ys.toArray ys.length), (ll, W.listOf vl.toArray nl)]) (post := []) (c_celllen w x tx9 hx2 hx1) FC NC (eight_ne q1 q2 q3 hI203 ne2 ne5 ne4 nell) (fun p hp => absurd hp List.not_mem_nil) hC0 ht9 X1 T1 hb9 (by walk_at "MINE rm") (by walk_at "MINE rm") ?_
        rintro v ⟨hh6, gg6, dd6, tt6, oo6⟩ ps6 ⟨t6, rfl⟩ hb6 hos6 ht6 F6 N6
        (try dsimp only [List.cons_append, List.nil_append] at N6)
        dsimp only at F6 N6 hb6 hos6
        clear FC NC
        k_steps
        show TPost _ _ _
        exact ⟨decide_eq_false (by omega), ps6, ht6, F6, N6, hb6, hos6.trans hos9⟩
      case done5 =>
        rintro D9 ⟨hh9, gg9, dd9, tt9, oo9⟩ ⟨ps9, ht9, FC, NC, hb9, hos9⟩
        (try dsimp only [List.cons_append, List.nil_append] at NC)
        dsimp only at FC NC hb9 hos9
        clear F15 G9
        refine truthyL (vs := []) (n := 0) NC (.head _) (by simp) ?_
        k_steps
        show GEnd _ _ _ _ _ _ _
        refine ⟨_, [(S, W.listOf [.ref cl, .int (k2 : Nat) tk7].toArray n2), (L1 + 1, o6), (cl, W.listOf ys.toArray ys.length)], ⟨ps9, ht9, FC, News.sub NC (fun p hp => ?_), hb9, hos9⟩, fun p hp => ?_, ⟨o6, k2, tk7, n2, rfl, ⟨_, dw6⟩, hk2, rfl⟩⟩
        · simp only [List.cons_append, List.nil_append, List.mem_cons, List.not_mem_nil, or_false] at hp
          rcases hp with h | h | h | h | h
          · rw [h]; exact .tail _ (.head _)
          · rw [h]; exact .tail _ (.tail _ (.head _))
          · rw [h]; exact .tail _ (.tail _ (.tail _ (.head _)))
          · rw [h]; exact .tail _ (.tail _ (.tail _ (.tail _ (.head _))))
          · rw [h]; exact .tail _ (.tail _ (.tail _ (.tail _ (.tail _ (.tail _ (.head _))))))
        · simp only [List.mem_cons, List.not_mem_nil, or_false] at hp
          rcases hp with h | h | h
          · rw [h]; exact nI1
          · rw [h]; exact nI2
          · rw [h]; exact nI3
end Mine

/- part LH -/
namespace Mine
open PySem PySem.W PyProof.Rows PySem.Calls PySem.Spec
set_option maxHeartbeats 4000000
theorem law_post {M : Model} {A : Around} {cd : Code} {s s₁ : Shared} {cw : ClaimW} {cl : PySem.Str → Option Addr} {mean : ExcName → Option Value} {args : List WData} (hT : TabsAt [(207, 203)] s₁.heap) (hr : ∀ x, cw.raises args x = false) (hp : cw.post args (.bool true) args = true)
    (h : codeAny M A cd (fun r s' => r = .ok (.ret (.bool true)) ∧ (∀ b o, b ≠ 203 → s₁.heap.get? b = some o → s'.heap.get? b = some o) ∧ (∃ ps, s'.heap.get? 203 = some (tabObj ps)) ∧ s'.os = s₁.os ∧ AllBare s'.gens) s) : codeAny M A cd (GoodWG cw cl mean args s₁) s :=
  codeAny_mono h fun r s' ⟨hr1, hk, ⟨ps, hps⟩, hos, hg⟩ => by
    subst hr1
    obtain ⟨hC, h3⟩ := hT (207, 203) (.head _)
    refine ⟨.inl ⟨.bool true, .bool true, [], rfl, hr, .bool _, hp, fun _ => ⟨List.nodup_nil, fun a ha => nomatch ha⟩⟩, ⟨fun b o e => ?_, fun b o e => ?_⟩, hos, hg⟩
    · by_cases hb : b = 203
      · subst hb
        have : o = tabObj #[] := by have h3' : s₁.heap.get? 203 = some (tabObj #[]) := h3; rw [h3'] at e; exact (Option.some.inj e).symm
        subst this
        exact .inr (.inl ⟨(hC.tab h3).isCodeTable, rfl, #[], ps, rfl, by rw [Array.empty_append]; exact hps⟩)
      · exact .inl (hk b o hb e)
    · by_cases hb : b = 203
      · subst hb; exact ⟨_, hps⟩
      · exact ⟨o, hk b o hb e⟩
theorem top_weak {l1 l2 : List PySem.Str} {mean : ExcName → Option Value} {mg mb : PySem.Str → Option Value} {h : Heap} (T : Top topProg l1 mean mg mb h) (hs : ∀ x ∈ l1, x ∈ l2) : Top topProg l2 mean mg mb h where
  g := T.g
  b := T.b
  nolimit := T.nolimit
  nodigits := T.nodigits
  fn := fun d hd => absurd (show d ∈ ([] : List DefRec) from hd) List.not_mem_nil
  own := fun o ho => absurd (show o ∈ ([] : List OwnSpec) from ho) List.not_mem_nil
  const := T.const
  free := fun x h1 h2 h3 h4 h5 => T.free x h1 (fun q => h2 (hs x q)) h3 h4 (fun q => absurd (show x ∈ ([] : List PySem.Str) from q) List.not_mem_nil)
  builtins := T.builtins
  tab := T.tab
  bmain := T.bmain
  seer := T.seer
theorem law_fin {p : PySem.Program} {loose : List PySem.Str} (w : World) (mean : ExcName → Option Value) (mg mb : PySem.Str → Option Value) (s₁ : Shared) (fa a : Addr) (vs : List Value) (zs : List Int) (KX : (hd.heap_39 w.params).In s₁.heap) (T : Top p loose mean mg mb s₁.heap)
    (hLN : (loose ++ (recsOf p).map (·.name) ++ (litsOf p).map (·.1) ++ (clssOf p loose).map (·.name)).all (fun x => LN.contains x) = true) (hT : TabsAt [(207, 203)] s₁.heap) (hmg : mg (PySem.Str.ofString "law") = some (.ref fa)) (hfa : nsIn (hd.heap_39 w.params) mainGlobals (PySem.Str.ofString "law") = some (some (.ref 265))) (hK : noTabs (hd.heap_39 w.params) = true)
    (hl : s₁.heap.IsList a vs.toArray) (hi : IntsAre vs zs) (hlen : zs.length ≤ 63) (hg : s₁.gens = #[]) :
    codeAny (model PR w) callerA (.call (.ref fa) ⟨[.ref a], []⟩) (fun r s' => r = .ok (.ret (.bool true)) ∧ (∀ b o, b ≠ 203 → s₁.heap.get? b = some o → s'.heap.get? b = some o) ∧ (∃ ps, s'.heap.get? 203 = some (tabObj ps)) ∧ s'.os = s₁.os ∧ AllBare s'.gens) s₁ := by
  have e := mg_of KX T.g hfa
  rw [hmg] at e
  cases e
  have T' := top_weak (ghost_top hT T) (fun x hx => by simpa using List.all_eq_true.mp hLN x hx)
  have X' := ghost_K hT KX hK
  obtain ⟨hC, h3⟩ := hT (207, 203) (.head _)
  refine c_law w a vs zs hi hlen mean mg mb _ _ _ _ s₁ (ghostOf s₁.heap [(207, 203)]) _ (by decide) (by decide) ⟨X', T'⟩ (fun b o e => of_hideAll _ e) (Nat.le_of_eq (hideAll_size _ _)) (hideAll_none _ (.head _)) ⟨#[], hC, h3, trivial⟩ (.of_eq hg) hl ?_
  rintro s' k ⟨ps, _, h203, _⟩ hb hos
  exact ⟨rfl, k, ⟨ps, h203⟩, hos, hb⟩
set_option hygiene false in
local macro_rules
  | `(tactic| k_behind $G $ho $hd $hcd $hD $hmg $hpre $hlay $hrd $hwl $hlo $cd) => `(tactic| (
  have X := (Ground.X $G).1
  have V := (Ground.X $G).2
  refine Ground.open $G ?_
  intro T B D TE TW
  try (refine guard_noD D (by decide +kernel) ?_; clear D)
  have hT9 : TabsAt [(207, 203)] _ := List.forall_mem_cons.mpr ⟨tab_of (x := PySem.Str.ofString "_cell_len") (c := 207) (P := 203) T (by assumption) rfl (by kernel_rfl), fun _ h => nomatch h⟩
  wrow_args $hpre $hlay $hrd $hwl $hlo
  all_goals (
    first | refine callC_kw (enter_call ?_) | refine enter_call ?_
    w_top on
    refine law_post hT9 (fun _ => rfl) (by first | rfl | with_unfolding_all rfl | decide +kernel | (simp [PySem.W.OpenLaw.row]; done)) ?_
    skip)))
theorem law_head : PySem.Challenge.rw_ey0019_01.Holds := hd (by
  k_go0
  rename IntsAre _ _ => hI9
  rename Heap.IsList _ _ _ => hL9
  rename ¬ (_ < _) => hlen9
  rename Shared.gens _ = #[] => hg9
  rename Frag.In _ _ => KX9
  rename _ = some (Value.ref _) => hmg9
  exact law_fin _ _ _ _ _ _ _ _ _ KX9 T (by decide +kernel) hT9 hmg9 (by kernel_rfl) (by kernel_rfl) hL9 hI9 (by omega) hg9)
end Mine

set_option maxHeartbeats 4000000 in
theorem PySem.Challenge.cw_ey0019_01_holds : PySem.Challenge.rw_ey0019_01.Holds := by
  exact Mine.law_head
