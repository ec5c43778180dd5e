import PyProof.Rows.All
import Wide.All
import OpenK.AllK
import Wide.FinOn
import Lean
import PySem.Challenge.RW_rx0001_01
open PySem PySem.W PyProof.Rows
set_option Elab.async false
section
namespace Mine
/-- the text's top without the rows that name a module: what the head looks at -/
def seenQ : Program := view PySem.Challenge.rw_rx0001_01.row.prog [0, 1, 3, 4, 5, 6, 8, 9, 11, 12, 14, 16, 17, 18, 19]
end Mine
section
local macro_rules | `(tactic| o_head $_H) => `(tactic| assumption)
/-- lays the written part of the heap (Mine.pre.heap_1) and says nothing -/
theorem Mine.pre (_h : PySem.Challenge.rw_rx0001_01.row.Holds) : PySem.Challenge.rw_rx0001_01.row.Holds := by k_head
end
end
section
namespace Mine
noncomputable abbrev pw : Program := PySem.Challenge.rw_rx0001_01.row.prog
noncomputable abbrev looseX : List Str := [Str.ofString "_twin_re_1", Str.ofString "_special_chars_map"]
noncomputable abbrev asX : List Addr := [2, 3, 6, 11, 12, 32, 34, 35, 37, 38, 39, 41, 42, 44, 45, 46, 48, 49, 51, 52, 53, 55, 56, 58, 59, 60, 62, 63, 65, 66, 67, 69, 70, 72, 73, 77, 78, 80, 84, 86, 87, 89, 90, 91, 93, 94, 96, 97, 98, 100, 101, 103, 104, 105, 107, 108, 110, 111, 112, 115, 116, 117, 120, 121]
theorem as_ok : ∀ P, asX = (Mine.pre.heap_1 P).map (·.1) := fun _ => by kernel_rfl
noncomputable abbrev hookX : Hook := kmHook Mine.pre.heap_1 asX as_ok [92]
noncomputable abbrev xtX (s : Shared) : Bool := xlAt seenQ [] s && recOk (RowW.records (OpenRow.toRowW (OpenLaw.row PySem.Challenge.rw_rx0001_01))) s
def TopIs (w : World) : Prop := (openEnds treeTable pw w 3638).map (fun s => (openSeen seenQ looseX (importedModules pw.main.body) xtX true s, hookX.obs s)) = some (openGood seenQ looseX, hookX.val w)
theorem top_ff : ∀ w : World, TopIs ((w.withFollow "special-get-raises" false).withFollow "comprehension-iter-twice" false) := by
  unfold TopIs openEnds fencedOpening topFrom
  intro w
  simp only [PySem.W.Fast.te14082659384304107361, PySem.W.Fast.te10274390034422433532, PySem.W.Fast.te4187177175401517315, PySem.W.Fast.te14364793385576792824, PySem.W.Fast.te5923862056798008813]
  kernel_rfl
theorem top_ft : ∀ w : World, TopIs ((w.withFollow "special-get-raises" false).withFollow "comprehension-iter-twice" true) := by
  unfold TopIs openEnds fencedOpening topFrom
  intro w
  simp only [PySem.W.Fast.te14082659384304107361, PySem.W.Fast.te10274390034422433532, PySem.W.Fast.te4187177175401517315, PySem.W.Fast.te14364793385576792824, PySem.W.Fast.te5923862056798008813]
  kernel_rfl
theorem top_tf : ∀ w : World, TopIs ((w.withFollow "special-get-raises" true).withFollow "comprehension-iter-twice" false) := by
  unfold TopIs openEnds fencedOpening topFrom
  intro w
  simp only [PySem.W.Fast.te14082659384304107361, PySem.W.Fast.te10274390034422433532, PySem.W.Fast.te4187177175401517315, PySem.W.Fast.te14364793385576792824, PySem.W.Fast.te5923862056798008813]
  kernel_rfl
theorem top_tt : ∀ w : World, TopIs ((w.withFollow "special-get-raises" true).withFollow "comprehension-iter-twice" true) := by
  unfold TopIs openEnds fencedOpening topFrom
  intro w
  simp only [PySem.W.Fast.te14082659384304107361, PySem.W.Fast.te10274390034422433532, PySem.W.Fast.te4187177175401517315, PySem.W.Fast.te14364793385576792824, PySem.W.Fast.te5923862056798008813]
  kernel_rfl
theorem left_ok : LeftO pw seenQ looseX xtX (Hook.obs hookX) (Hook.val hookX) 3638 :=
  byRow2 (P := TopIs) "comprehension-iter-twice"
    (byRow2 (P := fun w => TopIs (w.withFollow "comprehension-iter-twice" false)) "special-get-raises" top_ff top_tf)
    (byRow2 (P := fun w => TopIs (w.withFollow "comprehension-iter-twice" true)) "special-get-raises" top_ft top_tt)
end Mine
end
section
namespace Mine
theorem said_ok : OpenLaw.wellSaid PySem.Challenge.rw_rx0001_01 = true := by kernel_rfl
theorem head {d : DefRec} {kwd : List (Str × PySem.Expr)} (hdef : defOf seenQ PySem.Challenge.rw_rx0001_01.row.name = some (d, kwd)) (hp : PySem.Challenge.rw_rx0001_01.row.prog.theDef PySem.Challenge.rw_rx0001_01.row.name = some (d.params, d.body, d.scope))
    (hk : kwWritten? d.params.kwonlyargs d.params.kw_defaults = some kwd) (hw : PySem.Challenge.rw_rx0001_01.row.toRowW.promised)
    (hc : WalkO seenQ looseX (XL seenQ []) (Hook.says (kmHook Mine.pre.heap_1 asX as_ok [92])) PySem.Challenge.rw_rx0001_01.row.toRowW d kwd fun f vs => PySem.call f vs) : PySem.Challenge.rw_rx0001_01.row.Holds :=
  holds_open (Yf := Hook.obs hookX) (Ya := Hook.val hookX) left_ok (Hook.of hookX) (Hook.keeps hookX) (fun _ e => xl_of _ (Bool.and_eq_true_iff.mp e).1) XL.keeps hdef hp hk (fun _ e => recFacts_of (Bool.and_eq_true_iff.mp e).2) (by rfl) (row_said said_ok) (by decide +kernel) ⟨rfl, rfl, rfl, rfl, rfl, by decide +kernel⟩ hw hc
end Mine
section
local macro_rules | `(tactic| o_law) => `(tactic| refine holds_law Mine.said_ok fun _ => ?_)
local macro_rules | `(tactic| k_head) => `(tactic| refine Mine.head (by rfl) (by rfl) (by rfl) ?hw ?hc)
namespace Mine
set_option maxRecDepth 100000 in
set_option maxHeartbeats 8000000 in
open_top hd for PySem.Challenge.rw_rx0001_01
end Mine
end
namespace Mine
/-- the walks below run as they do in a text of their own -/
theorem top_off : True := by
  w_top off
  trivial
end Mine
end
section
namespace Mine
/-- a call of a def of the text's, from a frame right above the caller: it hands back what post says -/
def Claim (f : Addr) (vs : List Value) (news : List (Addr × Obj)) (post : Value → List (Addr × Obj) → Prop) : Prop :=
  ∀ (w : World) (p : Program) (loose : List Str) (mean : ExcName → Option Value) (mg mb : Str → Option Value) (cn : Str) (cs : Scope) (a : Addr) (ccd : Value)
    (base h₀ : Heap) (L : Addr) (m : Str → Option Value) (s : Shared) (Q E : Value → Shared → Prop),
    Below callerA base [] h₀ → Fr h₀ L s.heap m → (Mine.pre.heap_1 w.params).In h₀ → News h₀ L s.heap news → Top p loose mean mg mb h₀ → cs.kind = .function → 1 ≤ s.toks →
    (∀ r news' h' tk', Fr h₀ L h' m → News h₀ L h' news' → post r news' → Q r { s with heap := h', toks := tk' }) →
    wpAny (model PySem.Challenge.rw_rx0001_01.row.prog w) (callerA.deeper (envOf cn cs L a ccd)) (call (.ref f) vs) Q E s
end Mine
end
section
namespace Mine
/-- the tokens only grow -/
theorem runs_toks {M : Model} {Γ : Ctx} {p : Pos} {t : Sem Fin} {fs : List Frame} {s s' : Shared} {e : End} (h : Runs M Γ p t fs s e s') : s.toks ≤ s'.toks := by
  induction h with
  | done => exact Nat.le_refl _
  | raise => exact Nat.le_refl _
  | yield => exact Nat.le_refl _
  | fresh _ ih => exact Nat.le_trans (Nat.le_succ _) ih
  | call _ _ ih1 ih2 => exact Nat.le_trans ih1 ih2
  | resumeFresh _ _ _ _ ih1 ih2 => exact Nat.le_trans ih1 ih2
  | resumeSuspended _ _ _ _ ih1 ih2 => exact Nat.le_trans ih1 ih2
  | segRet _ _ ih1 ih2 => exact Nat.le_trans ih1 ih2
  | segGen _ _ ih1 ih2 => exact Nat.le_trans ih1 ih2
  | segSuspGen _ _ _ _ ih1 ih2 => exact Nat.le_trans ih1 ih2
  | _ => assumption
theorem wakes_toks {M : Model} {Γ : Ctx} {p : Pos} {g : Nat} {r : Resume} {s s' : Shared} {res : GenResult} (h : Wakes M Γ p g r s res s') : s.toks ≤ s'.toks := by
  unfold Wakes at h
  split at h
  · exact h.elim
  · split at h
    · obtain ⟨e, s₁, hr, _, _, rfl⟩ := h
      have := runs_toks hr
      exact this
    · obtain ⟨_, rfl⟩ := h; exact Nat.le_refl _
    · obtain ⟨_, rfl⟩ := h; exact Nat.le_refl _
  · obtain ⟨e, s₁, hr, _, _, rfl⟩ := h
    have := runs_toks hr
    exact this
  · obtain ⟨_, rfl⟩ := h; exact Nat.le_refl _
  · obtain ⟨_, rfl⟩ := h; exact Nat.le_refl _
theorem wp_toks {α : Type} (M : Model) (Γ : Ctx) (t : Sem α) : ∀ (n : Nat) (Q : α → Pos → Shared → Prop) (E : Value → Pos → Shared → Prop) (p : Pos) (s : Shared), n ≤ s.toks → Sem.wp M Γ t (fun a p' s' => n ≤ s'.toks → Q a p' s') (fun e p' s' => n ≤ s'.toks → E e p' s') p s → Sem.wp M Γ t Q E p s := by
  induction t with
  | pure a => intro n Q E p s hn h; rw [Sem.wp] at h ⊢; exact h hn
  | raise e => intro n Q E p s hn h; rw [Sem.wp] at h ⊢; exact h hn
  | unsupported w => intro n Q E p s hn h; rw [Sem.wp] at h ⊢; exact h
  | finish e => intro n Q E p s hn h; rw [Sem.wp] at h ⊢; exact h
  | rule _ k ih => intro n Q E p s hn h; rw [Sem.wp] at h ⊢; exact ih _ n Q E _ _ hn h
  | «at» p' k ih => intro n Q E p s hn h; rw [Sem.wp] at h ⊢; exact ih _ n Q E _ _ hn h
  | load a _ k ih => intro n Q E p s hn h; rw [Sem.wp] at h ⊢; obtain ⟨o, ho, h⟩ := h; exact ⟨o, ho, ih _ n Q E _ _ hn h⟩
  | update a _ f k ih => intro n Q E p s hn h; rw [Sem.wp] at h ⊢; exact ⟨h.1, ih _ n Q E _ _ (by exact hn) h.2⟩
  | loadIfAlive a k ih => intro n Q E p s hn h; rw [Sem.wp] at h ⊢; exact ih _ n Q E _ _ hn h
  | point _ k ih => intro n Q E p s hn h; rw [Sem.wp] at h ⊢; exact ih _ n Q E _ _ hn h
  | register _ _ => intro n Q E p s hn h; rw [Sem.wp] at h ⊢; exact h
  | alloc o k ih => intro n Q E p s hn h; rw [Sem.wp] at h ⊢; exact ih _ n Q E _ _ (by exact hn) h
  | fresh k ih => intro n Q E p s hn h; rw [Sem.wp] at h ⊢; exact ih _ n Q E _ _ (Nat.le_succ_of_le hn) h
  | ask k ih => intro n Q E p s hn h; rw [Sem.wp] at h ⊢; exact ih _ n Q E _ _ hn h
  | choose src m k ih => intro n Q E p s hn h; rw [Sem.wp] at h ⊢; exact ⟨h.1, ih _ n Q E _ _ (by exact hn) h.2⟩
  | os q _ k ih => intro n Q E p s hn h; rw [Sem.wp] at h ⊢; exact ih _ n Q E _ _ (by exact hn) h
  | call c hd _ _ k ih =>
    intro n Q E p s hn h
    rw [Sem.wp] at h ⊢
    obtain ⟨r, s', hr, h⟩ := h
    exact ⟨r, s', hr, ih _ n Q E _ _ (Nat.le_trans hn (runs_toks hr)) h⟩
  | handled own k ih => intro n Q E p s hn h; rw [Sem.wp] at h ⊢; exact ih _ n Q E _ _ hn h
  | genState g k ih => intro n Q E p s hn h; rw [Sem.wp] at h ⊢; obtain ⟨o, ho, h⟩ := h; exact ⟨o, ho, ih _ n Q E _ _ hn h⟩
  | newGen c k ih => intro n Q E p s hn h; rw [Sem.wp] at h ⊢; exact ih _ n Q E _ _ (by exact hn) h
  | resume g r _ k ih =>
    intro n Q E p s hn h
    rw [Sem.wp] at h ⊢
    obtain ⟨r, s', hr, h⟩ := h
    exact ⟨r, s', hr, ih _ n Q E _ _ (Nat.le_trans hn (wakes_toks hr)) h⟩
  | yield _ _ _ _ => intro n Q E p s hn h; rw [Sem.wp] at h ⊢; exact h
  | stack k ih => intro n Q E p s hn h; rw [Sem.wp] at h ⊢; exact ih _ n Q E _ _ hn h
  | fork _ _ => intro n Q E p s hn h; rw [Sem.wp] at h ⊢; exact h
  | thread k ih => intro n Q E p s hn h; rw [Sem.wp] at h ⊢; exact ih _ n Q E _ _ hn h
  | await _ _ _ _ _ => intro n Q E p s hn h; rw [Sem.wp] at h ⊢; exact h
section
variable {α : Type} {M : Model} {A : Around} {E : Value → Shared → Prop} {s : Shared}
/-- behind any tree the tokens are no fewer -/
theorem toks_up {t : Sem α} {Q : α → Shared → Prop} (n : Nat) (hn : n ≤ s.toks) (h : wpAny M A t (fun a s' => n ≤ s'.toks → Q a s') E s) : wpAny M A t Q E s := by
  intro Γ p hΓ
  refine wp_toks M Γ t n _ _ p s hn ?_
  exact Sem.wp_mono M Γ t (fun _ _ _ q => q) (fun e p' s' (q : E e s') (_ : n ≤ s'.toks) => q) p s (h Γ p hΓ)
theorem execs_cons_gen {env : Env} {st rest} {Q : Flow → Shared → Prop} {h : Heap} {g : Array GenState} {d : Drawn} {X : Nat} {os : OsState} (hn : 1 ≤ X)
    (H : ∀ tk, 1 ≤ tk → wpAny M A (exec st env) (fun f s' => 1 ≤ s'.toks → match f with | .next => wpAny M A (execs rest env) Q E s' | f => Q f s') E ⟨h, g, d, tk, os⟩) :
    wpAny M A (execs (st :: rest) env) Q E ⟨h, g, d, X, os⟩ := wpAny_execs_cons (toks_up 1 (show 1 ≤ X from hn) (H X hn))
end
end Mine
end
section
namespace Mine
section
variable {prog : Program} {w : World} {A : Around} {E : Value → Shared → Prop} {s : Shared} {h₀ : Heap} {L : Addr} {m : Str → Option Value} {news : List (Addr × Obj)} {x y : Str} {t : Tok} {value slice : PySem.Expr} {Q : Value → Shared → Prop}
theorem sl_sn {i : Int} {ui : Tok} (e : Txt.slice x (some i) none = y) (hsz : x.length ≤ 2000) (hF : Fr h₀ L s.heap m) (hN : News h₀ L s.heap news) (h : ∀ h' t' k, s.toks ≤ k → y.length ≤ 2000 → Fr h₀ L h' m → News h₀ L h' news → Q (.str y t') { s with heap := h', toks := k })
    (hs : subscripted slice false (.str x t) (.ref s.heap.objs.size) = operate [.ref s.heap.objs.size, .str x t] (getItem (.str x t) (.ref s.heap.objs.size)) := by with_unfolding_all rfl)
    (ht : ∀ r, letTemporaryGo value (.str x t) r = pure () := by intro _; with_unfolding_all rfl) :
    wpAny (model prog w) A (subscriptTail value slice (.str x t) (.ref s.heap.objs.size)) Q E { s with heap := s.heap.push { cls := .type "slice", data := .fields #[.int i ui, .none, .none] } } := by
  subst e; exact toks_up s.toks (Nat.le_refl _) (slice_strN_sn hF hN (fun h' t' k F N l => h h' t' k l (Nat.le_trans (_root_.PyProof.Txt.length_slice_le x _ _) hsz) F N) hs ht (Nat.le_trans hsz (by decide)))
theorem sl_ns {j : Int} {uj : Tok} (e : Txt.slice x none (some j) = y) (hsz : x.length ≤ 2000) (hF : Fr h₀ L s.heap m) (hN : News h₀ L s.heap news) (h : ∀ h' t' k, s.toks ≤ k → y.length ≤ 2000 → Fr h₀ L h' m → News h₀ L h' news → Q (.str y t') { s with heap := h', toks := k })
    (hs : subscripted slice false (.str x t) (.ref s.heap.objs.size) = operate [.ref s.heap.objs.size, .str x t] (getItem (.str x t) (.ref s.heap.objs.size)) := by with_unfolding_all rfl)
    (ht : ∀ r, letTemporaryGo value (.str x t) r = pure () := by intro _; with_unfolding_all rfl) :
    wpAny (model prog w) A (subscriptTail value slice (.str x t) (.ref s.heap.objs.size)) Q E { s with heap := s.heap.push { cls := .type "slice", data := .fields #[.none, .int j uj, .none] } } := by
  subst e; exact toks_up s.toks (Nat.le_refl _) (slice_strN_ns hF hN (fun h' t' k F N l => h h' t' k l (Nat.le_trans (_root_.PyProof.Txt.length_slice_le x _ _) hsz) F N) hs ht (Nat.le_trans hsz (by decide)))
theorem sl_ss {i j : Int} {ui uj : Tok} (e : Txt.slice x (some i) (some j) = y) (hsz : x.length ≤ 2000) (hF : Fr h₀ L s.heap m) (hN : News h₀ L s.heap news) (h : ∀ h' t' k, s.toks ≤ k → y.length ≤ 2000 → Fr h₀ L h' m → News h₀ L h' news → Q (.str y t') { s with heap := h', toks := k })
    (hs : subscripted slice false (.str x t) (.ref s.heap.objs.size) = operate [.ref s.heap.objs.size, .str x t] (getItem (.str x t) (.ref s.heap.objs.size)) := by with_unfolding_all rfl)
    (ht : ∀ r, letTemporaryGo value (.str x t) r = pure () := by intro _; with_unfolding_all rfl) :
    wpAny (model prog w) A (subscriptTail value slice (.str x t) (.ref s.heap.objs.size)) Q E { s with heap := s.heap.push { cls := .type "slice", data := .fields #[.int i ui, .int j uj, .none] } } := by
  subst e; exact toks_up s.toks (Nat.le_refl _) (slice_strN_ss hF hN (fun h' t' k F N l => h h' t' k l (Nat.le_trans (_root_.PyProof.Txt.length_slice_le x _ _) hsz) F N) hs ht (Nat.le_trans hsz (by decide)))
end
/-- a length below 2000 is no matter of memory -/
theorem small_len {x : Str} (h : x.length ≤ 2000) : x.length ≤ sizeLine := Nat.le_trans h (by decide)
theorem repl_eq {prog : Program} {w : World} {A : Around} {E : Value → Shared → Prop} {s : Shared} {x y z r : Str} {t : Tok} {u v : Nat} {Q : Value → Shared → Prop} (e : Txt.replace x y z = r) (hu : 1 ≤ u) (huv : u + 1 = v) (hyz : (y == z) = false) (hx : x.length ≤ 2000) (hz : z.length ≤ 2)
    (h : ∀ t' k, s.toks ≤ k → Q (.str r t') { s with toks := k }) : wpAny (model prog w) A (call (.builtin "str.replace") [.str x t, .str y u, .str z v]) Q E s := by
  subst e
  have h1 : (x.length + 1) * z.length ≤ (x.length + 1) * 2 := Nat.mul_le_mul_left _ hz
  exact toks_up s.toks (Nat.le_refl _) (SC.replace (by show @Ne Nat u 0; omega) (by show @Ne Nat v 0; omega) (by show @Ne Nat u v; omega) hyz (by omega) fun t' k l => h t' k l)
theorem repl {prog : Program} {w : World} {A : Around} {E : Value → Shared → Prop} {s : Shared} {x y z : Str} {t : Tok} {u v : Nat} {Q : Value → Shared → Prop} (hu : 1 ≤ u) (huv : u + 1 = v) (hyz : (y == z) = false) (hx : x.length ≤ 2000) (hz : z.length ≤ 2)
    (h : ∀ t' k, s.toks ≤ k → Q (.str (Txt.replace x y z) t') { s with toks := k }) : wpAny (model prog w) A (call (.builtin "str.replace") [.str x t, .str y u, .str z v]) Q E s := by
  have h1 : (x.length + 1) * z.length ≤ (x.length + 1) * 2 := Nat.mul_le_mul_left _ hz
  exact toks_up s.toks (Nat.le_refl _) (SC.replace (by show @Ne Nat u 0; omega) (by show @Ne Nat v 0; omega) (by show @Ne Nat u v; omega) hyz (by omega) fun t' k l => h t' k l)
theorem if_yes {c : Bool} {P Q : Prop} (h : c = true) (p : P) : if c = true then P else Q := by subst h; exact p
theorem if_no {c : Bool} {P Q : Prop} (h : c = false) (q : Q) : if c = true then P else Q := by subst h; exact q
end Mine
local macro_rules | `(tactic| walk_at "my slices") => `(tactic| first
  | ((with_reducible show wpAny _ _ (subscriptTail _ (Expr.Slice (some _) none none _) _ _) _ _ _); (with_reducible rename Fr _ _ _ _ => F'); (with_reducible rename News _ _ _ _ => N'); (refine Mine.sl_sn (s := ⟨_, _, _, _, _⟩) (by first | with_reducible assumption | exact rfl) (by assumption) F' N' ?_); intro _ _ _ hk' _ _ _; (try dsimp only at hk'))
  | ((with_reducible show wpAny _ _ (subscriptTail _ (Expr.Slice none (some _) none _) _ _) _ _ _); (with_reducible rename Fr _ _ _ _ => F'); (with_reducible rename News _ _ _ _ => N'); (refine Mine.sl_ns (s := ⟨_, _, _, _, _⟩) (by first | with_reducible assumption | exact rfl) (by assumption) F' N' ?_); intro _ _ _ hk' _ _ _; (try dsimp only at hk'))
  | ((with_reducible show wpAny _ _ (subscriptTail _ (Expr.Slice (some _) (some _) none _) _ _) _ _ _); (with_reducible rename Fr _ _ _ _ => F'); (with_reducible rename News _ _ _ _ => N'); (refine Mine.sl_ss (s := ⟨_, _, _, _, _⟩) (by first | with_reducible assumption | exact rfl) (by assumption) F' N' ?_); intro _ _ _ hk' _ _ _; (try dsimp only at hk')))
local macro_rules | `(tactic| walk_at "subscriptTail Name Slice str ref") => `(tactic| walk_at "my slices")
local macro_rules | `(tactic| walk_at "call builtin:str.replace") => `(tactic| (k_here; (first | (refine Mine.repl_eq (by with_reducible assumption) (by omega) (by rfl) (by decide) (by first | assumption | decide +kernel) (by decide) ?_) | (refine Mine.repl (by omega) (by rfl) (by decide) (by assumption) (by decide) ?_)); intro _ _ hk'; (try dsimp only at hk')))
local macro_rules | `(tactic| walk_at "tk") => `(tactic| first | with_reducible assumption | exact Nat.le_add_left 1 _ | (refine Nat.le_trans ?_ (by with_reducible assumption); walk_at "tk"))
local macro_rules | `(tactic| walk_at "execs cons") => `(tactic| (k_here; (refine Mine.execs_cons_gen (by first | walk_at "tk" | omega | ((try dsimp only at *); omega)) ?_); intro _ _; (try k_fold)))
local macro_rules | `(tactic| walk_at "cr") => `(tactic| ((iterate 16 (try (first | with_reducible assumption | with_reducible apply And.right))); done))
local macro_rules | `(tactic| walk_at "cj") => `(tactic| first | walk_at "cr" | ((with_reducible apply And.left); walk_at "cr"))
local macro_rules | `(tactic| k_ne) => `(tactic| ((refine neN ?_); (try dsimp only); first | (refine Nat.ne_of_lt ?_; walk_at "cj") | (refine Nat.ne_of_gt ?_; walk_at "cj") | walk_at "cj" | (refine Ne.symm ?_; walk_at "cj") | omega))
local macro_rules | `(tactic| k_lt $h:ident) => `(tactic| (replace $h := allLt_of $h; dsimp only [AllLt] at $h:ident))
local macro_rules | `(tactic| walk_at "go") => `(tactic| repeat' (first | (k_unfold; (try dsimp only)) | (walk1; (try dsimp only))))
local macro_rules | `(tactic| walk_at "forall") => `(tactic| ((with_reducible show 1 ≤ _ → _); intro ht'; (try dsimp only at ht')))
local macro_rules | `(tactic| walk_at "call builtin:str.rfind") => `(tactic| (k_here; (refine KXw.rfind (by with_reducible assumption) ?_); intro _ _))
local macro_rules | `(tactic| k_all) => `(tactic| first | with_reducible assumption | with_reducible exact List.forall_mem_nil _ | (refine' List.forall_mem_cons.mpr ⟨?a, ?b⟩; (case a => k_ne); (case b => k_all)))
local macro_rules | `(tactic| walk_at "exec While Compare cons nil") => `(tactic| k_extra "while")
local macro_rules | `(tactic| walk_at "WhlIf") => `(tactic| first | (refine WhlIf.yes (decide_eq_true (by omega)) ?_) | (refine WhlIf.no (decide_eq_false (by omega)) ?_))
local macro_rules | `(tactic| walk_at "ite") => `(tactic| first
  | (refine Mine.if_yes (by with_reducible assumption) ?_) | (refine Mine.if_no (by with_reducible assumption) ?_)
  | (refine Mine.if_yes (by decide +kernel) ?_) | (refine Mine.if_no (by decide +kernel) ?_)
  | ((with_reducible show (if decide _ = true then _ else _)); first | (refine Mine.if_yes (decide_eq_true (by omega)) ?_) | (refine Mine.if_no (decide_eq_false (by omega)) ?_)))
end
section
namespace Mine
theorem item_app {x : Str} {k : Int} {pre post : List Nat} {c : Nat} (hx : x = ⟨(pre ++ c :: post).toArray⟩) (hk : k = pre.length) : Txt.item x k = ⟨#[c]⟩ := by
  subst hx hk
  unfold Txt.item Txt.charAt
  have hl : (⟨(pre ++ c :: post).toArray⟩ : Str).length = pre.length + 1 + post.length := by simp [Str.length]; omega
  have e : seqIndex? (pre.length : Int) (⟨(pre ++ c :: post).toArray⟩ : Str).length = some pre.length := by
    rw [hl]
    unfold seqIndex?
    have h1 : ¬ ((pre.length : Int) < 0) := by omega
    simp only [h1, if_false]
    rw [if_pos (by simp only [Bool.and_eq_true, decide_eq_true_eq]; omega)]
    simp
  rw [e]
  simp
theorem item_at {x : Str} {k : Int} {pre post : List Nat} {c : Nat} (j : Nat) (hx : x = ⟨(pre ++ post).toArray⟩) (hk : k = pre.length + j) (hc : post[j]? = some c) : Txt.item x k = ⟨#[c]⟩ := by
  obtain ⟨hl, he⟩ := List.getElem?_eq_some_iff.mp hc
  refine item_app (pre := pre ++ post.take j) (post := post.drop (j + 1)) ?_ ?_
  · rw [hx]
    congr 2
    rw [List.append_assoc]
    congr 1
    conv => lhs; rw [← List.take_append_drop j post]
    congr 1
    rw [List.drop_eq_getElem_cons hl, he]
  · rw [hk, List.length_append, List.length_take]
    omega
theorem slice_app {x : Str} {i j : Int} {pre mid post : List Nat} (hx : x = ⟨(pre ++ (mid ++ post)).toArray⟩) (hi : i = pre.length) (hj : j = (pre.length + mid.length : Nat)) : Txt.slice x (some i) (some j) = ⟨mid.toArray⟩ := by
  subst hx hi hj
  have h := slice_closes (x := ⟨(pre ++ (mid ++ post)).toArray⟩) (i := (pre.length : Int)) (j := ((pre.length + mid.length : Nat) : Int)) ⟨by omega, by omega, by simp; omega⟩
  rw [eq_of_beq h]
  congr 1
  congr 1
  have e1 : ((pre.length : Int)).toNat = pre.length := by omega
  have e2 : (((pre.length + mid.length : Nat) : Int) - (pre.length : Int)).toNat = mid.length := by omega
  rw [e1, e2]
  simp
theorem slice_from_app {x : Str} {i : Int} {pre post : List Nat} (hx : x = ⟨(pre ++ post).toArray⟩) (hi : i = pre.length) : Txt.slice x (some i) none = ⟨post.toArray⟩ := by
  subst hx hi
  rw [slice_from_eq (b := ((pre ++ post).length : Int)) (by omega) (by simp [Str.length]; omega) (by simp [Str.length])]
  congr 1
  congr 1
  have e1 : ((pre.length : Int)).toNat = pre.length := by omega
  have e2 : (((pre ++ post).length : Int) - (pre.length : Int)).toNat = post.length := by simp; omega
  rw [e1, e2]
  simp
theorem slice_to_app {x : Str} {j : Int} {pre post : List Nat} (hx : x = ⟨(pre ++ post).toArray⟩) (hj : j = pre.length) : Txt.slice x none (some j) = ⟨pre.toArray⟩ := by
  subst hx hj
  have h := slice_closes_to (x := ⟨(pre ++ post).toArray⟩) (j := (pre.length : Int)) ⟨by omega, by simp; omega⟩
  rw [eq_of_beq h]
  congr 1
  congr 1
  have e1 : ((pre.length : Int) - 0).toNat = pre.length := by omega
  have e0 : ((0 : Int)).toNat = 0 := rfl
  rw [e1, e0]
  simp
end Mine
end
section
local macro_rules | `(tactic| walk_at "my slices") => `(tactic| first
  | ((with_reducible show wpAny _ _ (subscriptTail _ (Expr.Slice (some _) none none _) _ _) _ _ _); (with_reducible rename Fr _ _ _ _ => F'); (with_reducible rename News _ _ _ _ => N'); (refine Mine.sl_sn (s := ⟨_, _, _, _, _⟩) (by first | with_reducible assumption | exact rfl) (by assumption) F' N' ?_); intro _ _ _ hk' _ _ _; (try dsimp only at hk'))
  | ((with_reducible show wpAny _ _ (subscriptTail _ (Expr.Slice none (some _) none _) _ _) _ _ _); (with_reducible rename Fr _ _ _ _ => F'); (with_reducible rename News _ _ _ _ => N'); (refine Mine.sl_ns (s := ⟨_, _, _, _, _⟩) (by first | with_reducible assumption | exact rfl) (by assumption) F' N' ?_); intro _ _ _ hk' _ _ _; (try dsimp only at hk'))
  | ((with_reducible show wpAny _ _ (subscriptTail _ (Expr.Slice (some _) (some _) none _) _ _) _ _ _); (with_reducible rename Fr _ _ _ _ => F'); (with_reducible rename News _ _ _ _ => N'); (refine Mine.sl_ss (s := ⟨_, _, _, _, _⟩) (by first | with_reducible assumption | exact rfl) (by assumption) F' N' ?_); intro _ _ _ hk' _ _ _; (try dsimp only at hk')))
local macro_rules | `(tactic| walk_at "subscriptTail Name Slice str ref") => `(tactic| walk_at "my slices")
local macro_rules | `(tactic| walk_at "call builtin:str.replace") => `(tactic| (k_here; (first | (refine Mine.repl_eq (by with_reducible assumption) (by omega) (by rfl) (by decide) (by first | assumption | decide +kernel) (by decide) ?_) | (refine Mine.repl (by omega) (by rfl) (by decide) (by assumption) (by decide) ?_)); intro _ _ hk'; (try dsimp only at hk')))
local macro_rules | `(tactic| walk_at "tk") => `(tactic| first | with_reducible assumption | exact Nat.le_add_left 1 _ | (refine Nat.le_trans ?_ (by with_reducible assumption); walk_at "tk"))
local macro_rules | `(tactic| walk_at "execs cons") => `(tactic| (k_here; (refine Mine.execs_cons_gen (by first | walk_at "tk" | omega | ((try dsimp only at *); omega)) ?_); intro _ _; (try k_fold)))
local macro_rules | `(tactic| walk_at "cr") => `(tactic| ((iterate 16 (try (first | with_reducible assumption | with_reducible apply And.right))); done))
local macro_rules | `(tactic| walk_at "cj") => `(tactic| first | walk_at "cr" | ((with_reducible apply And.left); walk_at "cr"))
local macro_rules | `(tactic| k_ne) => `(tactic| ((refine neN ?_); (try dsimp only); first | (refine Nat.ne_of_lt ?_; walk_at "cj") | (refine Nat.ne_of_gt ?_; walk_at "cj") | walk_at "cj" | (refine Ne.symm ?_; walk_at "cj") | omega))
local macro_rules | `(tactic| k_lt $h:ident) => `(tactic| (replace $h := allLt_of $h; dsimp only [AllLt] at $h:ident))
local macro_rules | `(tactic| walk_at "go") => `(tactic| repeat' (first | (k_unfold; (try dsimp only)) | (walk1; (try dsimp only))))
local macro_rules | `(tactic| walk_at "forall") => `(tactic| ((with_reducible show 1 ≤ _ → _); intro ht'; (try dsimp only at ht')))
local macro_rules | `(tactic| walk_at "call builtin:str.rfind") => `(tactic| (k_here; (refine KXw.rfind (by with_reducible assumption) ?_); intro _ _))
local macro_rules | `(tactic| k_all) => `(tactic| first | with_reducible assumption | with_reducible exact List.forall_mem_nil _ | (refine' List.forall_mem_cons.mpr ⟨?a, ?b⟩; (case a => k_ne); (case b => k_all)))
local macro_rules | `(tactic| walk_at "exec While Compare cons nil") => `(tactic| k_extra "while")
local macro_rules | `(tactic| walk_at "WhlIf") => `(tactic| first | (refine WhlIf.yes (decide_eq_true (by omega)) ?_) | (refine WhlIf.no (decide_eq_false (by omega)) ?_))
local macro_rules | `(tactic| walk_at "ite") => `(tactic| first
  | (refine Mine.if_yes (by with_reducible assumption) ?_) | (refine Mine.if_no (by with_reducible assumption) ?_)
  | (refine Mine.if_yes (by decide +kernel) ?_) | (refine Mine.if_no (by decide +kernel) ?_)
  | ((with_reducible show (if decide _ = true then _ else _)); first | (refine Mine.if_yes (decide_eq_true (by omega)) ?_) | (refine Mine.if_no (decide_eq_false (by omega)) ?_)))
namespace Mine
set_option maxRecDepth 100000 in
set_option maxHeartbeats 8000000 in
theorem modname_dot (x b y z : Str) (t : Tok) (i d : Int) (news : List (Addr × Obj)) (hx : x.length ≤ 2000) (hb : b.length ≤ 2000)
    (h1 : Txt.rfind x (Str.ofString "/") = i) (h2 : Txt.slice x (some (i + 1)) none = b) (h3 : Txt.rfind b (Str.ofString "/") = -1) (h4 : Txt.rfind b (Str.ofString ".") = d) (hd : 0 < d)
    (h5 : Txt.slice b (some (-1 + 1)) (some (-1 + 1 + 1)) = z) (h5' : (z != Str.ofString ".") = true) (h6 : Txt.slice b none (some d) = y) :
    Claim 73 [.str x t] news (fun r news' => (∃ t', r = .str y t') ∧ news' = news) := by
  unfold Claim
  k_fill
  intro w p loose mean mg mb cn cs a ccd base h₀ L m s Q E B F X N T hk htk hret
  k_with_none
  k_with "while" => refine whl_start 5 ?_
  refine wpAny_call ?_
  k_dflt cell_enter
  k_steps
  all_goals (refine hret _ news _ _ ?e2 ?e3 ⟨⟨_, rfl⟩, rfl⟩; (case e2 => k_asm); (case e3 => first | k_asm | (refine' cb_drop ?cbN ?cbS; (case cbN => assumption); (case cbS => kcj_all))))

set_option maxRecDepth 100000 in
set_option maxHeartbeats 8000000 in
theorem modname_bare (x b : Str) (t : Tok) (i : Int) (news : List (Addr × Obj)) (hx : x.length ≤ 2000) (hb : b.length ≤ 2000)
    (h1 : Txt.rfind x (Str.ofString "/") = i) (h2 : Txt.slice x (some (i + 1)) none = b) (h3 : Txt.rfind b (Str.ofString "/") = -1) (h4 : Txt.rfind b (Str.ofString ".") = -1) (h5 : Txt.slice b none (some 0) = Str.ofString "") :
    Claim 73 [.str x t] news (fun r news' => (∃ t', r = .str b t') ∧ news' = news) := by
  unfold Claim
  k_fill
  intro w p loose mean mg mb cn cs a ccd base h₀ L m s Q E B F X N T hk htk hret
  k_with_none
  refine wpAny_call ?_
  k_dflt cell_enter
  k_steps
  all_goals (refine hret _ news _ _ ?e2 ?e3 ⟨⟨_, rfl⟩, rfl⟩; (case e2 => k_asm); (case e3 => first | k_asm | (refine' cb_drop ?cbN ?cbS; (case cbN => assumption); (case cbS => kcj_all))))
end Mine
end
section
local macro_rules | `(tactic| walk_at "my slices") => `(tactic| first
  | ((with_reducible show wpAny _ _ (subscriptTail _ (Expr.Slice (some _) none none _) _ _) _ _ _); (with_reducible rename Fr _ _ _ _ => F'); (with_reducible rename News _ _ _ _ => N'); (refine Mine.sl_sn (s := ⟨_, _, _, _, _⟩) (by first | with_reducible assumption | exact rfl) (by assumption) F' N' ?_); intro _ _ _ hk' _ _ _; (try dsimp only at hk'))
  | ((with_reducible show wpAny _ _ (subscriptTail _ (Expr.Slice none (some _) none _) _ _) _ _ _); (with_reducible rename Fr _ _ _ _ => F'); (with_reducible rename News _ _ _ _ => N'); (refine Mine.sl_ns (s := ⟨_, _, _, _, _⟩) (by first | with_reducible assumption | exact rfl) (by assumption) F' N' ?_); intro _ _ _ hk' _ _ _; (try dsimp only at hk'))
  | ((with_reducible show wpAny _ _ (subscriptTail _ (Expr.Slice (some _) (some _) none _) _ _) _ _ _); (with_reducible rename Fr _ _ _ _ => F'); (with_reducible rename News _ _ _ _ => N'); (refine Mine.sl_ss (s := ⟨_, _, _, _, _⟩) (by first | with_reducible assumption | exact rfl) (by assumption) F' N' ?_); intro _ _ _ hk' _ _ _; (try dsimp only at hk')))
local macro_rules | `(tactic| walk_at "subscriptTail Name Slice str ref") => `(tactic| walk_at "my slices")
local macro_rules | `(tactic| walk_at "call builtin:str.replace") => `(tactic| (k_here; (first | (refine Mine.repl_eq (by with_reducible assumption) (by omega) (by rfl) (by decide) (by first | assumption | decide +kernel) (by decide) ?_) | (refine Mine.repl (by omega) (by rfl) (by decide) (by assumption) (by decide) ?_)); intro _ _ hk'; (try dsimp only at hk')))
local macro_rules | `(tactic| walk_at "tk") => `(tactic| first | with_reducible assumption | exact Nat.le_add_left 1 _ | (refine Nat.le_trans ?_ (by with_reducible assumption); walk_at "tk"))
local macro_rules | `(tactic| walk_at "execs cons") => `(tactic| (k_here; (refine Mine.execs_cons_gen (by first | walk_at "tk" | omega | ((try dsimp only at *); omega)) ?_); intro _ _; (try k_fold)))
local macro_rules | `(tactic| walk_at "cr") => `(tactic| ((iterate 16 (try (first | with_reducible assumption | with_reducible apply And.right))); done))
local macro_rules | `(tactic| walk_at "cj") => `(tactic| first | walk_at "cr" | ((with_reducible apply And.left); walk_at "cr"))
local macro_rules | `(tactic| k_ne) => `(tactic| ((refine neN ?_); (try dsimp only); first | (refine Nat.ne_of_lt ?_; walk_at "cj") | (refine Nat.ne_of_gt ?_; walk_at "cj") | walk_at "cj" | (refine Ne.symm ?_; walk_at "cj") | omega))
local macro_rules | `(tactic| k_lt $h:ident) => `(tactic| (replace $h := allLt_of $h; dsimp only [AllLt] at $h:ident))
local macro_rules | `(tactic| walk_at "go") => `(tactic| repeat' (first | (k_unfold; (try dsimp only)) | (walk1; (try dsimp only))))
local macro_rules | `(tactic| walk_at "forall") => `(tactic| ((with_reducible show 1 ≤ _ → _); intro ht'; (try dsimp only at ht')))
local macro_rules | `(tactic| walk_at "call builtin:str.rfind") => `(tactic| (k_here; (refine KXw.rfind (by with_reducible assumption) ?_); intro _ _))
local macro_rules | `(tactic| k_all) => `(tactic| first | with_reducible assumption | with_reducible exact List.forall_mem_nil _ | (refine' List.forall_mem_cons.mpr ⟨?a, ?b⟩; (case a => k_ne); (case b => k_all)))
local macro_rules | `(tactic| walk_at "exec While Compare cons nil") => `(tactic| k_extra "while")
local macro_rules | `(tactic| walk_at "WhlIf") => `(tactic| first | (refine WhlIf.yes (decide_eq_true (by omega)) ?_) | (refine WhlIf.no (decide_eq_false (by omega)) ?_))
local macro_rules | `(tactic| walk_at "ite") => `(tactic| first
  | (refine Mine.if_yes (by with_reducible assumption) ?_) | (refine Mine.if_no (by with_reducible assumption) ?_)
  | (refine Mine.if_yes (by decide +kernel) ?_) | (refine Mine.if_no (by decide +kernel) ?_)
  | ((with_reducible show (if decide _ = true then _ else _)); first | (refine Mine.if_yes (decide_eq_true (by omega)) ?_) | (refine Mine.if_no (decide_eq_false (by omega)) ?_)))
namespace Mine
/-- what _law_read finds in a piece -/
inductive ReadIs (p : Str) : Bool → Str → Prop
  | dot : (p == Str.ofString ".") = true → ReadIs p true (Str.ofString "")
  | bsA : (p == Str.ofString ".") = false → (Txt.item p 0 == Str.ofString "\\") = true → Txt.isalnum (Txt.slice p (some 1) none) = true → ReadIs p false (Str.ofString "")
  | bs : (p == Str.ofString ".") = false → (Txt.item p 0 == Str.ofString "\\") = true → Txt.isalnum (Txt.slice p (some 1) none) = false → ReadIs p false (Txt.slice p (some 1) none)
  | neg : (p == Str.ofString ".") = false → (Txt.item p 0 == Str.ofString "\\") = false → (Txt.slice p none (some 2) == Str.ofString "[^") = true → ReadIs p true (Txt.slice p (some 2) (some (-1)))
  | set : (p == Str.ofString ".") = false → (Txt.item p 0 == Str.ofString "\\") = false → (Txt.slice p none (some 2) == Str.ofString "[^") = false → (Txt.item p 0 == Str.ofString "[") = true →
      ReadIs p false (Txt.replace (Txt.slice p (some 1) (some (-1))) (Str.ofString "\\") (Str.ofString ""))
  | off : (p == Str.ofString ".") = false → (Txt.item p 0 == Str.ofString "\\") = false → (Txt.slice p none (some 2) == Str.ofString "[^") = false → (Txt.item p 0 == Str.ofString "[") = false →
      (Builtin.Str.occurrences (Str.ofString "$()*+?^{|}") p 0 (Str.ofString "$()*+?^{|}").length 1).isEmpty = false → ReadIs p false (Str.ofString "")
  | one : (p == Str.ofString ".") = false → (Txt.item p 0 == Str.ofString "\\") = false → (Txt.slice p none (some 2) == Str.ofString "[^") = false → (Txt.item p 0 == Str.ofString "[") = false →
      (Builtin.Str.occurrences (Str.ofString "$()*+?^{|}") p 0 (Str.ofString "$()*+?^{|}").length 1).isEmpty = true → ReadIs p false p
/-- what _law_read hands back: a tuple of a bool and a text, the newest of the ledger -/
def ReadPost (p : Str) (news : List (Addr × Obj)) (r : Value) (news' : List (Addr × Obj)) : Prop :=
  ∃ a b cs t, r = .ref a ∧ news' = (a, ({ cls := .type "tuple", data := .seq [.bool b, .str cs t].toArray } : Obj)) :: news ∧ (∀ q ∈ news, q.1 < a) ∧ ReadIs p b cs
end Mine
namespace Mine
/-- a call of a def of the text's, whatever tokens have been handed out -/
def Claim0 (f : Addr) (vs : List Value) (news : List (Addr × Obj)) (post : Value → List (Addr × Obj) → Prop) : Prop :=
  ∀ (w : World) (p : Program) (loose : List Str) (mean : ExcName → Option Value) (mg mb : Str → Option Value) (cn : Str) (cs : Scope) (a : Addr) (ccd : Value)
    (base h₀ : Heap) (L : Addr) (m : Str → Option Value) (s : Shared) (Q E : Value → Shared → Prop),
    Below callerA base [] h₀ → Fr h₀ L s.heap m → (Mine.pre.heap_1 w.params).In h₀ → News h₀ L s.heap news → Top p loose mean mg mb h₀ → cs.kind = .function →
    (∀ r news' h' tk', Fr h₀ L h' m → News h₀ L h' news' → post r news' → Q r { s with heap := h', toks := tk' }) →
    wpAny (model PySem.Challenge.rw_rx0001_01.row.prog w) (callerA.deeper (envOf cn cs L a ccd)) (call (.ref f) vs) Q E s
theorem execs_cons_up {M : Model} {A : Around} {E : Value → Shared → Prop} {env : Env} {st rest} {Q : Flow → Shared → Prop} {h : Heap} {g : Array GenState} {d : Drawn} {X : Nat} {os : OsState}
    (H : wpAny M A (exec st env) (fun f s' => X ≤ s'.toks → match f with | .next => wpAny M A (execs rest env) Q E s' | f => Q f s') E ⟨h, g, d, X, os⟩) :
    wpAny M A (execs (st :: rest) env) Q E ⟨h, g, d, X, os⟩ := wpAny_execs_cons (toks_up X (Nat.le_refl _) H)
end Mine
local macro_rules | `(tactic| walk_at "execs cons") => `(tactic| (k_here; (refine Mine.execs_cons_up ?_); (try k_fold)))
local macro_rules | `(tactic| walk_at "forall") => `(tactic| ((with_reducible show _ ≤ _ → _); intro ht'; (try dsimp only at ht')))
namespace Mine
set_option maxRecDepth 100000 in
set_option maxHeartbeats 8000000 in
theorem read_none0 (news : List (Addr × Obj)) : Claim0 111 [.none] news (fun r news' => r = .none ∧ news' = news) := by
  unfold Claim0
  k_fill
  intro w p loose mean mg mb cn cs a ccd base h₀ L m ⟨sh, sg, sd, st, so⟩ Q E B F X N T hk hret
  k_with_none
  refine wpAny_call ?_
  k_dflt cell_enter
  k_steps
  all_goals (refine' hret _ _ _ _ ?e2 ?e3 ⟨rfl, rfl⟩; (case e2 => k_asm); (case e3 => k_asm))
set_option maxRecDepth 100000 in
set_option maxHeartbeats 8000000 in
theorem read_str0 (x : Str) (t : Tok) (news : List (Addr × Obj)) (h1 : 1 ≤ x.length) (h2 : x.length ≤ 2000) : Claim0 111 [.str x t] news (ReadPost x news) := by
  unfold Claim0
  k_fill
  intro w p loose mean mg mb cn cs a ccd base h₀ L m ⟨sh, sg, sd, st, so⟩ Q E B F X N T hk hret
  k_with_none
  refine wpAny_call ?_
  k_dflt cell_enter
  k_steps
  all_goals ((refine' hret _ _ _ _ ?_ ?_ ⟨_, _, _, _, rfl, rfl, ?_, ?_⟩) <;> first
    | k_asm
    | exact .dot (by assumption)
    | exact .bsA (by assumption) (by assumption) (by assumption)
    | exact .bs (by assumption) (by assumption) (by assumption)
    | exact .neg (by assumption) (by assumption) (by assumption)
    | exact .set (by assumption) (by assumption) (by assumption) (by assumption)
    | exact .off (by assumption) (by assumption) (by assumption) (by assumption) (by assumption)
    | exact .one (by assumption) (by assumption) (by assumption) (by assumption) (by assumption))
end Mine
end
section
namespace Mine
section
variable {prog : Program} {w : World} {A : Around} {E : Value → Shared → Prop} {s : Shared} {d : Addr} {f : Int → Option Value} {c : Nat}
theorem sub_keyerror : isSubtype (.type "KeyError") (.type "LookupError") = pure true := by rw [isSubtype_type]; kernel_rfl
theorem look_miss {Q : Builtin.Str.Mapped → Shared → Prop} (hh : A.handled = none) (hd : (d == sysModules) = false) (hm : s.heap.MapOf (intKind prog w) d f) (hv : f c = none)
    (h : ∀ h' tk, (∀ b o, s.heap.get? b = some o → h'.get? b = some o) → Q .keep { s with heap := h', toks := tk }) : wpAny (model prog w) A (Builtin.Str.tableLookup (.ref d) c) Q E s := by
  unfold Builtin.Str.tableLookup
  refine wpAny_bind (wpAny_attempt (wpAny_bind (wpAny_mkInt (wpAny_getItem_missing_of (knd := intKind prog w) (k := (c : Int)) (f := f) (by simp [intKind, Value.isInt]) hd hh hm hv fun h' e x => ?_))))
  dsimp only
  obtain ⟨ob, tt, he, hc, _⟩ := x.there
  refine wpAny_bind (wpAny_isInstance (T := "KeyError") (b := true) ⟨ob, he, hc⟩ sub_keyerror ?_)
  rw [if_pos rfl]
  exact wpAny_bind (wpAny_rule (wpAny_pure (h _ _ x.keeps)))
theorem look_hit {x : Str} {t : Tok} {Q : Builtin.Str.Mapped → Shared → Prop} (hm : s.heap.MapOf (intKind prog w) d f) (hv : f c = some (.str x t))
    (h : ∀ tk, Q (.text x) { s with toks := tk }) : wpAny (model prog w) A (Builtin.Str.tableLookup (.ref d) c) Q E s := by
  unfold Builtin.Str.tableLookup
  refine wpAny_bind (wpAny_attempt (wpAny_bind (wpAny_mkInt (wpAny_getItem_of (knd := intKind prog w) (k := (c : Int)) (f := f) (by simp [intKind, Value.isInt]) hm hv ?_))))
  dsimp only
  show wpAny (model prog w) A (Sem.bind (asInt? (.str x t)) _) _ _ _
  refine wpAny_bind (wpAny_of_eq (a := none) rfl ?_)
  dsimp only
  refine wpAny_bind (wpAny_of_eq (a := some x) rfl ?_)
  dsimp only
  exact wpAny_pure (h _)
/-- what a table of texts makes of one sign -/
def mapped (f : Int → Option Value) (c : Nat) : Str := match f c with
  | some (.str x _) => x
  | _ => ⟨#[c]⟩
theorem translate_one {t : Tok} {Q : Value → Shared → Prop} (hh : A.handled = none) (hd : (d == sysModules) = false) (hm : s.heap.MapOf (intKind prog w) d f) (hf : f c = none ∨ ∃ x t, f c = some (.str x t) ∧ x.length = 2)
    (h : ∀ h' t' tk, (∀ b o, s.heap.get? b = some o → h'.get? b = some o) → Q (.str (mapped f c) t') { s with heap := h', toks := tk }) : wpAny (model prog w) A (call (.builtin "str.translate") [.str ⟨#[c]⟩ t, .ref d]) Q E s := by
  refine wpAny_call_entry F.slot_str_translate (typeIs_str _ _ _) F.entry_str_translate ?_ (F.args_str_translate_2 _ _)
  unfold Builtin.«str.translate»
  refine wpAny_bind (wpAny_of_eq (a := (.str ⟨#[c]⟩ t, ⟨#[c]⟩, .ref d)) rfl ?_)
  dsimp only
  rw [if_neg (show ¬ (({ cps := #[c] } : Str).length == 0) = true from fun h => by simp [Str.length] at h), ← Array.forIn_toList]
  show wpAny _ _ (Bind.bind (forIn [c] _ _) _) _ _ _
  rw [List.forIn_cons]
  have tl : Builtin.Str.tooLong 0 = false := by decide
  have tl1 : Builtin.Str.tooLong 1 = false := by decide
  have tl2 : Builtin.Str.tooLong 2 = false := by decide
  have fin : ∀ (fast : Bool) (known : List (Nat × Option Nat)) (h' : Heap) (tk : Nat), (∀ b o, s.heap.get? b = some o → h'.get? b = some o) → 
     wpAny (model prog w) A.in1 (retStr { cps := List.foldl (fun acc p => acc ++ p.cps) #[] [mapped f c].reverse }) (fun fin s' => ∃ v, fin = Fin.done (Flow.ret v) ∧ Q v s') E { s with heap := h', toks := tk } := by
    intro fast known h' tk hk
    unfold retStr
    have e : ({ cps := List.foldl (fun acc p => acc ++ p.cps) #[] [mapped f c].reverse } : Str) = mapped f c := by simp
    rw [e]
    have hl : (mapped f c).length ≤ 2 := by
      unfold mapped
      rcases hf with h0 | ⟨x, t, h0, hx⟩
      · rw [h0]; show 1 ≤ 2; decide
      · rw [h0]; dsimp only; omega
    refine wpAny_bind (wpAny_mkStr ?_ (Nat.le_trans hl (by decide)))
    exact wpAny_pure ⟨_, rfl, h _ _ _ hk⟩
  have em : f c = none → mapped f c = ⟨#[c]⟩ := fun e => by unfold mapped; rw [e]
  have et : ∀ x t, f c = some (.str x t) → mapped f c = x := fun x t e => by unfold mapped; rw [e]
  refine wpAny_bind (wpAny_bind ?_)
  dsimp only
  rw [tl]
  simp only [Bool.false_eq_true, if_false, List.lookup_nil]
  rcases hf with h0 | ⟨x, t, h0, hx⟩
  · have em' := em h0
    split
    · refine wpAny_bind (look_miss (A := A.in1) hh hd hm h0 fun h' tk hk => ?_)
      dsimp only
      refine wpAny_bind (wpAny_pure ?_)
      dsimp only
      refine wpAny_pure ?_
      dsimp only
      rw [List.forIn_nil]
      refine wpAny_pure ?_
      dsimp only
      rw [show Builtin.Str.tooLong (0 + 1) = false from tl1]
      simp only [Bool.false_eq_true, if_false]
      rw [← em']
      exact fin false [] h' tk hk
    · refine wpAny_bind (look_miss (A := A.in1) hh hd hm h0 fun h' tk hk => ?_)
      dsimp only
      refine wpAny_pure ?_
      dsimp only
      rw [List.forIn_nil]
      refine wpAny_pure ?_
      dsimp only
      rw [show Builtin.Str.tooLong (0 + 1) = false from tl1]
      simp only [Bool.false_eq_true, if_false]
      rw [← em']
      exact fin false [] h' tk hk
  · have em' := et _ _ h0
    split
    · refine wpAny_bind (look_hit (A := A.in1) hm h0 fun tk => ?_)
      dsimp only
      rw [if_neg (by rw [hx]; simp)]
      dsimp only
      refine wpAny_bind (wpAny_pure ?_)
      dsimp only
      refine wpAny_bind (wpAny_rule ?_)
      refine wpAny_bind (look_hit (A := A.in1) hm h0 fun tk => ?_)
      dsimp only
      refine wpAny_pure ?_
      dsimp only
      rw [List.forIn_nil]
      refine wpAny_pure ?_
      dsimp only
      rw [hx, show Builtin.Str.tooLong (0 + 2) = false from tl2]
      simp only [Bool.false_eq_true, if_false]
      rw [← em']
      exact fin false [] s.heap _ fun _ _ e => e
    · refine wpAny_bind (look_hit (A := A.in1) hm h0 fun tk => ?_)
      dsimp only
      refine wpAny_pure ?_
      dsimp only
      rw [List.forIn_nil]
      refine wpAny_pure ?_
      dsimp only
      rw [hx, show Builtin.Str.tooLong (0 + 2) = false from tl2]
      simp only [Bool.false_eq_true, if_false]
      rw [← em']
      exact fin false [] s.heap _ fun _ _ e => e
end
end Mine
end
section
local macro_rules | `(tactic| walk_at "my slices") => `(tactic| first
  | ((with_reducible show wpAny _ _ (subscriptTail _ (Expr.Slice (some _) none none _) _ _) _ _ _); (with_reducible rename Fr _ _ _ _ => F'); (with_reducible rename News _ _ _ _ => N'); (refine Mine.sl_sn (s := ⟨_, _, _, _, _⟩) (by first | with_reducible assumption | exact rfl) (by assumption) F' N' ?_); intro _ _ _ hk' _ _ _; (try dsimp only at hk'))
  | ((with_reducible show wpAny _ _ (subscriptTail _ (Expr.Slice none (some _) none _) _ _) _ _ _); (with_reducible rename Fr _ _ _ _ => F'); (with_reducible rename News _ _ _ _ => N'); (refine Mine.sl_ns (s := ⟨_, _, _, _, _⟩) (by first | with_reducible assumption | exact rfl) (by assumption) F' N' ?_); intro _ _ _ hk' _ _ _; (try dsimp only at hk'))
  | ((with_reducible show wpAny _ _ (subscriptTail _ (Expr.Slice (some _) (some _) none _) _ _) _ _ _); (with_reducible rename Fr _ _ _ _ => F'); (with_reducible rename News _ _ _ _ => N'); (refine Mine.sl_ss (s := ⟨_, _, _, _, _⟩) (by first | with_reducible assumption | exact rfl) (by assumption) F' N' ?_); intro _ _ _ hk' _ _ _; (try dsimp only at hk')))
local macro_rules | `(tactic| walk_at "subscriptTail Name Slice str ref") => `(tactic| walk_at "my slices")
local macro_rules | `(tactic| walk_at "call builtin:str.replace") => `(tactic| (k_here; (first | (refine Mine.repl_eq (by with_reducible assumption) (by omega) (by rfl) (by decide) (by first | assumption | decide +kernel) (by decide) ?_) | (refine Mine.repl (by omega) (by rfl) (by decide) (by assumption) (by decide) ?_)); intro _ _ hk'; (try dsimp only at hk')))
local macro_rules | `(tactic| walk_at "tk") => `(tactic| first | with_reducible assumption | exact Nat.le_add_left 1 _ | (refine Nat.le_trans ?_ (by with_reducible assumption); walk_at "tk"))
local macro_rules | `(tactic| walk_at "execs cons") => `(tactic| (k_here; (refine Mine.execs_cons_gen (by first | walk_at "tk" | omega | ((try dsimp only at *); omega)) ?_); intro _ _; (try k_fold)))
local macro_rules | `(tactic| walk_at "cr") => `(tactic| ((iterate 16 (try (first | with_reducible assumption | with_reducible apply And.right))); done))
local macro_rules | `(tactic| walk_at "cj") => `(tactic| first | walk_at "cr" | ((with_reducible apply And.left); walk_at "cr"))
local macro_rules | `(tactic| k_ne) => `(tactic| ((refine neN ?_); (try dsimp only); first | (refine Nat.ne_of_lt ?_; walk_at "cj") | (refine Nat.ne_of_gt ?_; walk_at "cj") | walk_at "cj" | (refine Ne.symm ?_; walk_at "cj") | omega))
local macro_rules | `(tactic| k_lt $h:ident) => `(tactic| (replace $h := allLt_of $h; dsimp only [AllLt] at $h:ident))
local macro_rules | `(tactic| walk_at "go") => `(tactic| repeat' (first | (k_unfold; (try dsimp only)) | (walk1; (try dsimp only))))
local macro_rules | `(tactic| walk_at "forall") => `(tactic| ((with_reducible show 1 ≤ _ → _); intro ht'; (try dsimp only at ht')))
local macro_rules | `(tactic| walk_at "call builtin:str.rfind") => `(tactic| (k_here; (refine KXw.rfind (by with_reducible assumption) ?_); intro _ _))
local macro_rules | `(tactic| k_all) => `(tactic| first | with_reducible assumption | with_reducible exact List.forall_mem_nil _ | (refine' List.forall_mem_cons.mpr ⟨?a, ?b⟩; (case a => k_ne); (case b => k_all)))
local macro_rules | `(tactic| walk_at "exec While Compare cons nil") => `(tactic| k_extra "while")
local macro_rules | `(tactic| walk_at "WhlIf") => `(tactic| first | (refine WhlIf.yes (decide_eq_true (by omega)) ?_) | (refine WhlIf.no (decide_eq_false (by omega)) ?_))
local macro_rules | `(tactic| walk_at "ite") => `(tactic| first
  | (refine Mine.if_yes (by with_reducible assumption) ?_) | (refine Mine.if_no (by with_reducible assumption) ?_)
  | (refine Mine.if_yes (by decide +kernel) ?_) | (refine Mine.if_no (by decide +kernel) ?_)
  | ((with_reducible show (if decide _ = true then _ else _)); first | (refine Mine.if_yes (decide_eq_true (by omega)) ?_) | (refine Mine.if_no (decide_eq_false (by omega)) ?_)))
namespace Mine
/-- a text handed back, and nothing changed that stood -/
def TextEnd (s : Shared) (x : Str) (v : Value) (s' : Shared) : Prop := ∃ h' t' tk, v = .str x t' ∧ s' = { s with heap := h', toks := tk } ∧ ∀ b o, s.heap.get? b = some o → h'.get? b = some o
theorem TextEnd.intro {h h' : Heap} {g : Array GenState} {d : Drawn} {t tk : Nat} {os : OsState} {x y : Str} {t' : Tok} {news : List (Addr × Obj)} (D : X.Mem h h' [] news) (e : y = x) : TextEnd ⟨h, g, d, t, os⟩ x (.str y t') ⟨h', g, d, tk, os⟩ := by
  subst e
  exact ⟨h', t', tk, rfl, rfl, fun b o q => D.keep b o q (by show (X.hasCls o || true) = true; rw [Bool.or_true])⟩
end Mine
local macro_rules | `(tactic| x_close) => `(tactic| exact Mine.TextEnd.intro (by assumption) (by first | rfl | decide +kernel))
namespace Mine
set_option maxRecDepth 100000 in
set_option maxHeartbeats 0 in
theorem sub_a (w : World) (A : Around) (E : Value → Shared → Prop) (h : Heap) (g : Array GenState) (d : Drawn) (tk : Nat) (os : OsState) (l : Addr) (t : Tok) (KX : (Mine.pre.heap_1 w.params).In h) (fd : FuncData)
    (hl : h.get? l = some ⟨.type "function", none, .func fd, #[]⟩) :
    wpAny (model PySem.Challenge.rw_rx0001_01.row.prog w) A (call (.builtin "re.Pattern.sub") [.ref 78, .ref l, .str (Str.ofString "!a") t]) (TextEnd ⟨h, g, d, tk, os⟩ (Str.ofString "!a")) E ⟨h, g, d, tk, os⟩ := by
  k_fill
  x_run
set_option maxRecDepth 100000 in
set_option maxHeartbeats 0 in
theorem sub_b (w : World) (A : Around) (E : Value → Shared → Prop) (h : Heap) (g : Array GenState) (d : Drawn) (tk : Nat) (os : OsState) (l : Addr) (t : Tok) (KX : (Mine.pre.heap_1 w.params).In h) (fd : FuncData)
    (hl : h.get? l = some ⟨.type "function", none, .func fd, #[]⟩) :
    wpAny (model PySem.Challenge.rw_rx0001_01.row.prog w) A (call (.builtin "re.Pattern.sub") [.ref 78, .ref l, .str (Str.ofString ".b") t]) (TextEnd ⟨h, g, d, tk, os⟩ (Str.ofString ".b")) E ⟨h, g, d, tk, os⟩ := by
  k_fill
  x_run
set_option maxRecDepth 100000 in
set_option maxHeartbeats 0 in
theorem sub_s (w : World) (A : Around) (E : Value → Shared → Prop) (h : Heap) (g : Array GenState) (d : Drawn) (tk : Nat) (os : OsState) (l : Addr) (t : Tok) (KX : (Mine.pre.heap_1 w.params).In h) (fd : FuncData)
    (hl : h.get? l = some ⟨.type "function", none, .func fd, #[]⟩) :
    wpAny (model PySem.Challenge.rw_rx0001_01.row.prog w) A (call (.builtin "re.Pattern.sub") [.ref 78, .ref l, .str (Str.ofString "*") t]) (TextEnd ⟨h, g, d, tk, os⟩ (Str.ofString "*")) E ⟨h, g, d, tk, os⟩ := by
  k_fill
  x_run
set_option maxRecDepth 100000 in
set_option maxHeartbeats 0 in
theorem sub_q (w : World) (A : Around) (E : Value → Shared → Prop) (h : Heap) (g : Array GenState) (d : Drawn) (tk : Nat) (os : OsState) (l : Addr) (t : Tok) (KX : (Mine.pre.heap_1 w.params).In h) (fd : FuncData)
    (hl : h.get? l = some ⟨.type "function", none, .func fd, #[]⟩) :
    wpAny (model PySem.Challenge.rw_rx0001_01.row.prog w) A (call (.builtin "re.Pattern.sub") [.ref 78, .ref l, .str (Str.ofString "?") t]) (TextEnd ⟨h, g, d, tk, os⟩ (Str.ofString "?")) E ⟨h, g, d, tk, os⟩ := by
  k_fill
  x_run
set_option maxRecDepth 100000 in
set_option maxHeartbeats 0 in
theorem sub_o (w : World) (A : Around) (E : Value → Shared → Prop) (h : Heap) (g : Array GenState) (d : Drawn) (tk : Nat) (os : OsState) (l : Addr) (t : Tok) (KX : (Mine.pre.heap_1 w.params).In h) (fd : FuncData)
    (hl : h.get? l = some ⟨.type "function", none, .func fd, #[]⟩) :
    wpAny (model PySem.Challenge.rw_rx0001_01.row.prog w) A (call (.builtin "re.Pattern.sub") [.ref 78, .ref l, .str (Str.ofString "[") t]) (TextEnd ⟨h, g, d, tk, os⟩ (Str.ofString "[")) E ⟨h, g, d, tk, os⟩ := by
  k_fill
  x_run
/-- the five texts that stand in a set here -/
def SetText (x : Str) : Prop := x = Str.ofString "!a" ∨ x = Str.ofString ".b" ∨ x = Str.ofString "*" ∨ x = Str.ofString "?" ∨ x = Str.ofString "["
theorem sub_rule {w : World} {A : Around} {E : Value → Shared → Prop} {s : Shared} {h₀ : Heap} {L l : Addr} {m : Str → Option Value} {news : List (Addr × Obj)} {x : Str} {t : Tok} {fd : FuncData} {Q : Value → Shared → Prop}
    (F : Fr h₀ L s.heap m) (X : (Mine.pre.heap_1 w.params).In h₀) (N : News h₀ L s.heap news) (hl : (l, (⟨.type "function", none, .func fd, #[]⟩ : Obj)) ∈ news) (hx : SetText x)
    (h : ∀ h' t' tk, s.toks ≤ tk → Fr h₀ L h' m → News h₀ L h' news → Q (.str x t') { s with heap := h', toks := tk }) :
    wpAny (model PySem.Challenge.rw_rx0001_01.row.prog w) A (call (.builtin "re.Pattern.sub") [.ref 78, .ref l, .str x t]) Q E s := by
  have KX := X.keeps F.keep
  have hg := (N _ hl).1
  have all : wpAny (model PySem.Challenge.rw_rx0001_01.row.prog w) A (call (.builtin "re.Pattern.sub") [.ref 78, .ref l, .str x t]) (TextEnd s x) E s := by
    rcases hx with rfl | rfl | rfl | rfl | rfl
    · exact sub_a w A E s.heap s.gens s.drawn s.toks s.os l t KX fd hg
    · exact sub_b w A E s.heap s.gens s.drawn s.toks s.os l t KX fd hg
    · exact sub_s w A E s.heap s.gens s.drawn s.toks s.os l t KX fd hg
    · exact sub_q w A E s.heap s.gens s.drawn s.toks s.os l t KX fd hg
    · exact sub_o w A E s.heap s.gens s.drawn s.toks s.os l t KX fd hg
  refine toks_up s.toks (Nat.le_refl _) (wpAny_mono all (fun v s' z => ?_) fun _ _ e => e)
  obtain ⟨h', t', tk, rfl, rfl, hk⟩ := z
  exact fun l => h h' t' tk l (F.keeps hk) (N.grown hk)
theorem plainAttrs_pattern : PlainAttrs "re.Pattern" :=
  ⟨⟨"object.__getattribute__", by rw [typeLookup_type, builtinLookup_eq_fast]; kernel_rfl, by decide +kernel⟩, by rw [typeLookup_type, builtinLookup_eq_fast]; kernel_rfl⟩
theorem slot_pattern_sub : Slot "re.Pattern" "sub" "re.Pattern.sub" :=
  .of (owner := "re.Pattern") (n := "sub") (by rw [typeLookup_type, builtinLookup_eq_fast]; kernel_rfl) (by decide +kernel) (by decide +kernel) (by decide +kernel)
    (by first | exact .inl (by decide +kernel) | exact .inr (by decide +kernel)) (by rw [isSubtype_type]; kernel_rfl)
theorem type_pattern_sub : typeOf (.builtin "re.Pattern.sub") = pure (.type "method_descriptor") := by show builtinType _ = _; rw [builtinType_eq_fast]; kernel_rfl
end Mine
end
section
local macro_rules | `(tactic| walk_at "my slices") => `(tactic| first
  | ((with_reducible show wpAny _ _ (subscriptTail _ (Expr.Slice (some _) none none _) _ _) _ _ _); (with_reducible rename Fr _ _ _ _ => F'); (with_reducible rename News _ _ _ _ => N'); (refine Mine.sl_sn (s := ⟨_, _, _, _, _⟩) (by first | with_reducible assumption | exact rfl) (by assumption) F' N' ?_); intro _ _ _ hk' _ _ _; (try dsimp only at hk'))
  | ((with_reducible show wpAny _ _ (subscriptTail _ (Expr.Slice none (some _) none _) _ _) _ _ _); (with_reducible rename Fr _ _ _ _ => F'); (with_reducible rename News _ _ _ _ => N'); (refine Mine.sl_ns (s := ⟨_, _, _, _, _⟩) (by first | with_reducible assumption | exact rfl) (by assumption) F' N' ?_); intro _ _ _ hk' _ _ _; (try dsimp only at hk'))
  | ((with_reducible show wpAny _ _ (subscriptTail _ (Expr.Slice (some _) (some _) none _) _ _) _ _ _); (with_reducible rename Fr _ _ _ _ => F'); (with_reducible rename News _ _ _ _ => N'); (refine Mine.sl_ss (s := ⟨_, _, _, _, _⟩) (by first | with_reducible assumption | exact rfl) (by assumption) F' N' ?_); intro _ _ _ hk' _ _ _; (try dsimp only at hk')))
local macro_rules | `(tactic| walk_at "subscriptTail Name Slice str ref") => `(tactic| walk_at "my slices")
local macro_rules | `(tactic| walk_at "call builtin:str.replace") => `(tactic| (k_here; (first | (refine Mine.repl_eq (by with_reducible assumption) (by omega) (by rfl) (by decide) (by first | assumption | decide +kernel) (by decide) ?_) | (refine Mine.repl (by omega) (by rfl) (by decide) (by assumption) (by decide) ?_)); intro _ _ hk'; (try dsimp only at hk')))
local macro_rules | `(tactic| walk_at "tk") => `(tactic| first | with_reducible assumption | exact Nat.le_add_left 1 _ | (refine Nat.le_trans ?_ (by with_reducible assumption); walk_at "tk"))
local macro_rules | `(tactic| walk_at "execs cons") => `(tactic| (k_here; (refine Mine.execs_cons_gen (by first | walk_at "tk" | omega | ((try dsimp only at *); omega)) ?_); intro _ _; (try k_fold)))
local macro_rules | `(tactic| walk_at "cr") => `(tactic| ((iterate 16 (try (first | with_reducible assumption | with_reducible apply And.right))); done))
local macro_rules | `(tactic| walk_at "cj") => `(tactic| first | walk_at "cr" | ((with_reducible apply And.left); walk_at "cr"))
local macro_rules | `(tactic| k_ne) => `(tactic| ((refine neN ?_); (try dsimp only); first | (refine Nat.ne_of_lt ?_; walk_at "cj") | (refine Nat.ne_of_gt ?_; walk_at "cj") | walk_at "cj" | (refine Ne.symm ?_; walk_at "cj") | omega))
local macro_rules | `(tactic| k_lt $h:ident) => `(tactic| (replace $h := allLt_of $h; dsimp only [AllLt] at $h:ident))
local macro_rules | `(tactic| walk_at "go") => `(tactic| repeat' (first | (k_unfold; (try dsimp only)) | (walk1; (try dsimp only))))
local macro_rules | `(tactic| walk_at "forall") => `(tactic| ((with_reducible show 1 ≤ _ → _); intro ht'; (try dsimp only at ht')))
local macro_rules | `(tactic| walk_at "call builtin:str.rfind") => `(tactic| (k_here; (refine KXw.rfind (by with_reducible assumption) ?_); intro _ _))
local macro_rules | `(tactic| k_all) => `(tactic| first | with_reducible assumption | with_reducible exact List.forall_mem_nil _ | (refine' List.forall_mem_cons.mpr ⟨?a, ?b⟩; (case a => k_ne); (case b => k_all)))
local macro_rules | `(tactic| walk_at "exec While Compare cons nil") => `(tactic| k_extra "while")
local macro_rules | `(tactic| walk_at "WhlIf") => `(tactic| first | (refine WhlIf.yes (decide_eq_true (by omega)) ?_) | (refine WhlIf.no (decide_eq_false (by omega)) ?_))
local macro_rules | `(tactic| walk_at "ite") => `(tactic| first
  | (refine Mine.if_yes (by with_reducible assumption) ?_) | (refine Mine.if_no (by with_reducible assumption) ?_)
  | (refine Mine.if_yes (by decide +kernel) ?_) | (refine Mine.if_no (by decide +kernel) ?_)
  | ((with_reducible show (if decide _ = true then _ else _)); first | (refine Mine.if_yes (decide_eq_true (by omega)) ?_) | (refine Mine.if_no (decide_eq_false (by omega)) ?_)))
local macro_rules | `(tactic| x_close) => `(tactic| exact Mine.TextEnd.intro (by assumption) (by first | rfl | decide +kernel))
namespace Mine
theorem keyed {prog : Program} {w : World} {K : Frag} {h : Heap} {a : Addr} {es : Array DictEntry} {n : Nat} (X : K.In h) (hl : K.lookup a = some ⟨.type "dict", none, .dict es n, #[]⟩) (hk : ∀ e ∈ es, ∃ k t, e.key = .int k t ∧ e.hash = hashInt k) :
    h.MapOf (intKind prog w) a (fun k => findBy Value.isInt es k) :=
  ⟨_, es, n, X _ _ hl, ⟨rfl, rfl, rfl⟩, rfl, fun e he => by
    obtain ⟨k, t, e1, e2⟩ := hk e he
    exact ⟨k, by rw [e1]; simp [intKind, Value.isInt], e2⟩, fun _ => rfl⟩
/-- the signs that escape puts a bar ahead of -/
def specials : List Nat := [40, 41, 91, 93, 123, 125, 63, 42, 43, 45, 124, 94, 36, 92, 46, 38, 126, 35, 32, 9, 10, 13, 11, 12]
def esc (c : Nat) : Str := if c ∈ specials then ⟨#[92, c]⟩ else ⟨#[c]⟩
def EntsAre : List DictEntry → List Nat → Prop
  | [], [] => True
  | e :: l, k :: ks => (∃ t u, e = ⟨hashInt k, .int k t, .str ⟨#[92, k]⟩ u⟩) ∧ EntsAre l ks
  | _, _ => False
theorem ents_keys {l : List DictEntry} : ∀ {ks : List Nat}, EntsAre l ks → ∀ e ∈ l, ∃ k t, e.key = .int k t ∧ e.hash = hashInt k := by
  induction l with
  | nil => intro ks _ x hx; exact absurd hx List.not_mem_nil
  | cons e l ih =>
    intro ks h x hx
    cases ks with
    | nil => exact h.elim
    | cons k ks =>
      obtain ⟨⟨t, u, h⟩, hr⟩ := h
      rcases List.mem_cons.mp hx with rfl | hx
      · exact ⟨k, t, by rw [h], by rw [h]⟩
      · exact ih hr x hx
theorem ents_find : ∀ {l : List DictEntry} {ks : List Nat}, EntsAre l ks → ∀ c : Nat, (c ∉ ks ∧ (l.find? fun e => Value.isInt c e.key) = none) ∨ (c ∈ ks ∧ ∃ e u, (l.find? fun e => Value.isInt c e.key) = some e ∧ e.val = .str ⟨#[92, c]⟩ u)
  | [], [], _, c => .inl ⟨by simp, rfl⟩
  | e :: l, k :: ks, ⟨⟨t, u, h⟩, hr⟩, c => by
    by_cases hc : c = k
    · subst hc
      refine .inr ⟨List.mem_cons_self, e, u, ?_, by rw [h]⟩
      rw [List.find?_cons, h]
      simp [Value.isInt]
    · have hn : Value.isInt (c : Int) e.key = false := by
        rw [h]
        simp only [Value.isInt]
        exact beq_eq_false_iff_ne.mpr fun q => hc (by omega)
      rw [List.find?_cons, hn]
      rcases ents_find hr c with ⟨h1, h2⟩ | ⟨h1, h2⟩
      · exact .inl ⟨by simp [hc, h1], h2⟩
      · exact .inr ⟨List.mem_cons_of_mem _ h1, h2⟩
theorem ents_map {es : Array DictEntry} {ks : List Nat} (h : EntsAre es.toList ks) (c : Nat) : ((findBy Value.isInt es c = none ∨ ∃ x t, findBy Value.isInt es c = some (.str x t) ∧ x.length = 2)) ∧
    mapped (fun k => findBy Value.isInt es k) c = if c ∈ ks then ⟨#[92, c]⟩ else ⟨#[c]⟩ := by
  have e : ∀ k : Int, findBy Value.isInt es k = (es.toList.find? fun e => Value.isInt k e.key).map (·.val) := fun k => by unfold findBy; rw [← Array.find?_toList]
  unfold mapped
  dsimp only
  rw [e]
  rcases ents_find h c with ⟨h1, h2⟩ | ⟨h1, e, u, h2, h3⟩
  · rw [h2]; exact ⟨.inl rfl, by simp [h1]⟩
  · rw [h2]
    dsimp only [Option.map]
    rw [h3]
    exact ⟨.inr ⟨_, _, rfl, rfl⟩, by simp [h1]⟩
set_option maxRecDepth 100000 in
theorem dict80 (P : Params) : ∃ es n, (Mine.pre.heap_1 P).lookup 80 = some ⟨.type "dict", none, .dict es n, #[]⟩ ∧ EntsAre es.toList specials := by
  refine ⟨_, _, rfl, ?_⟩
  show EntsAre (_ :: _) (_ :: _)
  repeat (first | exact trivial | refine ⟨⟨_, _, by with_unfolding_all rfl⟩, ?_⟩)
theorem pat78 (P : Params) : ∃ d, (Mine.pre.heap_1 P).lookup 78 = some ⟨.type "re.Pattern", none, d, #[]⟩ := ⟨_, rfl⟩
section
variable {w : World} {A : Around} {E : Value → Shared → Prop} {s : Shared} {h₀ : Heap} {L : Addr} {m : Str → Option Value} {news : List (Addr × Obj)}
theorem trans_rule {c : Nat} {t : Tok} {Q : Value → Shared → Prop} (F : Fr h₀ L s.heap m) (X : (Mine.pre.heap_1 w.params).In h₀) (N : News h₀ L s.heap news) (hh : A.handled = none)
    (h : ∀ h' t' tk, s.toks ≤ tk → Fr h₀ L h' m → News h₀ L h' news → Q (.str (esc c) t') { s with heap := h', toks := tk }) :
    wpAny (model PySem.Challenge.rw_rx0001_01.row.prog w) A (call (.builtin "str.translate") [.str ⟨#[c]⟩ t, .ref 80]) Q E s := by
  obtain ⟨es, n, hl, he⟩ := dict80 w.params
  have hm := keyed (prog := PySem.Challenge.rw_rx0001_01.row.prog) (w := w) (X.keeps F.keep) hl (fun e q => ents_keys he e (by simpa using q))
  refine toks_up s.toks (Nat.le_refl _) (translate_one hh (by decide) hm (ents_map he c).1 fun h' t' tk hk l => ?_)
  rw [(ents_map he c).2]
  exact h h' t' tk l (F.keeps hk) (N.grown hk)
theorem gm_pattern {pl : Sem Bool} {Q : Value × List Value → Shared → Prop} (F : Fr h₀ L s.heap m) (X : (Mine.pre.heap_1 w.params).In h₀) (h : Q (.builtin "re.Pattern.sub", [.ref 78]) s) :
    wpAny (model PySem.Challenge.rw_rx0001_01.row.prog w) A (getMethod (.ref 78) (Str.ofString "sub") pl) Q E s := by
  obtain ⟨d, hl⟩ := pat78 w.params
  have hg := (X.keeps F.keep) _ _ hl
  exact getMethod_builtin ⟨_, hg, rfl⟩ plainAttrs_pattern slot_pattern_sub type_pattern_sub (fun a e => by cases e; exact ⟨_, hg, rfl⟩) h
end
end Mine
local macro_rules | `(tactic| walk_at "call builtin:str.translate") => `(tactic| (k_here; (refine' Mine.trans_rule ?k1 ?k2 ?k3 rfl ?_; (case k1 => k_asm); (case k2 => k_asm); (case k3 => k_asm)); intro _ _ _ hk' _ _; (try dsimp only at hk')))
local macro_rules | `(tactic| walk_at "getMethod ref") => `(tactic| (k_here; (with_reducible show wpAny _ _ (getMethod (Value.ref 78) (Str.ofString "sub") _) _ _ _); (refine' Mine.gm_pattern ?k1 ?k2 ?_; (case k1 => k_asm); (case k2 => k_asm))))
local macro_rules | `(tactic| walk_at "call builtin:re.Pattern.sub") => `(tactic| (k_here; (refine' Mine.sub_rule ?k1 ?k2 ?k3 ?k4 ?k5 ?_; (case k1 => k_asm); (case k2 => k_asm); (case k3 => k_asm); (case k4 => k_mem); (case k5 => assumption)); intro _ _ _ hk' _ _; (try dsimp only at hk')))
end
section
namespace Mine
/-- the table of _translate's code: no lambda made so far, or the one -/
def TabOk (vs : Array Value) : Prop := vs = #[] ∨ ∃ c, vs = #[rawInt 110, rawInt 39, .ref c]
section
variable {M : Model} {A : Around} {E : Value → Shared → Prop} {s : Shared} {h₀ : Heap} {L a c P : Addr} {m mg mb : Str → Option Value} {cn : Str} {cs : Scope} {ccd : Value} {news : List (Addr × Obj)} {g : Obj → List (Addr × Obj)}
  {p : Program} {loose : List Str} {mean : ExcName → Option Value} {params : Arguments} {body : PySem.Expr} {scope : Scope} {ps : Array Value} {pos : Pos}
theorem lam_rule {Q : Value → Shared → Prop} (F : Fr h₀ L s.heap m) (N : News h₀ L s.heap news) (T : Top p loose mean mg mb h₀) (C : CodeHd h₀ c P) (hcd : ccd = .ref c) (U : UpdF P (tabObj ps) news g) (ht : TabOk ps) (hp : pos.line = 110 ∧ pos.col = 39)
    (hdef : defaultsOf params (envX cn cs L a ccd []) = ([], [])) (hcl : closureFor scope (envX cn cs L a ccd []) = pure [])
    (h : ∀ f fd vs' h' tk, s.toks ≤ tk → TabOk vs' → Fr h₀ L h' m → News h₀ L h' ((f, (⟨.type "function", none, .func fd, #[]⟩ : Obj)) :: g (tabObj vs')) → (∀ q ∈ news, @LT.lt Nat _ q.1 f) → Q (.ref f) { s with heap := h', toks := tk }) :
    wpAny M A (eval (.Lambda params body scope pos) (envX cn cs L a ccd [])) Q E s := by
  obtain ⟨pre, post, hn, hg, _, _⟩ := U.split
  refine toks_up s.toks (Nat.le_refl _) (kla_eval hdef ?_)
  rcases ht with rfl | ⟨c', rfl⟩
  · refine kla_nest F N T C hcd U trivial rfl hcl fun f c' oc vs t ctv h' tk F' N' _ _ l1 l2 l => ?_
    rw [hp.1, hp.2] at N'
    exact h f _ #[rawInt 110, rawInt 39, .ref c'] h' tk l (.inr ⟨c', rfl⟩) F' (fun q hq => N' q (by
      rcases List.mem_cons.mp hq with e | hq
      · rw [e]; exact .head _
      · exact .tail _ (.tail _ hq))) fun q hq => Nat.lt_trans (l1 q hq) l2
  · refine kla_hit (c' := c') (ps := #[rawInt 110, rawInt 39, .ref c']) F N T C hcd (by rw [hn]; exact List.mem_append_right _ (.head _)) trivial (by rw [show codeAmong pos (#[rawInt 110, rawInt 39, Value.ref c'] : Array Value).toList = if ((110 : Int) == pos.line && (39 : Int) == pos.col) = true then some (.ref c') else none from rfl, hp.1, hp.2]; rfl) hcl fun f ctv h' tk F' N' l1 l => ?_
    have e : g (tabObj #[rawInt 110, rawInt 39, .ref c']) = news := by rw [hg, ← hn]
    rw [← e] at N'
    exact h f _ #[rawInt 110, rawInt 39, .ref c'] h' tk l (.inr ⟨c', rfl⟩) F' N' l1
end
/-- a frame's map, of which some names are known -/
def frB (m : Str → Option Value) : List (Str × Value) → Str → Option Value
  | [] => m
  | (k, v) :: r => fun z => if z = k then some v else frB m r z
theorem frB_eq {m : Str → Option Value} : ∀ {ps : List (Str × Value)}, (∀ p ∈ ps, m p.1 = some p.2) → ∀ z, frB m ps z = m z
  | [], _, _ => rfl
  | (k, v) :: r, h, z => by
    show (if z = k then some v else frB m r z) = m z
    by_cases e : z = k
    · rw [if_pos e, e]; exact (h _ (.head _)).symm
    · rw [if_neg e]; exact frB_eq (fun q hq => h q (.tail _ hq)) z
theorem fr_kst {h₀ h : Heap} {L : Addr} {m : Str → Option Value} {ps : List (Str × Value)} (h1 : ∀ p ∈ ps, m p.1 = some p.2) (F : Fr h₀ L h m) : Fr h₀ L h (frB m ps) := by
  have e : frB m ps = m := funext (frB_eq h1)
  rw [e]; exact F
section
variable {prog : Program} {w : World} {A : Around} {E : Value → Shared → Prop} {s : Shared} {env : Env} {h₀ : Heap} {test : PySem.Expr} {body : List Stmt} {Q : Flow → Shared → Prop}
/-- the end of a while's turn: the word again, its number lower -/
def WEnd (h₀ : Heap) (L : Addr) (J : Nat → (Str → Option Value) → List (Addr × Obj) → Prop) (k : Nat) (s : Shared) (s' : Shared) : Prop :=
  ∃ k' h' tk' m' news', k' < k ∧ s' = { s with heap := h', toks := tk' } ∧ Fr h₀ L h' m' ∧ News h₀ L h' news' ∧ J k' m' news'
def WPost (h₀ : Heap) (L : Addr) (J : Nat → (Str → Option Value) → List (Addr × Obj) → Prop) (k : Nat) (s : Shared) (Q : Flow → Shared → Prop) (f : Flow) (s' : Shared) : Prop :=
  match f with
  | .next => WEnd h₀ L J k s s'
  | .cont => WEnd h₀ L J k s s'
  | .brk => Q .next s'
  | .ret v => Q (.ret v) s'
theorem while_inv {pos : Pos} (J : Nat → (Str → Option Value) → List (Addr × Obj) → Prop) (k₀ : Nat) {m₀ : Str → Option Value} {news₀ : List (Addr × Obj)} (hE : PassesOwn (model prog w) A env E) (ht : 1 ≤ s.toks)
    (F : Fr h₀ env.locals s.heap m₀) (N : News h₀ env.locals s.heap news₀) (h0 : J k₀ m₀ news₀)
    (turn : ∀ k m news h tk, J k m news → 1 ≤ tk → Fr h₀ env.locals h m → News h₀ env.locals h news →
      wpAny (model prog w) A (isTrue test env (eval test env)) (fun b s₂ => WhlIf b (wpAny (model prog w) A (execs body env) (WPost h₀ env.locals J k s Q) E s₂) (wpAny (model prog w) A (execs [] env) Q E s₂)) E { s with heap := h, toks := tk }) :
    wpAny (model prog w) A (exec (.While test body [] pos) env) Q E s := by
  refine wpAny_While (codeAny_whileLoop (fun n s' => ∃ h tk m news, s' = { s with heap := h, toks := tk } ∧ 1 ≤ tk ∧ Fr h₀ env.locals h m ∧ News h₀ env.locals h news ∧ J n m news) ?_ k₀ ⟨s.heap, s.toks, m₀, news₀, rfl, ht, F, N, h0⟩)
  rintro n s' ⟨h, tk, m, news, rfl, htk, F', N', hJ⟩
  refine toks_up 1 htk (wpAny_mono (turn n m news h tk hJ htk F' N') (fun b s₂ h₂ hle => ?_) hE)
  cases b with
  | false =>
    unfold WhlIf at h₂
    rw [if_neg Bool.false_ne_true] at h₂
    simp only [Bool.false_eq_true, if_false]
    exact wpAny_mono h₂ (fun f s₃ h₃ => h₃) hE
  | true =>
    unfold WhlIf at h₂
    rw [if_pos rfl] at h₂
    simp only [if_true]
    refine toks_up 1 hle (wpAny_mono h₂ (fun f s₃ h₃ hle' => ?_) hE)
    have fin : WEnd h₀ env.locals J n s s₃ → ∃ m, m < n ∧ ∃ h tk m' news', s₃ = { s with heap := h, toks := tk } ∧ 1 ≤ tk ∧ Fr h₀ env.locals h m' ∧ News h₀ env.locals h news' ∧ J m m' news' := by
      rintro ⟨k', h', tk', m', news', hlt, rfl, F₃, N₃, hJ₃⟩
      exact ⟨k', hlt, h', tk', m', news', rfl, hle', F₃, N₃, hJ₃⟩
    cases f with
    | next => exact fin h₃
    | cont => exact fin h₃
    | brk => exact h₃
    | ret v => exact h₃
end
end Mine
end
section
namespace Mine
/-- a drawn item of a pattern -/
inductive Tk where
  | star | any | nota | dotb
  | ch (c : Nat)
/-- how it is written -/
def Tk.src : Tk → List Nat
  | .star => [42]
  | .any => [63]
  | .nota => [91, 33, 97, 93]
  | .dotb => [91, 46, 98, 93]
  | .ch c => if c = 42 ∨ c = 63 ∨ c = 91 then [91, c, 93] else [c]
def src (ts : List Tk) : List Nat := ts.flatMap Tk.src
/-- what _translate makes of it -/
def Tk.piece : Tk → Option Str
  | .star => none
  | .any => some (Str.ofString ".")
  | .nota => some (Str.ofString "[^a]")
  | .dotb => some (Str.ofString "[.b]")
  | .ch c => some (if c = 42 then Str.ofString "[*]" else if c = 63 then Str.ofString "[?]" else if c = 91 then Str.ofString "[\\[]" else esc c)
def trStep (acc : List (Option Str)) (t : Tk) : List (Option Str) :=
  match t.piece with
  | none => if acc.getLast? = some none then acc else acc ++ [none]
  | some x => acc ++ [some x]
def transl (acc : List (Option Str)) (ts : List Tk) : List (Option Str) := ts.foldl trStep acc
/-- the values of pieces -/
def PieceIs (v : Value) : Option Str → Prop
  | none => v = .none
  | some x => ∃ t, v = .str x t
def PiecesAre : List Value → List (Option Str) → Prop
  | [], [] => True
  | v :: vs, p :: ps => PieceIs v p ∧ PiecesAre vs ps
  | _, _ => False
def Stop (P : Prop) : Prop := P
theorem stop {P : Prop} (h : Stop P) : P := h
end Mine
end
section
local macro_rules | `(tactic| walk_at "my slices") => `(tactic| first
  | ((with_reducible show wpAny _ _ (subscriptTail _ (Expr.Slice (some _) none none _) _ _) _ _ _); (with_reducible rename Fr _ _ _ _ => F'); (with_reducible rename News _ _ _ _ => N'); (refine Mine.sl_sn (s := ⟨_, _, _, _, _⟩) (by first | with_reducible assumption | exact rfl) (by assumption) F' N' ?_); intro _ _ _ hk' _ _ _; (try dsimp only at hk'))
  | ((with_reducible show wpAny _ _ (subscriptTail _ (Expr.Slice none (some _) none _) _ _) _ _ _); (with_reducible rename Fr _ _ _ _ => F'); (with_reducible rename News _ _ _ _ => N'); (refine Mine.sl_ns (s := ⟨_, _, _, _, _⟩) (by first | with_reducible assumption | exact rfl) (by assumption) F' N' ?_); intro _ _ _ hk' _ _ _; (try dsimp only at hk'))
  | ((with_reducible show wpAny _ _ (subscriptTail _ (Expr.Slice (some _) (some _) none _) _ _) _ _ _); (with_reducible rename Fr _ _ _ _ => F'); (with_reducible rename News _ _ _ _ => N'); (refine Mine.sl_ss (s := ⟨_, _, _, _, _⟩) (by first | with_reducible assumption | exact rfl) (by assumption) F' N' ?_); intro _ _ _ hk' _ _ _; (try dsimp only at hk')))
local macro_rules | `(tactic| walk_at "subscriptTail Name Slice str ref") => `(tactic| walk_at "my slices")
local macro_rules | `(tactic| walk_at "call builtin:str.replace") => `(tactic| (k_here; (first | (refine Mine.repl_eq (by with_reducible assumption) (by omega) (by rfl) (by decide) (by first | assumption | decide +kernel) (by decide) ?_) | (refine Mine.repl (by omega) (by rfl) (by decide) (by assumption) (by decide) ?_)); intro _ _ hk'; (try dsimp only at hk')))
local macro_rules | `(tactic| walk_at "tk") => `(tactic| first | with_reducible assumption | exact Nat.le_add_left 1 _ | (refine Nat.le_trans ?_ (by with_reducible assumption); walk_at "tk"))
local macro_rules | `(tactic| walk_at "execs cons") => `(tactic| (k_here; (refine Mine.execs_cons_gen (by first | walk_at "tk" | omega | ((try dsimp only at *); omega)) ?_); intro _ _; (try k_fold)))
local macro_rules | `(tactic| walk_at "cr") => `(tactic| ((iterate 16 (try (first | with_reducible assumption | with_reducible apply And.right))); done))
local macro_rules | `(tactic| walk_at "cj") => `(tactic| first | walk_at "cr" | ((with_reducible apply And.left); walk_at "cr"))
local macro_rules | `(tactic| k_ne) => `(tactic| ((refine neN ?_); (try dsimp only); first | (refine Nat.ne_of_lt ?_; walk_at "cj") | (refine Nat.ne_of_gt ?_; walk_at "cj") | walk_at "cj" | (refine Ne.symm ?_; walk_at "cj") | omega))
local macro_rules | `(tactic| k_lt $h:ident) => `(tactic| (replace $h := allLt_of $h; dsimp only [AllLt] at $h:ident))
local macro_rules | `(tactic| walk_at "go") => `(tactic| repeat' (first | (k_unfold; (try dsimp only)) | (walk1; (try dsimp only))))
local macro_rules | `(tactic| walk_at "forall") => `(tactic| ((with_reducible show 1 ≤ _ → _); intro ht'; (try dsimp only at ht')))
local macro_rules | `(tactic| walk_at "call builtin:str.rfind") => `(tactic| (k_here; (refine KXw.rfind (by with_reducible assumption) ?_); intro _ _))
local macro_rules | `(tactic| k_all) => `(tactic| first | with_reducible assumption | with_reducible exact List.forall_mem_nil _ | (refine' List.forall_mem_cons.mpr ⟨?a, ?b⟩; (case a => k_ne); (case b => k_all)))
local macro_rules | `(tactic| walk_at "exec While Compare cons nil") => `(tactic| k_extra "while")
local macro_rules | `(tactic| walk_at "WhlIf") => `(tactic| first | (refine WhlIf.yes (decide_eq_true (by omega)) ?_) | (refine WhlIf.no (decide_eq_false (by omega)) ?_))
local macro_rules | `(tactic| walk_at "ite") => `(tactic| first
  | (refine Mine.if_yes (by with_reducible assumption) ?_) | (refine Mine.if_no (by with_reducible assumption) ?_)
  | (refine Mine.if_yes (by decide +kernel) ?_) | (refine Mine.if_no (by decide +kernel) ?_)
  | ((with_reducible show (if decide _ = true then _ else _)); first | (refine Mine.if_yes (decide_eq_true (by omega)) ?_) | (refine Mine.if_no (decide_eq_false (by omega)) ?_)))
local macro_rules | `(tactic| x_close) => `(tactic| exact Mine.TextEnd.intro (by assumption) (by first | rfl | decide +kernel))
local macro_rules | `(tactic| walk_at "call builtin:str.translate") => `(tactic| (k_here; (refine' Mine.trans_rule ?k1 ?k2 ?k3 rfl ?_; (case k1 => k_asm); (case k2 => k_asm); (case k3 => k_asm)); intro _ _ _ hk' _ _; (try dsimp only at hk')))
local macro_rules | `(tactic| walk_at "getMethod ref") => `(tactic| (k_here; (with_reducible show wpAny _ _ (getMethod (Value.ref 78) (Str.ofString "sub") _) _ _ _); (refine' Mine.gm_pattern ?k1 ?k2 ?_; (case k1 => k_asm); (case k2 => k_asm))))
local macro_rules | `(tactic| walk_at "call builtin:re.Pattern.sub") => `(tactic| (k_here; (refine' Mine.sub_rule ?k1 ?k2 ?k3 ?k4 ?k5 ?_; (case k1 => k_asm); (case k2 => k_asm); (case k3 => k_asm); (case k4 => k_mem); (case k5 => assumption)); intro _ _ _ hk' _ _; (try dsimp only at hk')))
namespace Mine
/-- the bound method append of the list l -/
def boundApp (l : Addr) : Obj := { cls := .type "builtin_function_or_method", data := .fields #[.builtin "list.append", .ref l] }
def ObjEnd (s : Shared) (o : Obj) (v : Value) (s' : Shared) : Prop := ∃ q h' tk, v = .ref q ∧ s' = { s with heap := h', toks := tk } ∧ h'.get? q = some o ∧ s.heap.get? q = none ∧ ∀ b o, s.heap.get? b = some o → h'.get? b = some o
theorem ObjEnd.intro {h h' : Heap} {g : Array GenState} {d : Drawn} {t tk : Nat} {os : OsState} {q : Addr} {o : Obj} {news : List (Addr × Obj)} (D : X.Mem h h' [] news) (hm : (q, o) ∈ news) : ObjEnd ⟨h, g, d, t, os⟩ o (.ref q) ⟨h', g, d, tk, os⟩ :=
  ⟨q, h', tk, rfl, rfl, (D.nw _ hm).1, (D.nw _ hm).2, fun b o q => D.keep b o q (by show (X.hasCls o || true) = true; rw [Bool.or_true])⟩
end Mine
local macro_rules | `(tactic| x_close) => `(tactic| exact Mine.ObjEnd.intro (by assumption) (List.Mem.head _))
namespace Mine
set_option maxRecDepth 100000 in
set_option maxHeartbeats 0 in
theorem get_app (w : World) (A : Around) (E : Value → Shared → Prop) (h : Heap) (g : Array GenState) (d : Drawn) (tk : Nat) (os : OsState) (l : Addr) (t : Tok) (its : Array Value) (n : Nat) (KX : (Mine.pre.heap_1 w.params).In h)
    (hl : h.get? l = some ⟨.type "list", none, .seq its n, #[]⟩) :
    wpAny (model PySem.Challenge.rw_rx0001_01.row.prog w) A (call (.builtin "list.__getattribute__") [.ref l, .str (Str.ofString "append") t]) (ObjEnd ⟨h, g, d, tk, os⟩ (boundApp l)) E ⟨h, g, d, tk, os⟩ := by
  k_fill
  x_run
section
variable {w : World} {A : Around} {E : Value → Shared → Prop} {s : Shared} {h₀ : Heap} {L l : Addr} {m : Str → Option Value} {news : List (Addr × Obj)} {its : Array Value} {n : Nat}
theorem list_ga : typeLookup (.type "list") "__getattribute__" = pure (some (.builtin "list.__getattribute__")) := by rw [typeLookup_type, builtinLookup_eq_fast]; kernel_rfl
theorem type_ga : typeOf (.builtin "list.__getattribute__") = pure (.type "wrapper_descriptor") := by show builtinType _ = _; rw [builtinType_eq_fast]; kernel_rfl
def sigCheck (o : Option Manifest.Signature) (a b : Value) : Sem Unit := match o with
  | some sig => Bind.checkArgs "list.append" { sig with full := "list.append" } ⟨[a, b], []⟩
  | none => unsupported "?"
theorem sig_append : ∃ sig, Manifest.signature? "list.append" = some sig ∧ ∀ a b : Value, Bind.checkArgs "list.append" { sig with full := "list.append" } ⟨[a, b], []⟩ = pure () := by
  have e := signature?_of (id := "list.append") (n := ['d', 'n', 'e', 'p', 'p', 'a']) (o := ['t', 's', 'i', 'l']) (by kernel_rfl) F.owner_list
  have c : ∀ a b, sigCheck (List.lookup (String.ofList ['d', 'n', 'e', 'p', 'p', 'a'].reverse) Manifest.sig_list) a b = pure () := by intro a b; kernel_rfl
  have i : (List.lookup (String.ofList ['d', 'n', 'e', 'p', 'p', 'a'].reverse) Manifest.sig_list).isSome = true := by kernel_rfl
  obtain ⟨sig, hs⟩ := Option.isSome_iff_exists.mp i
  rw [hs] at c e
  exact ⟨sig, e, c⟩
theorem sub_list_module : isSubtype (.type "list") (.type "module") = pure false := by rw [isSubtype_type]; kernel_rfl
theorem app_rule {expr : Bool} {Q : Value → Shared → Prop} (F : Fr h₀ L s.heap m) (X : (Mine.pre.heap_1 w.params).In h₀) (N : News h₀ L s.heap news) (hl : (l, listOf its n) ∈ news)
    (h : ∀ q h' tk, s.toks ≤ tk → Fr h₀ L h' m → News h₀ L h' ((q, boundApp l) :: news) → (∀ p ∈ news, @Ne Nat p.1 q) → Q (.ref q) { s with heap := h', toks := tk }) :
    wpAny (model PySem.Challenge.rw_rx0001_01.row.prog w) A (getAttr (.ref l) (Str.ofString "append") expr) Q E s := by
  have hg := (N _ hl).1
  unfold getAttr
  refine wpAny_bind (wpAny_mkText ?_)
  unfold getAttrBy
  refine wpAny_holding ?_
  refine wpAny_bind (wpAny_typeOf (T := "list") ⟨_, hg, rfl⟩ ?_)
  refine wpAny_bind (wpAny_of_eq list_ga ?_)
  dsimp only
  rw [if_neg (by decide)]
  unfold getAttrByItsOwn
  refine wpAny_bind (wpAny_pure ?_)
  refine wpAny_bind (wpAny_attempt ?_)
  refine wpAny_holding ?_
  unfold callGetattribute
  rw [if_neg (by cases expr <;> decide)]
  unfold boundAndCalled bindSpecial
  refine wpAny_bind (wpAny_bind (wpAny_of_eq type_ga ?_))
  rw [if_pos (by decide)]
  refine wpAny_pure ?_
  dsimp only
  refine toks_up (s := { s with toks := s.toks + 1 }) s.toks (Nat.le_succ _) (wpAny_mono (get_app w A _ s.heap s.gens s.drawn (s.toks + 1) s.os l s.toks its n (X.keeps F.keep) hg) (fun v s' z => ?_) fun _ _ e => e)
  obtain ⟨q, h', tk, rfl, rfl, hq, hnone, hk⟩ := z
  intro hle
  refine wpAny_pure (h q h' tk hle (F.keeps hk) (fun p hp => ?_) fun p hp e => ?_)
  · rcases List.mem_cons.mp hp with rfl | hp
    · refine ⟨hq, fun e => ?_, ?_⟩
      · obtain ⟨o, _, _, ho, _⟩ := F.ns
        have : s.heap.get? q = none := hnone
        rw [show q = L from e, ho] at this; cases this
      · cases e : h₀.get? q with
        | none => rfl
        | some o => have := F.keep _ _ e; have h2 : s.heap.get? q = none := hnone; rw [h2] at this; cases this
    · exact N.grown hk p hp
  · have := (N p hp).1
    have h2 : s.heap.get? q = none := hnone
    rw [e, h2] at this; cases this
theorem call_app {x : Value} {Q : Value → Shared → Prop} {news' : List (Addr × Obj)} {q : Addr} (F : Fr h₀ L s.heap m) (N : News h₀ L s.heap news) (hq : (q, boundApp l) ∈ news) (U : Upd l (listOf its n) (listOf (its.push x) (n + 1)) news news')
    (h : ∀ h', Fr h₀ L h' m → News h₀ L h' news' → Q .none { s with heap := h' }) (hsz : its.size ≤ sizeLine) : wpAny (model PySem.Challenge.rw_rx0001_01.row.prog w) A (call (.ref q) [x]) Q E s := by
  obtain ⟨pre, post, rfl, rfl, a, b⟩ := U.split
  have z := N (l, listOf its n) (List.mem_append.mpr (.inr (.head _)))
  obtain ⟨sig, hs, hc⟩ := sig_append
  refine wpAny_call (codeAny_of_tree ?_)
  show wpAny _ A.in1 (callAny (.ref q) ⟨[x], []⟩) _ _ s
  unfold callAny
  refine wpAny_bind (wpAny_load (N _ hq).1 ?_)
  show wpAny _ A.in1 (do checkBoundCall "list.append" ⟨[.ref l, x], []⟩; again (.builtin "list.append" ⟨[.ref l, x], []⟩)) _ _ s
  refine wpAny_bind ?_
  unfold checkBoundCall
  rw [hs]
  dsimp only
  rw [show builtinKind "list.append" = some .method by decide +kernel]
  dsimp only
  rw [if_neg (by decide)]
  refine wpAny_bind (wpAny_isInstance (T := "list") ⟨_, z.1, rfl⟩ sub_list_module ?_)
  rw [if_neg (by decide +kernel)]
  refine wpAny_bind ?_
  unfold isType
  refine wpAny_bind ?_
  unfold loadHead
  refine wpAny_loadPart z.1 ?_
  refine wpAny_pure ?_
  rw [if_neg (by exact Bool.false_ne_true)]
  refine wpAny_bind (wpAny_typeOf (T := "list") ⟨_, z.1, rfl⟩ ?_)
  dsimp only
  rw [show (toString (Bind.lastOf "list") ++ toString "." ++ toString (Bind.lastOf "list.append") : String) = "list.append" by decide +kernel]
  refine wpAny_of_eq (hc _ _) ?_
  refine wpAny_pure ⟨plainId_quiet PySem.F.slot_list_append.plain _, ?_⟩
  refine codeAny_builtin PySem.F.entry_list_append ?_
  show wpAny _ _ (updateSeq l (·.push x) >>= fun _ => ret .none) _ _ s
  refine wpAny_bind ?_
  refine wpAny_updateSeq z.1 rfl (wpAny_pure ?_)
  have hu : (s.heap.update l (Obj.mapSeq fun x_1 => x_1.push x)).get? l = some (listOf (its.push x) (n + 1)) := by
    rw [Heap.get?_update_self _ z.1 (by rw [mapSeq_push]; rfl), mapSeq_push]
  exact h _ (F.change (Heap.SameBut.update ..) z.2.1 z.2.2) (news_set N a b (Heap.SameBut.update ..) hu)
end
section
variable {M : Model} {A : Around} {E : Value → Shared → Prop} {s : Shared} {env : Env} {pos : Pos} {first : List Value} {Q : Value → Shared → Prop} {q l : Addr}
def BoundP (q l : Addr) (h : Heap) : Prop := h.get? q = some (boundApp l)
theorem bound_of {h₀ : Heap} {L : Addr} {news : List (Addr × Obj)} {h : Heap} (N : News h₀ L h news) (hq : (q, boundApp l) ∈ news) : BoundP q l h := N.get hq
theorem keeps_B (h : Heap) (X : BoundP q l h) : ∃ k, (k = Keeper.frame ∨ k = Keeper.machine ∨ k = Keeper.boundFrame) ∧ Looks M h (keeperOf (.ref q)) k :=
  ⟨.machine, .inr (.inl rfl), (Looks.ld (part := none) X).andThen .now⟩
theorem callWith_B {h₀ : Heap} {L : Addr} {news : List (Addr × Obj)} {e : PySem.Expr} {rest : List PySem.Expr} (_N : News h₀ L s.heap news) (_q : (q, boundApp l) ∈ news)
    (h : wpAny M A (spliced (backTo pos (starEach (e :: rest) env))) (fun vs s₁ => BoundP q l s₁.heap ∧ wpAny M A (call (.ref q) (first ++ vs)) Q E s₁) E s)
    (he : starEach (e :: rest) env = (false, eval e env) :: starEach rest env := by rfl) (hplain : (backTo pos (starEach rest env)).any (·.1) = false := by rfl) :
    wpAny M A (callWith pos (.ref q) first (backTo pos (starEach (e :: rest) env)) []) Q E s := by
  rw [he] at h ⊢
  exact callWith_of (by show ((false || (backTo pos (starEach rest env)).any (·.1)) || false) = false; rw [hplain]; rfl) keeps_B (PySem.Calls.evalArgs_plain h)
end
end Mine
local macro_rules | `(tactic| walk_at "getAttr ref") => `(tactic| (k_here; (with_reducible show wpAny _ _ (getAttr (Value.ref _) (Str.ofString "append") _) _ _ _); (refine' Mine.app_rule ?k1 ?k2 ?k3 ?k4 ?_; (case k1 => k_asm); (case k2 => k_asm); (case k3 => k_asm); (case k4 => k_mem)); intro q' h' tk' hk' F' N' hne'; (try dsimp only at hk'); (try simp only [List.forall_mem_cons] at hne')))
local macro_rules | `(tactic| walk_at "callWith ref") => `(tactic| (k_here; (refine' Mine.callWith_B ?k1 ?k2 ?_; (case k1 => k_asm); (case k2 => k_mem))))
local macro_rules | `(tactic| walk_at "And") => `(tactic| ((with_reducible show Mine.BoundP _ _ _ ∧ _); k_dflt (refine ⟨Mine.bound_of (by k_asm) (by k_mem), ?_⟩); try dsimp only [List.nil_append, List.cons_append]))
local macro_rules | `(tactic| walk_at "call ref") => `(tactic| (k_here; k_dflt (refine' Mine.call_app ?k1 ?k2 ?k3 ?k4 ?_ ?z; (case k1 => k_asm); (case k2 => k_asm); (case k3 => k_mem); (case k4 => k_upd); (case z => with_reducible assumption)); intro h' F' N'; (try k_sweep)))
end
section
local macro_rules | `(tactic| walk_at "my slices") => `(tactic| first
  | ((with_reducible show wpAny _ _ (subscriptTail _ (Expr.Slice (some _) none none _) _ _) _ _ _); (with_reducible rename Fr _ _ _ _ => F'); (with_reducible rename News _ _ _ _ => N'); (refine Mine.sl_sn (s := ⟨_, _, _, _, _⟩) (by first | with_reducible assumption | exact rfl) (by assumption) F' N' ?_); intro _ _ _ hk' _ _ _; (try dsimp only at hk'))
  | ((with_reducible show wpAny _ _ (subscriptTail _ (Expr.Slice none (some _) none _) _ _) _ _ _); (with_reducible rename Fr _ _ _ _ => F'); (with_reducible rename News _ _ _ _ => N'); (refine Mine.sl_ns (s := ⟨_, _, _, _, _⟩) (by first | with_reducible assumption | exact rfl) (by assumption) F' N' ?_); intro _ _ _ hk' _ _ _; (try dsimp only at hk'))
  | ((with_reducible show wpAny _ _ (subscriptTail _ (Expr.Slice (some _) (some _) none _) _ _) _ _ _); (with_reducible rename Fr _ _ _ _ => F'); (with_reducible rename News _ _ _ _ => N'); (refine Mine.sl_ss (s := ⟨_, _, _, _, _⟩) (by first | with_reducible assumption | exact rfl) (by assumption) F' N' ?_); intro _ _ _ hk' _ _ _; (try dsimp only at hk')))
local macro_rules | `(tactic| walk_at "subscriptTail Name Slice str ref") => `(tactic| walk_at "my slices")
local macro_rules | `(tactic| walk_at "call builtin:str.replace") => `(tactic| (k_here; (first | (refine Mine.repl_eq (by with_reducible assumption) (by omega) (by rfl) (by decide) (by first | assumption | decide +kernel) (by decide) ?_) | (refine Mine.repl (by omega) (by rfl) (by decide) (by assumption) (by decide) ?_)); intro _ _ hk'; (try dsimp only at hk')))
local macro_rules | `(tactic| walk_at "tk") => `(tactic| first | with_reducible assumption | exact Nat.le_add_left 1 _ | (refine Nat.le_trans ?_ (by with_reducible assumption); walk_at "tk"))
local macro_rules | `(tactic| walk_at "execs cons") => `(tactic| (k_here; (refine Mine.execs_cons_gen (by first | walk_at "tk" | omega | ((try dsimp only at *); omega)) ?_); intro _ _; (try k_fold)))
local macro_rules | `(tactic| walk_at "cr") => `(tactic| ((iterate 16 (try (first | with_reducible assumption | with_reducible apply And.right))); done))
local macro_rules | `(tactic| walk_at "cj") => `(tactic| first | walk_at "cr" | ((with_reducible apply And.left); walk_at "cr"))
local macro_rules | `(tactic| k_ne) => `(tactic| ((refine neN ?_); (try dsimp only); first | (refine Nat.ne_of_lt ?_; walk_at "cj") | (refine Nat.ne_of_gt ?_; walk_at "cj") | walk_at "cj" | (refine Ne.symm ?_; walk_at "cj") | omega))
local macro_rules | `(tactic| k_lt $h:ident) => `(tactic| (replace $h := allLt_of $h; dsimp only [AllLt] at $h:ident))
local macro_rules | `(tactic| walk_at "go") => `(tactic| repeat' (first | (k_unfold; (try dsimp only)) | (walk1; (try dsimp only))))
local macro_rules | `(tactic| walk_at "forall") => `(tactic| ((with_reducible show 1 ≤ _ → _); intro ht'; (try dsimp only at ht')))
local macro_rules | `(tactic| walk_at "call builtin:str.rfind") => `(tactic| (k_here; (refine KXw.rfind (by with_reducible assumption) ?_); intro _ _))
local macro_rules | `(tactic| k_all) => `(tactic| first | with_reducible assumption | with_reducible exact List.forall_mem_nil _ | (refine' List.forall_mem_cons.mpr ⟨?a, ?b⟩; (case a => k_ne); (case b => k_all)))
local macro_rules | `(tactic| walk_at "exec While Compare cons nil") => `(tactic| k_extra "while")
local macro_rules | `(tactic| walk_at "WhlIf") => `(tactic| first | (refine WhlIf.yes (decide_eq_true (by omega)) ?_) | (refine WhlIf.no (decide_eq_false (by omega)) ?_))
local macro_rules | `(tactic| walk_at "ite") => `(tactic| first
  | (refine Mine.if_yes (by with_reducible assumption) ?_) | (refine Mine.if_no (by with_reducible assumption) ?_)
  | (refine Mine.if_yes (by decide +kernel) ?_) | (refine Mine.if_no (by decide +kernel) ?_)
  | ((with_reducible show (if decide _ = true then _ else _)); first | (refine Mine.if_yes (decide_eq_true (by omega)) ?_) | (refine Mine.if_no (decide_eq_false (by omega)) ?_)))
local macro_rules | `(tactic| x_close) => `(tactic| exact Mine.TextEnd.intro (by assumption) (by first | rfl | decide +kernel))
local macro_rules | `(tactic| walk_at "call builtin:str.translate") => `(tactic| (k_here; (refine' Mine.trans_rule ?k1 ?k2 ?k3 rfl ?_; (case k1 => k_asm); (case k2 => k_asm); (case k3 => k_asm)); intro _ _ _ hk' _ _; (try dsimp only at hk')))
local macro_rules | `(tactic| walk_at "getMethod ref") => `(tactic| (k_here; (with_reducible show wpAny _ _ (getMethod (Value.ref 78) (Str.ofString "sub") _) _ _ _); (refine' Mine.gm_pattern ?k1 ?k2 ?_; (case k1 => k_asm); (case k2 => k_asm))))
local macro_rules | `(tactic| walk_at "call builtin:re.Pattern.sub") => `(tactic| (k_here; (refine' Mine.sub_rule ?k1 ?k2 ?k3 ?k4 ?k5 ?_; (case k1 => k_asm); (case k2 => k_asm); (case k3 => k_asm); (case k4 => k_mem); (case k5 => assumption)); intro _ _ _ hk' _ _; (try dsimp only at hk')))
local macro_rules | `(tactic| x_close) => `(tactic| exact Mine.ObjEnd.intro (by assumption) (List.Mem.head _))
local macro_rules | `(tactic| walk_at "getAttr ref") => `(tactic| (k_here; (with_reducible show wpAny _ _ (getAttr (Value.ref _) (Str.ofString "append") _) _ _ _); (refine' Mine.app_rule ?k1 ?k2 ?k3 ?k4 ?_; (case k1 => k_asm); (case k2 => k_asm); (case k3 => k_asm); (case k4 => k_mem)); intro q' h' tk' hk' F' N' hne'; (try dsimp only at hk'); (try simp only [List.forall_mem_cons] at hne')))
local macro_rules | `(tactic| walk_at "callWith ref") => `(tactic| (k_here; (refine' Mine.callWith_B ?k1 ?k2 ?_; (case k1 => k_asm); (case k2 => k_mem))))
local macro_rules | `(tactic| walk_at "And") => `(tactic| ((with_reducible show Mine.BoundP _ _ _ ∧ _); k_dflt (refine ⟨Mine.bound_of (by k_asm) (by k_mem), ?_⟩); try dsimp only [List.nil_append, List.cons_append]))
local macro_rules | `(tactic| walk_at "call ref") => `(tactic| (k_here; k_dflt (refine' Mine.call_app ?k1 ?k2 ?k3 ?k4 ?_ ?z; (case k1 => k_asm); (case k2 => k_asm); (case k3 => k_mem); (case k4 => k_upd); (case z => with_reducible assumption)); intro h' F' N'; (try k_sweep)))
namespace Mine
def TrPost (ps : List (Option Str)) (rest : List (Addr × Obj)) (r : Value) (news' : List (Addr × Obj)) : Prop :=
  ∃ a vals n vs', r = .ref a ∧ news' = (a, listOf vals.toArray n) :: (92, tabObj vs') :: rest ∧ TabOk vs' ∧ PiecesAre vals ps
theorem it_rule {prog : Program} {w : World} {A : Around} {E : Value → Shared → Prop} {s : Shared} {x y : Str} {t u : Tok} {k : Int} {value slice : PySem.Expr} {Q : Value → Shared → Prop} (e : Txt.item x k = y) (h0 : 0 ≤ k) (h1 : k < x.length) (hx : x.length ≤ 2000)
    (h : ∀ t' k', s.toks ≤ k' → Q (.str y t') { s with toks := k' })
    (hs : subscripted slice false (.str x t) (.int k u) = operate [.str x t, .int k u] (getItem (.str x t) (.int k u)) := by with_unfolding_all rfl)
    (ht : ∀ r, letTemporaryGo value (.str x t) r = pure () := by intro _; with_unfolding_all rfl) :
    wpAny (model prog w) A (subscriptTail value slice (.str x t) (.int k u)) Q E s := by
  subst e
  exact toks_up s.toks (Nat.le_refl _) (item_str (fitsSsize_of (N := 9223372036854775808) (by omega) (by omega) (Int.le_refl _)) (by omega) h1 (fun _ l => h _ _ l) hs ht)
theorem eq_lit {prog : Program} {w : World} {A : Around} {E : Value → Shared → Prop} {s : Shared} {x y : Str} {t u : Tok} {Q : Value → Shared → Prop} {b : Bool} (e : (x == y) = b) (h : Q (.bool b) s) :
    wpAny (model prog w) A (compareOp .Eq (.str x t) (.str y u)) Q E s := by subst e; exact eq_str h
def TrInv (x : Str) (t t2 : Tok) (l q : Addr) (rest : List (Addr × Obj)) (res : List (Option Str)) (k : Nat) (m : Str → Option Value) (news : List (Addr × Obj)) : Prop :=
  ∃ (pre : List Nat) (todo : List Tk) (acc : List (Option Str)) (vals : List Value) (n : Nat) (vs : Array Value) (ti tn : Tok) (iv : Int),
    k = todo.length ∧ x = ⟨(pre ++ src todo).toArray⟩ ∧ transl acc todo = res ∧ PiecesAre vals acc ∧ vals.length ≤ pre.length ∧ TabOk vs ∧ iv = pre.length ∧
    news = (q, boundApp l) :: (l, listOf vals.toArray n) :: (92, tabObj vs) :: rest ∧
    ∀ p ∈ [(Str.ofString "pat", Value.str x t), (Str.ofString "STAR", .none), (Str.ofString "QUESTION_MARK", .str (Str.ofString ".") t2), (Str.ofString "res", .ref l), (Str.ofString "add", .ref q), (Str.ofString "i", .int iv ti), (Str.ofString "n", .int (x.length : Int) tn)], m p.1 = some p.2
theorem pieces_push {v : Value} {p : Option Str} (hv : PieceIs v p) : ∀ {vs : List Value} {ps : List (Option Str)}, PiecesAre vs ps → PiecesAre (vs ++ [v]) (ps ++ [p])
  | [], [], _ => ⟨hv, trivial⟩
  | [], _ :: _, h => h.elim
  | _ :: _, [], h => h.elim
  | _ :: _, _ :: _, h => ⟨h.1, pieces_push hv h.2⟩
theorem pieces_last {v : Value} : ∀ {vs : List Value} {ps : List (Option Str)}, PiecesAre (vs ++ [v]) ps → ∃ qs p, ps = qs ++ [p] ∧ PieceIs v p ∧ PiecesAre vs qs
  | [], [p], h => ⟨[], p, rfl, h.1, trivial⟩
  | [], [], h => h.elim
  | [], _ :: _ :: _, h => h.2.elim
  | _ :: _, [], h => h.elim
  | a :: vs, p :: ps, h => by
    obtain ⟨qs, q, rfl, h1, h2⟩ := pieces_last (vs := vs) h.2
    exact ⟨p :: qs, q, rfl, h1, h.1, h2⟩
section
variable {prog : Program} {w : World} {A : Around} {E : Value → Shared → Prop} {s : Shared} {h₀ : Heap} {L l : Addr} {news : List (Addr × Obj)} {init : List Value} {v : Value} {n : Nat}
theorem truthy_some {Q : Bool → Shared → Prop} (N : News h₀ L s.heap news) (hm : (l, listOf (init ++ [v]).toArray n) ∈ news) (hz : (init ++ [v]).toArray.size ≤ sizeLine) (h : ∀ tk, s.toks ≤ tk → Q true { s with toks := tk }) :
    wpAny (model prog w) A (truthy (.ref l)) Q E s :=
  kgr_truthy N hm rfl rfl (by rw [List.size_toArray] at hz; exact Nat.lt_of_le_of_lt hz (by decide)) (by
    rw [show (!(init ++ [v]).isEmpty) = true by simp]
    exact h _ (by omega))
theorem last_rule {value slice : PySem.Expr} {u : Tok} {Q : Value → Shared → Prop} (N : News h₀ L s.heap news) (hm : (l, listOf (init ++ [v]).toArray n) ∈ news) (h : Q v s)
    (hs : subscripted slice false (.ref l) (.int (-1) u) = operate [.ref l, .int (-1) u] (getItem (.ref l) (.int (-1) u)) := by with_unfolding_all rfl) :
    wpAny (model prog w) A (subscriptTail value slice (.ref l) (.int (-1) u)) Q E s :=
  kde_neg (News.isList N hm) (by decide) (by decide) (seqIndex?_neg_one (by simp)) (by simp) h hs
end
theorem nil_or_snoc (vs : List Value) : vs = [] ∨ ∃ i v, vs = i ++ [v] := by
  rcases List.eq_nil_or_concat vs with h | ⟨i, v, h⟩
  · exact .inl h
  · exact .inr ⟨i, v, by rw [h, List.concat_eq_append]⟩
theorem one_ne {c d : Nat} (h : c ≠ d) : ((⟨#[c]⟩ : Str) == (⟨#[d]⟩ : Str)) = false := beq_eq_false_iff_ne.mpr fun e => h (by injection e with e; simpa using e)
set_option maxRecDepth 100000 in
theorem gm_translate {prog : Program} {w : World} {A : Around} {E : Value → Shared → Prop} {s : Shared} {x : Str} {t : Tok} {Q : Value × List Value → Shared → Prop} {pl : Sem Bool} (h : Q (.builtin "str.translate", [.str x t]) s) :
    wpAny (model prog w) A (getMethod (.str x t) (Str.ofString "translate") pl) Q E s :=
  by with_reducible exact GM.of (.str x t) (typeIs_str _ _ _) PySem.F.slot_str_translate PySem.F.type_str_translate (fun _ e => nomatch e) h
theorem src_pos (a : Tk) : 1 ≤ a.src.length := by
  cases a with
  | ch c => unfold Tk.src; dsimp only; split <;> simp
  | _ => decide
section
variable {x : Str} {t t2 : Tok} {l q : Addr} {rest : List (Addr × Obj)} {res : List (Option Str)} {m : Str → Option Value} {pre : List Nat} {a : Tk} {todo : List Tk} {acc : List (Option Str)} {vals : List Value} {n : Nat} {vs : Array Value} {ti tn : Tok} {iv : Int}
theorem tr_push (a : Tk) (pc : Option Str) {v : Value} (hx : x = ⟨(pre ++ src (a :: todo)).toArray⟩) (htr : transl acc (a :: todo) = res) (hpc : PiecesAre vals acc) (hlv : vals.length ≤ pre.length) (hst : trStep acc a = acc ++ [pc])
    (hT : TabOk vs) (hv : PieceIs v pc)
    (hm : ∀ p ∈ [(Str.ofString "pat", Value.str x t), (Str.ofString "STAR", .none), (Str.ofString "QUESTION_MARK", .str (Str.ofString ".") t2), (Str.ofString "res", .ref l), (Str.ofString "add", .ref q), (Str.ofString "i", .int iv ti), (Str.ofString "n", .int (x.length : Int) tn)], m p.1 = some p.2)
    (hi : iv = pre.length + a.src.length) : TrInv x t t2 l q rest res todo.length m ((q, boundApp l) :: (l, listOf (vals.toArray.push v) (n + 1)) :: (92, tabObj vs) :: rest) := by
  refine ⟨pre ++ a.src, todo, acc ++ [pc], vals ++ [v], n + 1, vs, ti, tn, iv, rfl, ?_, ?_, pieces_push hv hpc, ?_, hT, ?_, ?_, hm⟩
  · rw [hx]; simp [src]
  · rw [← htr, ← hst]; rfl
  · have := src_pos a; simp; omega
  · rw [hi]; simp
  · rw [List.push_toArray]
theorem tr_skip (a : Tk) (hx : x = ⟨(pre ++ src (a :: todo)).toArray⟩) (htr : transl acc (a :: todo) = res) (hpc : PiecesAre vals acc) (hlv : vals.length ≤ pre.length) (hst : trStep acc a = acc) (hT : TabOk vs)
    (hm : ∀ p ∈ [(Str.ofString "pat", Value.str x t), (Str.ofString "STAR", .none), (Str.ofString "QUESTION_MARK", .str (Str.ofString ".") t2), (Str.ofString "res", .ref l), (Str.ofString "add", .ref q), (Str.ofString "i", .int iv ti), (Str.ofString "n", .int (x.length : Int) tn)], m p.1 = some p.2)
    (hi : iv = pre.length + a.src.length) : TrInv x t t2 l q rest res todo.length m ((q, boundApp l) :: (l, listOf vals.toArray n) :: (92, tabObj vs) :: rest) := by
  refine ⟨pre ++ a.src, todo, acc, vals, n, vs, ti, tn, iv, rfl, ?_, ?_, hpc, ?_, hT, ?_, rfl, hm⟩
  · rw [hx]; simp [src]
  · rw [← htr]; show _ = transl (trStep acc a) todo; rw [hst]
  · simp; omega
  · rw [hi]; simp
end
end Mine
local macro_rules | `(tactic| k_steps) => `(tactic| repeat' (first | (k_unfold; (try dsimp only)) | (k_end; kc_close) | (walk1; (try dsimp only)) | (leave1; walk_say "STEP leave1"; (try dsimp only)) | fail "no step"))
local macro_rules | `(tactic| walk_at "truthy ref") => `(tactic| (k_here; k_dflt (refine' Mine.truthy_some ?k1 ?k2 ?k3 ?_; (case k1 => k_asm); (case k2 => k_mem); (case k3 => with_reducible assumption)); intro _ hk'; (try dsimp only at hk')))
local macro_rules | `(tactic| walk_at "subscriptTail Name UnaryOp ref int") => `(tactic| (k_here; k_dflt (refine' Mine.last_rule ?k1 ?k2 ?_ ?k3; (case k3 => with_unfolding_all rfl); (case k1 => k_asm); (case k2 => k_mem))))
local macro_rules | `(tactic| walk_at "exec While BoolOp") => `(tactic| refine whl_start 6 ?_)
local macro_rules | `(tactic| walk_at "WhlIf") => `(tactic| first | (refine WhlIf.yes (by with_reducible assumption) ?_) | (refine WhlIf.no (by with_reducible assumption) ?_) | (refine WhlIf.yes (decide_eq_true (by omega)) ?_) | (refine WhlIf.no (decide_eq_false (by omega)) ?_) | (refine WhlIf.yes (by decide +kernel) ?_) | (refine WhlIf.no (by decide +kernel) ?_))
local macro_rules | `(tactic| walk_at "eval Lambda") => `(tactic| (k_here; k_dflt (refine' Mine.lam_rule (c := 96) (P := 92) ?k1 ?k2 ?k3 ?k4 ?k5 ?k6 ?k7 ?k8 ?k9 ?k10 ?_; (case k5 => exact rfl); (case k1 => k_asm); (case k2 => k_asm); (case k3 => k_asm); (case k4 => exact codeHd_of_K (c := 96) (P := 92) (by assumption) (by kernel_rfl)); (case k6 => k_updF); (case k7 => with_reducible assumption); (case k8 => exact ⟨rfl, rfl⟩); (case k9 => exact rfl); (case k10 => exact rfl)); intro f' fd' vs' h' tk' hk' hT' F' N' hlt'; (try dsimp only at N'); (try dsimp only at hk'); (try simp only [List.forall_mem_cons] at hlt')))
local macro_rules | `(tactic| walk_at "getMethod str") => `(tactic| with_reducible refine Mine.gm_translate ?_)
local macro_rules | `(tactic| walk_at "WPost") => `(tactic| (dsimp only [Mine.WPost]))
local macro_rules | `(tactic| walk_at "subscriptTail Name Name str int") => `(tactic| (k_here; (refine' Mine.it_rule ?k1 ?k2 ?k3 ?k4 ?_; (case k1 => with_reducible assumption); (case k2 => omega); (case k3 => omega); (case k4 => assumption)); intro _ _ hk'; (try dsimp only at hk')))
local macro_rules | `(tactic| walk_at "compareOp Eq str str") => `(tactic| (k_here; first | (refine Mine.eq_lit (b := false) (by first | with_reducible assumption | decide +kernel) ?_) | (refine Mine.eq_lit (b := true) (by first | with_reducible assumption | decide +kernel) ?_)))
local macro_rules | `(tactic| walk_at "w_end") => `(tactic| ((rename Fr _ _ _ _ => Fz); (rename News _ _ _ _ => Nz); refine ⟨_, _, _, _, _, Nat.lt_succ_self _, rfl, Fz, Nz, ?_⟩))
local macro_rules | `(tactic| walk_at "w_end3") => `(tactic| ((rename Fr _ _ _ _ => Fz); (rename News _ _ _ _ => Nz); refine ⟨_, _, _, _, _, Nat.lt_succ_self _, rfl, Fz, fun p hp => Nz p (List.mem_cons_of_mem _ (List.mem_cons_of_mem _ hp)), ?_⟩))
local macro_rules | `(tactic| walk_at "w_end2") => `(tactic| ((rename Fr _ _ _ _ => Fz); (rename News _ _ _ _ => Nz); refine ⟨_, _, _, _, _, Nat.lt_succ_self _, rfl, Fz, fun p hp => Nz p (List.mem_cons_of_mem _ hp), ?_⟩))
namespace Mine
set_option maxRecDepth 100000 in
set_option maxHeartbeats 8000000 in
theorem translate_ok (ts : List Tk) (x : Str) (t t2 : Tok) (vs : Array Value) (rest : List (Addr × Obj)) (hx : x = ⟨(src ts).toArray⟩) (hlen : x.length ≤ 2000) (hT : TabOk vs) (hr : ∀ p ∈ rest, p.1 ≠ 92) :
    Claim 97 [.str x t, .none, .str (Str.ofString ".") t2] ((92, tabObj vs) :: rest) (TrPost (transl [] ts) rest) := by
  unfold Claim
  k_fill
  intro w p loose mean mg mb cn cs a ccd base h₀ L m ⟨sh, sg, sd, st, so⟩ Q E B F X N T hk htk hret
  have hC := codeHd_of_K (c := 96) (P := 92) X (by kernel_rfl)
  k_with_none
  k_with "while" => refine stop ?_
  refine wpAny_call ?_
  k_dflt cell_enter
  k_steps
  (rename Fr _ _ _ _ => F₁); (rename News _ _ _ _ => N₁); (rename _ ∧ AllLt _ rest => l2); (rename 92 < _ ∧ AllLt _ rest => l1); (rename _ ∧ _ ∧ ∀ x ∈ rest, _ => hne)
  show wpAny _ _ _ _ _ _
  refine while_inv (TrInv x t t2 _ _ rest (transl [] ts)) ts.length (by with_unfolding_all passes_own) (by assumption) F₁ (fun p hp => N₁ p (.tail _ hp)) ⟨[], ts, [], [], 0, vs, _, _, _, rfl, hx, rfl, trivial, Nat.le_refl _, hT, rfl, rfl, by kst_all⟩ ?_
  rintro k' m' news' h' tk' ⟨pre, todo, acc, vals, n, vs', ti, tn, iv, rfl, hx', htr, hpc, hlv, hT', rfl, rfl, hm⟩ htk' F₂ N₂
  have F₃ := fr_kst hm F₂
  clear F₂ F₁ N₁
  have hrl := ktn_ltOf l1.2
  obtain ⟨hne1, hne2, hne3⟩ := hne
  rcases todo with _ | ⟨a, todo⟩
  · have hl : (x.length : Int) = pre.length := by rw [hx']; simp [src, Str.length]
    try dsimp only
    k_steps
    (rename Fr _ _ _ _ => Fz); (rename News _ _ _ _ => Nz)
    exact hret _ _ _ _ Fz (fun p hp => Nz p (.tail _ hp)) ⟨_, vals, n, vs', rfl, rfl, hT', htr ▸ hpc⟩
  · have hlt : (pre.length : Int) < x.length := by have := src_pos a; rw [hx']; simp [src, Str.length]; omega
    have hsz : vals.toArray.size ≤ sizeLine := by rw [List.size_toArray]; exact Nat.le_trans (by omega : vals.length ≤ 2000) (by decide)
    cases a with
    | any =>
      have e0 : Txt.item x (pre.length : Int) = Str.ofString "?" := item_app (post := src todo) (by rw [hx']; rfl) rfl
      try dsimp only
      k_steps
      walk_at "w_end"
      exact tr_push .any (some (Str.ofString ".")) hx' htr hpc hlv rfl (by assumption) ⟨_, rfl⟩ (by kst_all) rfl
    | star => 
      have e0 : Txt.item x (pre.length : Int) = Str.ofString "*" := item_app (post := src todo) (by rw [hx']; rfl) rfl
      rcases nil_or_snoc vals with rfl | ⟨init, v, rfl⟩
      · try dsimp only
        k_steps
        cases acc with
        | cons _ _ => exact hpc.elim
        | nil =>
          walk_at "w_end"
          exact tr_push .star none hx' htr hpc hlv rfl (by assumption) rfl (by kst_all) rfl
      · obtain ⟨qs, pc, rfl, hpv, hpq⟩ := pieces_last hpc
        cases pc with
        | none =>
          cases hpv
          try dsimp only
          k_steps
          walk_at "w_end"
          exact tr_skip .star hx' htr hpc hlv (by simp [trStep, Tk.piece]) (by assumption) (by kst_all) rfl
        | some y =>
          obtain ⟨ty, rfl⟩ := hpv
          try dsimp only
          k_steps
          walk_at "w_end"
          exact tr_push .star none hx' htr hpc hlv (by simp [trStep, Tk.piece]) (by assumption) rfl (by kst_all) rfl
    | nota =>
      have e0 : Txt.item x (pre.length : Int) = Str.ofString "[" := item_at 0 hx' (by omega) rfl
      have e1 : Txt.item x (pre.length + 1 : Int) = Str.ofString "!" := item_at 1 hx' (by omega) rfl
      have e2 : Txt.item x (pre.length + 1 + 1 : Int) = Str.ofString "a" := item_at 2 hx' (by omega) rfl
      have e3 : Txt.item x (pre.length + 1 + 1 + 1 : Int) = Str.ofString "]" := item_at 3 hx' (by omega) rfl
      have hn : (x.length : Int) = pre.length + 4 + (src todo).length := by rw [hx']; simp [src, Str.length, Tk.src]; omega
      have s1 : Txt.slice x (some (pre.length + 1 : Int)) (some (pre.length + 1 + 1 + 1 : Int)) = Str.ofString "!a" := slice_app (pre := pre ++ [91]) (mid := [33, 97]) (post := 93 :: src todo) (by rw [hx']; simp [src, Tk.src]) (by simp) (by simp <;> omega)
      have hS : SetText (Str.ofString "!a") := .inl rfl
      have r1 : Txt.replace (Str.ofString "!a") (Str.ofString "\\") (Str.ofString "\\\\") = Str.ofString "!a" := by decide +kernel
      have r2 : Txt.slice (Str.ofString "!a") (some 1) none = Str.ofString "a" := by decide +kernel
      try dsimp only
      k_steps
      walk_at "w_end2"
      exact tr_push .nota (some (Str.ofString "[^a]")) hx' htr hpc hlv rfl (by with_reducible assumption) ⟨_, congrArg (fun z => Value.str z _) (by decide +kernel)⟩ (by kst_all) (by show _ = (_ : Int) + ((4 : Nat) : Int); omega)
    | dotb =>
      have e0 : Txt.item x (pre.length : Int) = Str.ofString "[" := item_at 0 hx' (by omega) rfl
      have e1 : Txt.item x (pre.length + 1 : Int) = Str.ofString "." := item_at 1 hx' (by omega) rfl
      have e2 : Txt.item x (pre.length + 1 + 1 : Int) = Str.ofString "b" := item_at 2 hx' (by omega) rfl
      have e3 : Txt.item x (pre.length + 1 + 1 + 1 : Int) = Str.ofString "]" := item_at 3 hx' (by omega) rfl
      have hn : (x.length : Int) = pre.length + 4 + (src todo).length := by rw [hx']; simp [src, Str.length, Tk.src]; omega
      have s1 : Txt.slice x (some (pre.length + 1 : Int)) (some (pre.length + 1 + 1 + 1 : Int)) = Str.ofString ".b" := slice_app (pre := pre ++ [91]) (mid := [46, 98]) (post := 93 :: src todo) (by rw [hx']; simp [src, Tk.src]) (by simp) (by simp <;> omega)
      have hS : SetText (Str.ofString ".b") := .inr (.inl rfl)
      have r1 : Txt.replace (Str.ofString ".b") (Str.ofString "\\") (Str.ofString "\\\\") = Str.ofString ".b" := by decide +kernel
      try dsimp only
      k_steps
      walk_at "w_end3"
      exact tr_push .dotb (some (Str.ofString "[.b]")) hx' htr hpc hlv rfl (by with_reducible assumption) ⟨_, congrArg (fun z => Value.str z _) (by decide +kernel)⟩ (by kst_all) (by show _ = (_ : Int) + ((4 : Nat) : Int); omega)
    | ch c =>
      by_cases h1 : c = 42
      · subst h1
        have e0 : Txt.item x (pre.length : Int) = Str.ofString "[" := item_at 0 hx' (by omega) rfl
        have e1 : Txt.item x (pre.length + 1 : Int) = Str.ofString "*" := item_at 1 hx' (by omega) rfl
        have e2 : Txt.item x (pre.length + 1 + 1 : Int) = Str.ofString "]" := item_at 2 hx' (by omega) rfl
        have hn : (x.length : Int) = pre.length + 3 + (src todo).length := by rw [hx']; simp [src, Str.length, Tk.src]; omega
        have s1 : Txt.slice x (some (pre.length + 1 : Int)) (some (pre.length + 1 + 1 : Int)) = Str.ofString "*" := slice_app (pre := pre ++ [91]) (mid := [42]) (post := 93 :: src todo) (by rw [hx']; simp [src, Tk.src]) (by simp) (by simp <;> omega)
        have hS : SetText (Str.ofString "*") := .inr (.inr (.inl rfl))
        have r1 : Txt.replace (Str.ofString "*") (Str.ofString "\\") (Str.ofString "\\\\") = Str.ofString "*" := by decide +kernel
        try dsimp only
        k_steps
        walk_at "w_end3"
        exact tr_push (.ch 42) (some (Str.ofString "[*]")) hx' htr hpc hlv rfl (by with_reducible assumption) ⟨_, congrArg (fun z => Value.str z _) (by decide +kernel)⟩ (by kst_all) (by show _ = (_ : Int) + ((3 : Nat) : Int); omega)
      by_cases h2 : c = 63
      · subst h2
        have e0 : Txt.item x (pre.length : Int) = Str.ofString "[" := item_at 0 hx' (by omega) rfl
        have e1 : Txt.item x (pre.length + 1 : Int) = Str.ofString "?" := item_at 1 hx' (by omega) rfl
        have e2 : Txt.item x (pre.length + 1 + 1 : Int) = Str.ofString "]" := item_at 2 hx' (by omega) rfl
        have hn : (x.length : Int) = pre.length + 3 + (src todo).length := by rw [hx']; simp [src, Str.length, Tk.src]; omega
        have s1 : Txt.slice x (some (pre.length + 1 : Int)) (some (pre.length + 1 + 1 : Int)) = Str.ofString "?" := slice_app (pre := pre ++ [91]) (mid := [63]) (post := 93 :: src todo) (by rw [hx']; simp [src, Tk.src]) (by simp) (by simp <;> omega)
        have hS : SetText (Str.ofString "?") := .inr (.inr (.inr (.inl rfl)))
        have r1 : Txt.replace (Str.ofString "?") (Str.ofString "\\") (Str.ofString "\\\\") = Str.ofString "?" := by decide +kernel
        try dsimp only
        k_steps
        walk_at "w_end3"
        exact tr_push (.ch 63) (some (Str.ofString "[?]")) hx' htr hpc hlv rfl (by with_reducible assumption) ⟨_, congrArg (fun z => Value.str z _) (by decide +kernel)⟩ (by kst_all) (by show _ = (_ : Int) + ((3 : Nat) : Int); omega)
      by_cases h3 : c = 91
      · subst h3
        have e0 : Txt.item x (pre.length : Int) = Str.ofString "[" := item_at 0 hx' (by omega) rfl
        have e1 : Txt.item x (pre.length + 1 : Int) = Str.ofString "[" := item_at 1 hx' (by omega) rfl
        have e2 : Txt.item x (pre.length + 1 + 1 : Int) = Str.ofString "]" := item_at 2 hx' (by omega) rfl
        have hn : (x.length : Int) = pre.length + 3 + (src todo).length := by rw [hx']; simp [src, Str.length, Tk.src]; omega
        have s1 : Txt.slice x (some (pre.length + 1 : Int)) (some (pre.length + 1 + 1 : Int)) = Str.ofString "[" := slice_app (pre := pre ++ [91]) (mid := [91]) (post := 93 :: src todo) (by rw [hx']; simp [src, Tk.src]) (by simp) (by simp <;> omega)
        have hS : SetText (Str.ofString "[") := .inr (.inr (.inr (.inr rfl)))
        have r1 : Txt.replace (Str.ofString "[") (Str.ofString "\\") (Str.ofString "\\\\") = Str.ofString "[" := by decide +kernel
        try dsimp only
        k_steps
        walk_at "w_end3"
        exact tr_push (.ch 91) (some (Str.ofString "[\\[]")) hx' htr hpc hlv rfl (by with_reducible assumption) ⟨_, congrArg (fun z => Value.str z _) (by decide +kernel)⟩ (by kst_all) (by show _ = (_ : Int) + ((3 : Nat) : Int); omega)
      have hs : (Tk.ch c).src = [c] := by unfold Tk.src; dsimp only; rw [if_neg (by omega)]
      have e0 : Txt.item x (pre.length : Int) = ⟨#[c]⟩ := item_at (post := src (.ch c :: todo)) 0 hx' (by omega) (by simp [src, hs])
      have c1 : ((⟨#[c]⟩ : Str) == Str.ofString "*") = false := one_ne h1
      have c2 : ((⟨#[c]⟩ : Str) == Str.ofString "?") = false := one_ne h2
      have c3 : ((⟨#[c]⟩ : Str) == Str.ofString "[") = false := one_ne h3
      try dsimp only
      k_steps
      walk_at "w_end"
      exact tr_push (.ch c) (some (esc c)) hx' htr hpc hlv (by simp [trStep, Tk.piece, h1, h2, h3]) (by with_reducible assumption) ⟨_, rfl⟩ (by kst_all) (by rw [hs]; rfl)
end Mine
end
section
namespace Mine
section
variable {prog : Program} {w : World} {A : Around} {E : Value → Shared → Prop} {s : Shared} {env : Env} {h₀ : Heap} {target iter : PySem.Expr} {body : List Stmt} {Q : Flow → Shared → Prop} {I l : Addr}
/-- the end of a for's turn -/
def FEnd (h₀ : Heap) (L I : Addr) (o : Obj) (J : Nat → (Str → Option Value) → List (Addr × Obj) → Prop) (k : Nat) (s : Shared) (s' : Shared) : Prop :=
  ∃ h' tk' m' news', s' = { s with heap := h', toks := tk' } ∧ Fr h₀ L h' m' ∧ News h₀ L h' ((I, o) :: news') ∧ (∀ p ∈ news', @Ne Nat p.1 I) ∧ J k m' news'
def FPost (h₀ : Heap) (L I : Addr) (o : Obj) (J : Nat → (Str → Option Value) → List (Addr × Obj) → Prop) (k : Nat) (s : Shared) (Q : Flow → Shared → Prop) (f : Flow) (s' : Shared) : Prop :=
  match f with
  | .next => FEnd h₀ L I o J k s s'
  | .cont => FEnd h₀ L I o J k s s'
  | .brk => Q .next s'
  | .ret v => Q (.ret v) s'
theorem for_turns (J : Nat → (Str → Option Value) → List (Addr × Obj) → Prop) (its : Array Value) {m₀ : Str → Option Value} {news₀ : List (Addr × Obj)} (hh : A.handled = none) (hE : PassesOwn (model prog w) A env E) (ht : 1 ≤ s.toks)
    (hli : l ≠ I) (hit : s.heap.IsListIter I l 0) (F : Fr h₀ env.locals s.heap m₀) (N : News h₀ env.locals s.heap news₀) (hI : h₀.get? I = none) (hIL : I ≠ env.locals) (hne : ∀ p ∈ news₀, @Ne Nat p.1 I)
    (hl : ∀ i m news, J i m news → ∃ n, (l, listOf its n) ∈ news) (h0 : J 0 m₀ news₀)
    (turn : ∀ i v m news h tk o, its[i]? = some v → J i m news → 1 ≤ tk → (∀ p ∈ news, @Ne Nat p.1 I) → Fr h₀ env.locals h m → News h₀ env.locals h ((I, o) :: news) →
      wpAny (model prog w) A (assign target env v) (fun _ s₂ => wpAny (model prog w) A (execs body env) (FPost h₀ env.locals I o J (i + 1) s Q) E s₂) E { s with heap := h, toks := tk })
    (done : ∀ m news h tk, J its.size m news → 1 ≤ tk → Fr h₀ env.locals h m → News h₀ env.locals h news → Q .next { s with heap := h, toks := tk })
    (htg : ∀ v, letOwnedTupleGo target (.ref I) v = pure () := by intro _; rfl) :
    codeAny (model prog w) A (.forLoop target (.ref I) body [] env) (fun r s' => match r with | .ok f => Q f s' | .error e => cameBackBy (model prog w) A env E e s') s := by
  have W := Walks.list (prog := prog) (w := w) hh I l hli its
  have old : ∀ b o, h₀.get? b = some o → b ∉ [I] := fun b o e hb => by
    rw [List.mem_singleton] at hb; subst hb; rw [hI] at e; cases e
  have hLw : env.locals ∉ [I] := fun h => hIL (List.mem_singleton.mp h).symm
  refine codeAny_forLoop
    (fun k s' => ∃ h' tk m' news' i, s' = { s with heap := h', toks := tk } ∧ 1 ≤ tk ∧ h'.IsListIter I l i ∧ Fr h₀ env.locals h' m' ∧ News h₀ env.locals h' news' ∧ (∀ p ∈ news', @Ne Nat p.1 I) ∧ J i m' news' ∧ i ≤ its.size ∧ k = its.size + 1 - i) ?_ (its.size + 1)
    ⟨s.heap, s.toks, m₀, news₀, 0, rfl, ht, hit, F, N, hne, h0, Nat.zero_le _, rfl⟩ htg
  rintro k s' ⟨h', tk, m', news', i, rfl, htk, hit', F', N', hne', hJ, hi, rfl⟩
  have next : ∀ h₁ : Heap, (∀ b o, b ∉ [I] → h'.get? b = some o → h₁.get? b = some o) → Fr h₀ env.locals h₁ m' ∧ News h₀ env.locals h₁ news' := fun h₁ hk₁ =>
    ⟨⟨F'.ns.at' fun o e => hk₁ _ o hLw e, fun b o e => hk₁ b o (old b o e) (F'.keep b o e), F'.above⟩, fun p hp => ⟨hk₁ _ _ (fun hb => hne' p hp (List.mem_singleton.mp hb)) (N' p hp).1, (N' p hp).2⟩⟩
  obtain ⟨n, hmem⟩ := hl _ _ _ hJ
  have hL : h'.IsList l its := News.isList N' hmem
  by_cases hlt : i < its.size
  · refine toks_up 1 htk (W.item i _ _ _ hlt ⟨hit', hL⟩ fun v h₁ tk₁ hP hst₁ hk₁ htk₁ => ?_)
    obtain ⟨F₁, N₁⟩ := next h₁ hk₁
    obtain ⟨o, ho, hr⟩ := hst₁.1
    have N₂ : News h₀ env.locals h₁ ((I, o) :: news') := fun p hp => by
      rcases List.mem_cons.mp hp with rfl | hp
      · exact ⟨ho, hIL, hI⟩
      · exact N₁ p hp
    refine wpAny_passesOwn hE (toks_up 1 htk₁ (wpAny_mono (turn i v m' news' h₁ tk₁ o hP hJ htk₁ hne' F₁ N₂) (fun _ s₂ h₂ hs2 => ?_) fun _ _ e => e))
    · refine wpAny_passesOwn hE (toks_up 1 hs2 (wpAny_mono h₂ (fun f s₃ h₃ hle => ?_) fun _ _ e => e))
      have fin : FEnd h₀ env.locals I o J (i + 1) s s₃ → ∃ m, m < its.size + 1 - i ∧ ∃ h' tk m' news' i, s₃ = { s with heap := h', toks := tk } ∧ 1 ≤ tk ∧ h'.IsListIter I l i ∧ Fr h₀ env.locals h' m' ∧ News h₀ env.locals h' news' ∧ (∀ p ∈ news', @Ne Nat p.1 I) ∧ J i m' news' ∧ i ≤ its.size ∧ m = its.size + 1 - i := by
        rintro ⟨h₃', tk₃, m₃, news₃, rfl, F₃, N₃, hne₃, hJ₃⟩
        exact ⟨its.size + 1 - (i + 1), by omega, h₃', tk₃, m₃, news₃, i + 1, rfl, hle, ⟨o, (N₃ _ (.head _)).1, hr⟩, F₃, fun p hp => N₃ p (.tail _ hp), hne₃, hJ₃, hlt, rfl⟩
      cases f with
      | next => exact fin h₃
      | cont => exact fin h₃
      | brk => exact h₃
      | ret v => exact h₃
  · have hin : i = its.size := by omega
    subst hin
    refine toks_up 1 htk (W.done _ _ _ ⟨hit', hL⟩ fun h₁ tk₁ hk₁ htk₁ => wpAny_execs_nil ?_)
    obtain ⟨F₁, N₁⟩ := next h₁ hk₁
    exact done m' news' h₁ tk₁ hJ htk₁ F₁ N₁
theorem for_list {pos : Pos} {m₀ : Str → Option Value} (_F₀ : Fr h₀ env.locals s.heap m₀) (h : wpAny (model prog w) A (eval iter env) (fun v s₁ => ∃ l its n m news, v = .ref l ∧ Fr h₀ env.locals s₁.heap m ∧ News h₀ env.locals s₁.heap news ∧ (l, listOf its n) ∈ news ∧ 1 ≤ s₁.toks ∧
      ∃ J : Nat → (Str → Option Value) → List (Addr × Obj) → Prop, J 0 m news ∧ (∀ i m news, J i m news → ∃ n, (l, listOf its n) ∈ news) ∧
      (∀ i v m news h tk I o, its[i]? = some v → J i m news → 1 ≤ tk → (∀ p ∈ news, @Ne Nat p.1 I) → Fr h₀ env.locals h m → News h₀ env.locals h ((I, o) :: news) →
        wpAny (model prog w) A (assign target env v) (fun _ s₂ => wpAny (model prog w) A (execs body env) (FPost h₀ env.locals I o J (i + 1) s₁ Q) E s₂) E { s₁ with heap := h, toks := tk }) ∧
      ∀ m news h tk, J its.size m news → 1 ≤ tk → Fr h₀ env.locals h m → News h₀ env.locals h news → Q .next { s₁ with heap := h, toks := tk }) E s)
    (hh : A.handled = none) (hE : PassesOwn (model prog w) A env E) (hs : ∀ x, foldedSetIterable iter env x = pure x := by intro _; rfl) (htg : ∀ I v, letOwnedTupleGo target (.ref I) v = pure () := by intro _ _; rfl) :
    wpAny (model prog w) A (exec (.For target iter body [] pos) env) Q E s := by
  refine wpAny_For (wpAny_mono h (fun v s₁ h₁ => ?_) fun _ _ e => e) hs
  obtain ⟨l, its, n, m, news, rfl, F, N, hm, ht, J, h0, hl, turn, done⟩ := h₁
  refine wpAny_pyIter_list (News.isList N hm) ?_
  have hg : ∀ b o, s₁.heap.get? b = some o → (s₁.heap.push { cls := .type "list_iterator", data := .fields #[.ref l, .int 0 0] }).get? b = some o := fun b o e => Heap.get?_push_of_some _ e
  have fresh : ∀ b o, s₁.heap.get? b = some o → @Ne Nat b s₁.heap.objs.size := fun b o e q => by
    have := Heap.lt_size e
    exact absurd q (Nat.ne_of_lt this)
  obtain ⟨oL, _, _, hoL, _⟩ := id F.ns
  refine for_turns J its hh hE (s := { s₁ with heap := s₁.heap.push _ }) ht (fun e => fresh _ _ (N _ hm).1 e) ?_ (F.keeps hg) (N.grown hg) ?_ (fun e => fresh _ _ hoL e.symm) (fun p hp => fresh _ _ (N p hp).1) hl h0 (fun i v m news h tk o => turn i v m news h tk _ o) done (htg _)
  · exact ⟨_, Heap.get?_push_size _ rfl, rfl, rfl⟩
  · cases e : h₀.get? s₁.heap.objs.size with
    | none => rfl
    | some o => exact absurd rfl (fresh _ _ (F.keep _ _ e))
end
end Mine
end
section
namespace Mine
section
variable {prog : Program} {w : World} {A : Around} {s : Shared} {h₀ : Heap} {L : Addr} {m : Str → Option Value} {env : Env} {ct elt : PySem.Expr} {x : Str} {scope : Scope} {cl : List (Str × Addr)} {S : List (Addr × Obj) → Prop} {P : Nat → Value → Prop} {Fin : List Value → List (Addr × Obj) → Prop}
/-- the turns of a comprehension with one test, by an invariant -/
theorem rest_T (n : Nat) (news : List (Addr × Obj)) (R : Nat → List Value → List (Addr × Obj) → Prop) (h0 : R 0 [] news) (fin : ∀ ys nw, R n ys nw → Fin ys nw)
    (turn : ∀ i ys nw (K : List Value → List (Addr × Obj) → Prop), i < n → R i ys nw → (∀ ys' nw', R (i + 1) ys' nw' → K ys' nw') →
      ∀ v I oI C oC D m₂ h tk (E' : Value → Shared → Prop), P i v → LCg.NsObj oC m₂ → m₂ x = some v → Fr h₀ L h m → News h₀ L h ((I, oI) :: (C, oC) :: (D, LCg.lst ys) :: nw) → LCg.Off3 I C D nw → ((@Ne Nat I C) ∧ (@Ne Nat I D) ∧ (@Ne Nat C D)) →
      wpAny (model prog w) A (isTrue ct (compEnvC scope cl C env) (eval ct (compEnvC scope cl C env))) (fun ok s' => if ok = true then
        wpAny (model prog w) A (eval elt (compEnvC scope cl C env)) (LCg.CompEnd h₀ L m { s with heap := h, toks := tk } I oI C oC D (LCg.lst ys) S (fun y nw' => K (ys ++ [y]) nw')) E' s'
        else LCg.CompEnd h₀ L m { s with heap := h, toks := tk } I oI C oC D (LCg.lst ys) S (fun _ nw' => K ys nw') Value.none s') E' { s with heap := h, toks := tk }) :
    LCt.CompRestT prog w A h₀ L m env ct elt x scope cl s S P Fin n 0 [] news := by
  have all : ∀ k i ys nw, k + i = n → R i ys nw → LCt.CompRestT prog w A h₀ L m env ct elt x scope cl s S P Fin k i ys nw := by
    intro k
    induction k with
    | zero => intro i ys nw e r; rw [Nat.zero_add] at e; subst e; exact fin ys nw r
    | succ k ih => intro i ys nw e r; exact turn i ys nw _ (by omega) r fun ys' nw' r' => ih (i + 1) ys' nw' (by omega) r'
  exact all n 0 [] news rfl h0
theorem rest_U (n : Nat) (news : List (Addr × Obj)) (R : Nat → List Value → List (Addr × Obj) → Prop) (h0 : R 0 [] news) (fin : ∀ ys nw, R n ys nw → Fin ys nw)
    (turn : ∀ i ys nw (K : List Value → List (Addr × Obj) → Prop), i < n → R i ys nw → (∀ ys' nw', R (i + 1) ys' nw' → K ys' nw') →
      ∀ v I oI C oC D m₂ h tk (E' : Value → Shared → Prop), P i v → LCg.NsObj oC m₂ → m₂ x = some v → Fr h₀ L h m → News h₀ L h ((I, oI) :: (C, oC) :: (D, LCg.lst ys) :: nw) → LCg.Off3 I C D nw → ((@Ne Nat I C) ∧ (@Ne Nat I D) ∧ (@Ne Nat C D)) →
      wpAny (model prog w) A (eval elt (compEnvC scope cl C env)) (LCg.CompEnd h₀ L m { s with heap := h, toks := tk } I oI C oC D (LCg.lst ys) S (fun y nw' => K (ys ++ [y]) nw')) E' { s with heap := h, toks := tk }) :
    LCg.CompRest prog w A h₀ L m env elt x scope cl s S P Fin n 0 [] news := by
  have all : ∀ k i ys nw, k + i = n → R i ys nw → LCg.CompRest prog w A h₀ L m env elt x scope cl s S P Fin k i ys nw := by
    intro k
    induction k with
    | zero => intro i ys nw e r; rw [Nat.zero_add] at e; subst e; exact fin ys nw r
    | succ k ih => intro i ys nw e r; exact turn i ys nw _ (by omega) r fun ys' nw' r' => ih (i + 1) ys' nw' (by omega) r'
  exact all n 0 [] news rfl h0
end
end Mine
end
section
local macro_rules | `(tactic| walk_at "my slices") => `(tactic| first
  | ((with_reducible show wpAny _ _ (subscriptTail _ (Expr.Slice (some _) none none _) _ _) _ _ _); (with_reducible rename Fr _ _ _ _ => F'); (with_reducible rename News _ _ _ _ => N'); (refine Mine.sl_sn (s := ⟨_, _, _, _, _⟩) (by first | with_reducible assumption | exact rfl) (by assumption) F' N' ?_); intro _ _ _ hk' _ _ _; (try dsimp only at hk'))
  | ((with_reducible show wpAny _ _ (subscriptTail _ (Expr.Slice none (some _) none _) _ _) _ _ _); (with_reducible rename Fr _ _ _ _ => F'); (with_reducible rename News _ _ _ _ => N'); (refine Mine.sl_ns (s := ⟨_, _, _, _, _⟩) (by first | with_reducible assumption | exact rfl) (by assumption) F' N' ?_); intro _ _ _ hk' _ _ _; (try dsimp only at hk'))
  | ((with_reducible show wpAny _ _ (subscriptTail _ (Expr.Slice (some _) (some _) none _) _ _) _ _ _); (with_reducible rename Fr _ _ _ _ => F'); (with_reducible rename News _ _ _ _ => N'); (refine Mine.sl_ss (s := ⟨_, _, _, _, _⟩) (by first | with_reducible assumption | exact rfl) (by assumption) F' N' ?_); intro _ _ _ hk' _ _ _; (try dsimp only at hk')))
local macro_rules | `(tactic| walk_at "subscriptTail Name Slice str ref") => `(tactic| walk_at "my slices")
local macro_rules | `(tactic| walk_at "call builtin:str.replace") => `(tactic| (k_here; (first | (refine Mine.repl_eq (by with_reducible assumption) (by omega) (by rfl) (by decide) (by first | assumption | decide +kernel) (by decide) ?_) | (refine Mine.repl (by omega) (by rfl) (by decide) (by assumption) (by decide) ?_)); intro _ _ hk'; (try dsimp only at hk')))
local macro_rules | `(tactic| walk_at "tk") => `(tactic| first | with_reducible assumption | exact Nat.le_add_left 1 _ | (refine Nat.le_trans ?_ (by with_reducible assumption); walk_at "tk"))
local macro_rules | `(tactic| walk_at "execs cons") => `(tactic| (k_here; (refine Mine.execs_cons_gen (by first | walk_at "tk" | omega | ((try dsimp only at *); omega)) ?_); intro _ _; (try k_fold)))
local macro_rules | `(tactic| walk_at "cr") => `(tactic| ((iterate 16 (try (first | with_reducible assumption | with_reducible apply And.right))); done))
local macro_rules | `(tactic| walk_at "cj") => `(tactic| first | walk_at "cr" | ((with_reducible apply And.left); walk_at "cr"))
local macro_rules | `(tactic| k_ne) => `(tactic| ((refine neN ?_); (try dsimp only); first | (refine Nat.ne_of_lt ?_; walk_at "cj") | (refine Nat.ne_of_gt ?_; walk_at "cj") | walk_at "cj" | (refine Ne.symm ?_; walk_at "cj") | omega))
local macro_rules | `(tactic| k_lt $h:ident) => `(tactic| (replace $h := allLt_of $h; dsimp only [AllLt] at $h:ident))
local macro_rules | `(tactic| walk_at "go") => `(tactic| repeat' (first | (k_unfold; (try dsimp only)) | (walk1; (try dsimp only))))
local macro_rules | `(tactic| walk_at "forall") => `(tactic| ((with_reducible show 1 ≤ _ → _); intro ht'; (try dsimp only at ht')))
local macro_rules | `(tactic| walk_at "call builtin:str.rfind") => `(tactic| (k_here; (refine KXw.rfind (by with_reducible assumption) ?_); intro _ _))
local macro_rules | `(tactic| k_all) => `(tactic| first | with_reducible assumption | with_reducible exact List.forall_mem_nil _ | (refine' List.forall_mem_cons.mpr ⟨?a, ?b⟩; (case a => k_ne); (case b => k_all)))
local macro_rules | `(tactic| walk_at "exec While Compare cons nil") => `(tactic| k_extra "while")
local macro_rules | `(tactic| walk_at "WhlIf") => `(tactic| first | (refine WhlIf.yes (decide_eq_true (by omega)) ?_) | (refine WhlIf.no (decide_eq_false (by omega)) ?_))
local macro_rules | `(tactic| walk_at "ite") => `(tactic| first
  | (refine Mine.if_yes (by with_reducible assumption) ?_) | (refine Mine.if_no (by with_reducible assumption) ?_)
  | (refine Mine.if_yes (by decide +kernel) ?_) | (refine Mine.if_no (by decide +kernel) ?_)
  | ((with_reducible show (if decide _ = true then _ else _)); first | (refine Mine.if_yes (decide_eq_true (by omega)) ?_) | (refine Mine.if_no (decide_eq_false (by omega)) ?_)))
local macro_rules | `(tactic| x_close) => `(tactic| exact Mine.TextEnd.intro (by assumption) (by first | rfl | decide +kernel))
local macro_rules | `(tactic| walk_at "call builtin:str.translate") => `(tactic| (k_here; (refine' Mine.trans_rule ?k1 ?k2 ?k3 rfl ?_; (case k1 => k_asm); (case k2 => k_asm); (case k3 => k_asm)); intro _ _ _ hk' _ _; (try dsimp only at hk')))
local macro_rules | `(tactic| walk_at "getMethod ref") => `(tactic| (k_here; (with_reducible show wpAny _ _ (getMethod (Value.ref 78) (Str.ofString "sub") _) _ _ _); (refine' Mine.gm_pattern ?k1 ?k2 ?_; (case k1 => k_asm); (case k2 => k_asm))))
local macro_rules | `(tactic| walk_at "call builtin:re.Pattern.sub") => `(tactic| (k_here; (refine' Mine.sub_rule ?k1 ?k2 ?k3 ?k4 ?k5 ?_; (case k1 => k_asm); (case k2 => k_asm); (case k3 => k_asm); (case k4 => k_mem); (case k5 => assumption)); intro _ _ _ hk' _ _; (try dsimp only at hk')))
namespace Mine
/-- the values of a row: None, or a pair of a bool and a text that stands in the ledger -/
def RowIs (news : List (Addr × Obj)) : List Value → List (Option (Bool × Str)) → Prop
  | [], [] => True
  | v :: vs, p :: ps => (match p with | none => v = .none | some (b, x) => ∃ a t, v = .ref a ∧ (a, ({ cls := .type "tuple", data := .seq [.bool b, .str x t].toArray } : Obj)) ∈ news) ∧ RowIs news vs ps
  | _, _ => False
def inSet (y : Str) (x : Str) (p : Int) : Bool := !(Builtin.Str.occurrences y (Txt.item x p) 0 y.length 1).isEmpty
def stepT (x : Str) (ps : List Int) : Option (Bool × Str) → List Int
  | none => ((List.range (x.length + 1)).map fun (i : Nat) => (i : Int)).filter fun p => !ps.isEmpty && decide (ps.headD 0 ≤ p)
  | some (b, y) => (ps.filter fun (p : Int) => decide (p < (x.length : Int)) && (inSet y x p != b)).map fun (p : Int) => p + 1
def runT (x : Str) (items : List (Option (Bool × Str))) : List Int := items.foldl (stepT x) [0]
def takesB (x : Str) (items : List (Option (Bool × Str))) : Bool := (runT x items).any fun p => p == (x.length : Int)
def TInv (x : Str) (items : List (Option (Bool × Str))) (c1 c2 c3 : Addr) (o3 : Obj) (news : List (Addr × Obj)) (k : Nat) (_m : Str → Option Value) (news' : List (Addr × Obj)) : Prop :=
  ∃ (D : Addr) (pv : List Value) (ps : List Int) (nn : Nat) (oP oO : Obj) (v0 : Option Value), news' = (D, listOf pv.toArray nn) :: (c3, oO) :: (c2, oP) :: (c1, o3) :: news ∧ IntsAre pv ps ∧ oP.data = .cell (some (.ref D)) ∧ oO.data = .cell v0 ∧
    ps = runT x (items.take k) ∧ (@Ne Nat c3 D ∧ @Ne Nat c2 D ∧ @Ne Nat c1 D ∧ ∀ p ∈ news, @Ne Nat p.1 D) ∧ (∀ p ∈ ps, 0 ≤ p ∧ p ≤ x.length) ∧ ps.length ≤ x.length + 1
theorem RowIs.get {news : List (Addr × Obj)} : ∀ {vs : List Value} {ps : List (Option (Bool × Str))}, RowIs news vs ps → ∀ {i : Nat} {v : Value}, vs[i]? = some v → ∃ p, ps[i]? = some p ∧ (match p with | none => v = .none | some (b, x) => ∃ a t, v = .ref a ∧ (a, ({ cls := .type "tuple", data := .seq [.bool b, .str x t].toArray } : Obj)) ∈ news)
  | [], [], _, i, v, h => by simp at h
  | [], _ :: _, h, _, _, _ => h.elim
  | _ :: _, [], h, _, _, _ => h.elim
  | a :: vs, p :: ps, h, 0, v, e => ⟨p, rfl, by simp at e; subst e; exact h.1⟩
  | a :: vs, p :: ps, h, i + 1, v, e => RowIs.get (vs := vs) (ps := ps) h.2 (by simpa using e)
theorem range_small {n : Nat} (h : n ≤ 2001) : Builtin.Range.small 0 (n : Int) 1 = true ∧ Builtin.Range.rangeSize 0 (n : Int) 1 = ((n : Nat) : Int) :=
  ⟨small_one (by omega) (by omega) (by omega) (by omega), by have := rangeSize_nat 0 n; simpa using this⟩
theorem off1_all {D : Addr} : ∀ {l : List (Addr × Obj)}, LCg.Off1 D l → ∀ p ∈ l, @Ne Nat p.1 D
  | [], _, _, h => nomatch h
  | _ :: _, h, p, hp => by
    rcases List.mem_cons.mp hp with rfl | hp
    · exact h.1
    · exact off1_all h.2 p hp
theorem off3_all {I C D : Addr} : ∀ {l : List (Addr × Obj)}, LCg.Off3 I C D l → (∀ p ∈ l, @Ne Nat p.1 I) ∧ (∀ p ∈ l, @Ne Nat p.1 C) ∧ ∀ p ∈ l, @Ne Nat p.1 D :=
  fun h => ⟨fun p hp => (h.mem p hp).1, fun p hp => (h.mem p hp).2.1, fun p hp => (h.mem p hp).2.2⟩
theorem RowIs.length {news : List (Addr × Obj)} : ∀ {vs : List Value} {ps : List (Option (Bool × Str))}, RowIs news vs ps → vs.length = ps.length
  | [], [], _ => rfl
  | [], _ :: _, h => h.elim
  | _ :: _, [], h => h.elim
  | _ :: _, _ :: _, h => congrArg (· + 1) (RowIs.length h.2)
/-- the first list's items so far -/
def upTo (x : Str) (ps : List Int) (i : Nat) : List Int := ((List.range i).map fun (i : Nat) => (i : Int)).filter fun p => !ps.isEmpty && decide (ps.headD 0 ≤ p)
theorem lts_nes {a b c D : Addr} {news : List (Addr × Obj)} (h : @LT.lt Nat _ a D ∧ @LT.lt Nat _ b D ∧ @LT.lt Nat _ c D ∧ AllLt D news) : @Ne Nat a D ∧ @Ne Nat b D ∧ @Ne Nat c D ∧ ∀ p ∈ news, @Ne Nat p.1 D :=
  ⟨Nat.ne_of_lt h.1, Nat.ne_of_lt h.2.1, Nat.ne_of_lt h.2.2.1, fun p hp => Nat.ne_of_lt (ktn_ltOf h.2.2.2 p hp)⟩
theorem upTo_in {x : Str} {p0 : Int} {ps : List Int} {j : Nat} (h : p0 ≤ 0 + (j : Int)) : upTo x (p0 :: ps) (j + 1) = upTo x (p0 :: ps) j ++ [0 + (j : Int)] := by
  unfold upTo; rw [List.range_succ, List.map_append, List.filter_append, Int.zero_add]
  congr 1
  simp; omega
theorem upTo_out {x : Str} {p0 : Int} {ps : List Int} {j : Nat} (h : ¬ p0 ≤ 0 + (j : Int)) : upTo x (p0 :: ps) (j + 1) = upTo x (p0 :: ps) j := by
  unfold upTo; rw [List.range_succ, List.map_append, List.filter_append]
  simp; omega
theorem upTo_nil {x : Str} {j : Nat} : upTo x [] j = [] := by
  unfold upTo; simp
theorem upTo_bnd {x : Str} {ps : List Int} {n : Nat} : (∀ p ∈ upTo x ps n, 0 ≤ p ∧ p ≤ (n : Int) - 1) ∧ (upTo x ps n).length ≤ n := by
  unfold upTo
  refine ⟨fun p hp => ?_, ?_⟩
  · have := List.mem_filter.mp hp
    obtain ⟨i, hi, rfl⟩ := List.mem_map.mp this.1
    have := List.mem_range.mp hi
    omega
  · exact Nat.le_trans (List.length_filter_le _ _) (by simp)
/-- the second list's items so far -/
def fwd (x : Str) (b : Bool) (y : Str) (ps : List Int) : List Int := (ps.filter fun (p : Int) => decide (p < (x.length : Int)) && (inSet y x p != b)).map fun (p : Int) => p + 1
theorem fwd_snoc {x : Str} {b : Bool} {y : Str} {ps : List Int} {i : Nat} {p : Int} (h : ps[i]? = some p) : fwd x b y (ps.take (i + 1)) = fwd x b y (ps.take i) ++ if p < (x.length : Int) ∧ inSet y x p ≠ b then [p + 1] else [] := by
  unfold fwd
  rw [List.take_add_one, h, List.filter_append, List.map_append]
  congr 1
  simp only [Option.toList, List.filter_cons, List.filter_nil]
  by_cases h1 : p < (x.length : Int) <;> by_cases h2 : inSet y x p = b <;> simp [h1, h2]
theorem fwd_bnd {x : Str} {b : Bool} {y : Str} {ps : List Int} (h : ∀ p ∈ ps, 0 ≤ p ∧ p ≤ (x.length : Int)) : (∀ p ∈ fwd x b y ps, 0 ≤ p ∧ p ≤ (x.length : Int)) ∧ (fwd x b y ps).length ≤ ps.length := by
  unfold fwd
  refine ⟨fun p hp => ?_, ?_⟩
  · obtain ⟨q, hq, rfl⟩ := List.mem_map.mp hp
    have h1 := List.mem_filter.mp hq
    have h2 := h q h1.1
    simp at h1
    omega
  · rw [List.length_map]; exact List.length_filter_le _ _
theorem item0 {prog : Program} {w : World} {A : Around} {E : Value → Shared → Prop} {s : Shared} {h₀ : Heap} {L l : Addr} {news : List (Addr × Obj)} {v : Value} {vs : List Value} {n : Nat} {value slice : PySem.Expr} {u : Tok} {Q : Value → Shared → Prop} (N : News h₀ L s.heap news) (hm : (l, listOf (v :: vs).toArray n) ∈ news) (h : Q v s)
    (hs : subscripted slice false (.ref l) (.int 0 u) = operate [.ref l, .int 0 u] (getItem (.ref l) (.int 0 u)) := by with_unfolding_all rfl) :
    wpAny (model prog w) A (subscriptTail value slice (.ref l) (.int 0 u)) Q E s :=
  item_listR (News.isList N hm) (Int.le_refl 0) (by decide) (by simp) h hs
theorem runT_snoc {x : Str} {items : List (Option (Bool × Str))} {i : Nat} {q : Option (Bool × Str)} (h : items[i]? = some q) : runT x (items.take (i + 1)) = stepT x (runT x (items.take i)) q := by
  unfold runT
  rw [List.take_add_one, h, List.foldl_append]
  rfl
theorem swap_sub {a b c : Addr × Obj} {r : List (Addr × Obj)} : ∀ p ∈ b :: a :: r, p ∈ a :: b :: c :: r := fun p hp => by
  rcases List.mem_cons.mp hp with rfl | hp
  · exact .tail _ (.head _)
  rcases List.mem_cons.mp hp with rfl | hp
  · exact .head _
  · exact .tail _ (.tail _ (.tail _ hp))
theorem FPost.next {h₀ : Heap} {L I : Addr} {o : Obj} {J : Nat → (Str → Option Value) → List (Addr × Obj) → Prop} {k : Nat} {s : Shared} {Q : Flow → Shared → Prop} {h' : Heap} {tk' : Nat} {m' : Str → Option Value} {news' : List (Addr × Obj)}
    (F : Fr h₀ L h' m') (N : News h₀ L h' ((I, o) :: news')) (hne : ∀ p ∈ news', @Ne Nat p.1 I) (hJ : J k m' news') : FPost h₀ L I o J k s Q .next { s with heap := h', toks := tk' } := ⟨h', tk', m', news', rfl, F, N, hne, hJ⟩
theorem item_rule {prog : Program} {w : World} {A : Around} {E : Value → Shared → Prop} {s : Shared} {x : Str} {t u : Tok} {k : Int} {value slice : PySem.Expr} {Q : Value → Shared → Prop} (h0 : 0 ≤ k) (h1 : k < x.length) (hx : x.length ≤ 2000)
    (h : ∀ t' k', s.toks ≤ k' → Q (.str (Txt.item x k) t') { s with toks := k' })
    (hs : subscripted slice false (.str x t) (.int k u) = operate [.str x t, .int k u] (getItem (.str x t) (.int k u)) := by with_unfolding_all rfl)
    (ht : ∀ r, letTemporaryGo value (.str x t) r = pure () := by intro _; with_unfolding_all rfl) :
    wpAny (model prog w) A (subscriptTail value slice (.str x t) (.int k u)) Q E s :=
  toks_up s.toks (Nat.le_refl _) (item_str (fitsSsize_of (N := 9223372036854775808) (by omega) (by omega) (Int.le_refl _)) (by omega) h1 (fun _ l => h _ _ l) hs ht)
section
variable {prog : Program} {w : World} {A : Around} {E : Value → Shared → Prop} {s : Shared} {h₀ : Heap} {L l : Addr} {news : List (Addr × Obj)} {v0 v1 : Value} {value slice : PySem.Expr} {u : Tok} {Q : Value → Shared → Prop}
theorem pair0 (N : News h₀ L s.heap news) (hm : (l, ({ cls := .type "tuple", data := .seq #[v0, v1] } : Obj)) ∈ news) (h : Q v0 s)
    (hs : subscripted slice false (.ref l) (.int 0 u) = operate [.ref l, .int 0 u] (getItem (.ref l) (.int 0 u)) := by with_unfolding_all rfl) :
    wpAny (model prog w) A (subscriptTail value slice (.ref l) (.int 0 u)) Q E s :=
  item_tupleT (l := [v0, v1]) (News.isTup N hm) (by decide) (by decide) (j := 0) (show seqIndex? 0 2 = some 0 by decide) rfl h hs
theorem pair1 (N : News h₀ L s.heap news) (hm : (l, ({ cls := .type "tuple", data := .seq #[v0, v1] } : Obj)) ∈ news) (h : Q v1 s)
    (hs : subscripted slice false (.ref l) (.int 1 u) = operate [.ref l, .int 1 u] (getItem (.ref l) (.int 1 u)) := by with_unfolding_all rfl) :
    wpAny (model prog w) A (subscriptTail value slice (.ref l) (.int 1 u)) Q E s :=
  item_tupleT (l := [v0, v1]) (News.isTup N hm) (by decide) (by decide) (j := 1) (show seqIndex? 1 2 = some 1 by decide) rfl h hs
end
theorem lt_nes {news : List (Addr × Obj)} {L : Addr} (h : ∀ p ∈ news, p.1 < L) : (∀ p ∈ news, p.1 ≠ L + 1) ∧ (∀ p ∈ news, p.1 ≠ L + 1 + 1) ∧ ∀ p ∈ news, p.1 ≠ L + 1 + 1 + 1 :=
  ⟨fun p hp e => absurd (h p hp) (by rw [e]; exact Nat.not_lt.mpr (Nat.le_add_right L 1)), fun p hp e => absurd (h p hp) (by rw [e]; exact Nat.not_lt.mpr (Nat.le_add_right L 2)), fun p hp e => absurd (h p hp) (by rw [e]; exact Nat.not_lt.mpr (Nat.le_add_right L 3))⟩
end Mine
local macro_rules | `(tactic| walk_at "my enter") => `(tactic| (refine' code_defC ?k1 ?k2 ?k3 ?k4 ?k5 ?kA ?kF ?kK ?k6 ?k7 ?k8 ?k9 ?kB ?kD ?_ ?c2 ?c3 ?c4; (case kA => exact rfl); (case kF => exact rfl); (case kK => assumption); (case k1 => k_asm); (case k2 => k_asm); (case k3 => k_asm); (case k4 => k_asm); (case k5 => k_asm); (case k6 => k_is); (case k7 => k_is); (case k8 => ktr_room); (case k9 => exact BindsTo.of_eq rfl); (case kB => exact rfl); (case kD => decide +kernel); (case c2 => exact rfl); (case c3 => exact rfl); (case c4 => exact rfl); k_whole; intro g' L' h' tk' cells' FG' F' N' Y' B' X' T' l1; (try k_lt l1); k_cells Y'; (try simp only [List.cons_append, List.nil_append] at N'); (try dsimp only); (try k_lift B'); (try k_fold)))
local macro_rules | `(tactic| walk_at "exec For") => `(tactic| (refine Mine.stop ?_))
local macro_rules | `(tactic| walk_at "exec For Name Name cons nil") => `(tactic| (refine Mine.stop ?_))
local macro_rules | `(tactic| walk_at "CompSrcT") => `(tactic| (refine Mine.stop ?_))
local macro_rules | `(tactic| walk_at "subscriptTail Name Constant ref int") => `(tactic| (k_here; (with_reducible rename ((_ : Addr × Obj) ∈ (_ : List (Addr × Obj))) => pz'); first
  | ((with_reducible show wpAny _ _ (subscriptTail _ _ (Value.ref _) (Value.int 0 _)) _ _ _); k_dflt (first
    | (refine' Mine.pair0 ?k1 ?k2 ?_ ?k3; (case k3 => with_unfolding_all rfl); (case k1 => k_asm); (case k2 => repeat (first | with_reducible exact pz' | refine List.mem_cons_of_mem _ ?_)))
    | (refine' Mine.item0 ?k1 ?k2 ?_ ?k3; (case k3 => with_unfolding_all rfl); (case k1 => k_asm); (case k2 => k_mem))))
  | ((with_reducible show wpAny _ _ (subscriptTail _ _ (Value.ref _) (Value.int 1 _)) _ _ _); k_dflt
    (refine' Mine.pair1 ?k1 ?k2 ?_ ?k3; (case k3 => with_unfolding_all rfl); (case k1 => k_asm); (case k2 => repeat (first | with_reducible exact pz' | refine List.mem_cons_of_mem _ ?_))))))
local macro_rules | `(tactic| walk_at "eval ListComp") => `(tactic| (refine Mine.stop ?_))
local macro_rules | `(tactic| k_steps) => `(tactic| repeat' (first | (k_unfold; (try dsimp only)) | (k_end; kc_close) | (walk1; (try dsimp only)) | (leave1; walk_say "STEP leave1"; (try dsimp only)) | fail "no step"))
local macro_rules | `(tactic| walk_at "subscriptTail Name Name str int") => `(tactic| (k_here; (refine' Mine.item_rule ?k2 ?k3 ?k4 ?_; (case k2 => omega); (case k3 => omega); (case k4 => assumption)); intro _ _ hk'; (try dsimp only at hk')))
namespace Mine
set_option maxRecDepth 100000 in
set_option maxHeartbeats 8000000 in
theorem takes_ok (r : Addr) (vals : List Value) (items : List (Option (Bool × Str))) (n : Nat) (x : Str) (t : Tok) (news : List (Addr × Obj)) (hr : (r, listOf vals.toArray n) ∈ news) (hrow : RowIs news vals items) (hlen : x.length ≤ 2000) :
    Claim 116 [.ref r, .str x t] news (fun v news' => v = .bool (takesB x items) ∧ news' = news) := by
  unfold Claim
  k_fill
  intro w p loose mean mg mb cn cs a ccd base h₀ L m ⟨sh, sg, sd, st, so⟩ Q E B F X N T hk htk hret
  k_with_none
  refine wpAny_call ?_
  k_dflt (walk_at "my enter")
  (rename ∀ p ∈ news, p.1 < _ => hl1)
  obtain ⟨hc1, hc2, hc3⟩ := lt_nes hl1
  k_steps
  show wpAny _ _ _ _ _ _
  (rename Fr _ _ _ _ => F₀)
  refine for_list F₀ ?_ rfl (by with_unfolding_all passes_own)
  walk1
  dsimp only
  (rename Fr _ _ _ _ => F₁); (rename News _ _ _ _ => N₁)
  refine ⟨r, vals.toArray, n, _, _, rfl, F₁, N₁, ?hm, by first | assumption | omega, TInv x items _ _ _ _ news, ⟨_, [.int 0 _], [0], _, _, _, _, rfl, ?i1, by assumption, by assumption, rfl, lts_nes (by assumption), ?i2, ?i3⟩, ?i4, ?turn, ?done⟩
  case hm => exact .tail _ (.tail _ (.tail _ (.tail _ hr)))
  case i1 => exact IntsAre.cons _ _ .nil
  case i2 => intro p hp; rw [List.mem_singleton.mp hp]; omega
  case i3 => simp
  case i4 =>
    rintro i m news' ⟨D, pv, ps, nn, oP, oO, v0, rfl, _⟩
    exact ⟨n, .tail _ (.tail _ (.tail _ (.tail _ hr)))⟩
  case turn =>
    rintro i v m₁ news₁ h tk I o hget ⟨D, pv, ps, nn, oP, oO, v0, rfl, hps, hdP, hdO, hrun, hlts, hbnd, hsz⟩ htk' hneI F₂ N₂
    obtain ⟨p, hp, hv⟩ := hrow.get (by simpa using hget)
    simp only [List.forall_mem_cons] at hneI
    clear F₁ N₁
    cases p with
    | none => 
      subst hv
      walk_at "go"
      show wpAny _ _ _ _ _ _
      (rename Fr _ _ _ _ => F₄)
      k_dflt (refine LCt.ListComp_T F₄ (by with_unfolding_all rfl) (by decide) (by rfl) (by decide) (by rfl) ?_)
      walk_at "go"
      show LCt.CompSrcT _ _ _ _ _ _ _ _ _ _ _ _ _ _ _
      have hcast : ((x.length : Int) + 1) = ((x.length + 1 : Nat) : Int) := by omega
      rw [hcast] at *
      (rename Fr _ _ _ _ => F₅); (rename News _ _ _ _ => N₅)
      refine LCt.CompSrcT.range (n := x.length + 1) rfl F₅ N₅ (by assumption) (range_small (by omega)).1 (range_small (by omega)).2 (Nat.le_trans (by omega : x.length + 1 ≤ 2001) (by decide)) ?_
      intro g
      refine rest_T _ _ (fun i ys nw => nw = _ ∧ IntsAre ys (upTo x ps i)) ⟨rfl, .nil⟩ ?fin ?turn
      case fin =>
        rintro ys nw ⟨rfl, hys⟩
        walk_at "go"
        (rename Fr _ _ _ _ => Fz); (rename News _ _ _ _ => Nz); (rename _ ∧ _ ∧ _ ∧ _ ∧ _ ∧ LCg.Off1 _ _ => oz)
        exact FPost.next Fz (fun p hp => Nz p (swap_sub p hp)) (List.forall_mem_cons.mpr ⟨Ne.symm oz.1, List.forall_mem_cons.mpr ⟨hneI.2.1, List.forall_mem_cons.mpr ⟨hneI.2.2.1, List.forall_mem_cons.mpr ⟨hneI.2.2.2.1, hneI.2.2.2.2⟩⟩⟩⟩)
          ⟨_, ys, upTo x ps (x.length + 1), ys.length, _, _, _, rfl, hys, by assumption, by assumption, by rw [runT_snoc hp, ← hrun]; rfl, ⟨oz.2.2.1, oz.2.2.2.1, oz.2.2.2.2.1, off1_all oz.2.2.2.2.2⟩, fun p hp => by have := upTo_bnd.1 p hp; omega, upTo_bnd.2⟩
      case turn =>
        rintro j ys nw K hj ⟨rfl, hys⟩ hK v I2 oI2 C2 oC2 D2 m2 h2 tk2 E2 ⟨tv, rfl⟩ hC2 hx2 F2 N2 off2 ne2
        (try simp only [LCg.Off3] at off2)
        cases hps with
        | nil =>
          walk_at "go"
          (rename Fr _ _ _ _ => Fz); (rename News _ _ _ _ => Nz)
          exact LCg.CompEnd.intro Fz Nz _ (fun p hp => .tail _ hp) off2 trivial (hK _ _ ⟨rfl, by rw [upTo_nil] at hys ⊢; exact hys⟩)
        | cons p0 t0 hps' =>
          walk_at "go"
          · exact absurd (of_decide_eq_true (by assumption)) (List.cons_ne_nil _ _)
          · (rename Fr _ _ _ _ => Fz); (rename News _ _ _ _ => Nz)
            refine LCg.CompEnd.intro Fz Nz _ (fun p hp => .tail _ hp) off2 trivial (hK _ _ ⟨rfl, ?_⟩)
            rw [upTo_in (by assumption)]
            exact IntsAre.append hys (.cons _ _ .nil)
          · (rename Fr _ _ _ _ => Fz); (rename News _ _ _ _ => Nz)
            refine LCg.CompEnd.intro Fz Nz _ (fun p hp => .tail _ hp) off2 trivial (hK _ _ ⟨rfl, ?_⟩)
            rw [upTo_out (by assumption)]
            exact hys
    | some q =>
      obtain ⟨b, y⟩ := q
      obtain ⟨ta, tt, rfl, hta⟩ := hv
      walk_at "go"
      show wpAny _ _ _ _ _ _
      (rename Fr _ _ _ _ => F₄)
      k_dflt (refine LCt.ListComp_T F₄ (by with_unfolding_all rfl) (by decide) (by rfl) (by decide) (by rfl) ?_)
      walk_at "go"
      show LCt.CompSrcT _ _ _ _ _ _ _ _ _ _ _ _ _ _ _
      (rename Fr _ _ _ _ => F₅); (rename News _ _ _ _ => N₅)
      refine LCt.CompSrcT.ledger rfl F₅ N₅ (.tail _ (.head _)) (by rw [List.size_toArray, IntsAre.length hps]; exact Nat.le_trans hsz (Nat.le_trans (by omega : x.length + 1 ≤ 2001) (by decide))) ?_
      intro g
      refine rest_T _ _ (fun i ys nw => nw = _ ∧ IntsAre ys (fwd x b y (ps.take i))) ⟨rfl, .nil⟩ ?fin ?turn
      case fin =>
        rintro ys nw ⟨rfl, hys⟩
        walk_at "go"
        (rename Fr _ _ _ _ => Fz); (rename News _ _ _ _ => Nz); (rename _ ∧ _ ∧ _ ∧ _ ∧ _ ∧ LCg.Off1 _ _ => oz)
        rw [show pv.toArray.size = ps.length from by rw [List.size_toArray]; exact IntsAre.length hps, List.take_length] at hys
        exact FPost.next Fz (fun p hp => Nz p (swap_sub p hp)) (List.forall_mem_cons.mpr ⟨Ne.symm oz.1, List.forall_mem_cons.mpr ⟨hneI.2.1, List.forall_mem_cons.mpr ⟨hneI.2.2.1, List.forall_mem_cons.mpr ⟨hneI.2.2.2.1, hneI.2.2.2.2⟩⟩⟩⟩)
          ⟨_, ys, fwd x b y ps, ys.length, _, _, _, rfl, hys, by assumption, by assumption, by rw [runT_snoc hp, ← hrun]; rfl, ⟨oz.2.2.1, oz.2.2.2.1, oz.2.2.2.2.1, off1_all oz.2.2.2.2.2⟩, (fwd_bnd hbnd).1, Nat.le_trans (fwd_bnd (b := b) (y := y) hbnd).2 hsz⟩
      case turn =>
        rintro j ys nw K hj ⟨rfl, hys⟩ hK v I2 oI2 C2 oC2 D2 m2 h2 tk2 E2 hv2 hC2 hx2 F2 N2 off2 ne2
        (try simp only [LCg.Off3] at off2)
        obtain ⟨k, tv, rfl, hk⟩ := IntsAre.at hps j v (by simpa using hv2)
        have hkb := hbnd k (List.mem_of_getElem? hk)
        have hsn := fwd_snoc (x := x) (b := b) (y := y) hk
        by_cases hlt : k < (x.length : Int)
        · walk_at "go"
          · (rename Fr _ _ _ _ => Fz); (rename News _ _ _ _ => Nz)
            refine LCg.CompEnd.intro Fz Nz _ (fun p hp => hp) off2 (.inr ⟨_, .tail _ (.head _), rfl, _, rfl⟩) (hK _ _ ⟨rfl, ?_⟩)
            rw [hsn, if_pos ⟨hlt, bne_iff_ne.mp (by assumption)⟩]
            exact IntsAre.append hys (.cons _ _ .nil)
          · (rename Fr _ _ _ _ => Fz); (rename News _ _ _ _ => Nz); (rename (_ != b) = false => hb')
            refine LCg.CompEnd.intro Fz Nz _ (fun p hp => hp) off2 (.inr ⟨_, .tail _ (.head _), rfl, _, rfl⟩) (hK _ _ ⟨rfl, ?_⟩)
            rw [hsn, if_neg (fun h => Bool.false_ne_true ((show (inSet y x k != b) = false from hb').symm.trans (bne_iff_ne.mpr h.2))), List.append_nil]
            exact hys
        · walk_at "go"
          (rename Fr _ _ _ _ => Fz); (rename News _ _ _ _ => Nz)
          refine LCg.CompEnd.intro Fz Nz _ (fun p hp => hp) off2 (.inr ⟨_, .tail _ (.head _), rfl, _, rfl⟩) (hK _ _ ⟨rfl, ?_⟩)
          rw [hsn, if_neg (fun h => hlt h.1), List.append_nil]
          exact hys
  case done =>
    rintro m news₁ h tk ⟨D, pv, ps, nn, oP, oO, v0, rfl, hps, hdP, hdO, hrun, hlts, hbnd, hsz⟩ htk' F₂ N₂
    walk_at "go"
    (rename Fr _ _ _ _ => Fz); (rename News _ _ _ _ => Nz)
    refine hret _ news _ _ Fz (fun p hp => Nz p (.tail _ (.tail _ (.tail _ (.tail _ hp))))) ⟨?_, rfl⟩
    rw [hrun, show vals.toArray.size = items.length from by rw [List.size_toArray]; exact hrow.length, List.take_length]
    rfl
end Mine
end
section
namespace Mine
/-- what _law_read makes of an item's piece -/
def Tk.item : Tk → Option (Bool × Str)
  | .star => none
  | .any => some (true, Str.ofString "")
  | .nota => some (true, Str.ofString "a")
  | .dotb => some (false, Str.ofString ".b")
  | .ch c => some (false, ⟨#[c]⟩)
/-- a text of signs -/
def tx (l : List Nat) : Str := ⟨l.toArray⟩
/-- what has been drawn: the pattern, how many a's the ending has, the folders, the names ahead, the last name -/
structure DS where
  ts : List Tk
  e : Nat
  rooms : List (List Nat)
  init : List (List Nat)
  cur : List Nat
def d0 (front : Nat) : DS := ⟨[match front with | 0 => .any | 1 => .star | 2 => .ch 98 | _ => .nota], 0, [[97]], [], [98]⟩
def freeOf (rest : Nat) : Nat := if (rest + 42) % 55296 = 47 then 97 else (rest + 42) % 55296
def sgn (k : Nat) (c : Nat) (e : Nat) : List Nat := match k with
  | 6 => [97] | 7 => [98] | 8 => [46] | 9 => [c] | 10 => [97] | 11 => [46] | 12 => [c] | 14 => 46 :: List.replicate e 97 | _ => []
def tok (k : Nat) (c : Nat) : List Tk := match k with
  | 0 => [.star] | 1 => [.any] | 2 => [.ch 97] | 3 => [.ch 46] | 4 => [.nota] | 5 => [.dotb] | 10 => [.ch 97] | 11 => [.ch 46] | 12 => [.ch c] | _ => []
def roomOf (r : Nat) : List Nat := match r with | 0 => [] | 1 => [97] | 2 => [97, 46, 98] | _ => [46, 46]
def DS.step (d : DS) (x : Int) : DS :=
  let r := (x.fmod 884736).toNat / 16
  let k := (x.fmod 884736).toNat % 16
  let c := freeOf r
  let cur := d.cur ++ sgn k c d.e
  ⟨d.ts ++ tok k c, if k = 15 then d.e + 1 else d.e, if k = 13 then d.rooms ++ [roomOf (r % 4)] else d.rooms, if k = 13 then d.init ++ [cur] else d.init, if k = 13 then [98] else cur⟩
def drawn (ns : List Int) : DS := (ns.take 10).foldl DS.step (d0 (ns.length % 4))
/-- what holds of it after i numbers -/
structure DS.Ok (i : Nat) (d : DS) : Prop where
  ts : d.ts.length ≤ i + 1
  e : d.e ≤ i
  rooms : d.rooms.length ≤ i + 1
  rooms' : d.rooms.length = d.init.length + 1
  roomsL : ∀ r ∈ d.rooms, r.length ≤ 3 ∧ 47 ∉ r
  init : ∀ n ∈ d.init, n.length ≤ 1 + 11 * i ∧ 47 ∉ n ∧ n.head? = some 98
  cur : d.cur.length ≤ 1 + 11 * i ∧ 47 ∉ d.cur ∧ d.cur.head? = some 98
  tsOk : ∀ t ∈ d.ts, t ≠ .ch 47
  hd : ∃ t r, d.ts = t :: r ∧ t ≠ .ch 46
theorem freeOf_ne (r : Nat) : freeOf r ≠ 47 := by unfold freeOf; split <;> omega
theorem sgn_ok (k c e : Nat) (hc : c ≠ 47) : (sgn k c e).length ≤ e + 1 ∧ 47 ∉ sgn k c e := by
  unfold sgn
  split <;> simp [List.mem_replicate] <;> omega
theorem tok_ok (k c : Nat) (hc : c ≠ 47) : (tok k c).length ≤ 1 ∧ ∀ t ∈ tok k c, t ≠ .ch 47 := by
  unfold tok
  split <;> simp [hc]
theorem roomOf_ok (r : Nat) : (roomOf r).length ≤ 3 ∧ 47 ∉ roomOf r := by
  unfold roomOf
  split <;> simp
theorem head_app {l r : List Nat} {a : Nat} (h : l.head? = some a) : (l ++ r).head? = some a := by
  cases l with
  | nil => simp at h
  | cons b t => simpa using h
theorem d0_ok (f : Nat) : (d0 f).Ok 0 := by
  refine ⟨by simp [d0], by simp [d0], by simp [d0], by simp [d0], by simp [d0], by simp [d0], by simp [d0], ?_, ?_⟩
  · unfold d0; split <;> simp
  · unfold d0; exact ⟨_, [], rfl, by split <;> simp⟩
theorem step_ok {i : Nat} {d : DS} (h : d.Ok i) (x : Int) (hi : i < 10) : (d.step x).Ok (i + 1) := by
  have hc := freeOf_ne ((x.fmod 884736).toNat / 16)
  have hs := sgn_ok ((x.fmod 884736).toNat % 16) _ d.e hc
  have ht := tok_ok ((x.fmod 884736).toNat % 16) _ hc
  have hr := roomOf_ok (((x.fmod 884736).toNat / 16) % 4)
  have he := h.e
  have hcl := h.cur.1
  have cur' : (d.cur ++ sgn ((x.fmod 884736).toNat % 16) (freeOf ((x.fmod 884736).toNat / 16)) d.e).length ≤ 1 + 11 * (i + 1) ∧ 47 ∉ (d.cur ++ sgn ((x.fmod 884736).toNat % 16) (freeOf ((x.fmod 884736).toNat / 16)) d.e) ∧ (d.cur ++ sgn ((x.fmod 884736).toNat % 16) (freeOf ((x.fmod 884736).toNat / 16)) d.e).head? = some 98 := by
    refine ⟨by rw [List.length_append]; omega, fun hm => ?_, head_app h.cur.2.2⟩
    rcases List.mem_append.mp hm with hm | hm
    · exact h.cur.2.1 hm
    · exact hs.2 hm
  unfold DS.step
  dsimp only
  have h1 := h.ts; have h2 := h.rooms; have h3 := h.rooms'
  refine ⟨?_, ?_, ?_, ?_, ?_, ?_, ?_, ?_, ?_⟩
  · dsimp only; rw [List.length_append]; omega
  · dsimp only; split <;> omega
  · dsimp only; split
    · rw [List.length_append, List.length_singleton]; omega
    · omega
  · dsimp only; split
    · rw [List.length_append, List.length_singleton, List.length_append, List.length_singleton]; omega
    · exact h3
  · dsimp only
    intro r hm
    split at hm
    · rcases List.mem_append.mp hm with hm | hm
      · exact h.roomsL r hm
      · rw [List.mem_singleton.mp hm]; exact hr
    · exact h.roomsL r hm
  · dsimp only
    intro r hm
    have old : ∀ n ∈ d.init, n.length ≤ 1 + 11 * (i + 1) ∧ 47 ∉ n ∧ n.head? = some 98 := fun n hn => ⟨Nat.le_trans (h.init n hn).1 (by omega), (h.init n hn).2⟩
    split at hm
    · rcases List.mem_append.mp hm with hm | hm
      · exact old r hm
      · rw [List.mem_singleton.mp hm]; exact cur'
    · exact old r hm
  · dsimp only
    split
    · exact ⟨by simp, by simp, rfl⟩
    · exact cur'
  · dsimp only
    intro t hm
    rcases List.mem_append.mp hm with hm | hm
    · exact h.tsOk t hm
    · exact ht.2 t hm
  · obtain ⟨t, r, e, hne⟩ := h.hd
    exact ⟨t, r ++ _, by dsimp only; rw [e]; rfl, hne⟩
theorem fold_ok (f : Nat) (ns : List Int) : ∀ i ≤ 10, i ≤ ns.length → ((ns.take i).foldl DS.step (d0 f)).Ok i := by
  intro i
  induction i with
  | zero => intro _ _; exact d0_ok f
  | succ i ih =>
    intro h1 h2
    have hlt : i < ns.length := h2
    rw [List.take_add_one, List.getElem?_eq_getElem hlt, List.foldl_append]
    exact step_ok (ih (by omega) (by omega)) _ (by omega)
end Mine
end
section
namespace Mine
def cutsAt (c : Nat) : List Nat → List (List Nat)
  | [] => [[]]
  | a :: r => if a = c then [] :: cutsAt c r else match cutsAt c r with
    | p :: q => (a :: p) :: q
    | [] => [[a]]
def glue (c : Nat) : List (List Nat) → List Nat
  | [] => []
  | [p] => p
  | p :: q :: r => p ++ c :: glue c (q :: r)
theorem cuts_free {c : Nat} : ∀ {p : List Nat}, c ∉ p → cutsAt c p = [p]
  | [], _ => rfl
  | a :: r, h => by
    have h1 : a ≠ c := fun e => h (e ▸ List.mem_cons_self)
    unfold cutsAt
    rw [if_neg h1, cuts_free fun hm => h (List.mem_cons_of_mem _ hm)]
theorem cuts_app {c : Nat} (r : List Nat) : ∀ {p : List Nat}, c ∉ p → cutsAt c (p ++ c :: r) = p :: cutsAt c r
  | [], _ => by show cutsAt c (c :: r) = _; rw [cutsAt, if_pos rfl]
  | a :: p, h => by
    have h1 : a ≠ c := fun e => h (e ▸ List.mem_cons_self)
    show cutsAt c (a :: (p ++ c :: r)) = _
    rw [cutsAt, if_neg h1, cuts_app r fun hm => h (List.mem_cons_of_mem _ hm)]
theorem cuts_glue {c : Nat} : ∀ {ps : List (List Nat)}, ps ≠ [] → (∀ p ∈ ps, c ∉ p) → cutsAt c (glue c ps) = ps
  | [], h, _ => absurd rfl h
  | [p], _, h => cuts_free (h p List.mem_cons_self)
  | p :: q :: r, _, h => by
    rw [glue, cuts_app _ (h p List.mem_cons_self), cuts_glue (List.cons_ne_nil _ _) fun x hx => h x (List.mem_cons_of_mem _ hx)]
theorem tx_toList (x : Str) : tx x.cps.toList = x := by unfold tx; simp
theorem join_glue {c : Nat} : ∀ ps : List Str, (Str.join ⟨#[c]⟩ ps).cps.toList = glue c (ps.map fun p => p.cps.toList)
  | [] => rfl
  | [p] => rfl
  | p :: q :: r => by
    have h := join_glue (c := c) (q :: r)
    show ((p ++ (⟨#[c]⟩ : Str) ++ Str.join ⟨#[c]⟩ (q :: r)).cps).toList = p.cps.toList ++ c :: glue c ((q :: r).map fun p => p.cps.toList)
    rw [← h]
    simp [Str.cps_append]
theorem split_tx {c : Nat} {l : List Nat} (hl : l ≠ []) : Txt.split (tx l) ⟨#[c]⟩ = (cutsAt c l).map tx := by
  have h1 := StrLaws.join_split (tx l) ⟨#[c]⟩
  have h2 := StrLaws.split_free (tx l) c
  generalize Txt.split (tx l) ⟨#[c]⟩ = ps at h1 h2
  have h3 : glue c (ps.map fun p => p.cps.toList) = l := by
    rw [← join_glue, h1]; simp [tx]
  have hne : ps ≠ [] := fun e => by subst e; exact hl h3.symm
  rw [← h3, cuts_glue (by simpa using hne) (by simpa using h2), List.map_map]
  conv => lhs; rw [← List.map_id ps]
  exact List.map_congr_left fun p _ => (tx_toList p).symm
theorem rep_free {c : Nat} : Txt.replace (tx [c]) (Str.ofString "/") (Str.ofString "a") = tx [if c = 47 then 97 else c] := by
  rw [show Str.ofString "/" = (⟨#[47]⟩ : Str) by decide +kernel, show Str.ofString "a" = (⟨#[97]⟩ : Str) by decide +kernel, StrLaws.replace_one, split_tx (List.cons_ne_nil _ _)]
  by_cases h : c = 47
  · subst h; decide +kernel
  · rw [if_neg h, cuts_free (by simpa using fun e => h e.symm)]; rfl
end Mine
end
section
local macro_rules | `(tactic| walk_at "my slices") => `(tactic| first
  | ((with_reducible show wpAny _ _ (subscriptTail _ (Expr.Slice (some _) none none _) _ _) _ _ _); (with_reducible rename Fr _ _ _ _ => F'); (with_reducible rename News _ _ _ _ => N'); (refine Mine.sl_sn (s := ⟨_, _, _, _, _⟩) (by first | with_reducible assumption | exact rfl) (by assumption) F' N' ?_); intro _ _ _ hk' _ _ _; (try dsimp only at hk'))
  | ((with_reducible show wpAny _ _ (subscriptTail _ (Expr.Slice none (some _) none _) _ _) _ _ _); (with_reducible rename Fr _ _ _ _ => F'); (with_reducible rename News _ _ _ _ => N'); (refine Mine.sl_ns (s := ⟨_, _, _, _, _⟩) (by first | with_reducible assumption | exact rfl) (by assumption) F' N' ?_); intro _ _ _ hk' _ _ _; (try dsimp only at hk'))
  | ((with_reducible show wpAny _ _ (subscriptTail _ (Expr.Slice (some _) (some _) none _) _ _) _ _ _); (with_reducible rename Fr _ _ _ _ => F'); (with_reducible rename News _ _ _ _ => N'); (refine Mine.sl_ss (s := ⟨_, _, _, _, _⟩) (by first | with_reducible assumption | exact rfl) (by assumption) F' N' ?_); intro _ _ _ hk' _ _ _; (try dsimp only at hk')))
local macro_rules | `(tactic| walk_at "subscriptTail Name Slice str ref") => `(tactic| walk_at "my slices")
local macro_rules | `(tactic| walk_at "call builtin:str.replace") => `(tactic| (k_here; (first | (refine Mine.repl_eq (by with_reducible assumption) (by omega) (by rfl) (by decide) (by first | assumption | decide +kernel) (by decide) ?_) | (refine Mine.repl (by omega) (by rfl) (by decide) (by assumption) (by decide) ?_)); intro _ _ hk'; (try dsimp only at hk')))
local macro_rules | `(tactic| walk_at "tk") => `(tactic| first | with_reducible assumption | exact Nat.le_add_left 1 _ | (refine Nat.le_trans ?_ (by with_reducible assumption); walk_at "tk"))
local macro_rules | `(tactic| walk_at "execs cons") => `(tactic| (k_here; (refine Mine.execs_cons_gen (by first | walk_at "tk" | omega | ((try dsimp only at *); omega)) ?_); intro _ _; (try k_fold)))
local macro_rules | `(tactic| walk_at "cr") => `(tactic| ((iterate 16 (try (first | with_reducible assumption | with_reducible apply And.right))); done))
local macro_rules | `(tactic| walk_at "cj") => `(tactic| first | walk_at "cr" | ((with_reducible apply And.left); walk_at "cr"))
local macro_rules | `(tactic| k_ne) => `(tactic| ((refine neN ?_); (try dsimp only); first | (refine Nat.ne_of_lt ?_; walk_at "cj") | (refine Nat.ne_of_gt ?_; walk_at "cj") | walk_at "cj" | (refine Ne.symm ?_; walk_at "cj") | omega))
local macro_rules | `(tactic| k_lt $h:ident) => `(tactic| (replace $h := allLt_of $h; dsimp only [AllLt] at $h:ident))
local macro_rules | `(tactic| walk_at "go") => `(tactic| repeat' (first | (k_unfold; (try dsimp only)) | (walk1; (try dsimp only))))
local macro_rules | `(tactic| walk_at "forall") => `(tactic| ((with_reducible show 1 ≤ _ → _); intro ht'; (try dsimp only at ht')))
local macro_rules | `(tactic| walk_at "call builtin:str.rfind") => `(tactic| (k_here; (refine KXw.rfind (by with_reducible assumption) ?_); intro _ _))
local macro_rules | `(tactic| k_all) => `(tactic| first | with_reducible assumption | with_reducible exact List.forall_mem_nil _ | (refine' List.forall_mem_cons.mpr ⟨?a, ?b⟩; (case a => k_ne); (case b => k_all)))
local macro_rules | `(tactic| walk_at "exec While Compare cons nil") => `(tactic| k_extra "while")
local macro_rules | `(tactic| walk_at "WhlIf") => `(tactic| first | (refine WhlIf.yes (decide_eq_true (by omega)) ?_) | (refine WhlIf.no (decide_eq_false (by omega)) ?_))
local macro_rules | `(tactic| walk_at "ite") => `(tactic| first
  | (refine Mine.if_yes (by with_reducible assumption) ?_) | (refine Mine.if_no (by with_reducible assumption) ?_)
  | (refine Mine.if_yes (by decide +kernel) ?_) | (refine Mine.if_no (by decide +kernel) ?_)
  | ((with_reducible show (if decide _ = true then _ else _)); first | (refine Mine.if_yes (decide_eq_true (by omega)) ?_) | (refine Mine.if_no (decide_eq_false (by omega)) ?_)))
namespace Mine
section
variable {prog : Program} {w : World} {A : Around} {E : Value → Shared → Prop} {s : Shared} {h₀ : Heap} {L l : Addr} {news : List (Addr × Obj)} {vs : List Value} {ws : List Str} {n : Nat} {k : Int} {value slice : PySem.Expr} {u : Tok} {Q : Value → Shared → Prop}
theorem tab_any (N : News h₀ L s.heap news) (hm : (l, listOf vs.toArray n) ∈ news) (h0 : 0 ≤ k) (h1 : k < (vs.length : Int)) (h2 : vs.length ≤ 1000) (h : ∀ v, vs[k.toNat]? = some v → Q v s)
    (hs : subscripted slice false (.ref l) (.int k u) = operate [.ref l, .int k u] (getItem (.ref l) (.int k u)) := by with_unfolding_all rfl) :
    wpAny (model prog w) A (subscriptTail value slice (.ref l) (.int k u)) Q E s := by
  have hlt : k.toNat < vs.length := by omega
  have hx : vs[k.toNat]? = some vs[k.toNat] := List.getElem?_eq_getElem hlt
  exact item_listR (News.isList N hm) h0 (by omega) (by simpa using hx) (h _ hx) hs
theorem tab_str (N : News h₀ L s.heap news) (hm : (l, listOf vs.toArray n) ∈ news) (hw : StrsAre vs ws) (h0 : 0 ≤ k) (h1 : k < (vs.length : Int)) (h2 : vs.length ≤ 1000) (h : ∀ t', Q (.str (ws.getD k.toNat PySem.Str.empty) t') s)
    (hs : subscripted slice false (.ref l) (.int k u) = operate [.ref l, .int k u] (getItem (.ref l) (.int k u)) := by with_unfolding_all rfl) :
    wpAny (model prog w) A (subscriptTail value slice (.ref l) (.int k u)) Q E s :=
  KTb.item_list (News.isList N hm) hw h0 (hw.length ▸ h1) (by omega) (fun t _ => h t) hs
end
section
variable {prog : Program} {w : World} {A : Around} {E : Value → Shared → Prop} {s : Shared} {h₀ : Heap} {L l : Addr} {m : Str → Option Value} {news news' : List (Addr × Obj)}
theorem setL_last (v0 v : Value) : ∀ init : List Value, ki_setL (init ++ [v0]) init.length v = some (init ++ [v])
  | [] => rfl
  | a :: r => by
    show (match ki_setL (r ++ [v0]) r.length v with | some q => some (a :: q) | none => none) = _
    rw [setL_last v0 v r]; rfl
theorem set_last {init : List Value} {v0 v : Value} {n : Nat} {t : Tok} {Q : Unit → Shared → Prop} (F : Fr h₀ L s.heap m) (N : News h₀ L s.heap news) (U : Upd l (listOf (init ++ [v0]).toArray n) (listOf (init ++ [v]).toArray n) news news')
    (h : ∀ h', Fr h₀ L h' m → News h₀ L h' news' → Q () { s with heap := h' }) : wpAny (model prog w) A (setItem (.ref l) (.int (-1) t) v) Q E s :=
  ki_setNeg (j := init.length) (q := init ++ [v]) F N (by decide) (by decide) (by have := seqIndex?_neg_one (n := (init ++ [v0]).toArray.size) (by simp); simpa using this) (by simpa using setL_last v0 v init) U h
theorem last_item {init : List Value} {v : Value} {n : Nat} {value slice : PySem.Expr} {u : Tok} {Q : Value → Shared → Prop} (N : News h₀ L s.heap news) (hm : (l, listOf (init ++ [v]).toArray n) ∈ news) (h : Q v s)
    (hs : subscripted slice false (.ref l) (.int (-1) u) = operate [.ref l, .int (-1) u] (getItem (.ref l) (.int (-1) u)) := by with_unfolding_all rfl) :
    wpAny (model prog w) A (subscriptTail value slice (.ref l) (.int (-1) u)) Q E s :=
  kde_neg (News.isList N hm) (by decide) (by decide) (seqIndex?_neg_one (by simp)) (by simp) h hs
theorem mod_eq {a b r : Int} {t u : Tok} {Q : Value → Shared → Prop} (e : a.fmod b = r) (hb : b ≠ 0) (h : ∀ t' k, s.toks ≤ k → Q (.int r t') { s with toks := k }) : wpAny (model prog w) A (binaryOp .Mod (.int a t) (.int b u)) Q E s := by
  subst e; exact mod_int' hb (h _ _ (Nat.le_succ _))
theorem dm_eq {a b q r : Int} {t u : Tok} {Q : Value → Shared → Prop} (F : Fr h₀ L s.heap m) (N : News h₀ L s.heap news) (e : a.fdiv b = q) (e' : a.fmod b = r) (hb : b ≠ 0) (hs : b.natAbs < 1073741824)
    (h : ∀ D t1 t2 h' k, s.toks ≤ k → Fr h₀ L h' m → News h₀ L h' ((D, { cls := .type "tuple", data := .seq #[.int q t1, .int r t2] }) :: news) → (∀ p ∈ news, @LT.lt Nat _ p.1 D) → Q (.ref D) { s with toks := k, heap := h' }) :
    wpAny (model prog w) A (call (.builtin "divmod") [.int a t, .int b u]) Q E s := by
  subst e e'
  exact divmod_N F N hb (fun h' F' N' => h _ _ _ _ _ (by omega) F' N' fun p hp => Heap.lt_size (N p hp).1) (.inl (PyProof.noPylong_small hs))
theorem chr_eq {i : Int} {c : Nat} {t : Tok} {Q : Value → Shared → Prop} (e : i = (c : Int)) (hc : c < 55296) (h : ∀ t' k, s.toks ≤ k → Q (.str (tx [c]) t') { s with toks := k }) : wpAny (model prog w) A (call (.builtin "chr") [.int i t]) Q E s := by
  subst e; exact chr_of_range (by omega) (by omega) (h _ _ (Nat.le_succ _))
theorem cat_tx {x y : Str} {lx ly : List Nat} {t u : Tok} {Q : Value → Shared → Prop} (ex : x = tx lx) (ey : y = tx ly) (hl : lx.length + ly.length ≤ 4000) (h : ∀ t' k, s.toks ≤ k → Q (.str (tx (lx ++ ly)) t') { s with toks := k }) :
    wpAny (model prog w) A (binaryOp .Add (.str x t) (.str y u)) Q E s := by
  subst ex ey
  refine toks_up s.toks (Nat.le_refl _) (PyProof.Rows.add_str (fun t' k l => ?_) (Nat.le_trans (by simpa [tx, Str.length] using hl) (by decide)))
  have e : tx lx ++ tx ly = tx (lx ++ ly) := by
    show (⟨(tx lx).cps ++ (tx ly).cps⟩ : Str) = _
    simp [tx]
  rw [e]
  exact h t' k l
theorem tab_eq {vs : List Value} {ws : List Str} {y : Str} {n : Nat} {k : Int} {value slice : PySem.Expr} {u : Tok} {Q : Value → Shared → Prop} (N : News h₀ L s.heap news) (hm : (l, listOf vs.toArray n) ∈ news) (hw : StrsAre vs ws) (e : ws.getD k.toNat PySem.Str.empty = y) (h0 : 0 ≤ k) (h1 : k < (vs.length : Int)) (h2 : vs.length ≤ 1000) (h : ∀ t', Q (.str y t') s)
    (hs : subscripted slice false (.ref l) (.int k u) = operate [.ref l, .int k u] (getItem (.ref l) (.int k u)) := by with_unfolding_all rfl) :
    wpAny (model prog w) A (subscriptTail value slice (.ref l) (.int k u)) Q E s := by
  subst e; exact tab_str N hm hw h0 h1 h2 h hs
theorem in_eq {x y : Str} {t u : Tok} {b : Bool} {Q : Value → Shared → Prop} (e : (!(Builtin.Str.occurrences y x 0 y.length 1).isEmpty) = b) (h : Q (.bool b) s) : wpAny (model prog w) A (compareOp .In (.str x t) (.str y u)) Q E s := by
  subst e; exact in_str h
end
theorem lit_0 : Str.ofString "" = tx [] := by decide +kernel
theorem lit_dot : Str.ofString "." = tx [46] := by decide +kernel
theorem lit_a : Str.ofString "a" = tx [97] := by decide +kernel
theorem lit_lb : Str.ofString "[" = tx [91] := by decide +kernel
theorem lit_rb : Str.ofString "]" = tx [93] := by decide +kernel
def Going : Prop := True
theorem src_len : ∀ ts : List Tk, (src ts).length ≤ 4 * ts.length
  | [] => Nat.le_refl _
  | a :: r => by
    have h := src_len r
    have h1 : a.src.length ≤ 4 := by cases a <;> simp [Tk.src] <;> split <;> simp
    show (a.src ++ src r).length ≤ 4 * (r.length + 1)
    rw [List.length_append]
    omega
theorem sign_tab (k c e : Nat) (hk : k < 16) : [Str.ofString "", Str.ofString "", Str.ofString "", Str.ofString "", Str.ofString "", Str.ofString "", Str.ofString "a", Str.ofString "b", Str.ofString ".", tx [c], Str.ofString "a", Str.ofString ".", tx [c], Str.ofString "", tx (46 :: List.replicate e 97), Str.ofString ""].getD ((k : Int)).toNat Str.empty = tx (sgn k c e) := by
  rw [lit_0, lit_dot, lit_a, show Str.ofString "b" = tx [98] by decide +kernel]
  rcases k with _ | _ | _ | _ | _ | _ | _ | _ | _ | _ | _ | _ | _ | _ | _ | _ | k <;> first | rfl | omega
theorem pat_tab (k c : Nat) (hk : k < 6) : [Str.ofString "*", Str.ofString "?", Str.ofString "a", Str.ofString ".", Str.ofString "[!a]", Str.ofString "[.b]"].getD ((k : Int)).toNat Str.empty = tx (src (tok k c)) := by
  rcases k with _ | _ | _ | _ | _ | _ | k
  · exact (show Str.ofString "*" = tx [42] by decide +kernel)
  · exact (show Str.ofString "?" = tx [63] by decide +kernel)
  · exact (show Str.ofString "a" = tx [97] by decide +kernel)
  · exact (show Str.ofString "." = tx [46] by decide +kernel)
  · exact (show Str.ofString "[!a]" = tx [91, 33, 97, 93] by decide +kernel)
  · exact (show Str.ofString "[.b]" = tx [91, 46, 98, 93] by decide +kernel)
  · omega
theorem room_tab (r : Nat) : [Str.ofString "", Str.ofString "a", Str.ofString "a.b", Str.ofString ".."].getD (((r % 4 : Nat) : Int)).toNat Str.empty = tx (roomOf (r % 4)) := by
  have h : r % 4 < 4 := Nat.mod_lt _ (by decide)
  generalize r % 4 = k at h
  rcases k with _ | _ | _ | _ | k <;> first | (show _ = tx (roomOf _); decide +kernel) | omega
theorem fmod_bnd (a b : Int) (h : 0 < b) : 0 ≤ a.fmod b ∧ a.fmod b < b := ⟨Int.fmod_nonneg_of_pos _ h, Int.fmod_lt_of_pos _ h⟩
end Mine
local macro_rules | `(tactic| walk_at "subscriptTail") => `(tactic| (k_here; (with_reducible show wpAny _ _ (subscriptTail _ _ (Value.ref _) (Value.int _ _)) _ _ _); k_dflt (first
    | (refine' Mine.tab_eq ?k1 ?k2 ?k4 ?e ?k5 ?k6 ?k7 ?_ ?k3; (case k3 => with_unfolding_all rfl); (case k1 => k_asm); (case k2 => k_mem); (case k4 => repeat constructor); (case e => with_reducible assumption); (case k5 => omega); (case k6 => simp only [List.length_cons, List.length_nil]; omega); (case k7 => simp only [List.length_cons, List.length_nil]; omega); intro _)
    | (refine' Mine.tab_str ?k1 ?k2 ?k4 ?k5 ?k6 ?k7 ?_ ?k3; (case k3 => with_unfolding_all rfl); (case k1 => k_asm); (case k2 => k_mem); (case k4 => repeat constructor); (case k5 => omega); (case k6 => simp only [List.length_cons, List.length_nil]; omega); (case k7 => simp only [List.length_cons, List.length_nil]; omega); intro _)
    | (refine' Mine.tab_any ?k1 ?k2 ?k5 ?k6 ?k7 ?_ ?k3; (case k3 => with_unfolding_all rfl); (case k1 => k_asm); (case k2 => k_mem); (case k5 => omega); (case k6 => simp only [List.length_cons, List.length_nil]; omega); (case k7 => simp only [List.length_cons, List.length_nil]; omega); intro _ _))))
local macro_rules | `(tactic| walk_at "exec For Name Subscript cons nil") => `(tactic| (refine Mine.stop ?_))
local macro_rules | `(tactic| walk_at "exec For") => `(tactic| (refine Mine.stop ?_))
local macro_rules | `(tactic| walk_at "binaryOp Mod int int") => `(tactic| (k_here; (refine Mine.mod_eq (by with_reducible assumption) (by decide) ?_); intro _ _ hk'; (try dsimp only at hk')))
local macro_rules | `(tactic| walk_at "call builtin:divmod") => `(tactic| (k_here; (refine' Mine.dm_eq ?k1 ?k2 ?k3 ?k4 (by decide) (by decide) ?_; (case k1 => k_asm); (case k2 => k_asm); (case k3 => with_reducible assumption); (case k4 => with_reducible assumption)); intro _ _ _ _ _ hk' _ _ l1'; (try dsimp only at hk'); (try simp only [List.forall_mem_cons] at l1')))
local macro_rules | `(tactic| walk_at "call builtin:chr") => `(tactic| (k_here; (refine Mine.chr_eq rfl (by with_reducible assumption) ?_); intro _ _ hk'; (try dsimp only at hk')))
local macro_rules | `(tactic| walk_at "binaryOp Add str str") => `(tactic| (k_here; (refine' Mine.cat_tx ?k1 ?k2 ?k3 ?_; (case k1 => first | with_reducible rfl | exact Mine.lit_dot | exact Mine.lit_a | exact Mine.lit_lb); (case k2 => first | with_reducible rfl | exact Mine.lit_dot | exact Mine.lit_a | exact Mine.lit_rb); (case k3 => (try simp only [List.length_append, List.length_replicate, List.length_cons, List.length_nil]); omega)); intro _ _ hk'; (try dsimp only at hk')))
local macro_rules | `(tactic| walk_at "subscriptTail Name UnaryOp ref int") => `(tactic| (k_here; k_dflt (refine' Mine.last_item ?k1 ?k2 ?_ ?k3; (case k3 => with_unfolding_all rfl); (case k1 => k_asm); (case k2 => k_mem))))
local macro_rules | `(tactic| walk_at "setItem ref int") => `(tactic| (k_here; k_dflt (refine' Mine.set_last ?k1 ?k2 ?k3 ?_; (case k1 => k_asm); (case k2 => k_asm); (case k3 => k_upd)); intro _ _ _))
local macro_rules | `(tactic| walk_at "callWith builtin:list.append") => `(tactic| (k_here; refine callWith_method1 ?_))
local macro_rules | `(tactic| walk_at "call builtin:list.append") => `(tactic| (k_here; k_dflt (refine' append_K ?k1 ?k2 ?k3 ?_ ?z; (case k1 => k_asm); (case k2 => k_asm); (case k3 => k_upd); (case z => (simp only [List.size_toArray, List.length_append, List.length_cons, List.length_nil]; exact Nat.le_trans (show _ ≤ 2000 by omega) (by decide)))); intro _ _ _))
local macro_rules | `(tactic| walk_at "compareOp In str str") => `(tactic| (k_here; refine Mine.in_eq (by with_reducible assumption) ?_))
local macro_rules | `(tactic| walk_at "d_sub") => `(tactic| first
  | ((refine List.forall_mem_cons.mpr (And.intro ?_ ?_)); (focus (repeat (first | exact List.mem_cons_self | refine List.mem_cons_of_mem _ ?_))); (walk_at "d_sub"))
  | (intro p' hp'; repeat (first | exact hp' | refine List.mem_cons_of_mem _ ?_)))
local macro_rules | `(tactic| walk_at "exec If") => `(tactic| ((fail_if_success (with_reducible rename Mine.Going => gz')); refine Mine.stop ?_))
namespace Mine
def DInv (its : List Value) (S : Addr) (nS : Nat) (ns : List Int) (front : Nat) (news : List (Addr × Obj)) (k : Nat) (m : Str → Option Value) (news' : List (Addr × Obj)) : Prop :=
  ∃ (d : DS) (tA fA nA : Addr) (tv fv iv : List Value) (n1 n2 n3 : Nat) (tl : List (Addr × Obj)) (tp te tc : Tok), d = (ns.take k).foldl DS.step (d0 front) ∧
    news' = (tA, listOf tv.toArray n1) :: (fA, listOf fv.toArray n2) :: (nA, listOf (iv ++ [Value.str (tx d.cur) tc]).toArray n3) :: tl ∧
    RowIs tl tv (d.ts.map Tk.item) ∧ StrsAre fv (d.rooms.map tx) ∧ StrsAre iv (d.init.map tx) ∧ (@Ne Nat tA fA ∧ @Ne Nat tA nA ∧ @Ne Nat fA nA) ∧
    (∀ p ∈ tl, @Ne Nat p.1 tA) ∧ (∀ p ∈ tl, @Ne Nat p.1 fA) ∧ (∀ p ∈ tl, @Ne Nat p.1 nA) ∧ (S, listOf its.toArray nS) ∈ tl ∧ (∀ p ∈ news, p ∈ tl) ∧
    ∀ p ∈ [(Str.ofString "pattern", Value.str (tx (src d.ts)) tp), (Str.ofString "told", .ref tA), (Str.ofString "ending", .str (tx (List.replicate d.e 97)) te), (Str.ofString "folders", .ref fA), (Str.ofString "names", .ref nA)], m p.1 = some p.2
theorem step_eq {d : DS} {x : Int} {y R k : Nat} (hy : x.fmod 884736 = (y : Int)) (hR : R = y / 16) (hk : k = y % 16) : d.step x = ⟨d.ts ++ tok k (freeOf R), if k = 15 then d.e + 1 else d.e, if k = 13 then d.rooms ++ [roomOf (R % 4)] else d.rooms,
    if k = 13 then d.init ++ [d.cur ++ sgn k (freeOf R) d.e] else d.init, if k = 13 then [98] else d.cur ++ sgn k (freeOf R) d.e⟩ := by
  subst hR hk
  unfold DS.step
  rw [hy]
  rfl
theorem tok_none {k c : Nat} (h : 6 ≤ k) (h2 : k ≤ 9 ∨ 13 ≤ k) : tok k c = [] := by
  unfold tok
  split <;> first | rfl | omega
theorem tok_one {k c e : Nat} (h : 10 ≤ k) (h2 : k ≤ 12) : ∃ sc, sgn k c e = [sc] ∧ tok k c = [Tk.ch sc] := by
  obtain rfl | rfl | rfl : k = 10 ∨ k = 11 ∨ k = 12 := by omega
  · exact ⟨_, rfl, rfl⟩
  · exact ⟨_, rfl, rfl⟩
  · exact ⟨_, rfl, rfl⟩
theorem in_menu (sc : Nat) : (!(Builtin.Str.occurrences (Str.ofString "*?[") (tx [sc]) 0 (Str.ofString "*?[").length 1).isEmpty) = decide (sc = 42 ∨ sc = 63 ∨ sc = 91) := by
  rw [show tx [sc] = (⟨#[sc]⟩ : Str) from rfl, StrLaws.found_one]
  rw [show (Str.ofString "*?[").cps.toList = [42, 63, 91] by decide +kernel]
  exact decide_eq_decide.mpr (by simp)
theorem src_app (a b : List Tk) : src (a ++ b) = src a ++ src b := by unfold src; rw [List.flatMap_append]
theorem RowIs.mono {nw nw' : List (Addr × Obj)} (hs : ∀ p ∈ nw, p ∈ nw') : ∀ {vs : List Value} {ps : List (Option (Bool × Str))}, RowIs nw vs ps → RowIs nw' vs ps
  | [], [], h => h
  | [], _ :: _, h => h.elim
  | _ :: _, [], h => h.elim
  | v :: vs, p :: ps, h => ⟨by
      have h1 := h.1
      cases p with
      | none => exact h1
      | some q => obtain ⟨a, t, e, hm⟩ := h1; exact ⟨a, t, e, hs _ hm⟩, RowIs.mono hs h.2⟩
theorem RowIs.snoc {nw : List (Addr × Obj)} {v : Value} {q : Option (Bool × Str)} (hv : match q with | none => v = .none | some (b, x) => ∃ a t, v = .ref a ∧ (a, ({ cls := .type "tuple", data := .seq [.bool b, .str x t].toArray } : Obj)) ∈ nw) :
    ∀ {vs : List Value} {ps : List (Option (Bool × Str))}, RowIs nw vs ps → RowIs nw (vs ++ [v]) (ps ++ [q])
  | [], [], _ => ⟨hv, trivial⟩
  | [], _ :: _, h => h.elim
  | _ :: _, [], h => h.elim
  | _ :: _, _ :: _, h => ⟨h.1, RowIs.snoc hv h.2⟩
theorem StrsAre.snoc {z : Str} {t : Tok} : ∀ {vs : List Value} {ps : List Str}, StrsAre vs ps → StrsAre (vs ++ [Value.str z t]) (ps ++ [z])
  | _, _, .nil => .cons z t .nil
  | _, _, .cons y u h => .cons y u (StrsAre.snoc h)
theorem d_end {h₀ : Heap} {L I : Addr} {o : Obj} {wsv : List Value} {Dv : Addr} {ns : List Int} {f : Nat} {news : List (Addr × Obj)} {i : Nat} {s : Shared} {Q : Flow → Shared → Prop} {h' : Heap} {tk' : Nat} {mz : Str → Option Value}
    (d' : DS) (tl' : List (Addr × Obj)) {tA fA nA : Addr} {tv fv iv : List Value} {n1 n2 n3 : Nat} {tp te tc : Tok} {P En C : Str} (hd : d' = (ns.take (i + 1)).foldl DS.step (d0 f))
    (F : Fr h₀ L h' mz) (N : News h₀ L h' ((I, o) :: (tA, listOf tv.toArray n1) :: (fA, listOf fv.toArray n2) :: (nA, listOf (iv ++ [Value.str C tc]).toArray n3) :: tl'))
    (hI : @Ne Nat tA I ∧ @Ne Nat fA I ∧ @Ne Nat nA I ∧ ∀ p ∈ tl', @Ne Nat p.1 I) (hP : P = tx (src d'.ts)) (hE : En = tx (List.replicate d'.e 97)) (hC : C = tx d'.cur)
    (hrow : RowIs tl' tv (d'.ts.map Tk.item)) (hfv : StrsAre fv (d'.rooms.map tx)) (hiv : StrsAre iv (d'.init.map tx)) (hne : @Ne Nat tA fA ∧ @Ne Nat tA nA ∧ @Ne Nat fA nA)
    (ht1 : ∀ p ∈ tl', @Ne Nat p.1 tA) (ht2 : ∀ p ∈ tl', @Ne Nat p.1 fA) (ht3 : ∀ p ∈ tl', @Ne Nat p.1 nA) (hS : (Dv, listOf wsv.toArray 0) ∈ tl') (hsub : ∀ p ∈ news, p ∈ tl')
    (hm : ∀ p ∈ [(Str.ofString "pattern", Value.str P tp), (Str.ofString "told", .ref tA), (Str.ofString "ending", .str En te), (Str.ofString "folders", .ref fA), (Str.ofString "names", .ref nA)], mz p.1 = some p.2) :
    FPost h₀ L I o (DInv wsv Dv 0 ns f news) (i + 1) s Q .next { s with heap := h', toks := tk' } := by
  subst hP hE hC
  exact FPost.next F N (List.forall_mem_cons.mpr ⟨hI.1, List.forall_mem_cons.mpr ⟨hI.2.1, List.forall_mem_cons.mpr ⟨hI.2.2.1, hI.2.2.2⟩⟩⟩)
    ⟨d', tA, fA, nA, tv, fv, iv, n1, n2, n3, tl', tp, te, tc, hd, rfl, hrow, hfv, hiv, hne, ht1, ht2, ht3, hS, hsub, hm⟩
/-- the end of a turn that adds an item that is no star -/
theorem d_add {h₀ : Heap} {L I : Addr} {o : Obj} {wsv : List Value} {Dv D : Addr} {ns : List Int} {f : Nat} {news : List (Addr × Obj)} {i : Nat} {s : Shared} {Q : Flow → Shared → Prop} {h' : Heap} {tk' : Nat} {mz : Str → Option Value}
    {d : DS} {x : Int} {t : Tk} {b : Bool} {y : Str} {ty : Tok} {sg : List Nat} {tl : List (Addr × Obj)} {tA fA nA : Addr} {tv fv iv : List Value} {n1 n2 n3 : Nat} {tp te tc : Tok} {P : Str}
    (hstep : d.step x = ⟨d.ts ++ [t], d.e, d.rooms, d.init, d.cur ++ sg⟩) (ht : t.item = some (b, y)) (hd : d.step x = (ns.take (i + 1)).foldl DS.step (d0 f)) (F : Fr h₀ L h' mz) (hP : P = tx (src d.ts ++ t.src))
    (hI : @Ne Nat tA I ∧ @Ne Nat fA I ∧ @Ne Nat nA I ∧ ∀ p ∈ tl, @Ne Nat p.1 I) (hrow : RowIs tl tv (d.ts.map Tk.item)) (hfv : StrsAre fv (d.rooms.map tx)) (hiv : StrsAre iv (d.init.map tx)) (hne : @Ne Nat tA fA ∧ @Ne Nat tA nA ∧ @Ne Nat fA nA)
    (ht1 : ∀ p ∈ tl, @Ne Nat p.1 tA) (ht2 : ∀ p ∈ tl, @Ne Nat p.1 fA) (ht3 : ∀ p ∈ tl, @Ne Nat p.1 nA) (hS : (Dv, listOf wsv.toArray 0) ∈ tl) (hsub : ∀ p ∈ news, p ∈ tl)
    (hm : ∀ p ∈ [(Str.ofString "pattern", Value.str P tp), (Str.ofString "told", .ref tA), (Str.ofString "ending", .str (tx (List.replicate d.e 97)) te), (Str.ofString "folders", .ref fA), (Str.ofString "names", .ref nA)], mz p.1 = some p.2)
    (N : ∀ p ∈ (I, o) :: (tA, listOf (tv ++ [Value.ref D]).toArray n1) :: (fA, listOf fv.toArray n2) :: (nA, listOf (iv ++ [Value.str (tx (d.cur ++ sg)) tc]).toArray n3) :: (D, { cls := .type "tuple", data := .seq [.bool b, .str y ty].toArray }) :: tl, h'.get? p.1 = some p.2 ∧ p.1 ≠ L ∧ h₀.get? p.1 = none)
    (hD : @Ne Nat D I ∧ @Ne Nat D tA ∧ @Ne Nat D fA ∧ @Ne Nat D nA) :
    FPost h₀ L I o (DInv wsv Dv 0 ns f news) (i + 1) s Q .next { s with heap := h', toks := tk' } := by
  refine d_end (d.step x) _ hd F N ⟨hI.1, hI.2.1, hI.2.2.1, List.forall_mem_cons.mpr ⟨hD.1, hI.2.2.2⟩⟩ (P := P) (te := te) (tp := tp) ?_ rfl ?_ ?_ ?_ ?_ hne (List.forall_mem_cons.mpr ⟨hD.2.1, ht1⟩) (List.forall_mem_cons.mpr ⟨hD.2.2.1, ht2⟩) (List.forall_mem_cons.mpr ⟨hD.2.2.2, ht3⟩) (.tail _ hS) (fun p hp => .tail _ (hsub p hp)) ?_
  · rw [hstep, hP, src_app]; simp [src]
  · rw [hstep]
  · rw [hstep]; dsimp only; rw [List.map_append]
    exact RowIs.snoc (by rw [ht]; exact ⟨_, _, rfl, .head _⟩) (RowIs.mono (fun _ h => .tail _ h) hrow)
  · rw [hstep]; exact hfv
  · rw [hstep]; exact hiv
  · rw [hstep]; exact hm
theorem d_start {h₀ h : Heap} {L : Addr} {m : Str → Option Value} {wsv : List Value} {Dv D1 D2 D3 tA fA nA : Addr} {ns : List Int} {news : List (Addr × Obj)} {v : Value} {t1 t2 t3 ta tb tp te : Tok} {P : Prop}
    (F : Fr h₀ L h m) (hv : [Value.ref D1, Value.none, Value.ref D2, Value.ref D3][((ns.length : Int).fmod 4).toNat]? = some v)
    (lA : AllLt tA news) (lF : AllLt fA news) (lN : AllLt nA news) (hne : @Ne Nat tA fA ∧ @Ne Nat tA nA ∧ @Ne Nat fA nA) (hD : (@Ne Nat Dv tA ∧ @Ne Nat Dv fA ∧ @Ne Nat Dv nA) ∧ (@Ne Nat D1 tA ∧ @Ne Nat D1 fA ∧ @Ne Nat D1 nA) ∧ (@Ne Nat D2 tA ∧ @Ne Nat D2 fA ∧ @Ne Nat D2 nA) ∧ @Ne Nat D3 tA ∧ @Ne Nat D3 fA ∧ @Ne Nat D3 nA)
    (hm : ∀ p ∈ [(Str.ofString "pattern", Value.str ([Str.ofString "?", Str.ofString "*", Str.ofString "b", Str.ofString "[!a]"].getD ((ns.length : Int).fmod 4).toNat Str.empty) tp), (Str.ofString "told", .ref tA), (Str.ofString "ending", .str (Str.ofString "") te), (Str.ofString "folders", .ref fA), (Str.ofString "names", .ref nA)], m p.1 = some p.2)
    (N : ∀ p ∈ (tA, listOf [v].toArray 0) :: (fA, listOf [Value.str (Str.ofString "a") ta].toArray 0) :: (nA, listOf [Value.str (Str.ofString "b") tb].toArray 0) :: (Dv, listOf wsv.toArray 0) :: (D1, { cls := .type "tuple", data := .seq [Value.bool true, Value.str (Str.ofString "") t1].toArray }) ::
      (D2, { cls := .type "tuple", data := .seq [Value.bool false, Value.str (Str.ofString "b") t2].toArray }) :: (D3, { cls := .type "tuple", data := .seq [Value.bool true, Value.str (Str.ofString "a") t3].toArray }) :: news, h.get? p.1 = some p.2 ∧ p.1 ≠ L ∧ h₀.get? p.1 = none)
    (K : ∀ news1, News h₀ L h news1 → (Dv, listOf wsv.toArray 0) ∈ news1 → DInv wsv Dv 0 ns (ns.length % 4) news 0 m news1 → P) : P := by
  have hf : ((ns.length : Int).fmod 4).toNat = ns.length % 4 := by rw [Int.fmod_eq_emod_of_nonneg _ (by decide)]; omega
  rw [hf] at hv hm
  have h4 : ns.length % 4 < 4 := Nat.mod_lt _ (by decide)
  refine K _ N (.tail _ (.tail _ (.tail _ (.head _)))) ⟨d0 (ns.length % 4), tA, fA, nA, [v], [Value.str (Str.ofString "a") ta], [], 0, 0, 0, (Dv, listOf wsv.toArray 0) :: (D1, { cls := .type "tuple", data := .seq [Value.bool true, Value.str (Str.ofString "") t1].toArray }) :: (D2, { cls := .type "tuple", data := .seq [Value.bool false, Value.str (Str.ofString "b") t2].toArray }) :: (D3, { cls := .type "tuple", data := .seq [Value.bool true, Value.str (Str.ofString "a") t3].toArray }) :: news, tp, te, tb, rfl, ?_, ?_, ?_, .nil, hne, ?_, ?_, ?_, .head _, fun p hp => .tail _ (.tail _ (.tail _ (.tail _ hp))), ?_⟩
  · rw [show tx (d0 (ns.length % 4)).cur = Str.ofString "b" from (by decide +kernel : tx [98] = Str.ofString "b")]; rfl
  · generalize ns.length % 4 = f at hv h4
    rcases f with _ | _ | _ | _ | f
    · have e := Option.some.inj hv; subst e; exact ⟨⟨_, _, rfl, .tail _ (.head _)⟩, trivial⟩
    · have e := Option.some.inj hv; subst e; exact ⟨rfl, trivial⟩
    · have e := Option.some.inj hv; subst e; exact ⟨⟨D2, t2, rfl, by rw [show (⟨#[98]⟩ : Str) = Str.ofString "b" by decide +kernel]; exact .tail _ (.tail _ (.head _))⟩, trivial⟩
    · have e := Option.some.inj hv; subst e; exact ⟨⟨_, _, rfl, .tail _ (.tail _ (.tail _ (.head _)))⟩, trivial⟩
    · omega
  · rw [show (d0 (ns.length % 4)).rooms.map tx = [Str.ofString "a"] from (by decide +kernel : [tx [97]] = [Str.ofString "a"])]; exact .cons _ _ .nil
  · exact List.forall_mem_cons.mpr ⟨hD.1.1, List.forall_mem_cons.mpr ⟨hD.2.1.1, List.forall_mem_cons.mpr ⟨hD.2.2.1.1, List.forall_mem_cons.mpr ⟨hD.2.2.2.1, fun p hp => Nat.ne_of_lt (ktn_ltOf lA p hp)⟩⟩⟩⟩
  · exact List.forall_mem_cons.mpr ⟨hD.1.2.1, List.forall_mem_cons.mpr ⟨hD.2.1.2.1, List.forall_mem_cons.mpr ⟨hD.2.2.1.2.1, List.forall_mem_cons.mpr ⟨hD.2.2.2.2.1, fun p hp => Nat.ne_of_lt (ktn_ltOf lF p hp)⟩⟩⟩⟩
  · exact List.forall_mem_cons.mpr ⟨hD.1.2.2, List.forall_mem_cons.mpr ⟨hD.2.1.2.2, List.forall_mem_cons.mpr ⟨hD.2.2.1.2.2, List.forall_mem_cons.mpr ⟨hD.2.2.2.2.2, fun p hp => Nat.ne_of_lt (ktn_ltOf lN p hp)⟩⟩⟩⟩
  · have hp : [Str.ofString "?", Str.ofString "*", Str.ofString "b", Str.ofString "[!a]"].getD (ns.length % 4) Str.empty = tx (src (d0 (ns.length % 4)).ts) := by
      generalize ns.length % 4 = f at h4
      rcases f with _ | _ | _ | _ | f <;> first | decide +kernel | omega
    rw [hp] at hm
    rw [show tx (List.replicate (d0 (ns.length % 4)).e 97) = Str.ofString "" from (by decide +kernel : tx [] = Str.ofString "")]
    exact hm
/-- what _law_drawn hands back -/
def DrawnPost (ns : List Int) (news : List (Addr × Obj)) (r : Value) (news' : List (Addr × Obj)) : Prop :=
  ∃ (T tA fA nA : Addr) (tv fv nv : List Value) (n1 n2 n3 : Nat) (tl : List (Addr × Obj)) (tp te : Tok), r = .ref T ∧
    news' = (T, { cls := .type "tuple", data := .seq [Value.str (tx (src (drawn ns).ts)) tp, .ref tA, .str (tx (List.replicate (drawn ns).e 97)) te, .ref fA, .ref nA].toArray }) :: (tA, listOf tv.toArray n1) :: (fA, listOf fv.toArray n2) :: (nA, listOf nv.toArray n3) :: tl ∧
    RowIs tl tv ((drawn ns).ts.map Tk.item) ∧ StrsAre fv ((drawn ns).rooms.map tx) ∧ StrsAre nv (((drawn ns).init ++ [(drawn ns).cur ++ 46 :: List.replicate (drawn ns).e 97]).map tx) ∧ ∀ p ∈ news, p ∈ tl
def ClaimB (ax : Addr) (vs : List Value) (f : Addr) (args : List Value) (news : List (Addr × Obj)) (post : Value → List (Addr × Obj) → Prop) : Prop :=
  ∀ (w : World) (p : Program) (loose : List Str) (mean : ExcName → Option Value) (mg mb : Str → Option Value) (cn : Str) (cs : Scope) (a : Addr) (ccd : Value)
    (base h₀ : Heap) (L : Addr) (m : Str → Option Value) (s : Shared) (Q E : Value → Shared → Prop),
    h₀.IsList ax vs.toArray → Below callerA base [] h₀ → Fr h₀ L s.heap m → (Mine.pre.heap_1 w.params).In h₀ → News h₀ L s.heap news → Top p loose mean mg mb h₀ → cs.kind = .function →
    (∀ r news' h' tk', 1 ≤ tk' → Fr h₀ L h' m → News h₀ L h' news' → post r news' → Q r { s with heap := h', toks := tk' }) →
    wpAny (model PySem.Challenge.rw_rx0001_01.row.prog w) (callerA.deeper (envOf cn cs L a ccd)) (call (.ref f) args) Q E s
set_option maxRecDepth 100000 in
set_option maxHeartbeats 16000000 in
theorem drawn_ok (ax : Addr) (vs : List Value) (ns : List Int) (hi : IntsAre vs ns) (hlen : ns.length ≤ 63) (news : List (Addr × Obj)) : ClaimB ax vs 104 [.ref ax] news (DrawnPost ns news) := by
  unfold ClaimB
  k_fill
  intro w p loose mean mg mb cn cs a ccd base h₀ L m ⟨sh, sg, sd, st, so⟩ Q E hl B F X N T hk hret
  k_with_none
  refine wpAny_call ?_
  k_dflt cell_enter
  (rename Fr h₀ L _ m => FG)
  have hl2 := hl.at fun o e => FG.keep _ _ e
  have hlen2 := IntsAre.length hi
  have hf4 := fmod_bnd (ns.length : Int) 4 (by decide)
  walk_at "go"
  show wpAny _ _ _ _ _ _
  (rename Fr _ _ _ _ => F₀)
  refine for_list F₀ ?_ rfl (by with_unfolding_all passes_own)
  iterate 6 (walk1; try dsimp only)
  walk1
  walk1
  dsimp only
  (rename Fr _ _ _ _ => F₁); (rename News _ _ _ _ => N₁); (rename IntsAre _ (List.take 10 ns) => hI)
  (rename [_, _, _, _][_]? = some _ => hv0); (rename _ ∧ _ ∧ _ ∧ _ ∧ _ ∧ _ ∧ _ ∧ _ ∧ _ ∧ AllLt _ _ => l2)
  (rename List Value => wsv); (rename Addr => Dv)
  (rename _ ∧ _ ∧ _ ∧ _ ∧ _ ∧ AllLt _ _ => lA); (rename _ ∧ _ ∧ _ ∧ _ ∧ _ ∧ _ ∧ AllLt _ _ => lF); (rename _ ∧ _ ∧ _ ∧ _ ∧ _ ∧ _ ∧ _ ∧ AllLt _ _ => lN)
  refine' d_start F₁ hv0 lA.2.2.2.2.2 lF.2.2.2.2.2.2 lN.2.2.2.2.2.2.2 ?ne1 ?ne2 ?hm0 (fun p hp => N₁ p ?N0) ?K0
  case hm0 => kst_all
  case N0 => revert p; walk_at "d_sub"
  case ne1 => refine ⟨?_, ?_, ?_⟩ <;> k_ne
  case ne2 => refine ⟨⟨?_, ?_, ?_⟩, ⟨?_, ?_, ?_⟩, ⟨?_, ?_, ?_⟩, ?_, ?_, ?_⟩ <;> k_ne
  intro news1 Nn hmem hJ
  refine ⟨Dv, wsv.toArray, 0, _, news1, rfl, F₁, Nn, hmem, by first | assumption | omega, DInv wsv Dv 0 ns (ns.length % 4) news, hJ, ?i4, ?turn, ?done⟩
  case i4 => 
    rintro i m news' ⟨d, tA, fA, nA, tv, fv, iv, n1, n2, n3, tl, tp, te, tc, hd, rfl, _, _, _, _, _, _, _, hS, _⟩
    exact ⟨0, .tail _ (.tail _ (.tail _ hS))⟩
  case turn =>
    clear F₁ N₁ Nn hmem hJ hv0 l2 lA lF lN
    rintro i v m₁ news₁ h tk I o hget ⟨d, tA, fA, nA, tv, fv, iv, n1, n2, n3, tl, tp, te, tc, hd, rfl, hrow, hfv, hiv, hne, ht1, ht2, ht3, hS, hsub, hm⟩ htk' hneI F₂ N₂
    have F₃ := fr_kst hm F₂
    clear F₂
    simp only [List.forall_mem_cons] at hneI
    obtain ⟨x, xt, rfl, hx⟩ := IntsAre.at hI i v (by simpa using hget)
    obtain ⟨y, hy, hy2⟩ : ∃ y : Nat, x.fmod 884736 = (y : Int) ∧ y < 884736 := ⟨(x.fmod 884736).toNat, by have := fmod_bnd x 884736 (by decide); omega, by have := fmod_bnd x 884736 (by decide); omega⟩
    obtain ⟨R, hR⟩ : ∃ R, R = y / 16 := ⟨_, rfl⟩
    obtain ⟨k, hk'⟩ : ∃ k, k = y % 16 := ⟨_, rfl⟩
    have hq : (y : Int).fdiv 16 = (R : Int) := by rw [Int.fdiv_eq_ediv_of_nonneg _ (by decide)]; omega
    have hr : (y : Int).fmod 16 = (k : Int) := by rw [Int.fmod_eq_emod_of_nonneg _ (by decide)]; omega
    have hc : ((R : Int) + 42).fmod 55296 = (((R + 42) % 55296 : Nat) : Int) := by rw [Int.fmod_eq_emod_of_nonneg _ (by decide)]; omega
    have hc2 : (R + 42) % 55296 < 55296 := Nat.mod_lt _ (by decide)
    have hf : Txt.replace (tx [(R + 42) % 55296]) (Str.ofString "/") (Str.ofString "a") = tx [freeOf R] := by rw [rep_free]; unfold freeOf; rfl
    have hf2 : (tx [(R + 42) % 55296]).length ≤ 2000 := by show 1 ≤ 2000; decide
    have hk2 : k < 16 := by omega
    have htab := sign_tab k (freeOf R) d.e hk2
    have hroom := room_tab R
    have hm4 : (R : Int).fmod 4 = ((R % 4 : Nat) : Int) := by rw [Int.fmod_eq_emod_of_nonneg _ (by decide)]; omega
    have hr4 : R % 4 < 4 := Nat.mod_lt _ (by decide)
    have hok := fold_ok (ns.length % 4) ns i (by have := (List.getElem?_eq_some_iff.mp hx).1; rw [List.length_take] at this; omega) (by have := (List.getElem?_eq_some_iff.mp hx).1; rw [List.length_take] at this; omega)
    rw [← hd] at hok
    have hde := hok.e
    have hcl := hok.cur.1
    have hi10 : i < 10 := by have := (List.getElem?_eq_some_iff.mp hx).1; rw [List.length_take] at this; omega
    have htvl : tv.length ≤ 11 := by rw [hrow.length, List.length_map]; have := hok.ts; omega
    have hfvl : fv.length ≤ 11 := by rw [hfv.length, List.length_map]; have := hok.rooms; omega
    have hivl : iv.length ≤ 11 := by rw [hiv.length, List.length_map]; have := hok.rooms; have := hok.rooms'; omega
    have hstep := step_eq (d := d) hy hR hk'
    have hd2 : d.step x = (ns.take (i + 1)).foldl DS.step (d0 (ns.length % 4)) := by
      have hx' : ns[i]? = some x := by rw [List.getElem?_take_of_lt hi10] at hx; exact hx
      rw [List.take_add_one, hx', List.foldl_append, ← hd]; rfl
    have hsg := sgn_ok k (freeOf R) d.e (freeOf_ne R)
    walk_at "go"
    show wpAny _ _ _ _ _ _
    have going : Going := trivial
    rcases (by omega : k < 6 ∨ (6 ≤ k ∧ k ≤ 9) ∨ (10 ≤ k ∧ k ≤ 12) ∨ k = 13 ∨ k = 14 ∨ k = 15) with c | c | c | c | c | c
    · --{c1
      have hpat := pat_tab k (freeOf R) c
      have hts := hok.ts
      have hsl := src_len d.ts
      have htl := src_len (tok k (freeOf R))
      have htl2 := (tok_ok k (freeOf R) (freeOf_ne R)).1
      walk_at "go"
      (rename Fr _ _ _ _ => Fz); (rename News _ _ _ _ => Nz); (rename [_, _, _, _, _, _][_]? = some _ => hvz)
      simp only [List.push_toArray] at Nz
      rw [if_neg (by omega), if_neg (by omega), if_neg (by omega), if_neg (by omega)] at hstep
      rcases k with _ | _ | _ | _ | _ | _ | k
      · simp only [Int.natCast_zero, Int.toNat_zero, List.getElem?_cons_zero, Option.some.injEq] at hvz
        subst hvz
        refine' d_end (d.step x) tl hd2 Fz ?N ?hI ?hP ?hE ?hC ?hrow ?hfv ?hiv hne ht1 ht2 ht3 hS hsub ?hm
        case hm => kst_all
        case N => refine fun p hp => Nz p ?_; revert p; walk_at "d_sub"
        case hI => exact hneI
        case hP => rw [hstep, src_app]
        case hE => rw [hstep]
        case hC => rw [hstep]
        case hrow => rw [hstep]; dsimp only; rw [List.map_append]; exact RowIs.snoc rfl hrow
        case hfv => rw [hstep]; exact hfv
        case hiv => rw [hstep]; exact hiv
      rotate_right
      · exact absurd c (by omega)
      all_goals (
        have ez := Option.some.inj (hvz : some _ = some _)
        subst ez
        refine' d_add hstep rfl hd2 Fz ?_ hneI hrow hfv hiv hne ht1 ht2 ht3 hS hsub ?_ (fun p hp => Nz p ?_) ?_
        show ∀ q ∈ (_ : List (Str × Value)), _ = some _
        kst_all
        show (_ : Addr × Obj) ∈ (_ : List (Addr × Obj))
        (revert p; walk_at "d_sub")
        show @Ne Nat _ _ ∧ _
        (refine ⟨?_, ?_, ?_, ?_⟩ <;> k_ne)
        show (_ : Str) = _
        exact congrArg (fun z => tx (src d.ts ++ z)) rfl)
    --}c1
    · --{c2
      have e13 : ((k : Int) == 13) = false := beq_eq_false_iff_ne.mpr (by omega)
      have e15 : ((k : Int) == 15) = false := beq_eq_false_iff_ne.mpr (by omega)
      walk_at "go"
      (rename Fr _ _ _ _ => Fz); (rename News _ _ _ _ => Nz)
      rw [tok_none c.1 (.inl c.2), List.append_nil, if_neg (by omega), if_neg (by omega), if_neg (by omega), if_neg (by omega)] at hstep
      refine' d_end (d.step x) tl hd2 Fz ?Nc2 hneI ?hPc2 ?hEc2 ?hCc2 ?hrowc2 ?hfvc2 ?hivc2 hne ht1 ht2 ht3 hS hsub ?hmc2
      case hmc2 => kst_all
      case Nc2 => refine fun p hp => Nz p ?_; revert p; walk_at "d_sub"
      case hPc2 => rw [hstep]
      case hEc2 => rw [hstep]
      case hCc2 => rw [hstep]
      case hrowc2 => rw [hstep]; exact hrow
      case hfvc2 => rw [hstep]; exact hfv
      case hivc2 => rw [hstep]; exact hiv
    --}c2
    · --{c3
      obtain ⟨sc, hs1, hs2⟩ := tok_one (k := k) (c := freeOf R) (e := d.e) c.1 c.2
      have hsl := src_len d.ts
      have hts := hok.ts
      have hin := in_menu sc
      rw [← hs1] at hin
      rw [hs2, if_neg (by omega), if_neg (by omega), if_neg (by omega), if_neg (by omega)] at hstep
      by_cases hb : sc = 42 ∨ sc = 63 ∨ sc = 91
      · rw [decide_eq_true hb] at hin
        walk_at "go"
        (rename Fr _ _ _ _ => Fz); (rename News _ _ _ _ => Nz)
        simp only [List.push_toArray] at Nz
        refine' d_add (t := .ch sc) (y := tx (sgn k (freeOf R) d.e)) (b := false) hstep (by rw [hs1]; rfl) hd2 Fz ?_ hneI hrow hfv hiv hne ht1 ht2 ht3 hS hsub ?_ (fun p hp => Nz p ?_) ?_
        show ∀ q ∈ (_ : List (Str × Value)), _ = some _
        kst_all
        show (_ : Addr × Obj) ∈ (_ : List (Addr × Obj))
        (revert p; walk_at "d_sub")
        show @Ne Nat _ _ ∧ _
        (refine ⟨?_, ?_, ?_, ?_⟩ <;> k_ne)
        show (_ : Str) = _
        exact congrArg (fun z => tx (src d.ts ++ z)) (by rw [hs1]; unfold Tk.src; dsimp only; rw [if_pos hb]; rfl)
      · rw [decide_eq_false hb] at hin
        walk_at "go"
        (rename Fr _ _ _ _ => Fz); (rename News _ _ _ _ => Nz)
        simp only [List.push_toArray] at Nz
        refine' d_add (t := .ch sc) (y := tx (sgn k (freeOf R) d.e)) (b := false) hstep (by rw [hs1]; rfl) hd2 Fz ?_ hneI hrow hfv hiv hne ht1 ht2 ht3 hS hsub ?_ (fun p hp => Nz p ?_) ?_
        show ∀ q ∈ (_ : List (Str × Value)), _ = some _
        kst_all
        show (_ : Addr × Obj) ∈ (_ : List (Addr × Obj))
        (revert p; walk_at "d_sub")
        show @Ne Nat _ _ ∧ _
        (refine ⟨?_, ?_, ?_, ?_⟩ <;> k_ne)
        show (_ : Str) = _
        exact congrArg (fun z => tx (src d.ts ++ z)) (by rw [hs1]; unfold Tk.src; dsimp only; rw [if_neg hb])
    --}c3
    · --{c4
      have e13 : ((k : Int) == 13) = true := beq_iff_eq.mpr (by omega)
      walk_at "go"
      (rename Fr _ _ _ _ => Fz); (rename News _ _ _ _ => Nz)
      simp only [List.push_toArray] at Nz; rw [tok_none (by omega) (.inr (by omega)), List.append_nil, if_neg (by omega), if_pos c, if_pos c, if_pos c] at hstep
      refine' d_end (d.step x) tl hd2 Fz ?Nc4 hneI ?hPc4 ?hEc4 ?hCc4 ?hrowc4 ?hfvc4 ?hivc4 hne ht1 ht2 ht3 hS hsub ?hmc4
      case hmc4 => kst_all
      case Nc4 => refine fun p hp => Nz p ?_; revert p; walk_at "d_sub"
      case hPc4 => rw [hstep]
      case hEc4 => rw [hstep]
      case hCc4 => rw [hstep]; exact (show Str.ofString "b" = tx [98] by decide +kernel)
      case hrowc4 => rw [hstep]; exact hrow
      case hfvc4 => rw [hstep]; dsimp only; rw [List.map_append]; exact StrsAre.snoc hfv
      case hivc4 => rw [hstep]; dsimp only; rw [List.map_append]; exact StrsAre.snoc hiv
    --}c4
    · --{c5
      have e13 : ((k : Int) == 13) = false := beq_eq_false_iff_ne.mpr (by omega)
      have e15 : ((k : Int) == 15) = false := beq_eq_false_iff_ne.mpr (by omega)
      walk_at "go"
      (rename Fr _ _ _ _ => Fz); (rename News _ _ _ _ => Nz)
      rw [tok_none (by omega) (.inr (by omega)), List.append_nil, if_neg (by omega), if_neg (by omega), if_neg (by omega), if_neg (by omega)] at hstep
      refine' d_end (d.step x) tl hd2 Fz ?Nc5 hneI ?hPc5 ?hEc5 ?hCc5 ?hrowc5 ?hfvc5 ?hivc5 hne ht1 ht2 ht3 hS hsub ?hmc5
      case hmc5 => kst_all
      case Nc5 => refine fun p hp => Nz p ?_; revert p; walk_at "d_sub"
      case hPc5 => rw [hstep]
      case hEc5 => rw [hstep]
      case hCc5 => rw [hstep]
      case hrowc5 => rw [hstep]; exact hrow
      case hfvc5 => rw [hstep]; exact hfv
      case hivc5 => rw [hstep]; exact hiv
    --}c5
    · --{c6
      have e13 : ((k : Int) == 13) = false := beq_eq_false_iff_ne.mpr (by omega)
      have e15 : ((k : Int) == 15) = true := beq_iff_eq.mpr (by omega)
      walk_at "go"
      (rename Fr _ _ _ _ => Fz); (rename News _ _ _ _ => Nz)
      rw [tok_none (by omega) (.inr (by omega)), List.append_nil, if_pos c, if_neg (by omega), if_neg (by omega), if_neg (by omega)] at hstep
      refine' d_end (d.step x) tl hd2 Fz ?Nc6 hneI ?hPc6 ?hEc6 ?hCc6 ?hrowc6 ?hfvc6 ?hivc6 hne ht1 ht2 ht3 hS hsub ?hmc6
      case hmc6 => kst_all
      case Nc6 => refine fun p hp => Nz p ?_; revert p; walk_at "d_sub"
      case hPc6 => rw [hstep]
      case hEc6 => rw [hstep]; exact congrArg tx (by rw [List.replicate_succ'])
      case hCc6 => rw [hstep]
      case hrowc6 => rw [hstep]; exact hrow
      case hfvc6 => rw [hstep]; exact hfv
      case hivc6 => rw [hstep]; exact hiv
    --}c6
  case done =>
    --{done
    rintro m₁ news₁ h tk ⟨d, tA, fA, nA, tv, fv, iv, n1, n2, n3, tl, tp, te, tc, hd, rfl, hrow, hfv, hiv, hne, ht1, ht2, ht3, hS, hsub, hm⟩ htk' F₂ N₂
    have F₃ := fr_kst hm F₂
    clear F₂
    have hlen10 : wsv.toArray.size = (ns.take 10).length := by rw [List.size_toArray]; exact IntsAre.length hI
    rw [hlen10, List.length_take] at hd
    have hok := fold_ok (ns.length % 4) ns (min 10 ns.length) (Nat.min_le_left _ _) (Nat.min_le_right _ _)
    rw [← hd] at hok
    have hde := hok.e
    have hcl := hok.cur.1
    have hmin := Nat.min_le_left 10 ns.length
    have hd9 : d = drawn ns := by
      rw [hd]; unfold drawn
      congr 1
      rw [List.take_eq_take_iff]
      omega
    walk_at "go"
    (rename News _ _ _ _ => Nz); (rename Fr _ _ _ _ => Fz)
    subst hd9
    refine hret _ _ _ _ (by assumption) Fz Nz ⟨_, tA, fA, nA, tv, fv, iv ++ [_], n1, n2, n3, tl, tp, te, rfl, rfl, hrow, hfv, ?_, hsub⟩
    rw [List.map_append]
    have e : (drawn ns).cur ++ [46] ++ List.replicate (drawn ns).e 97 = (drawn ns).cur ++ 46 :: List.replicate (drawn ns).e 97 := by rw [List.append_assoc]; rfl
    rw [e]
    exact StrsAre.snoc hiv
    --}done
end Mine
end
section
namespace Mine
theorem at_one {l : List Nat} {c i : Nat} : StrLaws.At (tx l) ⟨#[c]⟩ (tx l).length i ↔ l[i]? = some c := by
  unfold StrLaws.At
  rw [StrLaws.subAt_one]
  exact Iff.rfl
theorem rfind_at {pre post : List Nat} {c : Nat} (h : c ∉ post) : Txt.rfind (tx (pre ++ c :: post)) ⟨#[c]⟩ = pre.length := by
  rcases rfind_whole (tx (pre ++ c :: post)) ⟨#[c]⟩ with ⟨_, hn⟩ | ⟨i, e, hi, hn⟩
  · exact absurd (at_one.mpr (by simp)) (hn pre.length)
  · rw [e]
    have hi' := at_one.mp hi
    have h1 : ¬ i < pre.length := fun hlt => hn pre.length hlt (at_one.mpr (by simp))
    have h2 : ¬ pre.length < i := fun hlt => by
      rw [List.getElem?_append_right (by omega)] at hi'
      obtain ⟨k, hk⟩ : ∃ k, i - pre.length = k + 1 := ⟨i - pre.length - 1, by omega⟩
      rw [hk, List.getElem?_cons_succ] at hi'
      exact h (List.mem_of_getElem? hi')
    omega
theorem rfind_not {l : List Nat} {c : Nat} (h : c ∉ l) : Txt.rfind (tx l) ⟨#[c]⟩ = -1 := by
  rcases rfind_whole (tx l) ⟨#[c]⟩ with ⟨e, _⟩ | ⟨i, _, hi, _⟩
  · exact e
  · exact absurd (List.mem_of_getElem? (at_one.mp hi)) h
theorem lit_sl : Str.ofString "/" = (⟨#[47]⟩ : Str) := by decide +kernel
theorem lit_pt : Str.ofString "." = (⟨#[46]⟩ : Str) := by decide +kernel
/-- the module name of a path whose last name has a dot -/
theorem mod_dot {pre stem ext : List Nat} (t : Tok) (news : List (Addr × Obj)) (h1 : 47 ∉ stem) (h2 : 47 ∉ ext) (h3 : 46 ∉ ext) (hc : ∃ c r, stem = c :: r ∧ c ≠ 46) (hl : (pre ++ 47 :: (stem ++ 46 :: ext)).length ≤ 2000) :
    Claim 73 [.str (tx (pre ++ 47 :: (stem ++ 46 :: ext))) t] news (fun r news' => (∃ t', r = .str (tx stem) t') ∧ news' = news) := by
  obtain ⟨c, r, rfl, hc⟩ := hc
  have hb : 47 ∉ c :: r ++ 46 :: ext := by simp at h1 h2 ⊢; exact ⟨h1.1, h1.2, h2⟩
  have hlen : (c :: r ++ 46 :: ext).length ≤ 2000 := by simp at hl ⊢; omega
  refine modname_dot (tx (pre ++ 47 :: (c :: r ++ 46 :: ext))) (tx (c :: r ++ 46 :: ext)) (tx (c :: r)) ⟨#[c]⟩ t pre.length (c :: r).length news (by simpa [tx, Str.length] using hl) (by simpa [tx, Str.length] using hlen) ?_ ?_ ?_ ?_ (by simp) ?_ ?_ ?_
  · rw [lit_sl]; exact rfind_at hb
  · exact slice_from_app (pre := pre ++ [47]) (post := c :: r ++ 46 :: ext) (by simp [tx]) (by simp)
  · rw [lit_sl]; exact rfind_not hb
  · rw [lit_pt]; exact rfind_at h3
  · exact slice_app (pre := []) (mid := [c]) (post := r ++ 46 :: ext) (by simp [tx]) (by simp) (by simp)
  · rw [lit_pt]; simp [hc]
  · exact slice_to_app (pre := c :: r) (post := 46 :: ext) rfl rfl
/-- the module name of a path whose last name has no dot -/
theorem mod_bare {pre b : List Nat} (t : Tok) (news : List (Addr × Obj)) (h1 : 47 ∉ b) (h2 : 46 ∉ b) (hl : (pre ++ 47 :: b).length ≤ 2000) :
    Claim 73 [.str (tx (pre ++ 47 :: b)) t] news (fun r news' => (∃ t', r = .str (tx b) t') ∧ news' = news) := by
  have hlen : b.length ≤ 2000 := by simp at hl; omega
  refine modname_bare (tx (pre ++ 47 :: b)) (tx b) t pre.length news (by simpa [tx, Str.length] using hl) (by simpa [tx, Str.length] using hlen) ?_ ?_ ?_ ?_ ?_
  · rw [lit_sl]; exact rfind_at h1
  · exact slice_from_app (pre := pre ++ [47]) (post := b) (by simp [tx]) (by simp)
  · rw [lit_sl]; exact rfind_not h1
  · rw [lit_pt]; exact rfind_not h2
  · rw [show Str.ofString "" = (⟨#[]⟩ : Str) by decide +kernel]; exact slice_to_app (pre := []) (post := b) rfl rfl
end Mine
end
section
namespace Mine
def wholeTs (d : DS) : List Tk := .star :: .ch 47 :: (d.ts ++ .ch 46 :: List.replicate d.e (.ch 97))
theorem src_rep : ∀ n, src (List.replicate n (.ch 97)) = List.replicate n 97
  | 0 => rfl
  | n + 1 => by
    rw [List.replicate_succ, List.replicate_succ]
    show (Tk.ch 97).src ++ src (List.replicate n (.ch 97)) = _
    rw [src_rep n]; rfl
theorem src_whole (d : DS) : src (wholeTs d) = 42 :: 47 :: (src d.ts ++ [46] ++ List.replicate d.e 97) := by
  unfold wholeTs
  show Tk.star.src ++ ((Tk.ch 47).src ++ src (d.ts ++ .ch 46 :: List.replicate d.e (.ch 97))) = _
  rw [src_app]
  show [42] ++ ([47] ++ (src d.ts ++ ((Tk.ch 46).src ++ src (List.replicate d.e (.ch 97))))) = _
  rw [src_rep]
  show [42] ++ ([47] ++ (src d.ts ++ ([46] ++ List.replicate d.e 97))) = _
  simp
theorem src_no47 : ∀ {ts : List Tk}, (∀ t ∈ ts, t ≠ .ch 47) → 47 ∉ src ts
  | [], _ => by simp [src]
  | a :: r, h => by
    have h1 := src_no47 fun t ht => h t (List.mem_cons_of_mem _ ht)
    have h2 : 47 ∉ a.src := by
      have := h a List.mem_cons_self
      cases a with
      | ch c =>
        have hc : c ≠ 47 := fun e => this (by rw [e])
        unfold Tk.src
        dsimp only
        split <;> simp <;> omega
      | _ => simp [Tk.src]
    show 47 ∉ a.src ++ src r
    intro hm
    rcases List.mem_append.mp hm with hm | hm
    · exact h2 hm
    · exact h1 hm
theorem src_head {ts : List Tk} (h : ∃ t r, ts = t :: r ∧ t ≠ .ch 46) : ∃ c r, src ts = c :: r ∧ c ≠ 46 := by
  obtain ⟨t, r, rfl, ht⟩ := h
  show ∃ c r', t.src ++ src r = c :: r' ∧ c ≠ 46
  cases t with
  | ch c =>
    have hc : c ≠ 46 := fun e => ht (by rw [e])
    unfold Tk.src
    dsimp only
    split
    · exact ⟨91, _, rfl, by decide⟩
    · exact ⟨c, _, rfl, hc⟩
  | star => exact ⟨42, _, rfl, by decide⟩
  | any => exact ⟨63, _, rfl, by decide⟩
  | nota => exact ⟨91, _, rfl, by decide⟩
  | dotb => exact ⟨91, _, rfl, by decide⟩
theorem mod_path {d : DS} (hok : ∃ i, i ≤ 10 ∧ d.Ok i) (hl : (src d.ts).length ≤ 44 ∧ d.e ≤ 10) (t : Tok) (news : List (Addr × Obj)) :
    Claim 73 [.str (tx (42 :: 47 :: (src d.ts ++ [46] ++ List.replicate d.e 97))) t] news (fun r news' => (∃ t', r = .str (tx (src d.ts)) t') ∧ news' = news) := by
  obtain ⟨i, _, ho⟩ := hok
  have := mod_dot (pre := [42]) (stem := src d.ts) (ext := List.replicate d.e 97) t news (src_no47 ho.tsOk) (by simp [List.mem_replicate]) (by simp [List.mem_replicate]) (src_head ho.hd) (by simp; omega)
  rw [show 42 :: 47 :: (src d.ts ++ [46] ++ List.replicate d.e 97) = [42] ++ 47 :: (src d.ts ++ 46 :: List.replicate d.e 97) by simp]
  exact this
end Mine
end
section
namespace Mine
/-- a piece's reading, told by what the tests find -/
theorem read_by {p : Str} {b : Bool} {cs : Str} {B1 B2 B3 B4 B5 B6 : Bool} (h : ReadIs p b cs) (f1 : (p == Str.ofString ".") = B1) (f2 : (Txt.item p 0 == Str.ofString "\\") = B2) (f3 : Txt.isalnum (Txt.slice p (some 1) none) = B3)
    (f4 : (Txt.slice p none (some 2) == Str.ofString "[^") = B4) (f5 : (Txt.item p 0 == Str.ofString "[") = B5) (f6 : (Builtin.Str.occurrences (Str.ofString "$()*+?^{|}") p 0 (Str.ofString "$()*+?^{|}").length 1).isEmpty = B6) :
    (b, cs) = if B1 then (true, Str.ofString "") else if B2 then (false, if B3 then Str.ofString "" else Txt.slice p (some 1) none) else if B4 then (true, Txt.slice p (some 2) (some (-1)))
      else if B5 then (false, Txt.replace (Txt.slice p (some 1) (some (-1))) (Str.ofString "\\") (Str.ofString "")) else (false, if B6 then p else Str.ofString "") := by
  subst f1 f2 f3 f4 f5 f6
  cases h with
  | dot h1 => rw [h1]; rfl
  | bsA h1 h2 h3 => rw [h1, h2, h3]; rfl
  | bs h1 h2 h3 => rw [h1, h2, h3]; rfl
  | neg h1 h2 h3 => rw [h1, h2, h3]; rfl
  | set h1 h2 h3 h4 => rw [h1, h2, h3, h4]; rfl
  | off h1 h2 h3 h4 h5 => rw [h1, h2, h3, h4, h5]; rfl
  | one h1 h2 h3 h4 h5 => rw [h1, h2, h3, h4, h5]; rfl
theorem sub_specials : ∀ d ∈ [36, 40, 41, 42, 43, 63, 94, 123, 124, 125], d ∈ specials := by decide
theorem read_plain {c : Nat} {b : Bool} {cs : Str} (hc : c ∉ specials) (h : ReadIs ⟨#[c]⟩ b cs) : (b, cs) = (false, (⟨#[c]⟩ : Str)) := by
  have ne : ∀ {d : Nat}, d ∈ specials → ((⟨#[c]⟩ : Str) == ⟨#[d]⟩) = false := fun {d} hd => beq_eq_false_iff_ne.mpr fun e => by
    have : c = d := by injection e with e; simpa using e
    exact hc (this ▸ hd)
  have hi : Txt.item ⟨#[c]⟩ 0 = ⟨#[c]⟩ := rfl
  have f1 : ((⟨#[c]⟩ : Str) == Str.ofString ".") = false := by rw [show Str.ofString "." = (⟨#[46]⟩ : Str) by decide +kernel]; exact ne (by decide)
  have f2 : (Txt.item ⟨#[c]⟩ 0 == Str.ofString "\\") = false := by rw [hi, show Str.ofString "\\" = (⟨#[92]⟩ : Str) by decide +kernel]; exact ne (by decide)
  have f5 : (Txt.item ⟨#[c]⟩ 0 == Str.ofString "[") = false := by rw [hi, show Str.ofString "[" = (⟨#[91]⟩ : Str) by decide +kernel]; exact ne (by decide)
  have f4 : (Txt.slice ⟨#[c]⟩ none (some 2) == Str.ofString "[^") = false := by
    rw [show Str.ofString "[^" = (⟨#[91, 94]⟩ : Str) by decide +kernel]
    refine beq_eq_false_iff_ne.mpr fun e => ?_
    have := congrArg Str.length e
    have h2 := _root_.PyProof.Txt.length_slice_le (⟨#[c]⟩ : Str) none (some 2)
    rw [this] at h2
    exact absurd h2 (by show ¬ 2 ≤ 1; decide)
  have f6 : (Builtin.Str.occurrences (Str.ofString "$()*+?^{|}") ⟨#[c]⟩ 0 (Str.ofString "$()*+?^{|}").length 1).isEmpty = true := by
    have := StrLaws.found_one (Str.ofString "$()*+?^{|}") c
    rw [show (Str.ofString "$()*+?^{|}").cps.toList = [36, 40, 41, 42, 43, 63, 94, 123, 124, 125] by decide +kernel] at this
    rw [decide_eq_false fun hm => hc (sub_specials c hm)] at this
    simpa using this
  have := read_by h f1 f2 rfl f4 f5 f6
  simpa using this
theorem read_esc {c : Nat} {b : Bool} {cs : Str} (h : ReadIs (esc c) b cs) : (b, cs) = (false, (⟨#[c]⟩ : Str)) := by
  by_cases hc : c ∈ specials
  · have e : esc c = ⟨#[92, c]⟩ := by unfold esc; rw [if_pos hc]
    rw [e] at h
    have all : ∀ d ∈ specials, ((⟨#[92, d]⟩ : Str) == Str.ofString ".") = false ∧ (Txt.item ⟨#[92, d]⟩ 0 == Str.ofString "\\") = true ∧ Txt.isalnum (Txt.slice ⟨#[92, d]⟩ (some 1) none) = false ∧ Txt.slice ⟨#[92, d]⟩ (some 1) none = ⟨#[d]⟩ := by decide +kernel
    obtain ⟨f1, f2, f3, f4⟩ := all c hc
    have := read_by h f1 f2 f3 rfl rfl rfl
    rw [f4] at this
    simpa using this
  · have e : esc c = ⟨#[c]⟩ := by unfold esc; rw [if_neg hc]
    rw [e] at h
    exact read_plain hc h
theorem read_item {t : Tk} {p : Str} {b : Bool} {cs : Str} (hp : t.piece = some p) (h : ReadIs p b cs) : t.item = some (b, cs) := by
  cases t with
  | star => cases hp
  | any =>
    cases hp
    have := read_by h (B1 := true) (by decide +kernel) rfl rfl rfl rfl rfl
    rw [this]; rfl
  | nota =>
    cases hp
    have := read_by h (B1 := false) (B2 := false) (B4 := true) (by decide +kernel) (by decide +kernel) rfl (by decide +kernel) rfl rfl
    rw [this]
    exact congrArg (fun z => some (true, z)) (by decide +kernel : Str.ofString "a" = Txt.slice (Str.ofString "[^a]") (some 2) (some (-1)))
  | dotb =>
    cases hp
    have := read_by h (B1 := false) (B2 := false) (B4 := false) (B5 := true) (by decide +kernel) (by decide +kernel) rfl (by decide +kernel) (by decide +kernel) rfl
    rw [this]
    exact congrArg (fun z => some (false, z)) (by decide +kernel : Str.ofString ".b" = Txt.replace (Txt.slice (Str.ofString "[.b]") (some 1) (some (-1))) (Str.ofString "\\") (Str.ofString ""))
  | ch c =>
    have hp' := Option.some.inj hp
    have key : ∀ (q : Str) (d : Nat), q = p → c = d → ((q == Str.ofString ".") = false ∧ (Txt.item q 0 == Str.ofString "\\") = false ∧ (Txt.slice q none (some 2) == Str.ofString "[^") = false ∧ (Txt.item q 0 == Str.ofString "[") = true ∧
        Txt.replace (Txt.slice q (some 1) (some (-1))) (Str.ofString "\\") (Str.ofString "") = ⟨#[d]⟩) → (Tk.ch c).item = some (b, cs) := by
      rintro q d rfl rfl ⟨f1, f2, f4, f5, f7⟩
      have := read_by h f1 f2 rfl f4 f5 rfl
      rw [f7] at this
      rw [this]; rfl
    by_cases h1 : c = 42
    · rw [if_pos h1] at hp'; exact key _ 42 hp' h1 (by decide +kernel)
    rw [if_neg h1] at hp'
    by_cases h2 : c = 63
    · rw [if_pos h2] at hp'; exact key _ 63 hp' h2 (by decide +kernel)
    rw [if_neg h2] at hp'
    by_cases h3 : c = 91
    · rw [if_pos h3] at hp'; exact key _ 91 hp' h3 (by decide +kernel)
    rw [if_neg h3] at hp'
    subst hp'
    rw [read_esc h]; rfl
theorem piece_len {t : Tk} {p : Str} (hp : t.piece = some p) : 1 ≤ p.length ∧ p.length ≤ 2000 := by
  cases t with
  | star => cases hp
  | any => cases hp; decide +kernel
  | nota => cases hp; decide +kernel
  | dotb => cases hp; decide +kernel
  | ch c =>
    have hp' := Option.some.inj hp
    subst hp'
    split
    · decide +kernel
    split
    · decide +kernel
    split
    · decide +kernel
    · unfold esc; split
      · exact ⟨by show 1 ≤ 2; decide, by show 2 ≤ 2000; decide⟩
      · exact ⟨by show 1 ≤ 1; decide, by show 1 ≤ 2000; decide⟩
/-- stars side by side are one -/
def mrgStep (acc : List Tk) (t : Tk) : List Tk := match t, acc.getLast? with
  | .star, some .star => acc
  | t, _ => acc ++ [t]
def mrg (ts : List Tk) : List Tk := ts.foldl mrgStep []
theorem piece_none {t : Tk} : t.piece = none ↔ t = .star := by cases t <;> simp [Tk.piece]
theorem mrg_step (acc : List Tk) (t : Tk) : trStep (acc.map Tk.piece) t = (mrgStep acc t).map Tk.piece := by
  unfold trStep
  cases hp : t.piece with
  | some p =>
    dsimp only
    have : mrgStep acc t = acc ++ [t] := by
      unfold mrgStep
      cases t with
      | star => cases hp
      | _ => rfl
    rw [this, List.map_append, List.map_cons, hp]; rfl
  | none =>
    dsimp only
    obtain rfl := piece_none.mp hp
    rw [List.getLast?_map]
    cases hl : acc.getLast? with
    | none =>
      have : mrgStep acc .star = acc ++ [.star] := by unfold mrgStep; rw [hl]
      rw [this, if_neg (by simp), List.map_append]; rfl
    | some u =>
      cases u with
      | star =>
        have : mrgStep acc .star = acc := by unfold mrgStep; rw [hl]
        rw [this, if_pos (show Option.map Tk.piece (some Tk.star) = some none from rfl)]
      | _ =>
        have : mrgStep acc .star = acc ++ [.star] := by unfold mrgStep; rw [hl]
        rw [this, if_neg (by simp [Tk.piece]), List.map_append]; rfl
theorem transl_mrg (ts : List Tk) : transl [] ts = (mrg ts).map Tk.piece := by
  unfold transl mrg
  have : ∀ acc : List Tk, ts.foldl trStep (acc.map Tk.piece) = (ts.foldl mrgStep acc).map Tk.piece := by
    induction ts with
    | nil => intro acc; rfl
    | cons t r ih => intro acc; rw [List.foldl_cons, List.foldl_cons, mrg_step]; exact ih _
  exact this []
end Mine
end
section
namespace Mine
/-- what a row of items means of a run of signs -/
def hitB (b : Bool) (y : Str) (c : Nat) : Bool := decide (c ∈ y.cps.toList) != b
def M : List (Option (Bool × Str)) → List Nat → Prop
  | [], l => l = []
  | none :: r, l => ∃ u v, l = u ++ v ∧ M r v
  | some (b, y) :: r, l => ∃ c v, l = c :: v ∧ hitB b y c = true ∧ M r v
theorem M_app (b : List (Option (Bool × Str))) : ∀ (a : List (Option (Bool × Str))) (l : List Nat), M (a ++ b) l ↔ ∃ u v, l = u ++ v ∧ M a u ∧ M b v
  | [], l => by
    show M b l ↔ ∃ u v, l = u ++ v ∧ u = [] ∧ M b v
    constructor
    · exact fun h => ⟨[], l, rfl, rfl, h⟩
    · rintro ⟨u, v, rfl, rfl, h⟩; exact h
  | none :: r, l => by
    show (∃ u v, l = u ++ v ∧ M (r ++ b) v) ↔ ∃ u v, l = u ++ v ∧ (∃ u' v', u = u' ++ v' ∧ M r v') ∧ M b v
    constructor
    · rintro ⟨u, v, rfl, h⟩
      obtain ⟨u', v', rfl, h1, h2⟩ := (M_app b r v).mp h
      exact ⟨u ++ u', v', by simp, ⟨u, u', rfl, h1⟩, h2⟩
    · rintro ⟨u, v, rfl, ⟨u', v', rfl, h1⟩, h2⟩
      exact ⟨u', v' ++ v, by simp, (M_app b r _).mpr ⟨v', v, rfl, h1, h2⟩⟩
  | some (t, y) :: r, l => by
    show (∃ c v, l = c :: v ∧ hitB t y c = true ∧ M (r ++ b) v) ↔ ∃ u v, l = u ++ v ∧ (∃ c v', u = c :: v' ∧ hitB t y c = true ∧ M r v') ∧ M b v
    constructor
    · rintro ⟨c, v, rfl, hc, h⟩
      obtain ⟨u', v', rfl, h1, h2⟩ := (M_app b r v).mp h
      exact ⟨c :: u', v', by simp, ⟨c, u', rfl, hc, h1⟩, h2⟩
    · rintro ⟨u, v, rfl, ⟨c, v', rfl, hc, h1⟩, h2⟩
      exact ⟨c, v' ++ v, by simp, hc, (M_app b r _).mpr ⟨v', v, rfl, h1, h2⟩⟩
theorem M_star (l : List Nat) : M [none] l := ⟨l, [], by simp, rfl⟩
theorem M_one {b : Bool} {y : Str} {l : List Nat} : M [some (b, y)] l ↔ ∃ c, l = [c] ∧ hitB b y c = true := by
  constructor
  · rintro ⟨c, v, rfl, hc, rfl⟩; exact ⟨c, rfl, hc⟩
  · rintro ⟨c, rfl, hc⟩; exact ⟨c, [], rfl, hc, rfl⟩
theorem inSet_tx {y : Str} {l : List Nat} {k : Nat} {c : Nat} (h : l[k]? = some c) : inSet y (tx l) (k : Int) = decide (c ∈ y.cps.toList) := by
  unfold inSet
  rw [item_at (x := tx l) (pre := []) (post := l) (c := c) k rfl (by simp) h]
  exact StrLaws.found_one y c
theorem tx_len (l : List Nat) : (tx l).length = l.length := by simp [tx, Str.length]
theorem run_snoc (x : Str) (a : List (Option (Bool × Str))) (q : Option (Bool × Str)) : runT x (a ++ [q]) = stepT x (runT x a) q := by
  unfold runT; rw [List.foldl_append]; rfl
theorem range_pw (n : Nat) : ((List.range n).map fun (i : Nat) => (i : Int)).Pairwise (· < ·) := by
  rw [List.pairwise_map]
  exact List.Pairwise.imp (fun h => by omega) List.pairwise_lt_range
theorem step_pw {x : Str} {ps : List Int} (h : ps.Pairwise (· < ·)) (q : Option (Bool × Str)) : (stepT x ps q).Pairwise (· < ·) := by
  cases q with
  | none => exact (range_pw _).filter _
  | some q =>
    obtain ⟨b, y⟩ := q
    show (List.map (fun p : Int => p + 1) _).Pairwise _
    rw [List.pairwise_map]
    exact List.Pairwise.imp (fun h => by omega) (h.filter _)
theorem head_least {ps : List Int} (h : ps.Pairwise (· < ·)) (n : Int) : (!ps.isEmpty && decide (ps.headD 0 ≤ n)) = true ↔ ∃ q ∈ ps, q ≤ n := by
  cases ps with
  | nil => simp
  | cons a r =>
    show decide (a ≤ n) = true ↔ _
    constructor
    · exact fun h => ⟨a, List.mem_cons_self, of_decide_eq_true h⟩
    · rintro ⟨q, hq, hl⟩
      refine decide_eq_true ?_
      rcases List.mem_cons.mp hq with rfl | hq
      · exact hl
      · have := (List.pairwise_cons.mp h).1 q hq; omega
theorem run_M (l : List Nat) : ∀ (n : Nat) (a : List (Option (Bool × Str))), a.length = n → (runT (tx l) a).Pairwise (· < ·) ∧ ∀ p : Int, p ∈ runT (tx l) a ↔ ∃ k : Nat, p = k ∧ k ≤ l.length ∧ M a (l.take k)
  | 0, a, h => by
    obtain rfl := List.length_eq_zero_iff.mp h
    refine ⟨by simp [runT], fun p => ?_⟩
    show p ∈ [0] ↔ _
    constructor
    · intro hp; exact ⟨0, List.mem_singleton.mp hp, Nat.zero_le _, by simp [M]⟩
    · rintro ⟨k, rfl, hk, hM⟩
      have hM' : l.take k = [] := hM
      have := congrArg List.length hM'
      simp at this
      have : k = 0 := by
        rcases this with h | h
        · exact h
        · subst h; simp at hk; exact hk
      simp [this]
  | n + 1, a, h => by
    have hne : a ≠ [] := fun e => by subst e; simp at h
    obtain ⟨a', q, rfl⟩ : ∃ a' q, a = a' ++ [q] := ⟨a.dropLast, a.getLast hne, (List.dropLast_concat_getLast hne).symm⟩
    obtain ⟨hp, ih⟩ := run_M l n a' (by simp at h; exact h)
    rw [run_snoc]
    refine ⟨step_pw hp q, fun p => ?_⟩
    cases q with
    | none =>
      show p ∈ (((List.range ((tx l).length + 1)).map fun (i : Nat) => (i : Int)).filter fun p => !(runT (tx l) a').isEmpty && decide ((runT (tx l) a').headD 0 ≤ p)) ↔ _
      rw [List.mem_filter, head_least hp, tx_len, List.mem_map]
      constructor
      · rintro ⟨⟨k, hk, rfl⟩, q, hq, hle⟩
        obtain ⟨j, rfl, hj, hM⟩ := (ih q).mp hq
        have hk' := List.mem_range.mp hk
        refine ⟨k, rfl, by omega, (M_app _ _ _).mpr ⟨l.take j, (l.take k).drop j, ?_, hM, M_star _⟩⟩
        have : l.take j = (l.take k).take j := by rw [List.take_take]; congr 1; omega
        rw [this, List.take_append_drop]
      · rintro ⟨k, rfl, hk, hM⟩
        obtain ⟨u, v, he, hu, _⟩ := (M_app _ _ _).mp hM
        have hlen : u.length ≤ k := by have := congrArg List.length he; simp at this; omega
        refine ⟨⟨k, List.mem_range.mpr (by omega), rfl⟩, (u.length : Int), (ih _).mpr ⟨u.length, rfl, by omega, ?_⟩, by omega⟩
        have : l.take u.length = u := by
          have h1 : l.take u.length = (l.take k).take u.length := by rw [List.take_take]; congr 1; omega
          rw [h1, he, List.take_left']
          rfl
        rw [this]; exact hu
    | some q =>
      obtain ⟨b, y⟩ := q
      show p ∈ (((runT (tx l) a').filter fun (p : Int) => decide (p < ((tx l).length : Int)) && (inSet y (tx l) p != b)).map fun (p : Int) => p + 1) ↔ _
      rw [List.mem_map]
      constructor
      · rintro ⟨q, hq, rfl⟩
        obtain ⟨hq, hb⟩ := List.mem_filter.mp hq
        obtain ⟨j, rfl, hj, hM⟩ := (ih q).mp hq
        rw [tx_len, Bool.and_eq_true, decide_eq_true_eq] at hb
        have hj' : j < l.length := by have := hb.1; omega
        have hg : l[j]? = some l[j] := List.getElem?_eq_getElem hj'
        rw [inSet_tx hg] at hb
        refine ⟨j + 1, by omega, hj', (M_app _ _ _).mpr ⟨l.take j, [l[j]], ?_, hM, M_one.mpr ⟨_, rfl, hb.2⟩⟩⟩
        rw [List.take_add_one, hg]; rfl
      · rintro ⟨k, rfl, hk, hM⟩
        obtain ⟨u, v, he, hu, hv⟩ := (M_app _ _ _).mp hM
        obtain ⟨c, rfl, hc⟩ := M_one.mp hv
        have hlen : k = u.length + 1 := by have := congrArg List.length he; simp at this; omega
        subst hlen
        have hj' : u.length < l.length := by omega
        have hg : l[u.length]? = some l[u.length] := List.getElem?_eq_getElem hj'
        rw [List.take_add_one, hg] at he
        have he' := List.append_inj' he rfl
        have hc' : l[u.length] = c := by have := he'.2; simpa using this
        refine ⟨(u.length : Int), List.mem_filter.mpr ⟨(ih _).mpr ⟨u.length, rfl, by omega, by rw [he'.1]; exact hu⟩, ?_⟩, by omega⟩
        rw [tx_len, Bool.and_eq_true, decide_eq_true_eq, inSet_tx hg, hc']
        exact ⟨by omega, hc⟩
theorem takes_M (l : List Nat) (a : List (Option (Bool × Str))) : takesB (tx l) a = true ↔ M a l := by
  unfold takesB
  rw [List.any_eq_true, tx_len]
  constructor
  · rintro ⟨p, hp, e⟩
    obtain ⟨k, rfl, hk, hM⟩ := ((run_M l _ a rfl).2 p).mp hp
    have : k = l.length := by have := eq_of_beq e; omega
    rw [this, List.take_length] at hM
    exact hM
  · intro h
    exact ⟨(l.length : Int), ((run_M l _ a rfl).2 _).mpr ⟨l.length, rfl, Nat.le_refl _, by rw [List.take_length]; exact h⟩, beq_self_eq_true _⟩
theorem takes_eq {l l' : List Nat} {a a' : List (Option (Bool × Str))} (h : M a l ↔ M a' l') : takesB (tx l) a = takesB (tx l') a' := by
  rw [Bool.eq_iff_iff, takes_M, takes_M]; exact h
/-- merged stars take what the stars took -/
theorem M_star2 {a : List (Option (Bool × Str))} {l : List Nat} : M (a ++ [none] ++ [none]) l ↔ M (a ++ [none]) l := by
  rw [M_app [none] (a ++ [none]) l]
  constructor
  · rintro ⟨u, v, rfl, h, _⟩
    obtain ⟨u', v', rfl, h', _⟩ := (M_app _ _ _).mp h
    exact (M_app _ _ _).mpr ⟨u', v' ++ v, by simp, h', M_star _⟩
  · intro h; exact ⟨l, [], by simp, h, M_star _⟩
theorem M_step {acc acc' : List Tk} (t : Tk) (h : ∀ l, M (acc.map Tk.item) l ↔ M (acc'.map Tk.item) l) (l : List Nat) : M ((mrgStep acc t).map Tk.item) l ↔ M ((acc' ++ [t]).map Tk.item) l := by
  have gen : M ((acc ++ [t]).map Tk.item) l ↔ M ((acc' ++ [t]).map Tk.item) l := by
    rw [List.map_append, List.map_append, M_app, M_app]
    exact ⟨fun ⟨u, v, e, a, b⟩ => ⟨u, v, e, (h u).mp a, b⟩, fun ⟨u, v, e, a, b⟩ => ⟨u, v, e, (h u).mpr a, b⟩⟩
  unfold mrgStep
  split
  · rename_i hl
    rw [← gen]
    have hne : acc ≠ [] := fun e => by subst e; simp at hl
    have hg : acc = acc.dropLast ++ [.star] := by
      rw [List.getLast?_eq_some_getLast hne] at hl
      have := List.dropLast_concat_getLast hne
      rw [Option.some.inj hl] at this
      exact this.symm
    rw [hg, List.map_append, List.map_append (l₁ := acc.dropLast ++ _), List.map_append]
    exact M_star2.symm
  · exact gen
theorem M_mrg (ts : List Tk) (l : List Nat) : M ((mrg ts).map Tk.item) l ↔ M (ts.map Tk.item) l := by
  have : ∀ (r acc acc' : List Tk), (∀ l, M (acc.map Tk.item) l ↔ M (acc'.map Tk.item) l) → ∀ l, M ((r.foldl mrgStep acc).map Tk.item) l ↔ M ((acc' ++ r).map Tk.item) l := by
    intro r
    induction r with
    | nil => intro acc acc' h l; rw [List.append_nil]; exact h l
    | cons t r ih =>
      intro acc acc' h l
      rw [List.foldl_cons, show acc' ++ t :: r = (acc' ++ [t]) ++ r by simp]
      exact ih _ _ (M_step t h) l
  have := this ts [] [] (fun _ => Iff.rfl) l
  simpa [mrg] using this
theorem hit_ch {c d : Nat} : hitB false ⟨#[c]⟩ d = true ↔ d = c := by
  unfold hitB; simp
theorem item_ch (c : Nat) : (Tk.ch c).item = some (false, ⟨#[c]⟩) := rfl
theorem M_ch {c : Nat} {r : List (Option (Bool × Str))} {l : List Nat} : M ((Tk.ch c).item :: r) l ↔ ∃ v, l = c :: v ∧ M r v := by
  rw [item_ch]
  constructor
  · rintro ⟨d, v, rfl, hd, h⟩; exact ⟨v, by rw [hit_ch.mp hd], h⟩
  · rintro ⟨v, rfl, h⟩; exact ⟨c, v, rfl, hit_ch.mpr rfl, h⟩
theorem M_rep (c : Nat) : ∀ (n : Nat) (l : List Nat), M ((List.replicate n (Tk.ch c)).map Tk.item) l ↔ l = List.replicate n c
  | 0, l => Iff.rfl
  | n + 1, l => by
    rw [List.replicate_succ, List.replicate_succ, List.map_cons, M_ch]
    constructor
    · rintro ⟨v, rfl, h⟩; rw [(M_rep c n v).mp h]
    · intro h; exact ⟨_, h, (M_rep c n _).mpr rfl⟩
/-- one sign alone parts a run in one way -/
theorem part_one {c : Nat} {u u' v v' : List Nat} (h1 : c ∉ u) (h2 : c ∉ v) (h : u ++ c :: v = u' ++ c :: v') : u = u' ∧ v = v' := by
  rcases List.append_eq_append_iff.mp h with ⟨a, rfl, ha⟩ | ⟨a, rfl, ha⟩
  · cases a with
    | nil => simp at ha; exact ⟨by simp, ha⟩
    | cons x y =>
      rw [List.cons_append] at ha
      injection ha with e1 e2
      exact absurd (show c ∈ v by rw [e2]; simp) h2
  · cases a with
    | nil => simp at ha; exact ⟨by simp, ha.symm⟩
    | cons x y =>
      rw [List.cons_append] at ha
      injection ha with e1 e2
      subst e1
      exact absurd (show c ∈ u' ++ c :: y by simp) h1
theorem last_one {c : Nat} {u u' v v' : List Nat} (h1 : c ∉ v) (h2 : c ∉ v') (h : u ++ c :: v = u' ++ c :: v') : u = u' ∧ v = v' := by
  rcases List.append_eq_append_iff.mp h with ⟨a, rfl, ha⟩ | ⟨a, rfl, ha⟩
  · cases a with
    | nil => simp at ha; exact ⟨by simp, ha⟩
    | cons x y =>
      rw [List.cons_append] at ha
      injection ha with e1 e2
      exact absurd (show c ∈ v by rw [e2]; simp) h1
  · cases a with
    | nil => simp at ha; exact ⟨by simp, ha.symm⟩
    | cons x y =>
      rw [List.cons_append] at ha
      injection ha with e1 e2
      exact absurd (show c ∈ v' by rw [e2]; simp) h2
theorem M_whole (d : DS) {room leaf : List Nat} (h1 : 47 ∉ room) (h2 : 47 ∉ leaf) : M ((mrg (wholeTs d)).map Tk.item) (room ++ [47] ++ leaf) ↔ ∃ u, leaf = u ++ 46 :: List.replicate d.e 97 ∧ M (d.ts.map Tk.item) u := by
  rw [M_mrg]
  show (∃ u v, room ++ [47] ++ leaf = u ++ v ∧ M ((Tk.ch 47).item :: (d.ts ++ Tk.ch 46 :: List.replicate d.e (Tk.ch 97)).map Tk.item) v) ↔ _
  have inner : ∀ w, M ((d.ts ++ Tk.ch 46 :: List.replicate d.e (Tk.ch 97)).map Tk.item) w ↔ ∃ u, w = u ++ 46 :: List.replicate d.e 97 ∧ M (d.ts.map Tk.item) u := by
    intro w
    rw [List.map_append, M_app]
    constructor
    · rintro ⟨u, v, rfl, hu, hv⟩
      obtain ⟨v', rfl, hv'⟩ := M_ch.mp hv
      rw [(M_rep _ _ _).mp hv']
      exact ⟨u, rfl, hu⟩
    · rintro ⟨u, rfl, hu⟩
      exact ⟨u, _, rfl, hu, M_ch.mpr ⟨_, rfl, (M_rep _ _ _).mpr rfl⟩⟩
  constructor
  · rintro ⟨u, v, he, h⟩
    obtain ⟨w, rfl, hw⟩ := M_ch.mp h
    have he' : room ++ 47 :: leaf = u ++ 47 :: w := by simpa using he
    obtain ⟨_, rfl⟩ := part_one h1 h2 he'
    exact (inner _).mp hw
  · intro h
    exact ⟨room, 47 :: leaf, by simp, M_ch.mpr ⟨leaf, rfl, (inner _).mpr h⟩⟩
end Mine
end
section
namespace Mine
theorem lit_ss : Str.ofString "*/" = tx [42, 47] := by decide +kernel
theorem lit_s1 : Str.ofString "/" = tx [47] := by decide +kernel
section
variable {w : World} {p : Program} {loose : List Str} {mean : ExcName → Option Value} {mg mb : Str → Option Value} {cn : Str} {cs : Scope} {a : Addr} {ccd : Value} {base h₀ : Heap} {L : Addr} {m : Str → Option Value} {s : Shared} {Q E : Value → Shared → Prop}
  {f : Addr} {vs : List Value} {news : List (Addr × Obj)} {post : Value → List (Addr × Obj) → Prop}
theorem use_claim (C : Claim f vs news post) (B : Below callerA base [] h₀) (F : Fr h₀ L s.heap m) (X : (Mine.pre.heap_1 w.params).In h₀) (N : News h₀ L s.heap news) (T : Top p loose mean mg mb h₀) (hk : cs.kind = .function) (ht : 1 ≤ s.toks)
    (K : ∀ r news' h' tk', s.toks ≤ tk' → Fr h₀ L h' m → News h₀ L h' news' → post r news' → Q r { s with heap := h', toks := tk' }) :
    wpAny (model PySem.Challenge.rw_rx0001_01.row.prog w) (callerA.deeper (envOf cn cs L a ccd)) (call (.ref f) vs) Q E s :=
  toks_up s.toks (Nat.le_refl _) (C w p loose mean mg mb cn cs a ccd base h₀ L m s _ E B F X N T hk ht fun r news' h' tk' F' N' hp l => K r news' h' tk' l F' N' hp)
theorem use_claim0 (C : Claim0 f vs news post) (B : Below callerA base [] h₀) (F : Fr h₀ L s.heap m) (X : (Mine.pre.heap_1 w.params).In h₀) (N : News h₀ L s.heap news) (T : Top p loose mean mg mb h₀) (hk : cs.kind = .function)
    (K : ∀ r news' h' tk', s.toks ≤ tk' → Fr h₀ L h' m → News h₀ L h' news' → post r news' → Q r { s with heap := h', toks := tk' }) :
    wpAny (model PySem.Challenge.rw_rx0001_01.row.prog w) (callerA.deeper (envOf cn cs L a ccd)) (call (.ref f) vs) Q E s :=
  toks_up s.toks (Nat.le_refl _) (C w p loose mean mg mb cn cs a ccd base h₀ L m s _ E B F X N T hk fun r news' h' tk' F' N' hp l => K r news' h' tk' l F' N' hp)
theorem ne92 {h : Heap} {nw : List (Addr × Obj)} {ps : Array Value} {x : Addr} {o : Obj} (N : ∀ p ∈ nw, h.get? p.1 = some p.2 ∧ p.1 ≠ L ∧ h₀.get? p.1 = none) (h92 : (92, tabObj ps) ∈ nw) (hx : (x, o) ∈ nw) (hc : o.cls ≠ .none) : x ≠ 92 := by
  rintro rfl
  have h1 := (N _ h92).1
  have h2 := (N _ hx).1
  rw [h1] at h2
  exact hc (congrArg Obj.cls (Option.some.inj h2).symm)
theorem row_filter {h : Heap} {nw : List (Addr × Obj)} {ps : Array Value} {tl : List (Addr × Obj)} (N : ∀ p ∈ nw, h.get? p.1 = some p.2 ∧ p.1 ≠ L ∧ h₀.get? p.1 = none) (h92 : (92, tabObj ps) ∈ nw) (hs : ∀ p ∈ tl, p ∈ nw) :
    ∀ {vs : List Value} {qs : List (Option (Bool × Str))}, RowIs tl vs qs → RowIs (tl.filter fun p => decide (p.1 ≠ 92)) vs qs
  | [], [], h => h
  | [], _ :: _, h => h.elim
  | _ :: _, [], h => h.elim
  | v :: vs, q :: qs, hh => ⟨by
      have h1 := hh.1
      cases q with
      | none => exact h1
      | some q =>
        obtain ⟨a, t, e, hm⟩ := h1
        exact ⟨a, t, e, List.mem_filter.mpr ⟨hm, decide_eq_true (ne92 N h92 (hs _ hm) (by simp))⟩⟩, row_filter N h92 hs hh.2⟩
theorem use_drawn {ax : Addr} {vs : List Value} {ns : List Int} {news : List (Addr × Obj)} (hl : h₀.IsList ax vs.toArray) (hi : IntsAre vs ns) (hlen : ns.length ≤ 63) (h92 : (92, tabObj #[]) ∈ news) (B : Below callerA base [] h₀) (F : Fr h₀ L s.heap m) (X : (Mine.pre.heap_1 w.params).In h₀) (N : News h₀ L s.heap news) (T : Top p loose mean mg mb h₀) (hk : cs.kind = .function)
    (K : ∀ (d : DS) (T tA fA nA : Addr) (tv fv nv : List Value) (n1 n2 n3 : Nat) (tl : List (Addr × Obj)) (tp te : Tok) h' tk', (∃ i, i ≤ 10 ∧ d.Ok i) → (src d.ts).length ≤ 44 ∧ d.e ≤ 10 → 1 ≤ tk' → Fr h₀ L h' m →
      News h₀ L h' ((92, tabObj #[]) :: (T, { cls := .type "tuple", data := .seq [Value.str (tx (src d.ts)) tp, .ref tA, .str (tx (List.replicate d.e 97)) te, .ref fA, .ref nA].toArray }) :: (tA, listOf tv.toArray n1) :: (fA, listOf fv.toArray n2) :: (nA, listOf nv.toArray n3) :: tl) →
      RowIs tl tv (d.ts.map Tk.item) → StrsAre fv (d.rooms.map tx) → StrsAre nv ((d.init ++ [d.cur ++ 46 :: List.replicate d.e 97]).map tx) →
      (@Ne Nat T 92 ∧ @Ne Nat tA 92 ∧ @Ne Nat fA 92 ∧ @Ne Nat nA 92 ∧ ∀ p ∈ tl, @Ne Nat p.1 92) → Q (.ref T) { s with heap := h', toks := tk' }) :
    wpAny (model PySem.Challenge.rw_rx0001_01.row.prog w) (callerA.deeper (envOf cn cs L a ccd)) (call (.ref 104) [.ref ax]) Q E s := by
  refine drawn_ok ax vs ns hi hlen news w p loose mean mg mb cn cs a ccd base h₀ L m s Q E hl B F X N T hk fun r news' h' tk' ht F' N' hp => ?_
  obtain ⟨T, tA, fA, nA, tv, fv, nv, n1, n2, n3, tl, tp, te, rfl, rfl, h1, h2, h3, h4⟩ := hp
  have hok : (drawn ns).Ok (min 10 ns.length) := by
    have := fold_ok (ns.length % 4) ns (min 10 ns.length) (Nat.min_le_left _ _) (Nat.min_le_right _ _)
    have e : ns.take (min 10 ns.length) = ns.take 10 := by rw [List.take_eq_take_iff]; omega
    rw [e] at this; exact this
  have m92 : (92, tabObj #[]) ∈ (T, ({ cls := .type "tuple", data := .seq [Value.str (tx (src (drawn ns).ts)) tp, .ref tA, .str (tx (List.replicate (drawn ns).e 97)) te, .ref fA, .ref nA].toArray } : Obj)) :: (tA, listOf tv.toArray n1) :: (fA, listOf fv.toArray n2) :: (nA, listOf nv.toArray n3) :: tl :=
    .tail _ (.tail _ (.tail _ (.tail _ (h4 _ h92))))
  refine K _ T tA fA nA tv fv nv n1 n2 n3 (tl.filter fun p => decide (p.1 ≠ 92)) tp te h' tk' ⟨_, Nat.min_le_left _ _, hok⟩ ⟨Nat.le_trans (src_len _) (by have := hok.ts; omega), by have := hok.e; omega⟩ ht F' (fun p hp => ?_) (row_filter N' m92 (fun p hp => .tail _ (.tail _ (.tail _ (.tail _ hp)))) h1) h2 h3
    ⟨ne92 N' m92 (.head _) (by simp), ne92 N' m92 (.tail _ (.head _)) (by simp), ne92 N' m92 (.tail _ (.tail _ (.head _))) (by simp), ne92 N' m92 (.tail _ (.tail _ (.tail _ (.head _)))) (by simp), fun p hp => of_decide_eq_true (List.mem_filter.mp hp).2⟩
  rcases List.mem_cons.mp hp with rfl | hp
  · exact N' _ m92
  rcases List.mem_cons.mp hp with rfl | hp
  · exact N' _ (.head _)
  rcases List.mem_cons.mp hp with rfl | hp
  · exact N' _ (.tail _ (.head _))
  rcases List.mem_cons.mp hp with rfl | hp
  · exact N' _ (.tail _ (.tail _ (.head _)))
  rcases List.mem_cons.mp hp with rfl | hp
  · exact N' _ (.tail _ (.tail _ (.tail _ (.head _))))
  · exact N' _ (.tail _ (.tail _ (.tail _ (.tail _ (List.mem_filter.mp hp).1))))
theorem use_trans {ts : List Tk} {x : Str} {t t2 : Tok} {vs : Array Value} {rest : List (Addr × Obj)} (hx : x = ⟨(src ts).toArray⟩) (hlen : x.length ≤ 2000) (hT : TabOk vs) (hr : ∀ p ∈ rest, p.1 ≠ 92) (B : Below callerA base [] h₀) (F : Fr h₀ L s.heap m) (X : (Mine.pre.heap_1 w.params).In h₀) (N : News h₀ L s.heap ((92, tabObj vs) :: rest)) (T : Top p loose mean mg mb h₀) (hk : cs.kind = .function) (ht : 1 ≤ s.toks)
    (K : ∀ a vals n vs' h' tk', s.toks ≤ tk' → TabOk vs' → PiecesAre vals ((mrg ts).map Tk.piece) → Fr h₀ L h' m → News h₀ L h' ((a, listOf vals.toArray n) :: (92, tabObj vs') :: rest) → Q (.ref a) { s with heap := h', toks := tk' }) :
    wpAny (model PySem.Challenge.rw_rx0001_01.row.prog w) (callerA.deeper (envOf cn cs L a ccd)) (call (.ref 97) [.str x t, .none, .str (Str.ofString ".") t2]) Q E s := by
  refine use_claim (translate_ok ts x t t2 vs rest hx hlen hT hr) B F X N T hk ht fun r news' h' tk' hle F' N' hp => ?_
  obtain ⟨a, vals, n, vs', rfl, rfl, hT', hp'⟩ := hp
  rw [transl_mrg] at hp'
  exact K a vals n vs' h' tk' hle hT' hp' F' N'
theorem PiecesAre.get : ∀ {vs : List Value} {ps : List (Option Str)}, PiecesAre vs ps → ∀ {i : Nat} {v : Value}, vs[i]? = some v → ∃ p, ps[i]? = some p ∧ PieceIs v p
  | [], [], _, i, v, h => by simp at h
  | [], _ :: _, h, _, _, _ => h.elim
  | _ :: _, [], h, _, _, _ => h.elim
  | a :: vs, p :: ps, h, 0, v, e => ⟨p, rfl, by simp at e; subst e; exact h.1⟩
  | a :: vs, p :: ps, h, i + 1, v, e => PiecesAre.get (vs := vs) (ps := ps) h.2 (by simpa using e)
theorem PiecesAre.length : ∀ {vs : List Value} {ps : List (Option Str)}, PiecesAre vs ps → vs.length = ps.length
  | [], [], _ => rfl
  | [], _ :: _, h => h.elim
  | _ :: _, [], h => h.elim
  | _ :: _, _ :: _, h => congrArg (· + 1) (PiecesAre.length h.2)
theorem comp_read {env : Env} {elt : PySem.Expr} {x y : Str} {scope : Scope} {cl : List (Str × Addr)} {s₁ : Shared} {Q : Flow → Shared → Prop} {ax : Addr} {vals : List Value} {k : Nat} {vs' : Array Value} {pre tl : List (Addr × Obj)} {ts : List Tk}
    (B : Below callerA base [] h₀) (F : Fr h₀ L s₁.heap m) (X : (Mine.pre.heap_1 w.params).In h₀) (N : News h₀ L s₁.heap ((ax, listOf vals.toArray k) :: (92, tabObj vs') :: (pre ++ tl))) (T : Top p loose mean mg mb h₀) (hk : cs.kind = .function)
    (hp : PiecesAre vals (ts.map Tk.piece)) (hsz : ts.length ≤ 2000) (h92 : ∀ p ∈ pre ++ tl, @Ne Nat p.1 92)
    (he : ∀ v I oI C oC D ys nw m₂ h tk (E' Q' : Value → Shared → Prop), LCg.NsObj oC m₂ → m₂ x = some v → Fr h₀ L h m → News h₀ L h ((I, oI) :: (C, oC) :: (D, LCg.lst ys) :: nw) →
      wpAny (model PySem.Challenge.rw_rx0001_01.row.prog w) (callerA.deeper (envOf cn cs L a ccd)) (call (.ref 111) [v]) Q' E' { s₁ with heap := h, toks := tk } → wpAny (model PySem.Challenge.rw_rx0001_01.row.prog w) (callerA.deeper (envOf cn cs L a ccd)) (eval elt (compEnvC scope cl C env)) Q' E' { s₁ with heap := h, toks := tk })
    (fin : ∀ D ys tl' h tk, Fr h₀ L h (fun z => if z = y then some (.ref D) else m z) → News h₀ L h ((92, tabObj vs') :: (D, listOf ys.toArray ys.length) :: (pre ++ tl')) → RowIs tl' ys (ts.map Tk.item) → (∀ p ∈ tl, p ∈ tl') → @Ne Nat D 92 → (∀ p ∈ tl', @Ne Nat p.1 92) → Q .next { s₁ with heap := h, toks := tk }) :
    LCg.CompSrc PySem.Challenge.rw_rx0001_01.row.prog w (callerA.deeper (envOf cn cs L a ccd)) h₀ L m env elt x scope cl (fun s₂ => LCg.FinA h₀ L m s₂ y Q) (.ref ax) s₁ := by
  have hlen : vals.length = ts.length := by rw [hp.length, List.length_map]
  refine LCg.CompSrc.ledger rfl F N (.head _) (by rw [List.size_toArray, hlen]; exact Nat.le_trans hsz (by decide)) fun g => ?_
  refine rest_U _ _ (fun i ys nw => ∃ rd, nw = rd ++ ((ax, listOf vals.toArray k) :: (92, tabObj vs') :: (pre ++ tl)) ∧ RowIs rd ys ((ts.take i).map Tk.item) ∧ ∀ p ∈ rd, @Ne Nat p.1 92) ⟨[], rfl, trivial, fun _ h => nomatch h⟩ ?_ ?_
  · rintro ys nw ⟨rd, rfl, hrow, hrd⟩ D h tk F' N' o1
    rw [List.size_toArray, hlen, List.take_length] at hrow
    have hD : @Ne Nat D 92 := fun e => off1_all o1 (92, tabObj vs') (List.mem_append.mpr (.inr (.tail _ (.head _)))) e.symm
    refine fin D ys (rd ++ tl) h tk F' (fun p hp => ?_) (RowIs.mono (fun p hp => List.mem_append.mpr (.inl hp)) hrow) (fun p hp => List.mem_append.mpr (.inr hp)) hD (fun p hp => ?_)
    · rcases List.mem_cons.mp hp with rfl | hp
      · exact N' _ (.tail _ (List.mem_append.mpr (.inr (.tail _ (.head _)))))
      rcases List.mem_cons.mp hp with rfl | hp
      · exact N' _ (.head _)
      rcases List.mem_append.mp hp with hp | hp
      · exact N' _ (.tail _ (List.mem_append.mpr (.inr (.tail _ (.tail _ (List.mem_append.mpr (.inl hp)))))))
      rcases List.mem_append.mp hp with hp | hp
      · exact N' _ (.tail _ (List.mem_append.mpr (.inl hp)))
      · exact N' _ (.tail _ (List.mem_append.mpr (.inr (.tail _ (.tail _ (List.mem_append.mpr (.inr hp)))))))
    · rcases List.mem_append.mp hp with hp | hp
      · exact hrd p hp
      · exact h92 p (List.mem_append.mpr (.inr hp))
  · rintro i ys nw K hi ⟨rd, rfl, hrow, hrd⟩ hK v I oI C oC D m₂ h tk E' hv hC hx F' N' off ne
    obtain ⟨pc, hpc, hv'⟩ := hp.get (by simpa using hv)
    rw [List.getElem?_map] at hpc
    obtain ⟨t, ht, rfl⟩ := Option.map_eq_some_iff.mp hpc
    have htk : (ts.take (i + 1)).map Tk.item = (ts.take i).map Tk.item ++ [t.item] := by rw [List.take_add_one, ht, List.map_append]; rfl
    refine he v I oI C oC D ys _ m₂ h tk E' _ hC hx F' N' ?_
    have src92 : LCg.SrcAt h₀ ax vals.toArray (rd ++ ((ax, listOf vals.toArray k) :: (92, tabObj vs') :: (pre ++ tl))) := .inr ⟨_, List.mem_append.mpr (.inr (.head _)), rfl, _, rfl⟩
    cases hpt : t.piece with
    | none =>
      rw [hpt] at hv'
      have hv'' : v = .none := hv'
      subst hv''
      refine use_claim0 (read_none0 _) B F' X N' T hk fun r news' h' tk' _ F'' N'' hpo => ?_
      obtain ⟨rfl, rfl⟩ := hpo
      refine ⟨h', tk', _, rfl, F'', N'', off, src92, hK _ _ ⟨rd, rfl, ?_, hrd⟩⟩
      rw [htk, piece_none.mp hpt]
      exact RowIs.snoc rfl hrow
    | some q =>
      rw [hpt] at hv'
      obtain ⟨tq, rfl⟩ := hv'
      refine use_claim0 (read_str0 q tq _ (piece_len hpt).1 (piece_len hpt).2) B F' X N' T hk fun r news' h' tk' _ F'' N'' hpo => ?_
      obtain ⟨a', b, cs, tc, rfl, rfl, hlt, hread⟩ := hpo
      have hI := hlt _ (.head _)
      have hC' := hlt _ (.tail _ (.head _))
      have hD' := hlt _ (.tail _ (.tail _ (.head _)))
      have h9 := hlt (92, tabObj vs') (.tail _ (.tail _ (.tail _ (List.mem_append.mpr (.inr (.tail _ (.head _)))))))
      refine ⟨h', tk', (a', ({ cls := .type "tuple", data := .seq [Value.bool b, Value.str cs tc].toArray } : Obj)) :: (rd ++ ((ax, listOf vals.toArray k) :: (92, tabObj vs') :: (pre ++ tl))), rfl, F'', fun p hp => ?_, ⟨⟨Ne.symm (Nat.ne_of_lt hI), Ne.symm (Nat.ne_of_lt hC'), Ne.symm (Nat.ne_of_lt hD')⟩, off⟩, .inr ⟨_, .tail _ (List.mem_append.mpr (.inr (.head _))), rfl, _, rfl⟩, hK _ _ ⟨(a', ({ cls := .type "tuple", data := .seq [Value.bool b, Value.str cs tc].toArray } : Obj)) :: rd, rfl, ?_, ?_⟩⟩
      · rcases List.mem_cons.mp hp with rfl | hp
        · exact N'' _ (.tail _ (.head _))
        rcases List.mem_cons.mp hp with rfl | hp
        · exact N'' _ (.tail _ (.tail _ (.head _)))
        rcases List.mem_cons.mp hp with rfl | hp
        · exact N'' _ (.tail _ (.tail _ (.tail _ (.head _))))
        rcases List.mem_cons.mp hp with rfl | hp
        · exact N'' _ (.head _)
        · exact N'' _ (.tail _ (.tail _ (.tail _ (.tail _ hp))))
      · rw [htk, read_item hpt hread]
        exact RowIs.snoc (q := some (b, cs)) ⟨_, _, rfl, .head _⟩ (RowIs.mono (fun _ h => .tail _ h) hrow)
      · intro p hp
        rcases List.mem_cons.mp hp with rfl | hp
        · exact Ne.symm (Nat.ne_of_lt h9)
        · exact hrd p hp
end
theorem items_zip {prog : Program} {w : World} {A : Around} {E : Value → Shared → Prop} {h₀ : Heap} {env : Env} {target : PySem.Expr} {body : List Stmt} {Q : Flow → Shared → Prop} {s : Shared} {ws : List (Addr × String)} {keep NB : List (Addr × Obj)}
    (Km : (Str → Option Value) → Prop) (good : List Nat → List Nat → Prop)
    (stop : ∀ m h tk, Km m → Fr h₀ env.locals h m → News h₀ env.locals h NB → Q .next { s with heap := h, toks := tk })
    (turn : ∀ (R : (Str → Option Value) → List (Addr × Obj) → Prop) room leaf (t1 t2 : Tok) T m h tk, good room leaf → Km m → (∀ m', Km m' → R m' NB) → IsTup h T #[Value.str (tx room) t1, Value.str (tx leaf) t2] → Fr h₀ env.locals h m → AllObj ws (fun its => News h₀ env.locals h (its ++ NB) →
      wpAny (model prog w) A (assign target env (.ref T)) (fun _ s₂ => wpAny (model prog w) A (execs body env) (UnrPostW h₀ env.locals { s with heap := h, toks := tk } its (fun m' n' => SubL keep n' ∧ R m' n') Q) E s₂) E { s with heap := h, toks := tk })) :
    ∀ (fvs nvs : List Value) (rooms leaves : List (List Nat)), StrsAre fvs (rooms.map tx) → StrsAre nvs (leaves.map tx) → (∀ r ∈ rooms, ∀ l ∈ leaves, good r l) → ∀ m, Km m → ItemsRest prog w A E h₀ env target body Q s ws keep (zipItems fvs nvs) m NB := by
  intro fvs
  induction fvs with
  | nil => intro nvs rooms leaves _ _ _ m hm; exact fun h tk F N => stop m h tk hm F N
  | cons x r ih =>
    intro nvs rooms leaves hf hn hg m hm
    cases nvs with
    | nil => exact fun h tk F N => stop m h tk hm F N
    | cons y q =>
      cases rooms with
      | nil => cases hf
      | cons r1 rr =>
        cases leaves with
        | nil => cases hn
        | cons l1 lr =>
          cases hf with
          | cons _ t1 hf' =>
            cases hn with
            | cons _ t2 hn' =>
              refine ItemsRest.pair fun T t h tk hT F => ?_
              exact turn _ r1 l1 t1 t2 T m h tk (hg _ List.mem_cons_self _ List.mem_cons_self) hm (fun m' hm' => ih q rr lr hf' hn' (fun r hr l hl => hg r (List.mem_cons_of_mem _ hr) l (List.mem_cons_of_mem _ hl)) m' hm') hT F
theorem zip_lists {prog : Program} {w : World} {A : Around} {E : Value → Shared → Prop} {h₀ : Heap} {env : Env} {body : List Stmt} {Q : Flow → Shared → Prop} {s : Shared} {elts : List PySem.Expr} {k : Nat} {pos : Pos} {l1 l2 : Addr} {xs ys : List Value} {n1 n2 : Nat} {m₀ : Str → Option Value} {news : List (Addr × Obj)}
    (hh : A.handled = none) (F : Fr h₀ env.locals s.heap m₀) (N : News h₀ env.locals s.heap news) (hm1 : (l1, listOf xs.toArray n1) ∈ news) (hm2 : (l2, listOf ys.toArray n2) ∈ news)
    (rest₀ : ∀ I : Addr, (∀ p ∈ news, p.1 < I) → ItemsRest prog w A E h₀ env (.Tuple elts k pos) body Q s [(I + 4, "zip"), (I + 2, "tuple"), (I + 3, "tuple"), (I, "list_iterator"), (I + 1, "list_iterator")] [(l1, listOf xs.toArray n1), (l2, listOf ys.toArray n2)] (zipItems xs ys) m₀ news) :
    wpAny (model prog w) A (call (.type "zip") [.ref l1, .ref l2]) (fun xv s₁ => wpAny (model prog w) A (pyIter xv) (fun it s₂ => TurnsAt prog w A h₀ env (.Tuple elts k pos) body Q E it s₂) E s₁) E s :=
  ktu_zip hh F N hm1 rfl rfl hm2 rfl rfl rest₀
/-- what a folder and a file's name are -/
def Good (room leaf : List Nat) : Prop := (room.length ≤ 3 ∧ 47 ∉ room) ∧ leaf.length ≤ 200 ∧ 47 ∉ leaf ∧ leaf.head? = some 98
theorem good_all {d : DS} (hok : ∃ i, i ≤ 10 ∧ d.Ok i) : ∀ r ∈ d.rooms, ∀ l ∈ d.init ++ [d.cur ++ 46 :: List.replicate d.e 97], Good r l := by
  obtain ⟨i, hi, ho⟩ := hok
  intro r hr l hl
  refine ⟨ho.roomsL r hr, ?_⟩
  have he := ho.e
  rcases List.mem_append.mp hl with hl | hl
  · have := ho.init l hl
    exact ⟨by omega, this.2⟩
  · rw [List.mem_singleton.mp hl]
    have := ho.cur
    refine ⟨by simp; omega, ?_, head_app this.2.2⟩
    intro hm
    rcases List.mem_append.mp hm with hm | hm
    · exact this.2.1 hm
    · simp [List.mem_replicate] at hm
end Mine
end
section
namespace Mine
theorem strs_snoc_inv {z : Str} : ∀ {ys : List Str} {vs : List Value}, StrsAre vs (ys ++ [z]) → ∃ iv t, vs = iv ++ [Value.str z t] ∧ StrsAre iv ys
  | [], _, h => by
    cases h with
    | cons _ t h' => cases h'; exact ⟨[], t, rfl, .nil⟩
  | y :: ys, _, h => by
    cases h with
    | cons _ t h' =>
      obtain ⟨iv, u, rfl, hi⟩ := strs_snoc_inv h'
      exact ⟨_ :: iv, u, rfl, .cons _ _ hi⟩
theorem cuts_sum (c : Nat) : ∀ l : List Nat, ((cutsAt c l).map List.length).sum ≤ l.length ∧ (cutsAt c l).length ≤ l.length + 1
  | [] => by simp [cutsAt]
  | a :: r => by
    obtain ⟨h1, h2⟩ := cuts_sum c r
    unfold cutsAt
    split
    · simp; omega
    · split
      · rename_i e; rw [e] at h1 h2; simp at h1 h2 ⊢; omega
      · simp
section
variable {prog : Program} {w : World} {A : Around} {E : Value → Shared → Prop} {s : Shared} {h₀ : Heap} {L l : Addr} {m : Str → Option Value} {news : List (Addr × Obj)} {Q : Value → Shared → Prop}
theorem split_rule {leaf : List Nat} {ic : List (List Nat)} {lc : List Nat} {t u : Tok} (F : Fr h₀ L s.heap m) (N : News h₀ L s.heap news) (hs : cutsAt 46 leaf = ic ++ [lc]) (hl : leaf ≠ []) (hlen : leaf.length ≤ 200)
    (K : ∀ D iv tz h' k, s.toks ≤ k → iv.length = ic.length → StrsAre iv (ic.map tx) → Fr h₀ L h' m → News h₀ L h' ((D, listOf (iv ++ [Value.str (tx lc) tz]).toArray 0) :: news) → (∀ p ∈ news, @LT.lt Nat _ p.1 D) → Q (.ref D) { s with heap := h', toks := k }) :
    wpAny (model prog w) A (call (.builtin "str.split") [.str (tx leaf) t, .str (Str.ofString ".") u]) Q E s := by
  refine toks_up s.toks (Nat.le_refl _) (KSpl.split1 F N (by decide +kernel) (fun D l h' k e hv F' N' lt hle => ?_) (Nat.le_trans (by show leaf.toArray.size + 2 ≤ 202; rw [List.size_toArray]; omega) (by decide : 202 ≤ sizeLine)))
  rw [e, lit_pt, split_tx hl, hs, List.map_append] at hv
  obtain ⟨iv, tz, e2, hi⟩ := strs_snoc_inv hv
  rw [e2] at N'
  exact K D iv tz h' k hle (by have := hi.length; simpa using this) hi F' N' lt
theorem join_rule {ic : List (List Nat)} {iv : List Value} {n : Nat} {t : Tok} {y : List Nat} (N : News h₀ L s.heap news) (hm : (l, listOf iv.toArray n) ∈ news) (hi : StrsAre iv (ic.map tx)) (hb : ((ic.map List.length).sum ≤ 200 ∧ ic.length ≤ 201)) (e : glue 46 ic = y)
    (K : ∀ t' k, s.toks ≤ k → Q (.str (tx y) t') { s with toks := k }) : wpAny (model prog w) A (call (.builtin "str.join") [.str (Str.ofString ".") t, .ref l]) Q E s := by
  refine toks_up s.toks (Nat.le_refl _) (join_listC (News.isList N hm) (by simpa using hi) (by decide +kernel) ?_ fun t' k hle => ?_)
  · have : ((ic.map tx).map (·.length)) = ic.map List.length := by rw [List.map_map]; exact List.map_congr_left fun p _ => by simp [tx, Str.length]
    rw [this, List.length_map]; omega
  · have hj : Txt.join (Str.ofString ".") (ic.map tx) = tx y := by
      rw [lit_pt]
      show Builtin.Str.glued ⟨#[46]⟩ (ic.map tx) = _
      rw [StrLaws.glued_eq_join, ← tx_toList (Str.join _ _), join_glue, List.map_map, ← e]
      congr 2
      conv => rhs; rw [← List.map_id ic]
      exact List.map_congr_left fun p _ => by simp [tx]
    rw [hj]
    exact K t' k hle
theorem len_rule {iv : List Value} {v : Value} {n : Nat} (N : News h₀ L s.heap news) (hm : (l, listOf (iv ++ [v]).toArray n) ∈ news) (hb : iv.length ≤ 2000) (K : ∀ t' k, s.toks ≤ k → Q (.int ((iv.length + 1 : Nat) : Int) t') { s with toks := k }) :
    wpAny (model prog w) A (call (.builtin "len") [.ref l]) Q E s := by
  have e : (iv ++ [v]).toArray.size = iv.length + 1 := by simp
  refine PySem.Calls.call_len_list (News.isList N hm) (by rw [e]; omega) ?_
  rw [e]
  exact K _ _ (by omega)
theorem slice_init {iv : List Value} {z : Value} : (slicePick (iv ++ [z]).toArray none (some (-1)) none).toList = iv := by
  have e : sliceBounds none (some (-1)) none (iv ++ [z]).toArray.size = (((0 : Nat) : Int), (((iv ++ [z]).toArray.size - 1 : Nat) : Int), 1) := by
    simp only [sliceBounds, Option.getD_none, show (1 : Int) > 0 by decide, if_true, if_pos (show (-1 : Int) < 0 by decide)]
    congr 1
    congr 1
    omega
  rw [kmk_pick_nat _ e]
  show ((iv ++ [z]).drop 0).take ((iv ++ [z]).toArray.size - 1 - 0) = iv
  simp
end
theorem unr_end {h₀ : Heap} {L I : Addr} {NB its full keep : List (Addr × Obj)} {R : (Str → Option Value) → List (Addr × Obj) → Prop} {s₁ : Shared} {h' : Heap} {tk : Nat} {m' : Str → Option Value} (hI : ∀ p ∈ NB, p.1 < I) (hq : ∀ q ∈ its, @LE.le Nat _ I q.1) (F : Fr h₀ L h' m') (N : News h₀ L h' full)
    (hsub : ∀ p ∈ its ++ NB, p ∈ full) (hk : SubL keep NB) (hR : R m' NB) : UnrEndW h₀ L s₁ its (fun m' n' => SubL keep n' ∧ R m' n') { s₁ with heap := h', toks := tk } :=
  ⟨h', tk, m', NB, rfl, F, fun p hp => N p (hsub p hp), fun p hp q hqq e => absurd (hI p hp) (by rw [e]; exact Nat.not_lt.mpr (hq q hqq)), hk, hR⟩
/-- the module name of a folder's file -/
theorem mod_leaf {room stem ext : List Nat} (t : Tok) (news : List (Addr × Obj)) (hg : Good room (stem ++ 46 :: ext)) (h3 : 46 ∉ ext) (hs : stem.head? = some 98) :
    Claim 73 [.str (tx (room ++ 47 :: (stem ++ 46 :: ext))) t] news (fun r news' => (∃ t', r = .str (tx stem) t') ∧ news' = news) := by
  obtain ⟨⟨h1, h2⟩, h4, h5, _⟩ := hg
  simp at h4 h5
  refine mod_dot t news (fun h => h5.1 h) (fun h => h5.2 h) h3 ?_ (by simp; omega)
  cases stem with
  | nil => simp at hs
  | cons c r => simp at hs; exact ⟨c, r, rfl, by omega⟩
theorem mod_leaf0 {room leaf : List Nat} (t : Tok) (news : List (Addr × Obj)) (hg : Good room leaf) (h3 : 46 ∉ leaf) :
    Claim 73 [.str (tx (room ++ 47 :: leaf)) t] news (fun r news' => (∃ t', r = .str (tx leaf) t') ∧ news' = news) := by
  obtain ⟨⟨h1, h2⟩, h4, h5, _⟩ := hg
  exact mod_bare t news h5 h3 (by simp; omega)
/-- a text with a dot ends behind its last dot -/
theorem last_dot : ∀ {l : List Nat}, 46 ∈ l → ∃ stem ext, l = stem ++ 46 :: ext ∧ 46 ∉ ext
  | [], h => nomatch h
  | a :: r, h => by
    by_cases hr : 46 ∈ r
    · obtain ⟨stem, ext, rfl, he⟩ := last_dot hr
      exact ⟨a :: stem, ext, rfl, he⟩
    · have : a = 46 := by
        rcases List.mem_cons.mp h with e | h
        · exact e.symm
        · exact absurd h hr
      subst this
      exact ⟨[], r, rfl, hr⟩
theorem glue_cuts (c : Nat) : ∀ l : List Nat, glue c (cutsAt c l) = l ∧ cutsAt c l ≠ []
  | [] => ⟨rfl, by simp [cutsAt]⟩
  | a :: r => by
    obtain ⟨h1, h2⟩ := glue_cuts c r
    unfold cutsAt
    split
    · rename_i e
      cases hc : cutsAt c r with
      | nil => exact absurd hc h2
      | cons p q => rw [hc] at h1; exact ⟨by show [] ++ c :: glue c (p :: q) = _; rw [h1, e]; rfl, by simp⟩
    · cases hc : cutsAt c r with
      | nil => exact absurd hc h2
      | cons p q =>
        rw [hc] at h1
        refine ⟨?_, by simp⟩
        dsimp only
        cases q with
        | nil => rw [← h1]; rfl
        | cons q1 q2 => rw [← h1]; rfl
theorem cuts_last {ext : List Nat} (he : 46 ∉ ext) : ∀ stem : List Nat, cutsAt 46 (stem ++ 46 :: ext) = cutsAt 46 stem ++ [ext]
  | [] => by
    show cutsAt 46 ([] ++ 46 :: ext) = [] :: [ext]
    rw [cuts_app ext (by simp), cuts_free he]
  | a :: r => by
    have h := cuts_last he r
    show cutsAt 46 (a :: (r ++ 46 :: ext)) = _
    by_cases ha : a = 46
    · rw [cutsAt, if_pos ha, h]
      conv => rhs; rw [cutsAt, if_pos ha]
      rfl
    · rw [cutsAt, if_neg ha, h]
      conv => rhs; rw [cutsAt, if_neg ha]
      cases hc : cutsAt 46 r with
      | nil => exact absurd hc (glue_cuts 46 r).2
      | cons p q => rfl
theorem cuts_bnd {l : List Nat} {ic : List (List Nat)} {lc : List Nat} (h : cutsAt 46 l = ic ++ [lc]) (hl : l.length ≤ 200) : (ic.map List.length).sum ≤ 200 ∧ ic.length ≤ 201 := by
  have := cuts_sum 46 l
  rw [h] at this
  simp at this
  omega
theorem eq_str' {prog : Program} {w : World} {A : Around} {E : Value → Shared → Prop} {s : Shared} {x y : Str} {t u : Tok} {Q : Value → Shared → Prop} {b : Bool} (e : (x == y) = b) (h : Q (.bool b) s) :
    wpAny (model prog w) A (compareOp .Eq (.str x t) (.str y u)) Q E s := by subst e; exact eq_str h
theorem mod_leaf1 {room stem ext : List Nat} (t : Tok) (news : List (Addr × Obj)) (hg : Good room (stem ++ 46 :: ext)) (h3 : 46 ∉ ext) :
    Claim 73 [.str (tx (room ++ [47] ++ (stem ++ 46 :: ext))) t] news (fun r news' => (∃ t', r = .str (tx stem) t') ∧ news' = news) := by
  have hs : stem.head? = some 98 := by
    have := hg.2.2.2
    cases stem with
    | nil => simp at this
    | cons c r => simpa using this
  rw [show room ++ [47] ++ (stem ++ 46 :: ext) = room ++ 47 :: (stem ++ 46 :: ext) by simp]
  exact mod_leaf t news hg h3 hs
theorem mod_leaf2 {room leaf : List Nat} (t : Tok) (news : List (Addr × Obj)) (hg : Good room leaf) (h3 : 46 ∉ leaf) :
    Claim 73 [.str (tx (room ++ [47] ++ leaf)) t] news (fun r news' => (∃ t', r = .str (tx leaf) t') ∧ news' = news) := by
  rw [show room ++ [47] ++ leaf = room ++ 47 :: leaf by simp]
  exact mod_leaf0 t news hg h3
theorem tx_eq {a b : List Nat} (h : a = b) : (tx a == tx b) = true := by rw [h]; exact beq_self_eq_true _
theorem tx_ne {a b : List Nat} (h : a ≠ b) : (tx a == tx b) = false := beq_eq_false_iff_ne.mpr fun e => h (by unfold tx at e; injection e with e; simpa using e)
theorem law_dot {d : DS} {room stem ext : List Nat} (hg : Good room (stem ++ 46 :: ext)) (he : 46 ∉ ext) :
    takesB (tx (room ++ [47] ++ (stem ++ 46 :: ext))) ((mrg (wholeTs d)).map Tk.item) = (decide (ext = List.replicate d.e 97) && takesB (tx stem) ((mrg d.ts).map Tk.item)) ∧
    takesB (tx stem) ((mrg d.ts).map Tk.item) = takesB (tx stem) (d.ts.map Tk.item) := by
  refine ⟨?_, takes_eq (M_mrg d.ts stem)⟩
  rw [Bool.eq_iff_iff, Bool.and_eq_true, decide_eq_true_eq, takes_M, takes_M, M_mrg d.ts stem, M_whole d hg.1.2 hg.2.2.1]
  constructor
  · rintro ⟨u, e, hu⟩
    obtain ⟨rfl, rfl⟩ := last_one he (by simp [List.mem_replicate]) e
    exact ⟨rfl, hu⟩
  · rintro ⟨rfl, hu⟩
    exact ⟨stem, rfl, hu⟩
theorem law_bare {d : DS} {room leaf : List Nat} (hg : Good room leaf) (he : 46 ∉ leaf) :
    takesB (tx (room ++ [47] ++ leaf)) ((mrg (wholeTs d)).map Tk.item) = false := by
  rw [← Bool.not_eq_true, takes_M, M_whole d hg.1.2 hg.2.2.1]
  rintro ⟨u, rfl, _⟩
  exact he (by simp)
theorem gt_dec {prog : Program} {w : World} {A : Around} {E : Value → Shared → Prop} {s : Shared} {a b : Int} {t u : Tok} {Q : Value → Shared → Prop} {r : Bool} (e : decide (b < a) = r) (h : Q (.bool r) s) : wpAny (model prog w) A (compareOp .Gt (.int a t) (.int b u)) Q E s := by
  subst e; exact PyProof.Rows.gt_int h
end Mine
end
section
local macro_rules | `(tactic| walk_at "my slices") => `(tactic| first
  | ((with_reducible show wpAny _ _ (subscriptTail _ (Expr.Slice (some _) none none _) _ _) _ _ _); (with_reducible rename Fr _ _ _ _ => F'); (with_reducible rename News _ _ _ _ => N'); (refine Mine.sl_sn (s := ⟨_, _, _, _, _⟩) (by first | with_reducible assumption | exact rfl) (by assumption) F' N' ?_); intro _ _ _ hk' _ _ _; (try dsimp only at hk'))
  | ((with_reducible show wpAny _ _ (subscriptTail _ (Expr.Slice none (some _) none _) _ _) _ _ _); (with_reducible rename Fr _ _ _ _ => F'); (with_reducible rename News _ _ _ _ => N'); (refine Mine.sl_ns (s := ⟨_, _, _, _, _⟩) (by first | with_reducible assumption | exact rfl) (by assumption) F' N' ?_); intro _ _ _ hk' _ _ _; (try dsimp only at hk'))
  | ((with_reducible show wpAny _ _ (subscriptTail _ (Expr.Slice (some _) (some _) none _) _ _) _ _ _); (with_reducible rename Fr _ _ _ _ => F'); (with_reducible rename News _ _ _ _ => N'); (refine Mine.sl_ss (s := ⟨_, _, _, _, _⟩) (by first | with_reducible assumption | exact rfl) (by assumption) F' N' ?_); intro _ _ _ hk' _ _ _; (try dsimp only at hk')))
local macro_rules | `(tactic| walk_at "subscriptTail Name Slice str ref") => `(tactic| walk_at "my slices")
local macro_rules | `(tactic| walk_at "call builtin:str.replace") => `(tactic| (k_here; (first | (refine Mine.repl_eq (by with_reducible assumption) (by omega) (by rfl) (by decide) (by first | assumption | decide +kernel) (by decide) ?_) | (refine Mine.repl (by omega) (by rfl) (by decide) (by assumption) (by decide) ?_)); intro _ _ hk'; (try dsimp only at hk')))
local macro_rules | `(tactic| walk_at "tk") => `(tactic| first | with_reducible assumption | exact Nat.le_add_left 1 _ | (refine Nat.le_trans ?_ (by with_reducible assumption); walk_at "tk"))
local macro_rules | `(tactic| walk_at "execs cons") => `(tactic| (k_here; (refine Mine.execs_cons_gen (by first | walk_at "tk" | omega | ((try dsimp only at *); omega)) ?_); intro _ _; (try k_fold)))
local macro_rules | `(tactic| walk_at "cr") => `(tactic| ((iterate 16 (try (first | with_reducible assumption | with_reducible apply And.right))); done))
local macro_rules | `(tactic| walk_at "cj") => `(tactic| first | walk_at "cr" | ((with_reducible apply And.left); walk_at "cr"))
local macro_rules | `(tactic| k_ne) => `(tactic| ((refine neN ?_); (try dsimp only); first | (refine Nat.ne_of_lt ?_; walk_at "cj") | (refine Nat.ne_of_gt ?_; walk_at "cj") | walk_at "cj" | (refine Ne.symm ?_; walk_at "cj") | omega))
local macro_rules | `(tactic| k_lt $h:ident) => `(tactic| (replace $h := allLt_of $h; dsimp only [AllLt] at $h:ident))
local macro_rules | `(tactic| walk_at "go") => `(tactic| repeat' (first | (k_unfold; (try dsimp only)) | (walk1; (try dsimp only))))
local macro_rules | `(tactic| walk_at "forall") => `(tactic| ((with_reducible show 1 ≤ _ → _); intro ht'; (try dsimp only at ht')))
local macro_rules | `(tactic| walk_at "call builtin:str.rfind") => `(tactic| (k_here; (refine KXw.rfind (by with_reducible assumption) ?_); intro _ _))
local macro_rules | `(tactic| k_all) => `(tactic| first | with_reducible assumption | with_reducible exact List.forall_mem_nil _ | (refine' List.forall_mem_cons.mpr ⟨?a, ?b⟩; (case a => k_ne); (case b => k_all)))
local macro_rules | `(tactic| walk_at "exec While Compare cons nil") => `(tactic| k_extra "while")
local macro_rules | `(tactic| walk_at "WhlIf") => `(tactic| first | (refine WhlIf.yes (decide_eq_true (by omega)) ?_) | (refine WhlIf.no (decide_eq_false (by omega)) ?_))
local macro_rules | `(tactic| walk_at "ite") => `(tactic| first
  | (refine Mine.if_yes (by with_reducible assumption) ?_) | (refine Mine.if_no (by with_reducible assumption) ?_)
  | (refine Mine.if_yes (by decide +kernel) ?_) | (refine Mine.if_no (by decide +kernel) ?_)
  | ((with_reducible show (if decide _ = true then _ else _)); first | (refine Mine.if_yes (decide_eq_true (by omega)) ?_) | (refine Mine.if_no (decide_eq_false (by omega)) ?_)))
local macro_rules | `(tactic| walk_at "execs cons") => `(tactic| (k_here; (refine Mine.execs_cons_up ?_); (try k_fold)))
local macro_rules | `(tactic| walk_at "forall") => `(tactic| ((with_reducible show _ ≤ _ → _); intro ht'; (try dsimp only at ht')))
namespace Mine
theorem ne_eq {prog : Program} {w : World} {A : Around} {E : Value → Shared → Prop} {s : Shared} {x y : Str} {t u : Tok} {Q : Value → Shared → Prop} {b : Bool} (e : (x != y) = b) (h : Q (.bool b) s) :
    wpAny (model prog w) A (compareOp .NotEq (.str x t) (.str y u)) Q E s := by subst e; exact ne_str h
theorem mrg_len (ts : List Tk) : (mrg ts).length ≤ ts.length := by
  have : ∀ (r acc : List Tk), (r.foldl mrgStep acc).length ≤ acc.length + r.length := by
    intro r
    induction r with
    | nil => intro acc; exact Nat.le_refl _
    | cons t r ih =>
      intro acc
      have h1 : (mrgStep acc t).length ≤ acc.length + 1 := by
        unfold mrgStep
        split
        · exact Nat.le_succ _
        · simp
      have := ih (mrgStep acc t)
      rw [List.foldl_cons, List.length_cons]
      omega
  have := this ts []
  simpa [mrg] using this
theorem ts_len {d : DS} (hok : ∃ i, i ≤ 10 ∧ d.Ok i) : d.ts.length ≤ 2000 := by
  obtain ⟨i, hi, ho⟩ := hok
  have h1 := ho.ts
  omega
theorem whole_len {d : DS} (hok : ∃ i, i ≤ 10 ∧ d.Ok i) : (wholeTs d).length ≤ 2000 := by
  obtain ⟨i, hi, ho⟩ := hok
  have h1 := ho.ts
  have h2 := ho.e
  simp [wholeTs]
  omega
end Mine
local macro_rules | `(tactic| walk_at "call ref") => `(tactic| (k_here; refine Mine.stop ?_))
local macro_rules | `(tactic| walk_at "binaryOp Add str str") => `(tactic| (k_here; (refine' Mine.cat_tx ?k1 ?k2 ?k3 ?_; (case k1 => first | with_reducible rfl | exact Mine.lit_ss | exact Mine.lit_dot); (case k2 => first | with_reducible rfl | exact Mine.lit_dot | exact Mine.lit_s1); (case k3 => (try simp only [List.length_append, List.length_replicate, List.length_cons, List.length_nil]); omega)); intro _ _ hk'; (try dsimp only at hk')))
local macro_rules | `(tactic| walk_at "compareOp NotEq str str") => `(tactic| (k_here; first | (refine Mine.ne_eq (b := false) (bne_self_eq_false _) ?_) | (refine Mine.ne_eq (by with_reducible assumption) ?_)))
local macro_rules | `(tactic| walk_at "exec Assign cons ListComp") => `(tactic| (k_here; k_dflt (refine LCg.Assign_ListComp_U (F₀ := by k_asm) (by rfl) (by with_unfolding_all rfl) (by rfl) (by decide) (by rfl) (by decide) (by rfl) (by rfl) (by rfl) ?_)))
local macro_rules | `(tactic| walk_at "CompSrc") => `(tactic| (refine Mine.stop ?_))
local macro_rules | `(tactic| walk_at "d_sub") => `(tactic| first
  | ((refine List.forall_mem_cons.mpr (And.intro ?_ ?_)); (focus (repeat (first | exact List.mem_cons_self | refine List.mem_cons_of_mem _ ?_))); (walk_at "d_sub"))
  | (intro p' hp'; repeat (first | exact hp' | refine List.mem_cons_of_mem _ ?_)))
local macro_rules | `(tactic| walk_at "d_ge") => `(tactic| first
  | ((refine List.forall_mem_cons.mpr (And.intro ?_ ?_)); (focus (first | exact Nat.le_refl _ | exact Nat.le_add_right _ _)); (walk_at "d_ge"))
  | exact List.forall_mem_nil _)
local macro_rules | `(tactic| walk_at "compareOp Gt int int") => `(tactic| (k_here; first | (refine Mine.gt_dec (r := true) (decide_eq_true (by omega)) ?_) | (refine Mine.gt_dec (r := false) (decide_eq_false (by omega)) ?_)))
local macro_rules | `(tactic| walk_at "call builtin:len") => `(tactic| (k_here; (with_reducible show wpAny _ _ (call (Value.builtin _) [Value.ref _]) _ _ _); (refine' Mine.len_rule ?k1 ?k2 ?k3 ?_; (case k1 => k_asm); (case k2 => k_mem); (case k3 => omega)); intro _ _ hk'; (try dsimp only at hk')))
local macro_rules | `(tactic| walk_at "callWith builtin:str.join") => `(tactic| (k_here; refine callWith_method1 ?_))
local macro_rules | `(tactic| walk_at "callWith builtin:str.split") => `(tactic| (k_here; refine callWith_method1 ?_))
local macro_rules | `(tactic| walk_at "call builtin:str.split") => `(tactic| (k_here; (refine' Mine.split_rule ?k1 ?k2 ?k3 ?k4 ?k5 ?_; (case k1 => k_asm); (case k2 => k_asm); (case k3 => with_reducible assumption); (case k4 => with_reducible assumption); (case k5 => with_reducible assumption)); intro D' iv' tz' h' k' hk' hl' hiv' F' N' l1'; (try dsimp only at hk'); (try simp only [List.length_nil] at hl'); (try simp only [List.forall_mem_cons] at l1')))
local macro_rules | `(tactic| walk_at "call builtin:str.join") => `(tactic| (k_here; (refine' Mine.join_rule ?k1 ?k2 ?k3 ?k4 ?k5 ?_; (case k1 => k_asm); (case k2 => k_mem); (case k3 => with_reducible assumption); (case k4 => with_reducible assumption); (case k5 => with_reducible assumption)); intro _ _ hk'; (try dsimp only at hk')))
local macro_rules | `(tactic| walk_at "subscriptTail Name Slice ref ref") => `(tactic| (k_here; k_dflt (refine' kmk_slice_lit (s := ⟨_, _, _, _, _⟩) ?F ?N ?l ?p ?q ?e ?_ ?s ?t ?z; (case F => k_asm); (case N => k_asm); (case l => kmk_list); (case p => kmk_part); (case q => kmk_part); (case e => exact Mine.slice_init); (case s => with_unfolding_all rfl); (case t => kmk_pure); (case z => (simp only [List.size_toArray, List.length_append, List.length_cons, List.length_nil]; exact Nat.le_trans (show _ ≤ 2000 by omega) (by decide)))); intro D' h' F' N' l1; (try k_lt l1)))
local macro_rules | `(tactic| walk_at "subscriptTail Name UnaryOp ref int") => `(tactic| (k_here; k_dflt (refine' Mine.last_item ?k1 ?k2 ?_ ?k3; (case k3 => with_unfolding_all rfl); (case k1 => k_asm); (case k2 => k_mem))))
local macro_rules | `(tactic| walk_at "compareOp Eq str str") => `(tactic| (k_here; refine Mine.eq_str' (by with_reducible assumption) ?_))
local macro_rules | `(tactic| walk_at "call ref") => `(tactic| (k_here; (with_reducible show wpAny _ _ (call (Value.ref 116) _) _ _ _); k_dflt (refine' Mine.use_claim (Mine.takes_ok _ _ _ _ _ _ _ ?m ?r ?l) ?B ?F ?X ?N ?T rfl ?ht ?_; (case B => k_asm); (case F => k_asm); (case X => k_asm); (case N => k_asm); (case T => k_asm); (case ht => (try dsimp only); omega); (case m => k_mem); (case r => (refine Mine.RowIs.mono (fun p hp => ?_) (by assumption)); repeat (first | exact hp | refine List.mem_cons_of_mem _ ?_)); (case l => (simp only [Mine.tx, Str.length, List.size_toArray, List.length_append, List.length_cons, List.length_nil]; omega))); rintro _ _ h' tk' hk' F' N' ⟨hv', hn'⟩; subst hv'; subst hn'; (try dsimp only at hk')))
local macro_rules | `(tactic| walk_at "exec For Tuple Call cons nil") => `(tactic| (refine Mine.stop ?_))
local macro_rules | `(tactic| walk_at "call type:zip") => `(tactic| (refine Mine.stop ?_))
local macro_rules | `(tactic| walk_at "exec For") => `(tactic| (refine Mine.stop ?_))
namespace Mine
set_option maxRecDepth 100000 in
set_option maxHeartbeats 4000000 in
theorem law_dev : PySem.Challenge.rw_rx0001_01.Holds := hd (by
  k_go0
  (all_goals try k_fold)
  have hT0 : TabOk #[] := .inl rfl
  walk_at "go"
  show wpAny _ _ _ _ _ _
  refine' use_drawn ?k0 ?k1 ?k2 (.head _) ?k3 ?k4 ?k5 ?k6 ?k7 rfl ?k8
  case k0 => assumption
  case k1 => assumption
  case k2 => omega
  case k3 => k_asm
  case k4 => k_asm
  case k5 => k_asm
  case k6 => k_asm
  case k7 => k_asm
  intro d T1 tA fA nA tv fv nv n1 n2 n3 tl1 tp te h1 tk1 hok hlen ht1 F1 N1 hrow hfv hnv h92
  (try dsimp only)
  walk_at "go"
  show wpAny _ _ _ _ _ _
  refine' use_claim (mod_path hok hlen _ _) ?B1 ?F1 ?X1 ?N1 ?T1 rfl ?ht1 ?K1
  case B1 => k_asm
  case F1 => k_asm
  case X1 => k_asm
  case N1 => k_asm
  case T1 => k_asm
  case ht1 => (try dsimp only); first | assumption | omega
  rintro r news' h' tk' hk' F' N' ⟨⟨t', rfl⟩, rfl⟩
  walk_at "go"
  show wpAny _ _ _ _ _ _
  refine' use_trans (ts := wholeTs d) (congrArg tx (src_whole d).symm) ?l2 hT0 ?r2 ?B2 ?F2 ?X2 ?N2 ?T2 rfl ?ht2 ?K2
  case B2 => k_asm
  case F2 => k_asm
  case X2 => k_asm
  case N2 => k_asm
  case T2 => k_asm
  case ht2 => (try dsimp only); first | assumption | omega
  case l2 => simp [tx, Str.length]; omega
  case r2 => exact List.forall_mem_cons.mpr ⟨h92.1, List.forall_mem_cons.mpr ⟨h92.2.1, List.forall_mem_cons.mpr ⟨h92.2.2.1, List.forall_mem_cons.mpr ⟨h92.2.2.2.1, h92.2.2.2.2⟩⟩⟩⟩
  intro a vals n vs' h2 tk2 hk2 hT2 hp2 F2 N2
  (try dsimp only)
  refine' comp_read (pre := [_, _, _, _]) (tl := _) ?B3 F2 ?X3 N2 ?T3 rfl hp2 ?sz3 ?r3 ?he3 ?fin3
  case B3 => k_asm
  case X3 => k_asm
  case T3 => k_asm
  case sz3 => exact Nat.le_trans (mrg_len _) (whole_len hok)
  case r3 => exact List.forall_mem_cons.mpr ⟨h92.1, List.forall_mem_cons.mpr ⟨h92.2.1, List.forall_mem_cons.mpr ⟨h92.2.2.1, List.forall_mem_cons.mpr ⟨h92.2.2.2.1, h92.2.2.2.2⟩⟩⟩⟩
  case he3 =>
    intro v I oI C oC D ys nw m₂ h tk E' Q' hC hx F' N' hcall
    clear F2 N2
    walk_at "go"
    exact hcall
  intro D ys tl2 h3 tk3 F3 N3 hrow3 hsub3 hD3 h93
  clear F2 N2
  (try simp only [List.cons_append, List.nil_append] at N3)
  (try dsimp only)
  walk_at "go"
  show wpAny _ _ _ _ _ _
  refine' use_trans (ts := d.ts) rfl ?l4 hT2 ?r4 ?B4 ?F4 ?X4 ?N4 ?T4 rfl ?ht4 ?K4
  case B4 => k_asm
  case F4 => k_asm
  case X4 => k_asm
  case N4 => k_asm
  case T4 => k_asm
  case ht4 => (try dsimp only); first | assumption | omega
  case l4 => simp [tx, Str.length]; omega
  case r4 => exact List.forall_mem_cons.mpr ⟨hD3, List.forall_mem_cons.mpr ⟨h92.1, List.forall_mem_cons.mpr ⟨h92.2.1, List.forall_mem_cons.mpr ⟨h92.2.2.1, List.forall_mem_cons.mpr ⟨h92.2.2.2.1, h93⟩⟩⟩⟩⟩
  intro a5 vals5 n5 vs5 h5 tk5 hk5 hT5 hp5 F5 N5
  clear F3 N3
  (try dsimp only)
  refine' comp_read (pre := [_, _, _, _, _]) (tl := _) ?B6 F5 ?X6 N5 ?T6 rfl hp5 ?sz6 ?r6 ?he6 ?fin6
  case B6 => k_asm
  case X6 => k_asm
  case T6 => k_asm
  case sz6 => exact Nat.le_trans (mrg_len _) (ts_len hok)
  case r6 => exact List.forall_mem_cons.mpr ⟨hD3, List.forall_mem_cons.mpr ⟨h92.1, List.forall_mem_cons.mpr ⟨h92.2.1, List.forall_mem_cons.mpr ⟨h92.2.2.1, List.forall_mem_cons.mpr ⟨h92.2.2.2.1, h93⟩⟩⟩⟩⟩
  case he6 =>
    intro v I oI C oC D ys nw m₂ h tk E' Q' hC hx F' N' hcall
    clear F5 N5
    walk_at "go"
    exact hcall
  intro D7 ys7 tl7 h7 tk7 F7 N7 hrow7 hsub7 hD7 h97
  clear F5 N5
  (try simp only [List.cons_append, List.nil_append] at N7)
  (try dsimp only)
  walk_at "go"
  show wpAny _ _ _ _ _ _
  (rename Fr _ _ _ _ => F8)
  refine For_turns F8 ?_ (by intro _; rfl) (by with_unfolding_all passes_own)
  walk_at "go"
  show wpAny _ _ _ _ _ _
  (rename Fr _ _ _ _ => F9); (rename News _ _ _ _ => N9)
  refine' zip_lists rfl F9 N9 ?z1 ?z2 (fun I hI => ?z3)
  case z1 => k_mem
  case z2 => k_mem
  refine items_zip (fun m => ∀ p ∈ [(Str.ofString "whole", Value.ref D), (Str.ofString "bare", Value.ref D7), (Str.ofString "due", Value.ref tA), (Str.ofString "last", Value.str (tx (List.replicate d.e 97)) te)], m p.1 = some p.2) Good ?stop ?turn _ _ _ _ hfv hnv (good_all hok) _ ?hm9
  case hm9 => kst_all
  case stop =>
    --{stop
    intro m h tk hm F N
    have FF := fr_kst hm F
    clear F
    (try simp only [List.cons_append, List.nil_append] at N)
    walk_at "go"
    all_goals (k_end; wrow_close)
    --}stop
  case turn =>
    intro R room leaf t1 t2 T m h tk hg hm hR hT F
    ktu_objs
    have FF := fr_kst hm F
    clear F
    have hw := RowIs.mono (fun p hp => hsub7 p hp) hrow3
    have hdue := RowIs.mono (fun p hp => hsub7 p (hsub3 p hp)) hrow
    clear hrow3 hrow hsub3 hsub7
    obtain ⟨⟨hg1, hg2⟩, hg3, hg4, hg5⟩ := id hg
    have hne : leaf ≠ [] := by intro e; rw [e] at hg5; simp at hg5
    by_cases h46 : 46 ∈ leaf
    · --{dot
      obtain ⟨stem, ext, rfl, he⟩ := last_dot h46
      have hcut := cuts_last he stem
      have hgl := (glue_cuts 46 stem).1
      have hbn := cuts_bnd hcut hg3
      have hsl : (stem ++ 46 :: ext).length = stem.length + 1 + ext.length := by simp; omega
      have hcl : 1 ≤ (cutsAt 46 stem).length := by have := (glue_cuts 46 stem).2; cases hc : cutsAt 46 stem with
        | nil => exact absurd hc this
        | cons _ _ => simp
      obtain ⟨hl1, hl2⟩ := law_dot (d := d) hg he
      walk_at "go"
      show wpAny _ _ _ _ _ _
      refine' use_claim (mod_leaf1 _ _ hg he) ?Bd ?Fd ?Xd ?Nd ?Td rfl ?htd ?Kd
      case Bd => k_asm
      case Fd => k_asm
      case Xd => k_asm
      case Nd => k_asm
      case Td => k_asm
      case htd => (try dsimp only); omega
      rintro _ _ h' tk' hk' F' N' ⟨⟨t', rfl⟩, rfl⟩
      (try dsimp only at hk')
      (try dsimp only)
      by_cases hx : ext = List.replicate d.e 97
      · --{d1
        rw [decide_eq_true hx, Bool.true_and] at hl1
        have q1 : (tx (stem ++ 46 :: ext) == tx (stem ++ [46] ++ List.replicate d.e 97)) = true := tx_eq (by rw [hx]; simp)
        have q2 : (tx ext == tx (List.replicate d.e 97)) = true := tx_eq hx
        have q3 : (takesB (tx (room ++ [47] ++ (stem ++ 46 :: ext))) ((mrg (wholeTs d)).map Tk.item) != takesB (tx stem) ((mrg d.ts).map Tk.item)) = false := by rw [hl1]; exact bne_self_eq_false _
        have q4 : (takesB (tx (room ++ [47] ++ (stem ++ 46 :: ext))) ((mrg (wholeTs d)).map Tk.item) != takesB (tx stem) (d.ts.map Tk.item)) = false := by rw [hl1, hl2]; exact bne_self_eq_false _
        walk_at "go"
        (rename Fr _ _ _ _ => Fz); (rename News _ _ _ _ => Nz)
        refine' unr_end hI ?eqx Fz Nz ?esx ?ekx (hR _ ?erx)
        case eqx => walk_at "d_ge"
        case esx => (try simp only [List.cons_append, List.nil_append]); walk_at "d_sub"
        case ekx => exact ⟨by k_mem, by k_mem, trivial⟩
        case erx => kst_all
      --}d1
      · --{d2
        rw [decide_eq_false hx, Bool.false_and] at hl1
        have q1 : (tx (stem ++ 46 :: ext) == tx (stem ++ [46] ++ List.replicate d.e 97)) = false := tx_ne (by simpa using hx)
        have q2 : (tx ext == tx (List.replicate d.e 97)) = false := tx_ne hx
        have q3 : (takesB (tx (room ++ [47] ++ (stem ++ 46 :: ext))) ((mrg (wholeTs d)).map Tk.item) != false) = false := by rw [hl1]; rfl
        walk_at "go"
        (rename Fr _ _ _ _ => Fz); (rename News _ _ _ _ => Nz)
        refine' unr_end hI ?eqy Fz Nz ?esy ?eky (hR _ ?ery)
        case eqy => walk_at "d_ge"
        case esy => (try simp only [List.cons_append, List.nil_append]); walk_at "d_sub"
        case eky => exact ⟨by k_mem, by k_mem, trivial⟩
        case ery => kst_all
      --}d2
    --}dot
    · --{bare
      have hcut : cutsAt 46 leaf = [] ++ [leaf] := cuts_free h46
      have hgl : glue 46 [] = [] := rfl
      have hbn := cuts_bnd hcut hg3
      have hl1 := law_bare (d := d) hg h46
      have q1 : (tx leaf == tx (leaf ++ [46] ++ List.replicate d.e 97)) = false := tx_ne (fun e => by have := congrArg List.length e; simp at this)
      have q3 : (takesB (tx (room ++ [47] ++ leaf)) ((mrg (wholeTs d)).map Tk.item) != false) = false := by rw [hl1]; rfl
      walk_at "go"
      show wpAny _ _ _ _ _ _
      refine' use_claim (mod_leaf2 _ _ hg h46) ?Bb ?Fb ?Xb ?Nb ?Tb rfl ?htb ?Kb
      case Bb => k_asm
      case Fb => k_asm
      case Xb => k_asm
      case Nb => k_asm
      case Tb => k_asm
      case htb => (try dsimp only); omega
      rintro _ _ h' tk' hk' F' N' ⟨⟨t', rfl⟩, rfl⟩
      (try dsimp only at hk')
      (try dsimp only)
      walk_at "go"
      (rename Fr _ _ _ _ => Fz); (rename News _ _ _ _ => Nz)
      refine' unr_end hI ?eqw Fz Nz ?esw ?ekw (hR _ ?erw)
      case eqw => walk_at "d_ge"
      case esw => (try simp only [List.cons_append, List.nil_append]); walk_at "d_sub"
      case ekw => exact ⟨by k_mem, by k_mem, trivial⟩
      case erw => kst_all
    --}bare
)
end Mine
end
theorem PySem.Challenge.cw_rx0001_01_holds : PySem.Challenge.rw_rx0001_01.Holds :=
  Mine.law_dev
