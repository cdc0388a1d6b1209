import PyProof.Rows.All
import Wide.All
import OpenK.AllK
import Wide.FinOn
import PySem.Challenge.RW_pe0104_01
open PySem PySem.W PyProof.Rows
set_option Elab.async false
set_option maxRecDepth 100000
set_option maxHeartbeats 4000000
set_option pp.deepTerms false
set_option pp.deepTerms.threshold 6
namespace Mine
/-! the head: the top's run is held in one equation (the kit's own way cuts it into pieces, whose terms are four times as long) -/
section
set_option hygiene false
abbrev RW0 : RowW := OpenRow.toRowW (OpenLaw.row PySem.Challenge.rw_pe0104_01)
noncomputable def VW : Program := { RowW.prog RW0 with main := { (RowW.prog RW0).main with body := ([1, 2, 4, 5, 7, 8, 10, 11, 12, 13, 14, 15] : List Nat).filterMap fun i => (RowW.prog RW0).main.body[i]? } }
local macro_rules | `(tactic| o_head $H) => `(tactic| (refine holds_open (q := VW) (loose := ([] : List Str)) (Xt := fun s => xlAt VW [] s && recOk (RowW.records RW0) s) (XP := XL VW []) (Yf := Hook.obs $H) (Ya := Hook.val $H) (YP := Hook.says $H) (N := 930) ?hl (Hook.of $H) (Hook.keeps $H) (fun s e => xl_of s (Bool.and_eq_true_iff.mp e).1) XL.keeps (by rfl) (by rfl) (by rfl) (fun s e => recFacts_of (Bool.and_eq_true_iff.mp e).2) (by rfl) (by first | assumption | decide +kernel) (by decide +kernel) ⟨rfl, rfl, rfl, rfl, rfl, by decide +kernel⟩ ?hw ?hc; (case hl => exact fun w => by kernel_rfl)))
open_top hd for PySem.Challenge.rw_pe0104_01
end

/-- the written part of the heap behind the top's run; the top as the walk sees it -/
noncomputable abbrev KH (w : World) : Frag := hd.heap_39 w.params
noncomputable abbrev PG : Program := PySem.Challenge.pw_pe0104_01
/-- the names that the text binds: no built-in is looked up under them -/
noncomputable abbrev LN : List Str := ([] : List Str) ++ (recsOf VW).map (·.name) ++ (litsOf VW).map (·.1) ++ (clssOf VW []).map (·.name)
/-- every object of h stands in h' as it was -/
def Keeps (h h' : Heap) : Prop := ∀ b o, h.get? b = some o → h'.get? b = some o
theorem Keeps.rfl' {h : Heap} : Keeps h h := fun _ _ e => e
theorem Keeps.trans {h h' h'' : Heap} (a : Keeps h h') (b : Keeps h' h'') : Keeps h h'' := fun x o e => b x o (a x o e)
theorem frKept {h₀ h h' : Heap} {L : Addr} {m : Str → Option Value} (F : Fr h₀ L h m) (k : Keeps h h') : Fr h₀ L h' m :=
  ⟨F.ns.keeps k, fun b o e => k b o (F.keep b o e), F.above⟩
theorem newsKept {h₀ h h' : Heap} {L : Addr} {news : List (Addr × Obj)} (N : News h₀ L h news) (k : Keeps h h') : News h₀ L h' news :=
  fun p hp => ⟨k _ _ (N p hp).1, (N p hp).2.1, (N p hp).2.2⟩
abbrev tupO (vs : List Value) : Obj := { cls := .type "tuple", data := .seq vs.toArray }
abbrev lstO (vs : List Value) (n : Nat) : Obj := { cls := .type "list", data := .seq vs.toArray n }
abbrev riO (x left step : Int) : Obj := { cls := .type "range_iterator", dict := none, data := .fields #[rawInt x, rawInt left, rawInt step], slots := #[] }
abbrev NoE : Value → Shared → Prop := fun _ _ => False
/-- a fresh object joins the ledger -/
theorem newsFresh {h₀ h h' : Heap} {L I : Addr} {o : Obj} {m : Str → Option Value} {news : List (Addr × Obj)} (F : Fr h₀ L h m) (N : News h₀ L h news) (k : Keeps h h') (hI : h.objs.size ≤ I) (ho : h'.get? I = some o) :
    News h₀ L h' ((I, o) :: news) := by
  obtain ⟨oL, _, _, hL, _⟩ := F.ns
  intro p hp
  rcases List.mem_cons.mp hp with rfl | hp
  · refine ⟨ho, Nat.ne_of_gt (Nat.lt_of_lt_of_le (Heap.lt_size hL) hI), ?_⟩
    cases hq : h₀.get? I with
    | none => rfl
    | some o' => exact absurd (Heap.lt_size (F.keep _ _ hq)) (Nat.not_lt.mpr hI)
  · exact newsKept N k p hp
/-- the frame stands where one own object alone is changed -/
theorem frBut {h₀ h h' : Heap} {L I : Addr} {m : Str → Option Value} (F : Fr h₀ L h m) (hL : I ≠ L) (hn : h₀.get? I = none) (k : ∀ b o, b ∉ [I] → h.get? b = some o → h'.get? b = some o) : Fr h₀ L h' m :=
  ⟨F.ns.at' fun o e => k _ o (fun q => hL (List.mem_singleton.mp q).symm) e, fun b o e => k b o (fun q => by rw [List.mem_singleton.mp q, hn] at e; cases e) (F.keep b o e), F.above⟩
theorem newsBut {h₀ h h' : Heap} {L I : Addr} {news : List (Addr × Obj)} (N : News h₀ L h news) (hI : ∀ p ∈ news, p.1 ≠ I) (k : ∀ b o, b ∉ [I] → h.get? b = some o → h'.get? b = some o) : News h₀ L h' news :=
  fun p hp => ⟨k _ _ (fun q => hI p hp (List.mem_singleton.mp q)) (N p hp).1, (N p hp).2.1, (N p hp).2.2⟩
theorem frSame {h₀ h : Heap} {L : Addr} {m m' : Str → Option Value} (F : Fr h₀ L h m) (e : ∀ y, m y = m' y) : Fr h₀ L h m' := by
  have : m = m' := funext e
  exact this ▸ F
theorem frStart {h₀ h : Heap} {L : Addr} {m : Str → Option Value} (x : Str) (F : Fr h₀ L h m) : Fr h₀ L h (fun y => if y = x then m x else m y) :=
  frSame F fun y => by by_cases e : y = x <;> simp [e]
theorem frC1 {h₀ h : Heap} {L : Addr} {m base : Str → Option Value} {a : Str} {u : Option Value} (F : Fr h₀ L h m) (ha : m a = u) (hr : ∀ y, y ≠ a → m y = base y) : Fr h₀ L h (fun y => if y = a then u else base y) :=
  frSame F fun y => by by_cases e : y = a <;> simp_all
theorem frC2 {h₀ h : Heap} {L : Addr} {m base : Str → Option Value} {a b : Str} {u v : Option Value} (F : Fr h₀ L h m) (ha : m a = u) (hb : m b = v) (hr : ∀ y, y ≠ a → y ≠ b → m y = base y) : Fr h₀ L h (fun y => if y = a then u else if y = b then v else base y) :=
  frC1 F ha fun y e => by by_cases e' : y = b <;> simp_all
theorem frC3 {h₀ h : Heap} {L : Addr} {m base : Str → Option Value} {a b c : Str} {u v x : Option Value} (F : Fr h₀ L h m) (ha : m a = u) (hb : m b = v) (hc : m c = x) (hr : ∀ y, y ≠ a → y ≠ b → y ≠ c → m y = base y) :
    Fr h₀ L h (fun y => if y = a then u else if y = b then v else if y = c then x else base y) :=
  frC1 F ha fun y e => by by_cases e' : y = b <;> by_cases e'' : y = c <;> simp_all
theorem frI1 {h₀ h : Heap} {L : Addr} {m base : Str → Option Value} {a : Str} {n n' : Int} {t : Tok} (F : Fr h₀ L h m) (ha : m a = some (.int n t)) (hn : n = n') (hr : ∀ y, y ≠ a → m y = base y) : Fr h₀ L h (fun y => if y = a then some (.int n' t) else base y) := by
  subst hn; exact frC1 F ha hr
theorem frI2 {h₀ h : Heap} {L : Addr} {m base : Str → Option Value} {a b : Str} {n n' : Int} {t : Tok} {v : Option Value} (F : Fr h₀ L h m) (ha : m a = some (.int n t)) (hn : n = n') (hb : m b = v) (hr : ∀ y, y ≠ a → y ≠ b → m y = base y) : Fr h₀ L h (fun y => if y = a then some (.int n' t) else if y = b then v else base y) := by
  subst hn; exact frC2 F ha hb hr
/-- a turn's end: the loop goes on -/
def TurnEnd (s : Shared) (J St : Nat → Heap → Prop) (i : Nat) (s₃ : Shared) : Prop := ∃ h' tk', s₃ = { s with heap := h', toks := tk' } ∧ J (i + 1) h' ∧ St (i + 1) h'
theorem forLoop_J {prog : Program} {w : World} {A : Around} {R : Result → Shared → Prop} {s : Shared} {env : Env} {x : Str} {px : Pos} {body : List Stmt} {I : Addr} {fp wr : List Addr} {n : Nat}
    {P : Nat → Value → Prop} {St : Nat → Heap → Prop} (W : Walks prog w A I fp wr n P St) (J : Nat → Heap → Prop)
    (hst : St 0 s.heap) (h0 : J 0 s.heap)
    (hstab : ∀ i h h', J i h → (∀ b o, b ∉ wr → h.get? b = some o → h'.get? b = some o) → J i h')
    (step : ∀ i v h tk, i < n → P i v → J i h → St (i + 1) h → wpAny (model prog w) A (storeName env x v) (fun _ s₂ => wpAny (model prog w) A (execs body env) (fun f s₃ => match f with
        | .next | .cont => TurnEnd s J St i s₃
        | .brk => R (.ok .next) s₃
        | .ret v => R (.ok (.ret v)) s₃) NoE s₂) NoE { s with heap := h, toks := tk })
    (hR : ∀ h tk, J n h → R (.ok .next) { s with heap := h, toks := tk }) :
    codeAny (model prog w) A (.forLoop (.Name x px) (.ref I) body [] env) R s := by
  refine codeAny_forLoop (fun k s' => ∃ h' tk i, s' = { s with heap := h', toks := tk } ∧ St i h' ∧ J i h' ∧ i ≤ n ∧ k = n + 1 - i) ?_ (n + 1) ⟨s.heap, s.toks, 0, rfl, hst, h0, Nat.zero_le _, rfl⟩
  rintro k s' ⟨h', tk, i, rfl, hst', hJ, hi, rfl⟩
  by_cases hlt : i < n
  · refine W.item i _ _ _ hlt hst' fun v h₁ tk₁ hP hst₁ hk₁ => ?_
    refine wpAny_assign_Name (wpAny_mono (step i v h₁ tk₁ hlt hP (hstab i h' h₁ hJ hk₁) hst₁) (fun _ s₂ h₂ => ?_) fun _ _ e => e.elim)
    refine wpAny_mono h₂ (fun f s₃ h₃ => ?_) fun _ _ e => e.elim
    cases f with
    | next => obtain ⟨h₄, tk₄, rfl, hJ', hst₄⟩ := h₃; exact ⟨n + 1 - (i + 1), by omega, h₄, tk₄, i + 1, rfl, hst₄, hJ', hlt, rfl⟩
    | cont => obtain ⟨h₄, tk₄, rfl, hJ', hst₄⟩ := h₃; exact ⟨n + 1 - (i + 1), by omega, h₄, tk₄, i + 1, rfl, hst₄, hJ', hlt, rfl⟩
    | brk => exact h₃
    | ret v => exact h₃
  · have hin : i = n := by omega
    subst hin
    refine W.done _ _ _ hst' fun h₁ tk₁ hk₁ => wpAny_execs_nil ?_
    exact hR h₁ tk₁ (hstab _ h' h₁ hJ hk₁)
theorem call_range_iter {prog : Program} {w : World} {A : Around} {E : Value → Shared → Prop} {s : Shared} {N : Int} {t : Tok} {K : Value → Shared → Prop} (h0 : 0 ≤ N) (hlo : N < 2 ^ 62)
    (h : ∀ I h' tk, Keeps s.heap h' → s.heap.objs.size ≤ I → IsRangeIter h' I (0 + ((0 : Nat) : Int) * 1) ((N.toNat : Int) - ((0 : Nat) : Int)) 1 → K (.ref I) { s with heap := h', toks := tk }) :
    wpAny (model prog w) A (call (.type "range") [.int N t]) (fun x s₁ => wpAny (model prog w) A (pyIter x) K E s₁) E s := by
  refine call_range_1 ?_
  refine wpAny_pyIter_range (IsRange.new ..) (small_one (by decide) (by decide) (by omega) hlo) ?_
  have hsz : Builtin.Range.rangeSize 0 N 1 = (N.toNat : Int) := by rw [rangeSize_one]; split <;> omega
  refine h _ _ _ (fun _ _ e => Heap.get?_push_of_some _ (Heap.get?_push_of_some _ e)) (by simp [Heap.size_push]) ?_
  have e1 : (0 + ((0 : Nat) : Int) * 1) = 0 := by simp
  have e2 : ((N.toNat : Int) - ((0 : Nat) : Int)) = Builtin.Range.rangeSize 0 N 1 := by rw [hsz]; simp
  rw [e1, e2]
  exact Heap.get?_push_size _ rfl
theorem call_int_fin {prog : Program} {w : World} {A : Around} {E : Value → Shared → Prop} {s : Shared} {x : UInt64} {t : Tok} {Q : Value → Shared → Prop}
    (hf : Float64.isFinite x = true) (h : Q (.int (PySem.Flt.toInt Float64.truncOf x) s.toks) { s with toks := s.toks + 1 }) :
    wpAny (model prog w) A (call (.type "int") [.float x t]) Q E s := by
  rcases PySem.Flt.three x with ⟨hd, c⟩ | ⟨_, hd, c⟩ | ⟨sg, m, e, hd, c⟩
  · unfold Float64.isFinite at hf; rw [hd] at hf; cases hf
  · unfold Float64.isFinite at hf; rw [hd] at hf; cases hf
  · rw [PySem.Flt.toInt_fin hd] at h
    exact call_int_float hd h
def divI (a b : Int) : UInt64 := Float64.ofFrac (decide (a < 0) != decide (b < 0)) a.natAbs b.natAbs
theorem truediv_ok {prog : Program} {w : World} {A : Around} {E : Value → Shared → Prop} {s : Shared} {a b : Int} {t u : Tok} {Q : Value → Shared → Prop} (hb : b ≠ 0) (hi : Float64.isInf (divI a b) = false)
    (h : Q (.float (divI a b) s.toks) { s with toks := s.toks + 1 }) : wpAny (model prog w) A (binaryOp .Div (.int a t) (.int b u)) Q E s :=
  AutoIntOps.truediv_2 (by simpa using hb) (by rw [show Float64.ofFrac (decide (a < 0) != decide (b < 0)) a.natAbs b.natAbs = divI a b from rfl, hi]; exact Bool.false_ne_true) h
/-- a global name that the text binds -/
theorem nameOwn {M : Model} {A : Around} {E : Value → Shared → Prop} {s : Shared} {w : World} {h₀ : Heap} {L a : Addr} {m mg mb : Str → Option Value} {mean : ExcName → Option Value} {cn : Str} {cs : Scope} {ccd : Value}
    {x : Str} {pos : Pos} {v : Value} {Q : Value → Shared → Prop} (g : ∀ w, nsIn (KH w) mainGlobals x = some (some v)) (F : Fr h₀ L s.heap m) (X : (KH w).In h₀) (T : Top topProg LN mean mg mb h₀) (h : Q v s)
    (hk : cs.kind = .function := by rfl) (hx : (envOf cn cs L a ccd).kindOf x = some .globalImplicit := by rfl) (hd : (x == ("__debug__" : Str)) = false := by decide) :
    wpAny M A (eval (.Name x pos) (envOf cn cs L a ccd)) Q E s := name_K F X (topRead_of T) (g w) h hk hx hd
theorem g_rgb (w : World) : nsIn (KH w) mainGlobals (Str.ofString "rgb_to_hsv") = some (some (.ref 21)) := by kernel_rfl!
theorem g_hsv (w : World) : nsIn (KH w) mainGlobals (Str.ofString "hsv_to_rgb") = some (some (.ref 28)) := by kernel_rfl!
theorem g_mark (w : World) : nsIn (KH w) mainGlobals (Str.ofString "ELLIPSIS_MARKER") = some (some (.str (Str.ofString "...") 223)) := by kernel_rfl!
theorem g_match (w : World) : nsIn (KH w) mainGlobals (Str.ofString "_ellipsis_match") = some (some (.ref 35)) := by kernel_rfl!
theorem g_replace (w : World) : nsIn (KH w) mainGlobals (Str.ofString "replace") = some (some (.ref 42)) := by kernel_rfl!
theorem g_split (w : World) : nsIn (KH w) mainGlobals (Str.ofString "_split_list") = some (some (.ref 49)) := by kernel_rfl!
theorem g_seal (w : World) : nsIn (KH w) mainGlobals (Str.ofString "_law_seal") = some (some (.ref 56)) := by kernel_rfl!
theorem g_eighths (w : World) : nsIn (KH w) mainGlobals (Str.ofString "_law_eighths") = some (some (.ref 63)) := by kernel_rfl!
theorem g_run (w : World) : nsIn (KH w) mainGlobals (Str.ofString "_law_run") = some (some (.ref 70)) := by kernel_rfl!
theorem g_gaps (w : World) : nsIn (KH w) mainGlobals (Str.ofString "_law_gaps") = some (some (.ref 77)) := by kernel_rfl!
theorem g_putback (w : World) : nsIn (KH w) mainGlobals (Str.ofString "_law_put_back") = some (some (.ref 84)) := by kernel_rfl!
theorem keep_fn (w : World) (f : Addr) (h : f ∈ [21, 28, 35, 42, 49, 56, 63, 70, 77, 84]) : keepIn (KH w) (.ref f) = true := by
  simp only [List.mem_cons, List.not_mem_nil, or_false] at h
  rcases h with rfl | rfl | rfl | rfl | rfl | rfl | rfl | rfl | rfl | rfl <;> kernel_rfl!
theorem callWith_own {prog : Program} {w : World} {A : Around} {E : Value → Shared → Prop} {s : Shared} {env : Env} {pos : Pos} {f : Addr} {Q : Value → Shared → Prop} {h₀ h : Heap} {L : Addr} {m : Str → Option Value} {e : Expr} {rest : List Expr}
    (_F : Fr h₀ L h m) (X : (KH w).In h₀) (hf : f ∈ [21, 28, 35, 42, 49, 56, 63, 70, 77, 84]) (h : wpAny (model prog w) A (spliced (backTo pos (starEach (e :: rest) env))) (fun vs s₁ => (KH w).In s₁.heap ∧ wpAny (model prog w) A (call (.ref f) ([] ++ vs)) Q E s₁) E s)
    (he : starEach (e :: rest) env = (false, eval e env) :: starEach rest env := by rfl) (hplain : (backTo pos (starEach rest env)).any (·.1) = false := by rfl) :
    wpAny (model prog w) A (callWith pos (.ref f) [] (backTo pos (starEach (e :: rest) env)) []) Q E s :=
  callWith_K X (keep_fn w f hf) h he hplain
def WhileEnd (s : Shared) (J : Nat → Heap → Prop) (k : Nat) (s₃ : Shared) : Prop := ∃ h' tk' m, s₃ = { s with heap := h', toks := tk' } ∧ m < k ∧ J m h'
def WhileOut (s : Shared) (Ex : Heap → Prop) (s₃ : Shared) : Prop := ∃ h' tk', s₃ = { s with heap := h', toks := tk' } ∧ Ex h'
theorem whileLoop_J {prog : Program} {w : World} {A : Around} {R : Result → Shared → Prop} {s : Shared} {env : Env} {test : Expr} {body : List Stmt} (J : Nat → Heap → Prop) (Ex : Heap → Prop) (n : Nat) (h0 : J n s.heap)
    (step : ∀ k h tk, J k h → wpAny (model prog w) A (isTrue test env (eval test env)) (fun b s₂ => if b then wpAny (model prog w) A (execs body env) (fun f s₃ => match f with
        | .next | .cont => WhileEnd s J k s₃
        | .brk => R (.ok .next) s₃
        | .ret v => R (.ok (.ret v)) s₃) NoE s₂ else WhileOut s Ex s₂) NoE { s with heap := h, toks := tk })
    (hR : ∀ h tk, Ex h → R (.ok .next) { s with heap := h, toks := tk }) :
    codeAny (model prog w) A (.whileLoop test body [] env) R s := by
  refine codeAny_whileLoop (fun k s' => ∃ h' tk, s' = { s with heap := h', toks := tk } ∧ J k h') ?_ n ⟨s.heap, s.toks, rfl, h0⟩
  rintro k s' ⟨h', tk, rfl, hJ⟩
  refine wpAny_mono (step k h' tk hJ) (fun b s₂ h₂ => ?_) fun _ _ e => e.elim
  cases b with
  | false => obtain ⟨h₃, tk₃, rfl, hx⟩ := h₂; exact wpAny_execs_nil (hR _ _ hx)
  | true =>
    refine wpAny_mono h₂ (fun f s₃ h₃ => ?_) fun _ _ e => e.elim
    cases f with
    | next => obtain ⟨h₄, tk₄, m, rfl, hm, hJ'⟩ := h₃; exact ⟨m, hm, h₄, tk₄, rfl, hJ'⟩
    | cont => obtain ⟨h₄, tk₄, m, rfl, hm, hJ'⟩ := h₃; exact ⟨m, hm, h₄, tk₄, rfl, hJ'⟩
    | brk => exact h₃
    | ret v => exact h₃

local macro_rules | `(tactic| walk_at "eval Name") => `(tactic| ((with_reducible show wpAny _ _ (eval (Expr.Name _ _) (envOf _ _ _ _ _)) _ _ _); name_kind "globalImplicit"; (with_reducible refine nameOwn (by with_reducible first | exact g_hsv | exact g_rgb | exact g_seal | exact g_replace | exact g_match | exact g_mark | exact g_eighths | exact g_split | exact g_run | exact g_gaps | exact g_putback) (by assumption) (by assumption) (by assumption) ?_ (by kernel_rfl!) (by kernel_rfl!) (by decide +kernel))))
local macro_rules | `(tactic| walk_at "exec For Name Call cons nil") => `(tactic| with_unfolding_all refine wpAny_For ?_)
local macro_rules | `(tactic| walk_at "callWith") => `(tactic| ((with_reducible show wpAny _ _ (callWith _ (Value.ref _) _ _ _) _ _ _); (with_unfolding_all refine callWith_own (by assumption) (by assumption) (by decide) ?_)))
local macro_rules | `(tactic| walk_at "And") => `(tactic| (refine ⟨Frag.In.keeps (by assumption) (Fr.keep (by assumption)), ?_⟩))
local macro_rules | `(tactic| walk_at "exec While BoolOp cons nil") => `(tactic| with_unfolding_all refine wpAny_While ?_)
local macro_rules | `(tactic| walk_at "exec While Name cons nil") => `(tactic| with_unfolding_all refine wpAny_While ?_)
local macro_rules | `(tactic| walk_at "exec While Compare cons nil") => `(tactic| with_unfolding_all refine wpAny_While ?_)
local macro_rules | `(tactic| walk_at "exec While") => `(tactic| with_unfolding_all refine wpAny_While ?_)
/-! the count of tokens never falls -/
theorem runs_toks {M : Model} {Γ : Ctx} {p : Pos} {t : Sem PySem.Fin} {fs : List Frame} {s s' : Shared} {e : End} (h : Runs M Γ p t fs s e s') : s.toks ≤ s'.toks := by
  induction h with
  | done => exact Nat.le_refl _
  | raise => exact Nat.le_refl _
  | fresh _ ih => exact Nat.le_trans (Nat.le_succ _) ih
  | call _ _ ih1 ih2 => exact Nat.le_trans ih1 ih2
  | yield => exact Nat.le_refl _
  | resumeFresh _ _ _ _ ih1 ih2 => exact Nat.le_trans ih1 ih2
  | resumeSuspended _ _ _ _ ih1 ih2 => exact Nat.le_trans ih1 ih2
  | segRet _ _ ih1 ih2 => exact Nat.le_trans ih1 ih2
  | segGen _ _ ih1 ih2 => exact Nat.le_trans ih1 ih2
  | segSuspGen _ _ _ _ ih1 ih2 => exact Nat.le_trans ih1 ih2
  | _ => first | assumption | omega | (simp_all; done)
theorem wakes_toks {M : Model} {Γ : Ctx} {p : Pos} {g : Nat} {r : Resume} {s s' : Shared} {res : GenResult} (h : Wakes M Γ p g r s res s') : s.toks ≤ s'.toks := by
  unfold Wakes at h
  split at h
  · exact h.elim
  · split at h
    · obtain ⟨e, s₁, hr, _, _, rfl⟩ := h; exact (show (s.setGen g GenState.running).toks ≤ s₁.toks from runs_toks hr)
    · obtain ⟨_, rfl⟩ := h; exact Nat.le_refl _
    · obtain ⟨_, rfl⟩ := h; exact Nat.le_refl _
  · obtain ⟨e, s₁, hr, _, _, rfl⟩ := h; exact (show (s.setGen g GenState.running).toks ≤ s₁.toks from runs_toks hr)
  all_goals first | (obtain ⟨_, rfl⟩ := h; exact Nat.le_refl _) | skip
theorem wp_toks {α : Type} {M : Model} {Γ : Ctx} (t : Sem α) : ∀ {Q : α → Pos → Shared → Prop} {E : Value → Pos → Shared → Prop} {p : Pos} {s : Shared} (n : Nat), n ≤ s.toks → Sem.wp M Γ t Q E p s → Sem.wp M Γ t (fun a p' s' => n ≤ s'.toks ∧ Q a p' s') (fun a p' s' => n ≤ s'.toks ∧ E a p' s') p s := by
  induction t with
  | pure a => intro Q E p s n hn h; exact ⟨hn, h⟩
  | raise e => intro Q E p s n hn h; exact ⟨hn, h⟩
  | load a _ k ih => intro Q E p s n hn h; obtain ⟨o, ho, h⟩ := h; exact ⟨o, ho, ih o n hn h⟩
  | update a _ f k ih => intro Q E p s n hn h; exact ⟨h.1, ih () n hn h.2⟩
  | fresh k ih => intro Q E p s n hn h; exact ih _ n (Nat.le_succ_of_le hn) h
  | choose src m k ih => intro Q E p s n hn h; exact ⟨h.1, ih _ n hn h.2⟩
  | call c h' g l k ih => intro Q E p s n hn h; obtain ⟨r, s', hr, h⟩ := h; exact ⟨r, s', hr, ih r n (Nat.le_trans hn (runs_toks hr)) h⟩
  | genState g k ih => intro Q E p s n hn h; obtain ⟨st, hs, h⟩ := h; exact ⟨st, hs, ih _ n hn h⟩
  | resume g r l k ih => intro Q E p s n hn h; obtain ⟨res, s', hw, h⟩ := h; exact ⟨res, s', hw, ih res n (Nat.le_trans hn (wakes_toks hw)) h⟩
  | _ => first
    | (rename_i ih; intro Q E p s n hn h; exact ih _ n hn h)
    | (intro Q E p s n hn h; exact (h : False).elim)
theorem wpAny_toks {α : Type} {M : Model} {A : Around} {t : Sem α} {Q : α → Shared → Prop} {E : Value → Shared → Prop} {s : Shared} (h : wpAny M A t Q E s) : wpAny M A t (fun a s' => s.toks ≤ s'.toks ∧ Q a s') E s := fun Γ p hΓ =>
  Sem.wp_mono M Γ t (fun _ _ _ x => x) (fun _ _ _ x => x.2) p s (wp_toks t s.toks (Nat.le_refl _) (h Γ p hΓ))
theorem codeAny_toks {M : Model} {A : Around} {c : Code} {R : Result → Shared → Prop} {s : Shared} (h : codeAny M A c R s) : codeAny M A c (fun r s' => s.toks ≤ s'.toks ∧ R r s') s := fun Γ p h1 h2 => by
  obtain ⟨r, s', hr, hR⟩ := h Γ p h1 h2
  exact ⟨r, s', hr, runs_toks hr, hR⟩
theorem wpAny_le_toks {α : Type} {M : Model} {A : Around} {t : Sem α} {Q : α → Shared → Prop} {E : Value → Shared → Prop} {s : Shared} (h : wpAny M A t (fun a s' => s.toks ≤ s'.toks → Q a s') E s) : wpAny M A t Q E s :=
  wpAny_mono (wpAny_toks h) (fun _ _ x => x.2 x.1) fun _ _ x => x
theorem codeAny_le_toks {M : Model} {A : Around} {c : Code} {R : Result → Shared → Prop} {s : Shared} (h : codeAny M A c (fun r s' => s.toks ≤ s'.toks → R r s') s) : codeAny M A c R s :=
  codeAny_mono (codeAny_toks h) fun _ _ x => x.2 x.1
/-- a float's token: the old one of the value c, or one made between lo and hi -/
def TokOk (lo hi : Nat) (c : UInt64) (tc : Nat) (x : UInt64) (t : Nat) : Prop := (x = c ∧ t = tc) ∨ (lo ≤ t ∧ t < hi)
theorem TokOk.wide {lo hi lo' hi' : Nat} {c : UInt64} {tc : Nat} {x : UInt64} {t : Nat} (h : TokOk lo hi c tc x t) (h1 : lo' ≤ lo) (h2 : hi ≤ hi') : TokOk lo' hi' c tc x t :=
  h.imp id fun q => ⟨Nat.le_trans h1 q.1, Nat.lt_of_lt_of_le q.2 h2⟩
/-- a statement, with what it says of the tokens -/
theorem execs_le {M : Model} {A : Around} {env : Env} {E : Value → Shared → Prop} {s : Shared} {st : Stmt} {rest : List Stmt} {Q : Flow → Shared → Prop}
    (h : wpAny M A (exec st env) (fun f s' => s.toks ≤ s'.toks → (match f with | .next => wpAny M A (execs rest env) Q E s' | f => Q f s')) E s) : wpAny M A (execs (st :: rest) env) Q E s :=
  wpAny_execs_cons (wpAny_le_toks h)

/-- what hsv_to_rgb reckons, the sixth at hand -/
def hsvF (a b c : UInt64) (i : Int) : UInt64 × UInt64 × UInt64 :=
  let f := Float64.sub (Float64.mul a 0x4018000000000000) (Float64.ofInt i)
  let p := Float64.mul c (Float64.sub 0x3ff0000000000000 b)
  let q := Float64.mul c (Float64.sub 0x3ff0000000000000 (Float64.mul b f))
  let t := Float64.mul c (Float64.sub 0x3ff0000000000000 (Float64.mul b (Float64.sub 0x3ff0000000000000 f)))
  if i.fmod 6 = 0 then (c, t, p) else if i.fmod 6 = 1 then (q, c, p) else if i.fmod 6 = 2 then (p, c, t) else if i.fmod 6 = 3 then (p, q, c) else if i.fmod 6 = 4 then (t, p, c) else (c, p, q)
/-- a tuple of three floats -/
def Tup3 (h : Heap) (v : Value) (x y z : UInt64) : Prop :=
  ∃ r t1 t2 t3, v = .ref r ∧ h.get? r = some (tupO [.float x t1, .float y t2, .float z t3])
/-- a tuple of three floats, each with the token of c or with a new one -/
def Tup3T (h : Heap) (v : Value) (x y z : UInt64) (lo hi : Nat) (c : UInt64) (tc : Tok) : Prop :=
  ∃ r t1 t2 t3, v = .ref r ∧ h.get? r = some (tupO [.float x t1, .float y t2, .float z t3]) ∧ TokOk lo hi c tc x t1 ∧ TokOk lo hi c tc y t2 ∧ TokOk lo hi c tc z t3
theorem Tup3T.plain {h : Heap} {v : Value} {x y z : UInt64} {lo hi : Nat} {c : UInt64} {tc : Tok} (X : Tup3T h v x y z lo hi c tc) : Tup3 h v x y z := let ⟨r, t1, t2, t3, a, b, _⟩ := X; ⟨r, t1, t2, t3, a, b⟩
theorem Tup3T.wide {h : Heap} {v : Value} {x y z : UInt64} {lo hi lo' : Nat} {c : UInt64} {tc : Tok} (X : Tup3T h v x y z lo hi c tc) (h1 : lo' ≤ lo) : Tup3T h v x y z lo' hi c tc :=
  let ⟨r, t1, t2, t3, a, b, e1, e2, e3⟩ := X; ⟨r, t1, t2, t3, a, b, e1.wide h1 (Nat.le_refl _), e2.wide h1 (Nat.le_refl _), e3.wide h1 (Nat.le_refl _)⟩
theorem hsv_call {w : World} {A : Around} {R : Result → Shared → Prop} {s : Shared} {mg mb : Str → Option Value} {mean : ExcName → Option Value}
    (X : (KH w).In s.heap) (T : Top topProg LN mean mg mb s.heap) (hroom : A.depth < recursionLimit) (a b c : UInt64) (t1 t2 t3 : Tok) 
    (hb : (Float64.cmp b 0 == some Ordering.eq) = false) (hf : Float64.isFinite (Float64.mul a 0x4018000000000000) = true) (i : Int) (hi : PySem.Flt.toInt Float64.truncOf (Float64.mul a 0x4018000000000000) = i)
    (hi0 : 0 ≤ i) (hi1 : i < 40)
    (hR : ∀ v h' tk x y z, Keeps s.heap h' → Tup3T h' v x y z s.toks tk c t3 → (x, y, z) = hsvF a b c i → R (.ok (.ret v)) { s with heap := h', toks := tk }) :
    codeAny (model PG w) A (.call (.ref 28) ⟨[.float a t1, .float b t2, .float c t3], []⟩) R s := by
  have hm : i.fmod 6 = i % 6 := Int.fmod_eq_emod_of_nonneg _ (by decide)
  refine call_plain_ret (binds := [("h", .float a t1), ("s", .float b t2), ("v", .float c t3)]) hroom (X 28 _ rfl) rfl T.nolimit ?hcd rfl (locs rfl) (fun h₁ F => ?_)
  case hcd => exact codeRec_of X rfl
  w_on
  repeat' (first | ((with_reducible show wpAny _ _ (execs (_ :: _) _) _ _ _); refine execs_le ?_) | ((with_reducible show _ ≤ _ → _); intro hle; (try dsimp only at hle); (try dsimp only)) | ((with_reducible show wpAny _ _ (call (Value.type "int") [Value.float _ _]) _ _ _); refine call_int_fin hf ?_; rw [hi]) | walk1 | (dsimp only; walk1) )
  all_goals first
    | (refine hR _ _ _ _ _ _ (Fr.keep (by assumption)) ⟨_, _, _, _, rfl, News.get (by assumption) (.head _), by first | exact .inl ⟨rfl, rfl⟩ | (refine .inr ⟨?_, ?_⟩ <;> ((try dsimp only); omega)), by first | exact .inl ⟨rfl, rfl⟩ | (refine .inr ⟨?_, ?_⟩ <;> ((try dsimp only); omega)), by first | exact .inl ⟨rfl, rfl⟩ | (refine .inr ⟨?_, ?_⟩ <;> ((try dsimp only); omega))⟩ ?_
       unfold hsvF
       (repeat' split) <;> first | rfl | (exfalso; omega))
    | (exfalso; omega)

/-- the b's of a text, each by its place, the first k signs -/
def turnTo (x : Str) : Nat → Int
  | 0 => 0
  | k + 1 => if (Txt.item x (k : Nat) == Str.ofString "b") = true then turnTo x k + ((k : Nat) + 1) else turnTo x k
theorem turnTo_yes {x : Str} {k : Nat} (h : (Txt.item x (k : Nat) == Str.ofString "b") = true) : turnTo x k + ((k : Nat) + 1) = turnTo x (k + 1) := by
  show _ = (if _ then _ else _); rw [if_pos h]
theorem turnTo_no {x : Str} {k : Nat} (h : (Txt.item x (k : Nat) == Str.ofString "b") = false) : turnTo x k = turnTo x (k + 1) := by
  show _ = (if _ then _ else _); rw [if_neg (by rw [h]; exact Bool.false_ne_true)]
def tri : Nat → Int
  | 0 => 0
  | k + 1 => tri k + ((k : Nat) + 1)
theorem turnTo_le (x : Str) : ∀ k, 0 ≤ turnTo x k ∧ turnTo x k ≤ tri k
  | 0 => ⟨Int.le_refl _, Int.le_refl _⟩
  | k + 1 => by
    have := turnTo_le x k
    unfold turnTo tri
    split <;> omega
theorem tri_mono (k : Nat) : ∀ {n : Nat}, k ≤ n → tri k ≤ tri n
  | n, h => by
    induction h with
    | refl => exact Int.le_refl _
    | @step m _ ih => show tri k ≤ tri m + ((m : Nat) + 1); omega
/-- a quarter to four quarters -/
def q4 (k : Nat) : UInt64 := divI (1 + (k : Int)) 4
def sixths (T : Int) : Int := PySem.Flt.toInt Float64.truncOf (Float64.mul (divI T 8) 0x4018000000000000)
theorem hue_facts : ∀ n : Fin 37, Float64.isInf (divI ((n.val : Nat) : Int) 8) = false ∧ Float64.isFinite (Float64.mul (divI ((n.val : Nat) : Int) 8) 0x4018000000000000) = true ∧ 0 ≤ sixths (n.val : Nat) ∧ sixths (n.val : Nat) < 40 := by decide +kernel
theorem hue_facts' {T : Int} (h0 : 0 ≤ T) (h1 : T ≤ 36) : Float64.isInf (divI T 8) = false ∧ Float64.isFinite (Float64.mul (divI T 8) 0x4018000000000000) = true ∧ 0 ≤ sixths T ∧ sixths T < 40 := by
  have := hue_facts ⟨T.toNat, by omega⟩
  have e : ((T.toNat : Nat) : Int) = T := by omega
  dsimp only at this
  rw [e] at this; exact this
theorem q4_facts : ∀ k : Fin 4, (Float64.cmp (q4 k.val) 0 == some Ordering.eq) = false ∧ Float64.isInf (q4 k.val) = false := by decide +kernel
def sealF (T : Int) (sh lv : Nat) : UInt64 × UInt64 × UInt64 := hsvF (divI T 8) (q4 sh) (q4 lv) (sixths T)

theorem seal_call {w : World} {A : Around} {R : Result → Shared → Prop} {s : Shared} {mg mb : Str → Option Value} {mean : ExcName → Option Value}
    (X : (KH w).In s.heap) (T : Top topProg LN mean mg mb s.heap) (hroom : A.depth < 900) (hh : A.handled = none) (word : Str) (sh lv : Nat) (t1 t2 t3 : Tok) (hlen : word.length ≤ 8) (hsh : sh < 4)
    (hR : ∀ v h' tk x y z, Keeps s.heap h' → Tup3T h' v x y z s.toks tk (q4 lv) t3 → (x, y, z) = sealF (turnTo word word.length) sh lv → R (.ok (.ret v)) { s with heap := h', toks := tk }) :
    codeAny (model PG w) A (.call (.ref 56) ⟨[.str word t1, .float (q4 sh) t2, .float (q4 lv) t3], []⟩) R s := by
  refine call_plain_ret (binds := [("word", .str word t1), ("share", .float (q4 sh) t2), ("level", .float (q4 lv) t3)]) (Nat.lt_trans hroom (by decide)) (X 56 _ rfl) rfl T.nolimit ?hcd rfl (locs rfl) (fun h₁ F => ?_)
  case hcd => exact codeRec_of X rfl
  w_on
  repeat' (first | ((with_reducible show wpAny _ _ (execs (_ :: _) _) _ _ _); refine execs_le ?_) | ((with_reducible show _ ≤ _ → _); intro hle; (try dsimp only at hle); (try dsimp only)) | walk1 | (dsimp only; walk1) )
  refine call_range_iter (by omega) (by omega) fun I h' tk k hI hit => ?_
  rename Fr _ _ _ _ => F1
  have F2 := frKept F1 k
  have N2 := newsFresh F1 (News.nil) k hI hit
  have hIL := (N2 _ (.head _)).2.1
  have hI0 := (N2 _ (.head _)).2.2
  dsimp only at hIL hI0
  refine forLoop_J (Walks.range (by exact hh) I 0 1 (word.length : Int).toNat) (fun i h => ∃ kv t, Fr s.heap s.heap.objs.size h (fun y => if y = Str.ofString "k" then kv else if y = Str.ofString "turn" then some (.int (turnTo word i) t) else List.lookup y [(Str.ofString "word", Value.str word t1), (Str.ofString "share", Value.float (q4 sh) t2), (Str.ofString "level", Value.float (q4 lv) t3)].reverse)) (by exact hit) ?_ ?_ ?_ ?_
  · exact ⟨_, _, frStart _ F2⟩
  · rintro i h h' ⟨kv, t, F3⟩ kk
    exact ⟨kv, t, frBut F3 hIL hI0 kk⟩
  · rintro i v h tk hi ⟨tv, rfl⟩ ⟨kv, t, F3⟩ hit3
    have N3 : News s.heap s.heap.objs.size h [(I, riO _ _ _)] := fun p hp => by
      rw [List.mem_singleton.mp hp]; exact ⟨hit3, hIL, hI0⟩
    clear F F1 F2 N2 hit k hI
    rw [show (0 + (i : Int) * 1) = (i : Int) by omega]
    repeat' (first | walk1 | (dsimp only; walk1) )
    all_goals (
      refine' ⟨_, _, rfl, ⟨_, _, frC2 (by assumption) rfl ?_ ?_⟩, News.get (by assumption) (.head _)⟩
      rotate_left
      (exact congrArg (fun n => some (Value.int n _)) (by first | exact turnTo_yes (by assumption) | exact turnTo_no (by assumption)))
      (intro y e1 e2; simp only [e1, e2, if_false]))
  · rintro h tk ⟨kv, t, F3⟩
    clear F F1 F2 N2 hit k hI
    obtain ⟨hT0, hT1⟩ := turnTo_le word word.length
    have hT2 : turnTo word word.length ≤ 36 := Int.le_trans hT1 (tri_mono _ hlen)
    obtain ⟨f1, f2, f3, f4⟩ := hue_facts' hT0 hT2
    rw [show ((word.length : Int).toNat) = word.length by omega] at F3
    repeat' (first | ((with_reducible show wpAny _ _ (execs (_ :: _) _) _ _ _); refine execs_le ?_) | ((with_reducible show _ ≤ _ → _); intro hle; (try dsimp only at hle); (try dsimp only)) | ((with_reducible show wpAny _ _ (binaryOp Operator.Div (Value.int _ _) (Value.int _ _)) _ _ _); refine truediv_ok (by decide) f1 ?_) | ((with_reducible show wpAny _ _ (call (Value.ref 28) _) _ _ _); refine wpAny_call (hsv_call (X.keeps F3.keep) (T.keeps F3.keep) ?hrm _ _ _ _ _ _ (q4_facts ⟨sh, hsh⟩).1 f2 _ rfl f3 f4 ?_)) | walk1 | (dsimp only; walk1) )
    case hrm => show A.depth + 1 < recursionLimit; exact Nat.lt_of_le_of_lt hroom (by decide)
    rename Tup3T _ _ _ _ _ _ _ _ _ => hT3
    dsimp only at hT3
    refine hR _ _ _ _ _ _ ?_ (Tup3T.wide hT3 (by omega)) (by assumption)
    exact Keeps.trans F3.keep (by assumption)

/-- a list of ints -/
def IsInts (h : Heap) (v : Value) (ns : List Int) : Prop := ∃ r vs n, v = .ref r ∧ h.get? r = some (lstO vs n) ∧ IntsAre vs ns
theorem IsInts.keeps {h h' : Heap} {v : Value} {ns : List Int} (x : IsInts h v ns) (k : Keeps h h') : IsInts h' v ns := let ⟨r, vs, n, e, ho, hi⟩ := x; ⟨r, vs, n, e, k _ _ ho, hi⟩
def upFrom (a : Int) : Nat → List Int
  | 0 => []
  | n + 1 => a :: upFrom (a + 1) n
theorem intsAre_from : ∀ (n : Nat) (a : Int) (vs : List Value), vs.length = n → (∀ i v, vs[i]? = some v → ∃ t, v = Value.int (a + (i : Nat) * 1) t) → IntsAre vs (upFrom a n)
  | 0, a, vs, hl, _ => by rw [List.length_eq_zero_iff.mp hl]; exact .nil
  | n + 1, a, vs, hl, h => by
    match vs, hl with
    | v :: vs, hl =>
      obtain ⟨t, e⟩ := h 0 v rfl
      have e' : v = .int a t := by simpa using e
      subst e'
      refine .cons a t (intsAre_from n (a + 1) vs (by simpa using hl) fun i v' hv => ?_)
      obtain ⟨t', e'⟩ := h (i + 1) v' (by simpa using hv)
      exact ⟨t', by rw [e']; congr 1; push_cast; omega⟩
/-- the first and the last place of the run of like signs -/
def runLo (x : Str) (p : Nat) : Nat → Nat
  | 0 => 0
  | k + 1 => if (Txt.item x (k : Nat) == Txt.item x (p : Nat)) = true then runLo x p k else k + 1
def runHi (x : Str) (p : Nat) (l : Nat) : Nat → Nat
  | 0 => l
  | d + 1 => if (Txt.item x ((l : Int) + 1) == Txt.item x (p : Nat)) = true then runHi x p (l + 1) d else l
theorem runLo_yes {x : Str} {p k : Nat} (hk : 0 < k) (h : (Txt.item x ((k : Int) - 1) == Txt.item x (p : Nat)) = true) : runLo x p (k - 1) = runLo x p k := by
  obtain ⟨k, rfl⟩ : ∃ j, k = j + 1 := ⟨k - 1, by omega⟩
  rw [show (((k + 1 : Nat) : Int) - 1) = (k : Nat) by omega] at h
  show runLo x p k = (if _ then _ else _); rw [if_pos h]
theorem runLo_no {x : Str} {p k : Nat} (hk : 0 < k) (h : (Txt.item x ((k : Int) - 1) == Txt.item x (p : Nat)) = false) : runLo x p k = k := by
  obtain ⟨k, rfl⟩ : ∃ j, k = j + 1 := ⟨k - 1, by omega⟩
  rw [show (((k + 1 : Nat) : Int) - 1) = (k : Nat) by omega] at h
  show (if _ then _ else _) = _; rw [if_neg (by rw [h]; exact Bool.false_ne_true)]
theorem runHi_yes {x : Str} {p l d : Nat} (hd : 0 < d) (h : (Txt.item x ((l : Int) + 1) == Txt.item x (p : Nat)) = true) : runHi x p (l + 1) (d - 1) = runHi x p l d := by
  obtain ⟨d, rfl⟩ : ∃ j, d = j + 1 := ⟨d - 1, by omega⟩
  show runHi x p (l + 1) d = (if _ then _ else _); rw [if_pos h]
theorem runHi_no {x : Str} {p l d : Nat} (hd : 0 < d) (h : (Txt.item x ((l : Int) + 1) == Txt.item x (p : Nat)) = false) : runHi x p l d = l := by
  obtain ⟨d, rfl⟩ : ∃ j, d = j + 1 := ⟨d - 1, by omega⟩
  show (if _ then _ else _) = _; rw [if_neg (by rw [h]; exact Bool.false_ne_true)]
theorem runLo_le (x : Str) (p : Nat) : ∀ k, runLo x p k ≤ k
  | 0 => Nat.le_refl _
  | k + 1 => by have := runLo_le x p k; unfold runLo; split <;> omega
theorem runHi_le (x : Str) (p : Nat) : ∀ d l, l ≤ runHi x p l d ∧ runHi x p l d ≤ l + d
  | 0, l => ⟨Nat.le_refl _, Nat.le_refl _⟩
  | d + 1, l => by have := runHi_le x p d (l + 1); unfold runHi; split <;> omega
abbrev runBase (row : Str) (p : Nat) (t1 t2 : Tok) : Str → Option Value := fun y => List.lookup y [(Str.ofString "row", Value.str row t1), (Str.ofString "place", Value.int (p : Nat) t2)].reverse
def runOf (x : Str) (p : Nat) : List Int := upFrom (runLo x p p : Nat) (runHi x p p (x.length - 1 - p) + 1 - runLo x p p)
theorem run_call {w : World} {A : Around} {R : Result → Shared → Prop} {s : Shared} {mg mb : Str → Option Value} {mean : ExcName → Option Value}
    (X : (KH w).In s.heap) (T : Top topProg LN mean mg mb s.heap) (hroom : A.depth < 900) (hh : A.handled = none) (row : Str) (p : Nat) (t1 t2 : Tok) (hlen : row.length ≤ 8) (hp : p < row.length)
    (hR : ∀ v h' tk, Keeps s.heap h' → IsInts h' v (runOf row p) → R (.ok (.ret v)) { s with heap := h', toks := tk }) :
    codeAny (model PG w) A (.call (.ref 70) ⟨[.str row t1, .int (p : Nat) t2], []⟩) R s := by
  refine call_plain_ret (binds := [("row", .str row t1), ("place", .int (p : Nat) t2)]) (Nat.lt_trans hroom (by decide)) (X 70 _ rfl) rfl T.nolimit ?hcd rfl (locs rfl) (fun h₁ F => ?_)
  case hcd => exact codeRec_of X rfl
  w_on
  repeat' (first | walk1 | (dsimp only; walk1) )
  rename Fr _ _ _ _ => F1
  refine whileLoop_J (fun k h => ∃ t, k ≤ p ∧ runLo row p k = runLo row p p ∧ Fr s.heap s.heap.objs.size h (fun y => if y = Str.ofString "first" then some (.int (k : Nat) t) else runBase row p t1 t2 y))
    (fun h => ∃ t, Fr s.heap s.heap.objs.size h (fun y => if y = Str.ofString "first" then some (.int (runLo row p p : Nat) t) else runBase row p t1 t2 y)) p ⟨_, Nat.le_refl _, rfl, F1⟩ ?_ ?_
  · rintro k h tk ⟨t, hk, hrun, F2⟩
    clear F F1
    repeat' (first | walk1 | (dsimp only; walk1) )
    · refine' ⟨_, _, k - 1, rfl, by omega, _, by omega, (runLo_yes (by omega) (by assumption)).trans hrun, frI1 (by assumption) rfl (by omega) ?_⟩
      · intro y e; simp only [e, if_false]
    · refine ⟨_, _, rfl, ?_⟩
      rw [← hrun, runLo_no (by omega) (by assumption)]
      exact ⟨_, F2⟩
    · refine ⟨_, _, rfl, ?_⟩
      rw [← hrun, show k = 0 by omega]
      rw [show k = 0 by omega] at F2
      exact ⟨_, F2⟩
  rintro h tk ⟨t, F2⟩
  clear F F1
  repeat' (first | walk1 | (dsimp only; walk1) )
  rename Fr _ _ _ _ => F3
  refine whileLoop_J (fun d h => ∃ l t t', l + d + 1 = row.length ∧ runHi row p l d = runHi row p p (row.length - 1 - p) ∧ Fr s.heap s.heap.objs.size h (fun y => if y = Str.ofString "last" then some (.int (l : Nat) t) else if y = Str.ofString "first" then some (.int (runLo row p p : Nat) t') else runBase row p t1 t2 y))
    (fun h => ∃ t t', Fr s.heap s.heap.objs.size h (fun y => if y = Str.ofString "last" then some (.int (runHi row p p (row.length - 1 - p) : Nat) t) else if y = Str.ofString "first" then some (.int (runLo row p p : Nat) t') else runBase row p t1 t2 y)) (row.length - 1 - p) ⟨p, _, _, by omega, rfl, F3⟩ ?_ ?_
  · rintro d h tk ⟨l, t, t', hd, hrun, F4⟩
    clear F2 F3
    repeat' (first | walk1 | (dsimp only; walk1) )
    · refine' ⟨_, _, d - 1, rfl, by omega, l + 1, _, _, by omega, (runHi_yes (by omega) (by assumption)).trans hrun, frI2 (by assumption) rfl (by omega) rfl ?_⟩
      · intro y e e'; simp only [e, e', if_false]
    · refine ⟨_, _, rfl, ?_⟩
      rw [← hrun, runHi_no (by omega) (by assumption)]
      exact ⟨_, _, F4⟩
    · refine ⟨_, _, rfl, ?_⟩
      rw [← hrun, show d = 0 by omega]
      exact ⟨_, _, F4⟩
  rintro h tk ⟨t, t', F4⟩
  clear F2 F3
  have h1 := runLo_le row p p
  have h2 := runHi_le row p (row.length - 1 - p) p
  repeat' (first | walk1 | (dsimp only; walk1) )
  refine call_range_2 ?_
  repeat' (first | walk1 | (dsimp only; walk1) )
  have hsz : Builtin.Range.rangeSize (runLo row p p : Nat) ((runHi row p p (row.length - 1 - p) : Nat) + 1) 1 = ((runHi row p p (row.length - 1 - p) + 1 - runLo row p p : Nat) : Int) := by
    rw [rangeSize_one, if_pos (by omega)]; omega
  refine call_list_range (by exact hh) (IsRange.new ..) (small_one (by omega) (by omega) (by omega) (by omega)) hsz (by omega) fun h' tk acc' c' hk hS' hacc => ?_
  refine hR _ _ _ (Keeps.trans F4.keep fun b o e => hk b o (Heap.get?_push_of_some _ e)) ⟨_, acc'.toList, c', rfl, ?_, intsAre_from _ _ _ ?_ ?_⟩
  · simpa using hS'
  · simpa using hacc.1
  · intro i v hv
    exact hacc.2 i v (by simpa using hv)

/-- the offer at a gap, if the count tells it -/
def pbAt (x : Str) (n : Int) (i : Nat) : Option Str :=
  if n ≤ Txt.count x (Str.ofString "b") then
    (if Txt.count (Txt.slice x (some (i : Nat)) none) (Str.ofString "b") = n then some (Txt.slice x none (some (i : Nat)) ++ Str.ofString "a" ++ Txt.slice x (some (i : Nat)) none) else none)
  else
    (if Txt.count (Txt.slice x none (some (i : Nat))) (Str.ofString "a") = n - Txt.count x (Str.ofString "b") - 1 then some (Txt.slice x none (some (i : Nat)) ++ Str.ofString "b" ++ Txt.slice x (some (i : Nat)) none) else none)
def pbFrom (x : Str) (n : Int) (i : Nat) : Nat → Str
  | 0 => Str.ofString ""
  | d + 1 => match pbAt x n i with
    | some v => v
    | none => pbFrom x n (i + 1) d
theorem pbFrom_some {x v : Str} {n : Int} {i d : Nat} (hd : 0 < d) (h : pbAt x n i = some v) : pbFrom x n i d = v := by
  obtain ⟨d, rfl⟩ : ∃ j, d = j + 1 := ⟨d - 1, by omega⟩
  show (match pbAt x n i with | some v => v | none => _) = _; rw [h]
theorem pbFrom_none {x : Str} {n : Int} {i d : Nat} (hd : 0 < d) (h : pbAt x n i = none) : pbFrom x n i d = pbFrom x n (i + 1) (d - 1) := by
  obtain ⟨d, rfl⟩ : ∃ j, d = j + 1 := ⟨d - 1, by omega⟩
  show (match pbAt x n i with | some v => v | none => _) = _; rw [h]; rfl
theorem putback_call {w : World} {A : Around} {R : Result → Shared → Prop} {s : Shared} {mg mb : Str → Option Value} {mean : ExcName → Option Value}
    (X : (KH w).In s.heap) (T : Top topProg LN mean mg mb s.heap) (hroom : A.depth < 900) (hh : A.handled = none) (short : Str) (n : Int) (t1 t2 : Tok) (hlen : short.length ≤ 8)
    (hR : ∀ t h' tk, Keeps s.heap h' → R (.ok (.ret (.str (pbFrom short n 0 7) t))) { s with heap := h', toks := tk }) :
    codeAny (model PG w) A (.call (.ref 84) ⟨[.str short t1, .int n t2], []⟩) R s := by
  refine call_plain_ret (binds := [("short", .str short t1), ("ahead", .int n t2)]) (Nat.lt_trans hroom (by decide)) (X 84 _ rfl) rfl T.nolimit ?hcd rfl (locs rfl) (fun h₁ F => ?_)
  case hcd => exact codeRec_of X rfl
  w_on
  repeat' (first | walk1 | (dsimp only; walk1) )
  refine call_range_iter (by omega) (by omega) fun I h' tk k hI hit => ?_
  rename Fr _ _ _ _ => F1
  have F2 := frKept F1 k
  have N2 := newsFresh F1 (News.nil) k hI hit
  have hIL := (N2 _ (.head _)).2.1
  have hI0 := (N2 _ (.head _)).2.2
  dsimp only at hIL hI0
  refine forLoop_J (Walks.range (by exact hh) I 0 1 (7 : Int).toNat) (fun i h => ∃ kv t, pbFrom short n i (7 - i) = pbFrom short n 0 7 ∧ Fr s.heap s.heap.objs.size h (fun y => if y = Str.ofString "k" then kv else if y = Str.ofString "held" then some (.int (Txt.count short (Str.ofString "b")) t) else List.lookup y [(Str.ofString "short", Value.str short t1), (Str.ofString "ahead", Value.int n t2)].reverse)) (by exact hit) ?_ ?_ ?_ ?_
  · exact ⟨_, _, rfl, frStart _ F2⟩
  · rintro i h h' ⟨kv, t, hpb, F3⟩ kk
    exact ⟨kv, t, hpb, frBut F3 hIL hI0 kk⟩
  · rintro i v h tk hi ⟨tv, rfl⟩ ⟨kv, t, hpb, F3⟩ hit3
    have N3 : News s.heap s.heap.objs.size h [(I, riO _ _ _)] := fun p hp => by
      rw [List.mem_singleton.mp hp]; exact ⟨hit3, hIL, hI0⟩
    clear F F1 F2 N2 hit k hI
    rw [show (0 + (i : Int) * 1) = (i : Int) by omega]
    repeat' (first | walk1 | (dsimp only; walk1) )
    all_goals have hi7 : i < 7 := hi
    · refine (show R (.ok (.ret _)) _ from ?_)
      have hs : pbAt short n i = some (Txt.slice short none (some (i : Nat)) ++ Str.ofString "a" ++ Txt.slice short (some (i : Nat)) none) := by unfold pbAt; rw [if_pos (by assumption), if_pos (by assumption)]
      rw [← pbFrom_some (d := 7 - i) (by omega) hs, hpb]
      exact hR _ _ _ (Fr.keep (by assumption))
    · have hn : pbAt short n i = none := by unfold pbAt; rw [if_pos (by assumption), if_neg (by assumption)]
      refine ⟨_, _, rfl, ⟨_, _, ?_, frC2 (by assumption) rfl rfl ?_⟩, News.get (by assumption) (.head _)⟩
      · rw [← hpb, pbFrom_none (by omega) hn]; rfl
      · intro y e1 e2; simp only [e1, e2, if_false]
    · refine (show R (.ok (.ret _)) _ from ?_)
      have hs : pbAt short n i = some (Txt.slice short none (some (i : Nat)) ++ Str.ofString "b" ++ Txt.slice short (some (i : Nat)) none) := by unfold pbAt; rw [if_neg (by assumption), if_pos (by assumption)]
      rw [← pbFrom_some (d := 7 - i) (by omega) hs, hpb]
      exact hR _ _ _ (Fr.keep (by assumption))
    · have hn : pbAt short n i = none := by unfold pbAt; rw [if_neg (by assumption), if_neg (by assumption)]
      refine ⟨_, _, rfl, ⟨_, _, ?_, frC2 (by assumption) rfl rfl ?_⟩, News.get (by assumption) (.head _)⟩
      · rw [← hpb, pbFrom_none (by omega) hn]; rfl
      · intro y e1 e2; simp only [e1, e2, if_false]
  · rintro h tk ⟨kv, t, hpb, F3⟩
    clear F F1 F2 N2 hit k hI
    repeat' (first | walk1 | (dsimp only; walk1) )
    refine (show R (.ok (.ret _)) _ from ?_)
    rw [show (Str.ofString "") = pbFrom short n 0 7 from hpb]
    exact hR _ _ _ (Fr.keep (by assumption))

/-- a call whose last parameter takes the rest -/
theorem call_rest {prog : Program} {w : World} {A : Around} {R : Result → Shared → Prop} {s : Shared} {name : Str} {params : Arguments} {body : List Stmt} {scope : Scope}
    {pm cd doc : Value} {a : Addr} {o : Obj} {args vs : List Value} {front : List (Str × Value)} {x : Str}
    (hroom : A.depth < recursionLimit) (ho : s.heap.get? a = some o) (hdata : o.data = .func (Calls.docDef name params body scope pm cd doc)) (hlim : s.heap.NoLimit) (hcd : s.heap.CodeRec cd name)
    (hbind : bindArgs (Calls.docDef name params body scope pm cd doc) ⟨args, []⟩ = (newTuple vs >>= fun v => pure (front ++ [(x, v)])))
    (hloc : ∀ D, ∀ y ∈ front ++ [(x, Value.ref D)], scope.names.lookup y.1 = some .local)
    (h : ∀ h₁ D L, Fr s.heap L h₁ (fun y => (front ++ [(x, Value.ref D)]).reverse.lookup y) → News s.heap L h₁ [(D, tupO vs)] →
      wpAny (model prog w) (A.deeper (envOf name scope L a cd)) (execs body (envOf name scope L a cd))
        (fun f s' => R (.ok (.ret (match f with | .ret v => v | _ => .none))) s') NoE
        { s with heap := h₁, toks := s.toks + (front ++ [(x, Value.ref D)]).length })
    (hco : scope.isCoroutine = false := by rfl) (hgen : scope.isGenerator = false := by rfl) (hk : scope.kind = .function := by rfl)
    (hcell : ∀ x ∈ scope.names, x.2 ≠ .cell := by decide) (hsz : vs.length ≤ sizeLine := by size_fits) :
    codeAny (model prog w) A (.call (.ref a) ⟨args, []⟩) R s := by
  refine codeAny_call_function hroom ho hdata hco hgen rfl hcd ?_
  rw [hbind]
  refine wpAny_bind (wpAny_newObj_type ?_ (by show vs.toArray.size ≤ sizeLine; rw [List.size_toArray]; exact hsz))
  have hpush : ∀ b o', s.heap.get? b = some o' → (s.heap.push (tupO vs)).get? b = some o' := fun b o' e => Heap.get?_push_of_some _ e
  have hnew : (s.heap.push (tupO vs)).get? s.heap.objs.size = some (tupO vs) := Heap.get?_push_size _ rfl
  refine wpAny_pure (wpAny_newFunctionEnv (s := { s with heap := s.heap.push (tupO vs) }) hcell (hloc _) (fun h₁ hns hsb => ⟨(hlim.keeps hpush).fresh _ hsb, ?_⟩) hk)
  show codeAny _ _ (.func body (envOf name scope (s.heap.push (tupO vs)).objs.size a cd)) _ _
  have keep : ∀ b o', (s.heap.push (tupO vs)).get? b = some o' → h₁.get? b = some o' := fun b o' e => hsb.extBut b o' (Nat.ne_of_lt (Heap.lt_size e)) (Heap.get?_push_of_some _ e)
  refine codeAny_func (wpAny_mono (h h₁ s.heap.objs.size _ ⟨hns, fun b o' e => keep b o' (hpush b o' e), ?_⟩ ?_) (fun _ _ q => q) fun _ _ q => q.elim)
  · simp [Heap.size_push]
  · intro p hp
    rw [List.mem_singleton.mp hp]
    refine ⟨keep _ _ hnew, ?_, ?_⟩
    · show s.heap.objs.size ≠ (s.heap.push (tupO vs)).objs.size
      simp [Heap.size_push]
    · cases hq : s.heap.get? s.heap.objs.size with
      | none => rfl
      | some o' => exact absurd (Heap.lt_size hq) (Nat.lt_irrefl _)
theorem getItem_tuple_cut {prog : Program} {w : World} {A : Around} {E : Value → Shared → Prop} {s : Shared} {Q : Value → Shared → Prop} {l sl : Addr} {a b : Value} {t : Tok} (hl : s.heap.get? l = some (tupO [a, b]))
    (hs : s.heap.get? sl = some { cls := .type "slice", data := .fields #[.int 2 t, .none, .none] }) (h : Q (.ref s.heap.objs.size) { s with heap := s.heap.push (tupO []) }) :
    wpAny (model prog w) A (getItem (.ref l) (.ref sl)) Q E s := by
  have hT : s.TypeIs (.ref l) "tuple" := ⟨_, hl, rfl⟩
  have hTs : s.TypeIs (.ref sl) "slice" := ⟨_, hs, rfl⟩
  unfold getItem
  try with_reducible refine wpAny_holding ?_
  first | refine wpAny_bind (wpAny_pure ?_) | skip
  refine wpAny_bind (wpAny_sequenceKey hT (by decide) ?_)
  refine wpAny_bind (wpAny_callSpecial?_slot (name := Str.ofString "__getitem__") hT F.slot_tuple_getitem
    (wpAny_call_entry F.slot_tuple_getitem hT F.entry_tuple_getitem ?_ (F.args_tuple_getitem_2 _ _)))
  unfold Builtin.«tuple.__getitem__»
  obtain ⟨hp, g, d, tk, os⟩ := s
  wp_walk
  refine wpAny_of_eq F.slot_int_index.lookup ?_
  wp_walk
  exact ⟨_, rfl, wpAny_pure h⟩
theorem sub_tuple_cut {prog : Program} {w : World} {A : Around} {E : Value → Shared → Prop} {s : Shared} {Q : Value → Shared → Prop} {h₀ : Heap} {L : Addr} {m : Str → Option Value} {news : List (Addr × Obj)} {value slice : Expr} {l : Addr} {a b : Value} {t : Tok}
    (F : Fr h₀ L s.heap m) (N : News h₀ L s.heap news) (hl : (l, tupO [a, b]) ∈ news)
    (h : ∀ D h', Fr h₀ L h' m → News h₀ L h' ((D, tupO []) :: news) → Q (.ref D) { s with heap := h' })
    (hs : subscripted slice false (.ref l) (.ref s.heap.objs.size) = operate [.ref s.heap.objs.size, .ref l] (getItem (.ref l) (.ref s.heap.objs.size)) := by with_unfolding_all rfl)
    (ht : ∀ r, letTemporaryGo value (.ref l) r = pure () := by intro _; with_unfolding_all rfl) :
    wpAny (model prog w) A (subscriptTail value slice (.ref l) (.ref s.heap.objs.size)) Q E { s with heap := s.heap.push { cls := .type "slice", data := .fields #[.int 2 t, .none, .none] } } := by
  have hl' : (s.heap.push { cls := .type "slice", data := .fields #[.int 2 t, .none, .none] }).get? l = some (tupO [a, b]) := Heap.get?_push_of_some _ (N.get hl)
  have F1 := F.push { cls := .type "slice", data := .fields #[.int 2 t, .none, .none] }
  have N1 : News h₀ L (s.heap.push { cls := .type "slice", data := .fields #[.int 2 t, .none, .none] }) news := newsKept N fun _ _ e => Heap.get?_push_of_some _ e
  refine subscriptTail_ops (s := { s with heap := s.heap.push { cls := .type "slice", data := .fields #[.int 2 t, .none, .none] } }) (T := "tuple") ⟨_, hl', rfl⟩ PySem.F.slot_tuple_getitem.lookup
    (getItem_tuple_cut hl' (Heap.get?_push_size _ rfl) ?_) hs ht
  exact h _ _ (F1.push _) (N1.push F1 _)
/-- what replace hands back: v in the place of each hyphen -/
def replF (x v : Str) : Str := Txt.join v (Txt.split x (Str.ofString "-"))
theorem replace_call {w : World} {A : Around} {R : Result → Shared → Prop} {s : Shared} {mg mb : Str → Option Value} {mean : ExcName → Option Value}
    (X : (KH w).In s.heap) (T : Top topProg LN mean mg mb s.heap) (hroom : A.depth < 900) (hh : A.handled = none) (text v : Str) (t1 t2 t3 : Tok) (hlen : text.length ≤ 16) (hv : v.length ≤ 16)
    (hR : ∀ t h' tk, Keeps s.heap h' → R (.ok (.ret (.str (replF text v) t))) { s with heap := h', toks := tk }) :
    codeAny (model PG w) A (.call (.ref 42) ⟨[.str text t1, .str (Str.ofString "-") t2, .str v t3], []⟩) R s := by
  refine call_rest (vs := [.str (Str.ofString "-") t2, .str v t3]) (front := [("text", .str text t1)]) (x := "pairs") (Nat.lt_trans hroom (by decide)) (X 42 _ rfl) rfl T.nolimit ?hcd rfl (fun D => locs rfl) (fun h₁ D L F N => ?_)
  case hcd => exact codeRec_of X rfl
  w_on
  repeat' (first | walk1 | (dsimp only; walk1) )
  refine whileLoop_J (fun k h => (k = 1 ∧ Fr s.heap L h (fun y => List.lookup y ([(Str.ofString "text", Value.str text t1)] ++ [(Str.ofString "pairs", Value.ref D)]).reverse) ∧ News s.heap L h [(D, tupO [.str (Str.ofString "-") t2, .str v t3])]) ∨
    (k = 0 ∧ ∃ D' t, Fr s.heap L h (fun y => if y = Str.ofString "pairs" then some (Value.ref D') else if y = Str.ofString "text" then some (Value.str (replF text v) t) else none) ∧ News s.heap L h [(D', tupO [])]))
    (fun h => ∃ D' t, Fr s.heap L h (fun y => if y = Str.ofString "pairs" then some (Value.ref D') else if y = Str.ofString "text" then some (Value.str (replF text v) t) else none)) 1 (.inl ⟨rfl, F, N⟩) ?_ ?_
  · rintro k h tk (⟨rfl, F1, N1⟩ | ⟨rfl, D', t, F1, N1⟩)
    · clear F N
      repeat' (first | walk1 | (dsimp only; walk1) )
      rename (List.map _ _ = Txt.split _ _) => he
      have hw := weighs_of_split he (by decide)
      refine SC.join (by assumption) he (joinOk_of_weight ?hw hv) ?_
      case hw =>
        rw [← he]
        exact Nat.le_trans hw (by omega)
      intro t' k
      repeat' (first | walk1 | (dsimp only; walk1) )
      refine sub_tuple_cut (by assumption) (by assumption) (.tail _ (.head _)) fun D' h' F2 N2 => ?_
      repeat' (first | walk1 | (dsimp only; walk1) )
      refine ⟨_, _, 0, rfl, by omega, .inr ⟨rfl, D', t', frC2 (by assumption) rfl rfl ?_, ?_⟩⟩
      · intro y e1 e2
        have e1' : (y == Str.ofString "pairs") = false := by simpa using e1
        have e2' : (y == Str.ofString "text") = false := by simpa using e2
        simp [e1, e2, List.lookup, e1', e2']
      · intro p hp
        rename News _ _ _ _ => N3
        rw [List.mem_singleton.mp hp]; exact N3 _ (.head _)
    · clear F N
      repeat' (first | walk1 | (dsimp only; walk1) )
      exact ⟨_, _, rfl, _, _, F1⟩
  · rintro h tk ⟨D', t, F1⟩
    clear F N
    repeat' (first | walk1 | (dsimp only; walk1) )
    exact hR _ _ _ F1.keep

theorem occ_empty (x y : Str) (hy : y.length = 0) (lo hi : Nat) (h : lo ≤ hi) : ∃ r, Builtin.Str.occurrences x y lo hi 1 = lo :: r := by
  have hy' : y.cps = #[] := Array.eq_empty_of_size_eq_zero hy
  have hat : StrLaws.At x y hi lo := by
    refine ⟨by omega, ?_⟩
    unfold Builtin.Str.subAt
    rw [hy, hy']
    simp [Nat.min_le_left]
  have hl : List.range' lo (hi + 1 - lo) = lo :: List.range' (lo + 1) (hi - lo) := by
    rw [show hi + 1 - lo = (hi - lo) + 1 by omega, List.range'_succ]
  rw [StrLaws.occ_eq]
  rcases StrLaws.occ_first x y hi 1 (Nat.le_refl _) (List.range' lo (hi + 1 - lo)) lo (fun i hi => by have := List.mem_range'_1.mp hi; omega) with ⟨h0, hn⟩ | ⟨pre, a, post, e, h0, ha, hn⟩
  · exact absurd hat (hn lo (by rw [hl]; exact .head _))
  · have hpre : pre = [] := by
      cases pre with
      | nil => rfl
      | cons b pre =>
        rw [hl] at e
        obtain ⟨rfl, _⟩ := List.cons.inj e
        exact absurd hat (hn lo (.head _))
    subst hpre
    rw [hl] at e
    obtain ⟨rfl, _⟩ := List.cons.inj e
    generalize (forIn (List.range' lo (hi + 1 - lo)) ((#[] : Array Nat), lo) (StrLaws.occBody x y hi 1)).run.fst = arr at h0
    have h1 : arr.toList[0]? = some lo := by simpa using h0
    cases hL : arr.toList with
    | nil => rw [hL] at h1; cases h1
    | cons b t => rw [hL] at h1; simp at h1; rw [h1]; exact ⟨t, rfl⟩
theorem find_empty {prog : Program} {w : World} {A : Around} {E : Value → Shared → Prop} {s : Shared} {x y : Str} {t u v v' : Tok} {i j : Int} {Q : Value → Shared → Prop} (hy : y.length = 0) (hi : 0 ≤ i) (hij : i ≤ j) (hj : j ≤ x.length)
    (hq : Q (.int i s.toks) { s with toks := s.toks + 1 }) : wpAny (model prog w) A (call (.builtin "str.find") [.str x t, .str y u, .int i v, .int j v']) Q E s := by
  refine call_gives F.slot_str_find (typeIs_str _ _ _) F.entry_str_find (F.args_str_find_4 _ _ _ _) (m := .int i) ?_ hq
  show Gives (match Builtin.Str.occurrences x y (fromIndex x.length i) (min (fromIndex x.length j) x.length) 1 with | k :: _ => retInt k | [] => (do rule "str.find.not-found"; retInt (-1))) _
  have e1 : fromIndex x.length i = i.toNat := by unfold fromIndex; rw [if_neg (by omega)]; omega
  have e2 : fromIndex x.length j = j.toNat := by unfold fromIndex; rw [if_neg (by omega)]; omega
  rw [e1, e2]
  obtain ⟨r, hr⟩ := occ_empty x y hy i.toNat (min j.toNat x.length) (by omega)
  rw [hr]
  dsimp only
  rw [show ((i.toNat : Nat) : Int) = i by omega]
  exact .of_eq rfl
/-- a loop over a list that stands: its iterator -/
theorem list_iter {prog : Program} {w : World} {A : Around} {E : Value → Shared → Prop} {s : Shared} {h₀ : Heap} {L a : Addr} {m : Str → Option Value} {news : List (Addr × Obj)} {es : List Value} {n : Nat} {K : Value → Shared → Prop} (F : Fr h₀ L s.heap m) (N : News h₀ L s.heap news)
    (ha : (a, lstO es n) ∈ news)
    (h : ∀ I h', a ≠ I → Fr h₀ L h' m → News h₀ L h' news → (∀ p ∈ news, p.1 ≠ I) → I ≠ L → h₀.get? I = none → h'.IsListIter I a 0 → h'.IsList a es.toArray → K (.ref I) { s with heap := h' }) :
    wpAny (model prog w) A (pyIter (.ref a)) K E s := by
  have hl : s.heap.IsList a es.toArray := ⟨_, N.get ha, rfl, n, rfl⟩
  refine wpAny_pyIter_list hl ?_
  have N1 := N.push F { cls := .type "list_iterator", data := .fields #[.ref a, .int 0 0] }
  have hn : ∀ p ∈ news, p.1 ≠ s.heap.objs.size := fun p hp => Nat.ne_of_lt (Heap.lt_size (N p hp).1)
  refine h _ _ (hn _ ha) (F.push _) (fun p hp => N1 p (.tail _ hp)) hn ?_ ?_ ⟨_, Heap.get?_push_size _ rfl, rfl, rfl⟩ (hl.push _)
  · exact (N1 _ (.head _)).2.1
  · exact (N1 _ (.head _)).2.2
def OnlyBut (I : Addr) (h h' : Heap) : Prop := ∀ b o, b ∉ [I] → h.get? b = some o → h'.get? b = some o
theorem forLoop_none {prog : Program} {w : World} {A : Around} {R : Result → Shared → Prop} {s : Shared} {env : Env} {x : Str} {px : Pos} {body : List Stmt} {I a : Addr} (hh : A.handled = none) (hne : a ≠ I) (hit : s.heap.IsListIter I a 0) (hl : s.heap.IsList a #[])
    (hR : ∀ h tk, OnlyBut I s.heap h → R (.ok .next) { s with heap := h, toks := tk }) : codeAny (model prog w) A (.forLoop (.Name x px) (.ref I) body [] env) R s := by
  refine forLoop_J (Walks.list hh I a hne #[]) (fun _ h => OnlyBut I s.heap h) ⟨hit, hl⟩ (fun _ _ _ e => e) (fun _ h h' k1 k2 b o hb e => k2 b o hb (k1 b o hb e)) ?_ (fun h tk k => hR h tk k)
  intro i v h tk hi
  exact absurd hi (Nat.not_lt_zero _)
/-- the end of the one turn -/
def OneEnd (s : Shared) (I a : Addr) (v : Value) (R : Result → Shared → Prop) (s₃ : Shared) : Prop :=
  ∃ h₃ tk₃, s₃ = { s with heap := h₃, toks := tk₃ } ∧ (h₃.IsListIter I a 1 ∧ h₃.IsList a #[v]) ∧ ∀ h' tk', OnlyBut I h₃ h' → R (.ok .next) { s with heap := h', toks := tk' }
theorem forLoop_one {prog : Program} {w : World} {A : Around} {R : Result → Shared → Prop} {s : Shared} {env : Env} {x : Str} {px : Pos} {body : List Stmt} {I a : Addr} {v : Value} (hh : A.handled = none) (hne : a ≠ I) (hit : s.heap.IsListIter I a 0) (hl : s.heap.IsList a #[v])
    (step : ∀ h tk, OnlyBut I s.heap h → h.IsListIter I a 1 → h.IsList a #[v] → wpAny (model prog w) A (storeName env x v) (fun _ s₂ => wpAny (model prog w) A (execs body env) (fun f s₃ => match f with
        | .next | .cont => OneEnd s I a v R s₃
        | .brk => R (.ok .next) s₃
        | .ret v => R (.ok (.ret v)) s₃) NoE s₂) NoE { s with heap := h, toks := tk }) : codeAny (model prog w) A (.forLoop (.Name x px) (.ref I) body [] env) R s := by
  refine forLoop_J (Walks.list hh I a hne #[v]) (fun i h => if i = 0 then OnlyBut I s.heap h else ∀ h' tk', OnlyBut I h h' → R (.ok .next) { s with heap := h', toks := tk' }) ⟨hit, hl⟩ (by rw [if_pos rfl]; exact fun _ _ _ e => e) ?_ ?_ ?_
  · intro i h h' hJ k2
    by_cases hi : i = 0
    · rw [if_pos hi] at hJ ⊢
      exact fun b o hb e => k2 b o hb (hJ b o hb e)
    · rw [if_neg hi] at hJ ⊢
      exact fun h'' tk'' k3 => hJ h'' tk'' fun b o hb e => k3 b o hb (k2 b o hb e)
  · intro i v' h tk hi hv hJ hst
    have hi0 : i = 0 := by simpa using hi
    subst hi0
    have hv' : v = v' := by simpa using hv
    subst hv'
    rw [if_pos rfl] at hJ
    refine wpAny_mono (step h tk hJ hst.1 hst.2) (fun _ s₂ h₂ => wpAny_mono h₂ (fun f s₃ h₃ => ?_) fun _ _ e => e) fun _ _ e => e
    cases f with
    | next => obtain ⟨h₄, tk₄, rfl, hs, hr⟩ := h₃; exact ⟨h₄, tk₄, rfl, by dsimp only; rw [if_neg (by omega)]; exact hr, hs⟩
    | cont => obtain ⟨h₄, tk₄, rfl, hs, hr⟩ := h₃; exact ⟨h₄, tk₄, rfl, by dsimp only; rw [if_neg (by omega)]; exact hr, hs⟩
    | brk => exact h₃
    | ret v => exact h₃
  · intro h tk hJ
    rw [if_neg (show ¬ (#[v] : Array Value).size = 0 from by simp)] at hJ
    exact hJ h tk fun _ _ _ e => e
/-- what _ellipsis_match answers where the three dots stand once -/
def emF (u v got : Str) : Bool := (u.length == 0 || Txt.startswith got u) && (v.length == 0 || Txt.endswith got v) && decide (u.length + v.length ≤ got.length)
theorem emF_f1 {u v got : Str} (h : Txt.startswith got u = false) (hu : (u.length : Int) ≠ 0) : emF u v got = false := by
  unfold emF; rw [h]; simp; omega
theorem emF_f2 {u v got : Str} (h : Txt.endswith got v = false) (hu : (v.length : Int) ≠ 0) : emF u v got = false := by
  unfold emF; rw [h]; simp; omega
theorem emF_f3 {u v got : Str} (h : ¬ u.length + v.length ≤ got.length) : emF u v got = false := by
  unfold emF; simp [h]
theorem emF_t {u v got : Str} (h1 : (u.length : Int) = 0 ∨ Txt.startswith got u = true) (h2 : (v.length : Int) = 0 ∨ Txt.endswith got v = true) (h : u.length + v.length ≤ got.length) : emF u v got = true := by
  unfold emF
  simp only [Bool.and_eq_true, Bool.or_eq_true, decide_eq_true_eq, beq_iff_eq]
  exact ⟨⟨h1.imp (by omega) id, h2.imp (by omega) id⟩, h⟩
theorem two_of_map {l : List (Str × Tok)} {u v : Str} (h : l.map (·.1) = [u, v]) : ∃ ta tb, l = [(u, ta), (v, tb)] := by
  match l, h with
  | [(a, ta), (b, tb)], h => simp at h; obtain ⟨rfl, rfl⟩ := h; exact ⟨ta, tb, rfl⟩
theorem match_call {w : World} {A : Around} {R : Result → Shared → Prop} {s : Shared} {mg mb : Str → Option Value} {mean : ExcName → Option Value}
    (X : (KH w).In s.heap) (T : Top topProg LN mean mg mb s.heap) (hroom : A.depth < 900) (hh : A.handled = none) (want got u v : Str) (t1 t2 : Tok) (hlen : want.length ≤ 16) (hlen2 : got.length ≤ 16) (hu : u.length ≤ 16) (hv : v.length ≤ 16)
    (hsp : Txt.split want (Str.ofString "...") = [u, v]) (hin : (Builtin.Str.occurrences want (Str.ofString "...") 0 want.length 1).isEmpty = false) (hne : 0 < u.length + v.length)
    (hR : ∀ h' tk, Keeps s.heap h' → R (.ok (.ret (.bool (emF u v got)))) { s with heap := h', toks := tk }) :
    codeAny (model PG w) A (.call (.ref 35) ⟨[.str want t1, .str got t2], []⟩) R s := by
  obtain ⟨ahd, ad, af, ag, au⟩ := A
  obtain rfl : ahd = none := hh
  refine call_plain_ret (binds := [("want", .str want t1), ("got", .str got t2)]) (Nat.lt_trans hroom (by decide)) (X 35 _ rfl) rfl T.nolimit ?hcd rfl (locs rfl) (fun h₁ F => ?_)
  case hcd => exact codeRec_of X rfl
  have N0 : News s.heap s.heap.objs.size h₁ [] := News.nil
  w_on
  repeat' ((fail_if_success (with_reducible show wpAny _ _ (storeName _ (Str.ofString "ws") _) _ _ _)); first | walk1 | (dsimp only; walk1) )
  rename (List.map _ _ = Txt.split _ _) => he
  rw [hsp] at he
  obtain ⟨ta, tb, rfl⟩ := two_of_map he
  rename Fr _ _ _ _ => F1
  rename News _ _ _ _ => N1
  have N2 : News _ _ _ [(_, lstO [.str u ta, .str v tb] 0)] := N1
  clear N1
  repeat' ((fail_if_success (with_reducible show wpAny _ _ (exec (Stmt.For _ _ _ _ _) _) _ _ _)); first | walk1 | (dsimp only; walk1) )
  all_goals first | ((with_reducible show wpAny _ _ (exec (Stmt.For _ _ _ _ _) _) _ _ _); refine wpAny_For ?_; walk1) | skip
  all_goals try
    ((first
      | (refine (show R (.ok (.ret (.bool false))) _ from ?_); rw [← emF_f1 (v := v) (by assumption) (by assumption)])
      | (refine (show R (.ok (.ret (.bool false))) _ from ?_); rw [← emF_f2 (u := u) (by assumption) (by assumption)])
      | (refine (show R (.ok (.ret (.bool false))) _ from ?_); rw [← emF_f3 (u := u) (v := v) (got := got) (by omega)]))
     exact hR _ _ (Fr.keep (by assumption)))
  · refine list_iter (by assumption) (by assumption) (.tail _ (.head _)) fun I h' hne' F9 N9 hnI hIL hI0 hit hl => ?_
    refine forLoop_none rfl hne' hit hl fun h tk k => ?_
    have F10 := frBut F9 hIL hI0 k
    repeat' (first | walk1 | (dsimp only; walk1) )
    refine (show R (.ok (.ret (.bool true))) _ from ?_)
    rw [← emF_t (u := u) (v := v) (got := got) (.inr (by assumption)) (.inr (by assumption)) (by omega)]
    exact hR _ _ F10.keep
  · refine list_iter (by assumption) (by assumption) (.tail _ (.head _)) fun I h' hne' F9 N9 hnI hIL hI0 hit hl => ?_
    refine forLoop_one rfl hne' hit hl fun h tk k hit1 hl1 => ?_
    have F10 := frBut F9 hIL hI0 k
    obtain ⟨o, ho, hoc, hod⟩ := hit1
    have N10 : News s.heap s.heap.objs.size h ((I, o) :: _) := fun p hp => by
      rcases List.mem_cons.mp hp with rfl | hp
      · exact ⟨ho, hIL, hI0⟩
      · exact newsBut N9 hnI k p hp
    clear F9 N9
    repeat' (first | ((with_reducible show wpAny _ _ (call (Value.builtin "str.find") _) _ _ _); refine find_empty (by omega) (by omega) (by omega) (by omega) ?_) | walk1 | (dsimp only; walk1) )
    refine ⟨_, _, rfl, ⟨⟨o, News.get (by assumption) (.head _), hoc, hod⟩, ⟨_, News.get (by assumption) (.tail _ (.tail _ (.head _))), rfl, _, rfl⟩⟩, fun h2 tk2 k2 => ?_⟩
    rename Fr _ _ _ _ => F11
    have F12 := frBut F11 hIL hI0 k2
    repeat' (first | walk1 | (dsimp only; walk1) )
    refine (show R (.ok (.ret (.bool true))) _ from ?_)
    rw [← emF_t (u := u) (v := v) (got := got) (by first | exact .inl (by omega) | exact .inr (by assumption)) (by first | exact .inl (by omega) | exact .inr (by assumption)) (by omega)]
    exact hR _ _ F12.keep
  · refine list_iter (by assumption) (by assumption) (.tail _ (.head _)) fun I h' hne' F9 N9 hnI hIL hI0 hit hl => ?_
    refine forLoop_one rfl hne' hit hl fun h tk k hit1 hl1 => ?_
    have F10 := frBut F9 hIL hI0 k
    obtain ⟨o, ho, hoc, hod⟩ := hit1
    have N10 : News s.heap s.heap.objs.size h ((I, o) :: _) := fun p hp => by
      rcases List.mem_cons.mp hp with rfl | hp
      · exact ⟨ho, hIL, hI0⟩
      · exact newsBut N9 hnI k p hp
    clear F9 N9
    repeat' (first | ((with_reducible show wpAny _ _ (call (Value.builtin "str.find") _) _ _ _); refine find_empty (by omega) (by omega) (by omega) (by omega) ?_) | walk1 | (dsimp only; walk1) )
    refine ⟨_, _, rfl, ⟨⟨o, News.get (by assumption) (.head _), hoc, hod⟩, ⟨_, News.get (by assumption) (.tail _ (.tail _ (.head _))), rfl, _, rfl⟩⟩, fun h2 tk2 k2 => ?_⟩
    rename Fr _ _ _ _ => F11
    have F12 := frBut F11 hIL hI0 k2
    repeat' (first | walk1 | (dsimp only; walk1) )
    refine (show R (.ok (.ret (.bool true))) _ from ?_)
    rw [← emF_t (u := u) (v := v) (got := got) (by first | exact .inl (by omega) | exact .inr (by assumption)) (by first | exact .inl (by omega) | exact .inr (by assumption)) (by omega)]
    exact hR _ _ F12.keep

/-- the text with a hyphen at a gap -/
def cutAt (x : Str) (k : Nat) : Str := Txt.slice x none (some (k : Nat)) ++ Str.ofString "-" ++ Txt.slice x (some (k : Nat)) none
def dotAt (x : Str) (k : Nat) : Str := replF (cutAt x k) (Str.ofString "...")
/-- what the walk must know of the dotted text -/
def DotOk (x : Str) (k : Nat) : Prop :=
  Txt.split (dotAt x k) (Str.ofString "...") = [Txt.slice x none (some (k : Nat)), Txt.slice x (some (k : Nat)) none] ∧
  (Builtin.Str.occurrences (dotAt x k) (Str.ofString "...") 0 (dotAt x k).length 1).isEmpty = false ∧ (dotAt x k).length ≤ 16 ∧
  0 < (Txt.slice x none (some (k : Nat))).length + (Txt.slice x (some (k : Nat)) none).length
def gapAt (x y : Str) (k : Nat) : Bool := emF (Txt.slice x none (some (k : Nat))) (Txt.slice x (some (k : Nat)) none) y
def gapsTo (x y : Str) : Nat → List Int
  | 0 => []
  | k + 1 => if gapAt x y k = true then gapsTo x y k ++ [(k : Int)] else gapsTo x y k
theorem gapsTo_len (x y : Str) : ∀ k, (gapsTo x y k).length ≤ k
  | 0 => Nat.le_refl _
  | k + 1 => by have := gapsTo_len x y k; unfold gapsTo; split <;> simp <;> omega
theorem gaps_call {w : World} {A : Around} {R : Result → Shared → Prop} {s : Shared} {mg mb : Str → Option Value} {mean : ExcName → Option Value}
    (X : (KH w).In s.heap) (T : Top topProg LN mean mg mb s.heap) (hroom : A.depth < 800) (hh : A.handled = none) (x y : Str) (t1 t2 : Tok) (hlen : x.length ≤ 7) (hlen2 : y.length ≤ 8) (hdot : ∀ k, k < y.length → DotOk x k)
    (hR : ∀ v h' tk, Keeps s.heap h' → IsInts h' v (gapsTo x y y.length) → R (.ok (.ret v)) { s with heap := h', toks := tk }) :
    codeAny (model PG w) A (.call (.ref 77) ⟨[.str x t1, .str y t2], []⟩) R s := by
  obtain ⟨ahd, ad, af, ag, au⟩ := A
  obtain rfl : ahd = none := hh
  refine call_plain_ret (binds := [("short", .str x t1), ("long", .str y t2)]) (Nat.lt_trans hroom (by decide)) (X 77 _ rfl) rfl T.nolimit ?hcd rfl (locs rfl) (fun h₁ F => ?_)
  case hcd => exact codeRec_of X rfl
  have N0 : News s.heap s.heap.objs.size h₁ [] := News.nil
  w_on
  refine wpAny_execs_cons ?_
  repeat' ((fail_if_success (with_reducible show wpAny _ _ (call (Value.type "range") _) _ _ _)); first | walk1 | (dsimp only; walk1) )
  refine call_range_iter (by omega) (by omega) fun I h' tk k hI hit => ?_
  rename Fr _ _ _ _ => F1
  rename News _ _ _ _ => N1
  obtain ⟨g, F1, N1⟩ : ∃ g, Fr s.heap s.heap.objs.size _ (fun z => if z = Str.ofString "gaps" then some (.ref g) else List.lookup z [(Str.ofString "short", Value.str x t1), (Str.ofString "long", Value.str y t2)].reverse) ∧ News s.heap s.heap.objs.size _ [(g, lstO [] 0)] := ⟨_, F1, N1⟩
  have F2 := frKept F1 k
  have N2 := newsFresh F1 N1 k hI hit
  have hIL := (N2 _ (.head _)).2.1
  have hI0 := (N2 _ (.head _)).2.2
  have hIg := (Nat.ne_of_lt (Nat.lt_of_lt_of_le (Heap.lt_size (N1 _ (.head _)).1) hI))
  have hgL := (N2 _ (.tail _ (.head _))).2.1
  have hg0 := (N2 _ (.tail _ (.head _))).2.2
  dsimp only at hIL hI0 hIg hgL hg0
  refine forLoop_J (Walks.range (by exact rfl) I 0 1 (y.length : Int).toNat) (fun i h => ∃ kv vs n, i ≤ y.length ∧ IntsAre vs (gapsTo x y i) ∧ News s.heap s.heap.objs.size h [(g, lstO vs n)] ∧
    Fr s.heap s.heap.objs.size h (fun z => if z = Str.ofString "k" then kv else if z = Str.ofString "gaps" then some (.ref g) else List.lookup z [(Str.ofString "short", Value.str x t1), (Str.ofString "long", Value.str y t2)].reverse)) (by exact hit) ?_ ?_ ?_ ?_
  · exact ⟨_, [], _, Nat.zero_le _, .nil, fun p hp => N2 p (.tail _ hp), frStart _ F2⟩
  · rintro i h h' ⟨kv, vs, n, hi, hv, N3, F3⟩ kk
    exact ⟨kv, vs, n, hi, hv, newsBut N3 (by intro p hp; rw [List.mem_singleton.mp hp]; exact hIg) kk, frBut F3 hIL hI0 kk⟩
  · rintro i v h tk hi ⟨tv, rfl⟩ ⟨kv, vs, n, hiy, hv, N3, F3⟩ hit3
    have N4 : News s.heap s.heap.objs.size h [(I, riO _ _ _), (g, lstO vs n)] := fun p hp => by
      rcases List.mem_cons.mp hp with rfl | hp
      · exact ⟨hit3, hIL, hI0⟩
      · exact N3 p hp
    clear F1 N1 F2 N2 hit k hI N3
    have hi' : i < y.length := by omega
    have hdi := hdot i hi'
    clear hdot
    rw [show (0 + (i : Int) * 1) = (i : Int) by omega]
    have hvl := hv.length
    have hgl := gapsTo_len x y i
    repeat' ((fail_if_success (with_reducible show wpAny _ _ (call (Value.ref 42) _) _ _ _)); first | walk1 | (dsimp only; walk1) )
    have e1 : (Str.ofString "-").length = 1 := by decide
    rename Fr _ _ _ _ => F5
    rename News _ _ _ _ => N5
    refine wpAny_call (replace_call (X.keeps F5.keep) (T.keeps F5.keep) (by show ad + 1 < 900; exact Nat.lt_trans (Nat.succ_lt_succ hroom) (by decide)) rfl _ _ _ _ _ (by omega) (by decide) fun t6 h6 tk6 k6 => ?_)
    have F6 := frKept F5 k6
    have N6 := newsKept N5 k6
    clear F5 N5
    repeat' ((fail_if_success (with_reducible show wpAny _ _ (call (Value.ref 35) _) _ _ _)); first | walk1 | (dsimp only; walk1) )
    obtain ⟨d1, d2, d3, d4⟩ := hdi
    refine wpAny_call (match_call (X.keeps F6.keep) (T.keeps F6.keep) (by show ad + 1 < 900; exact Nat.lt_trans (Nat.succ_lt_succ hroom) (by decide)) rfl (dotAt x i) y _ _ _ _ d3 (by omega) (by omega) (by omega) d1 d2 d4 fun h7 tk7 k7 => ?_)
    have F7 := frKept F6 k7
    have N7 := newsKept N6 k7
    clear F6 N6 d1 d2 d3 d4
    cases hb : gapAt x y i with
    | true =>
      have hb' : emF (Txt.slice x none (some (i : Nat))) (Txt.slice x (some (i : Nat)) none) y = true := hb
      rw [hb']
      clear hb'
      repeat' (first | walk1 | (dsimp only; walk1) )
      refine append_K (its := vs.toArray) (n := n) F7 N7 (.tail (Ne.symm hIg) (.head (fun _ q => nomatch q))) (fun h8 F8 N8 => ?_) (by rw [List.size_toArray, sizeLine_eq]; omega)
      rw [List.push_toArray] at N8
      repeat' (first | walk1 | (dsimp only; walk1) )
      refine ⟨_, _, rfl, ⟨_, vs ++ [Value.int (i : Nat) tv], n + 1, by omega, ?_, fun p hp => N8 p (.tail _ hp), frC2 F8 rfl rfl ?_⟩, N8.get (.head _)⟩
      · show IntsAre _ (if gapAt x y i = true then _ else _)
        rw [if_pos hb]
        exact hv.append (.cons _ _ .nil)
      · intro z e1 e2; simp only [e1, e2, if_false]
    | false =>
      have hb' : emF (Txt.slice x none (some (i : Nat))) (Txt.slice x (some (i : Nat)) none) y = false := hb
      rw [hb']
      clear hb'
      repeat' (first | walk1 | (dsimp only; walk1) )
      refine ⟨_, _, rfl, ⟨_, vs, n, by omega, ?_, fun p hp => N7 p (.tail _ hp), frC2 F7 rfl rfl ?_⟩, N7.get (.head _)⟩
      · show IntsAre _ (if gapAt x y i = true then _ else _)
        rw [if_neg (by rw [hb]; exact Bool.false_ne_true)]
        exact hv
      · intro z e1 e2; simp only [e1, e2, if_false]
  · rintro h tk ⟨kv, vs, n, hiy, hv, N3, F3⟩
    clear F1 N1 F2 N2 hit k hI
    rw [show ((y.length : Int).toNat) = y.length by omega] at hv
    repeat' (first | walk1 | (dsimp only; walk1) )
    exact hR _ _ _ F3.keep ⟨g, vs, n, rfl, N3.get (.head _), hv⟩

def gtF (a b : UInt64) : Bool := Float64.cmp a b == some Ordering.gt
def ltF (a b : UInt64) : Bool := Float64.cmp a b == some Ordering.lt
def pick3 (bt : UInt64 → UInt64 → Bool) (a b c : UInt64) : UInt64 := if bt b a then (if bt c b then c else b) else (if bt c a then c else a)
def fltAt (a b c : UInt64) : Nat → UInt64
  | 0 => a
  | 1 => b
  | _ => c
theorem fltAt_of {a b c : UInt64} {t u x : Tok} {i : Nat} {v : Value} (h : (#[Value.float a t, .float b u, .float c x] : Array Value)[i]? = some v) : ∃ t', v = .float (fltAt a b c i) t' := by
  match i, h with
  | 0, h => exact ⟨t, by simpa [fltAt] using h.symm⟩
  | 1, h => exact ⟨u, by simpa [fltAt] using h.symm⟩
  | 2, h => exact ⟨x, by simpa [fltAt] using h.symm⟩
  | i + 3, h => simp at h
theorem fltAt_best (bt : UInt64 → UInt64 → Bool) (a b c : UInt64) : fltAt a b c (argBest (fun i j => bt (fltAt a b c i) (fltAt a b c j)) 2) = pick3 bt a b c := by
  unfold pick3
  cases h1 : bt b a <;> cases h2 : bt c b <;> cases h3 : bt c a <;> simp [argBest, fltAt, h1, h2, h3]
section
variable {prog : Program} {w : World} {A : Around} {E : Value → Shared → Prop} {s : Shared} {a b c : UInt64} {t u x : Tok} {Q : Value → Shared → Prop}
theorem max3_floats (hh : A.handled = none) (h : ∀ h' tk t', Keeps s.heap h' → Q (.float (pick3 gtF a b c) t') { s with heap := h', toks := tk }) :
    wpAny (model prog w) A (call (.builtin "max") [.float a t, .float b u, .float c x]) Q E s := by
  have hT : (s.heap.push { cls := .type "tuple", data := .seq #[.float a t, .float b u, .float c x] }).IsTuple s.heap.objs.size #[.float a t, .float b u, .float c x] := ⟨_, Heap.get?_push_size _ rfl, rfl, 0, rfl⟩
  refine call_max_three (wpAny_pyIter_tuple hT ?_)
  have hsz : (s.heap.push { cls := .type "tuple", data := .seq #[.float a t, .float b u, .float c x] }).objs.size = s.heap.objs.size + 1 := Heap.size_push ..
  refine ⟨_, [_, s.heap.objs.size], [_], _, _, _, fun i j => gtF (fltAt a b c i) (fltAt a b c j), rfl, Walks.tuple (A := A.in1) hh _ s.heap.objs.size (by rw [hsz]; exact Nat.ne_of_lt (Nat.lt_succ_self _)) #[.float a t, .float b u, .float c x],
    ⟨⟨_, Heap.get?_push_size _ rfl, rfl, rfl⟩, hT.push _⟩, fun d hd => ?_, by simp, ?_, fun v h' tk hP hk => ?_⟩
  · show d < ((s.heap.push _).push _).objs.size
    rw [Heap.size_push, hsz]
    rcases List.mem_cons.mp hd with rfl | hd
    · rw [hsz]; exact Nat.lt_succ_self _
    · rw [List.mem_singleton.mp hd]; exact Nat.lt_succ_of_lt (Nat.lt_succ_self _)
  · intro i j vi vj s' Q' E' hi hj hq
    obtain ⟨ti, rfl⟩ := fltAt_of hi
    obtain ⟨tj, rfl⟩ := fltAt_of hj
    exact AutoFloatOps.gt_0 hq
  · obtain ⟨t', rfl⟩ := fltAt_of (by exact hP)
    have e : fltAt a b c (argBest (fun i j => gtF (fltAt a b c i) (fltAt a b c j)) 2) = pick3 gtF a b c := fltAt_best gtF a b c
    have e' : fltAt a b c (argBest (fun i j => gtF (fltAt a b c i) (fltAt a b c j)) ((#[Value.float a t, .float b u, .float c x] : Array Value).size - 1)) = pick3 gtF a b c := e
    rw [e']
    refine h _ _ _ fun d o e => hk d o (fun hm => ?_) (Heap.get?_push_of_some _ (Heap.get?_push_of_some _ e))
    have := Heap.lt_size e
    rw [List.mem_singleton.mp hm, hsz] at this
    exact Nat.lt_irrefl _ (Nat.lt_of_succ_lt this)
theorem min3_floats (hh : A.handled = none) (h : ∀ h' tk t', Keeps s.heap h' → Q (.float (pick3 ltF a b c) t') { s with heap := h', toks := tk }) :
    wpAny (model prog w) A (call (.builtin "min") [.float a t, .float b u, .float c x]) Q E s := by
  have hT : (s.heap.push { cls := .type "tuple", data := .seq #[.float a t, .float b u, .float c x] }).IsTuple s.heap.objs.size #[.float a t, .float b u, .float c x] := ⟨_, Heap.get?_push_size _ rfl, rfl, 0, rfl⟩
  refine call_min_three (wpAny_pyIter_tuple hT ?_)
  have hsz : (s.heap.push { cls := .type "tuple", data := .seq #[.float a t, .float b u, .float c x] }).objs.size = s.heap.objs.size + 1 := Heap.size_push ..
  refine ⟨_, [_, s.heap.objs.size], [_], _, _, _, fun i j => ltF (fltAt a b c i) (fltAt a b c j), rfl, Walks.tuple (A := A.in1) hh _ s.heap.objs.size (by rw [hsz]; exact Nat.ne_of_lt (Nat.lt_succ_self _)) #[.float a t, .float b u, .float c x],
    ⟨⟨_, Heap.get?_push_size _ rfl, rfl, rfl⟩, hT.push _⟩, fun d hd => ?_, by simp, ?_, fun v h' tk hP hk => ?_⟩
  · show d < ((s.heap.push _).push _).objs.size
    rw [Heap.size_push, hsz]
    rcases List.mem_cons.mp hd with rfl | hd
    · rw [hsz]; exact Nat.lt_succ_self _
    · rw [List.mem_singleton.mp hd]; exact Nat.lt_succ_of_lt (Nat.lt_succ_self _)
  · intro i j vi vj s' Q' E' hi hj hq
    obtain ⟨ti, rfl⟩ := fltAt_of hi
    obtain ⟨tj, rfl⟩ := fltAt_of hj
    exact AutoFloatOps.lt_0 hq
  · obtain ⟨t', rfl⟩ := fltAt_of (by exact hP)
    have e : fltAt a b c (argBest (fun i j => ltF (fltAt a b c i) (fltAt a b c j)) 2) = pick3 ltF a b c := fltAt_best ltF a b c
    have e' : fltAt a b c (argBest (fun i j => ltF (fltAt a b c i) (fltAt a b c j)) ((#[Value.float a t, .float b u, .float c x] : Array Value).size - 1)) = pick3 ltF a b c := e
    rw [e']
    refine h _ _ _ fun d o e => hk d o (fun hm => ?_) (Heap.get?_push_of_some _ (Heap.get?_push_of_some _ e))
    have := Heap.lt_size e
    rw [List.mem_singleton.mp hm, hsz] at this
    exact Nat.lt_irrefl _ (Nat.lt_of_succ_lt this)
end
/-- the hue that rgb_to_hsv reckons, the greatest and the least at hand -/
def hueF (a b c mx mn : UInt64) : UInt64 :=
  let d := Float64.sub mx mn
  let rc := Float64.div (Float64.sub mx a) d
  let gc := Float64.div (Float64.sub mx b) d
  let bc := Float64.div (Float64.sub mx c) d
  let h := if (Float64.cmp a mx == some Ordering.eq) = true then Float64.sub bc gc else if (Float64.cmp b mx == some Ordering.eq) = true then Float64.sub (Float64.add 0x4000000000000000 rc) bc else Float64.sub (Float64.add 0x4010000000000000 gc) rc
  (Float64.divmod (Float64.div h 0x4018000000000000) 0x3ff0000000000000).2
theorem rgb_call {w : World} {A : Around} {R : Result → Shared → Prop} {s : Shared} {mg mb : Str → Option Value} {mean : ExcName → Option Value}
    (X : (KH w).In s.heap) (T : Top topProg LN mean mg mb s.heap) (hroom : A.depth < 900) (hh : A.handled = none) (a b c : UInt64) (t1 t2 t3 : Tok) (mx mn : UInt64) (hmx : pick3 gtF a b c = mx) (hmn : pick3 ltF a b c = mn)
    (h1 : (Float64.cmp mn mx == some Ordering.eq) = false) (h2 : Float64.isZero mx = false) (h3 : Float64.isZero (Float64.sub mx mn) = false)
    (hR : ∀ D h' tk x t v2 v3, Keeps s.heap h' → h'.get? D = some (tupO [.float x t, v2, v3]) → x = hueF a b c mx mn → R (.ok (.ret (.ref D))) { s with heap := h', toks := tk }) :
    codeAny (model PG w) A (.call (.ref 21) ⟨[.float a t1, .float b t2, .float c t3], []⟩) R s := by
  obtain ⟨ahd, ad, af, ag, au⟩ := A
  obtain rfl : ahd = none := hh
  refine call_plain_ret (binds := [("r", .float a t1), ("g", .float b t2), ("b", .float c t3)]) (Nat.lt_trans hroom (by decide)) (X 21 _ rfl) rfl T.nolimit ?hcd rfl (locs rfl) (fun h₁ F => ?_)
  case hcd => exact codeRec_of X rfl
  have N0 : News s.heap s.heap.objs.size h₁ [] := News.nil
  w_on
  repeat' ((fail_if_success (with_reducible show wpAny _ _ (call (Value.builtin "max") _) _ _ _)); first | walk1 | (dsimp only; walk1) )
  refine max3_floats rfl fun h5 tk5 t5 k5 => ?_
  rw [hmx]
  have F1 := frKept F k5
  clear F N0
  repeat' ((fail_if_success (with_reducible show wpAny _ _ (call (Value.builtin "min") _) _ _ _)); first | walk1 | (dsimp only; walk1) )
  refine min3_floats rfl fun h6 tk6 t6 k6 => ?_
  rw [hmn]
  rename Fr _ _ _ _ => F2
  have F3 := frKept F2 k6
  have N3 : News s.heap s.heap.objs.size h6 [] := News.nil
  clear F2 F1
  repeat' (first | walk1 | (dsimp only; walk1) )
  all_goals
    (refine hR _ _ _ _ _ _ _ (Fr.keep (by assumption)) (News.get (by assumption) (.head _)) ?_
     unfold hueF
     (repeat' split) <;> first | rfl | (exfalso; simp_all; done))

theorem star_tup {prog : Program} {w : World} {A : Around} {E : Value → Shared → Prop} {s : Shared} {a : Addr} {vs : List Value} {Q : List Value → Shared → Prop} (ha : s.heap.get? a = some (tupO vs)) (hz : vs.length ≤ sizeLine)
    (h : ∀ h', Keeps s.heap h' → Q vs { s with heap := h' }) : StarOf (model prog w) A E (.ref a) Q s := by
  have hT' : s.TypeIs (.ref a) "tuple" := ⟨_, ha, rfl⟩
  have z : wpAny (model prog w) A (collect (.ref a)) Q E s :=
    wpAny_collect_seq a (.inr rfl) ha rfl rfl (fun h' hk => h h' hk) (by rw [List.size_toArray]; exact hz)
  unfold StarOf notIterableAtAll
  exact wpAny_bind (wpAny_specialOf hT' PySem.F.slot_tuple_iter.lookup (wpAny_pure ⟨rfl, z⟩))
/-- what the walk must know of a colour; e: the eighths of its hue -/
def hueOk (x y z : UInt64) (e : Int) : Bool :=
  let mx := pick3 gtF x y z
  let mn := pick3 ltF x y z
  !(Float64.cmp mn mx == some Ordering.eq) && !Float64.isZero mx && !Float64.isZero (Float64.sub mx mn) &&
  Float64.isFinite (Float64.mul (hueF x y z mx mn) (Float64.ofInt 8)) && PySem.Flt.toInt Float64.truncOf (Float64.mul (hueF x y z mx mn) (Float64.ofInt 8)) == e
theorem eighths_call {w : World} {A : Around} {R : Result → Shared → Prop} {s : Shared} {mg mb : Str → Option Value} {mean : ExcName → Option Value}
    (X : (KH w).In s.heap) (T : Top topProg LN mean mg mb s.heap) (hroom : A.depth < 800) (hh : A.handled = none) (r : Addr) (x y z : UInt64) (u1 u2 u3 : Tok) (e : Int) (hr : s.heap.get? r = some (tupO [.float x u1, .float y u2, .float z u3])) (hok : hueOk x y z e = true)
    (hR : ∀ t h' tk, Keeps s.heap h' → R (.ok (.ret (.int e t))) { s with heap := h', toks := tk }) :
    codeAny (model PG w) A (.call (.ref 63) ⟨[.ref r], []⟩) R s := by
  obtain ⟨ahd, ad, af, ag, au⟩ := A
  obtain rfl : ahd = none := hh
  unfold hueOk at hok
  simp only [Bool.and_eq_true, Bool.not_eq_true', beq_iff_eq] at hok
  obtain ⟨⟨⟨⟨o1, o2⟩, o3⟩, o4⟩, o5⟩ := hok
  refine call_plain_ret (binds := [("colour", .ref r)]) (Nat.lt_trans hroom (by decide)) (X 63 _ rfl) rfl T.nolimit ?hcd rfl (locs rfl) (fun h₁ F => ?_)
  case hcd => exact codeRec_of X rfl
  w_on
  repeat' ((fail_if_success (with_reducible show wpAny _ _ (callWith _ (Value.ref 21) _ _ _) _ _ _)); first | walk1 | (dsimp only; walk1) )
  refine callWith_S X (keep_fn w 21 (by decide)) ?_
  repeat' ((fail_if_success (with_reducible show StarOf _ _ _ _ _ _)); first | walk1 | (dsimp only; walk1) )
  refine star_tup (F.keep _ _ hr) (by rw [sizeLine_eq]; simp) fun h2 k2 => ?_
  have F2 := frKept F k2
  refine ⟨X.keeps F2.keep, ?_⟩
  refine wpAny_call (rgb_call (X.keeps F2.keep) (T.keeps F2.keep) (by show ad + 1 < 900; exact Nat.lt_trans (Nat.succ_lt_succ hroom) (by decide)) rfl x y z _ _ _ _ _ rfl rfl (by simpa using o1) o2 o3 fun D h3 tk3 x3 t3 v2 v3 k3 hD hx => ?_)
  subst hx
  have F3 := frKept F2 k3
  clear F F2
  repeat' ((fail_if_success (with_reducible show wpAny _ _ (subscriptTail _ _ (Value.ref _) _) _ _ _)); first | walk1 | (dsimp only; walk1) )
  refine item_tupleT (l := [.float _ t3, v2, v3]) ⟨_, hD, rfl, _, rfl⟩ (by decide) (by decide) rfl rfl ?_
  repeat' (first | ((with_reducible show wpAny _ _ (call (Value.type "int") [Value.float _ _]) _ _ _); refine call_int_fin o4 ?_; rw [o5]) | walk1 | (dsimp only; walk1) )
  exact hR _ _ _ F3.keep
theorem seal_same : ∀ T : Fin 37, ∀ sh lv : Fin 4, sealF (T.val : Nat) sh.val lv.val = sealF (T.val % 8 : Nat) sh.val lv.val := by decide +kernel
theorem seal_hue8 : ∀ T : Fin 8, ∀ sh lv : Fin 4, hueOk (sealF (T.val : Nat) sh.val lv.val).1 (sealF (T.val : Nat) sh.val lv.val).2.1 (sealF (T.val : Nat) sh.val lv.val).2.2 ((T.val : Nat) : Int) = true := by decide +kernel
/-- every seal's hue: the eighths of its turn, whole turns left out -/
theorem seal_hue {T : Int} (h0 : 0 ≤ T) (h1 : T ≤ 36) {sh lv : Nat} (hs : sh < 4) (hl : lv < 4) : sealF T sh lv = sealF (T % 8) sh lv ∧ hueOk (sealF T sh lv).1 (sealF T sh lv).2.1 (sealF T sh lv).2.2 (T % 8) = true := by
  have e0 : ((T.toNat : Nat) : Int) = T := by omega
  have e1 : ((T.toNat % 8 : Nat) : Int) = T % 8 := by omega
  have a := seal_same ⟨T.toNat, by omega⟩ ⟨sh, hs⟩ ⟨lv, hl⟩
  have b := seal_hue8 ⟨T.toNat % 8, by omega⟩ ⟨sh, hs⟩ ⟨lv, hl⟩
  dsimp only at a b
  rw [e0, e1] at a
  rw [e1, ← a] at b
  exact ⟨a, b⟩

/-- tuples are never changed -/
def TupKeep (h h' : Heap) : Prop := ∀ b vs, h.get? b = some (tupO vs) → h'.get? b = some (tupO vs)
def NotTup (o : Obj) : Prop := ∀ vs, o ≠ tupO vs
theorem Keeps.tup {h h' : Heap} (k : Keeps h h') : TupKeep h h' := fun b _ e => k b _ e
theorem TupKeep.trans {h h' h'' : Heap} (a : TupKeep h h') (b : TupKeep h' h'') : TupKeep h h'' := fun x vs e => b x vs (a x vs e)
theorem TupKeep.but {h h' : Heap} {wr : List Addr} (hw : ∀ a ∈ wr, ∃ o, h.get? a = some o ∧ NotTup o) (k : ∀ b o, b ∉ wr → h.get? b = some o → h'.get? b = some o) : TupKeep h h' := fun b vs e =>
  k b _ (fun hb => by obtain ⟨o', e', n⟩ := hw b hb; rw [e] at e'; cases e'; exact n vs rfl) e
theorem TupKeep.sameBut {h h' : Heap} {a : Addr} {o : Obj} (ho : h.get? a = some o) (hc : NotTup o) (k : Heap.SameBut a h h') : TupKeep h h' := fun b vs e =>
  (k.2 b (fun q => by subst q; rw [e] at ho; cases ho; exact hc vs rfl)).trans e
theorem NotTup.lst (ys : List Value) (n : Nat) : NotTup (lstO ys n) := fun vs h => absurd (congrArg Obj.cls h) (by show Value.type "list" ≠ Value.type "tuple"; decide)
theorem NotTup.dict {o : Obj} (h : ∃ es ep, o.data = .dict es ep) : NotTup o := fun vs q => by subst q; obtain ⟨es, ep, e⟩ := h; cases e
theorem NotTup.fields {o : Obj} {vs : Array Value} (h : o.data = .fields vs) : NotTup o := fun xs q => by subst q; cases h
theorem NotTup.cell {o : Obj} {v : Option Value} (h : o.data = .cell v) : NotTup o := fun xs q => by subst q; cases h
def KeepsBut (wr : List Addr) (h h' : Heap) : Prop := ∀ b o, b ∉ wr → h.get? b = some o → h'.get? b = some o
/-- nothing but the heap and the token count has moved -/
def Same (s s' : Shared) : Prop := ∃ h tk, s' = { s with heap := h, toks := tk }
theorem Same.rfl' {s : Shared} : Same s s := ⟨_, _, rfl⟩
theorem Same.to {s : Shared} (h : Heap) (tk : Nat) : Same s { s with heap := h, toks := tk } := ⟨_, _, rfl⟩
theorem Same.trans {s s' s'' : Shared} (a : Same s s') (b : Same s' s'') : Same s s'' := by
  obtain ⟨h, tk, rfl⟩ := a; obtain ⟨h', tk', rfl⟩ := b; exact ⟨h', tk', rfl⟩
abbrev testsOf (ifs : List Expr) (cenv : Env) : Sem Bool := forIn ifs true fun c r => if r = true then do let ok ← isTrue c cenv (eval c cenv); pure (ForInStep.yield ok) else pure (ForInStep.yield r)
/-- what stands while a comprehension's loop goes: its own names at C, its list at D, the rest kept -/
def CompInv (h₂ : Heap) (wr : List Addr) (C D : Addr) (Good : Nat → List Value → Heap → Prop) (i : Nat) (h : Heap) : Prop :=
  ∃ m ys n, h.Ns C m ∧ h.get? D = some (lstO ys n) ∧ ys.length ≤ i ∧ KeepsBut wr h₂ h ∧ Good i ys h
/-- one turn of a comprehension: what the tests and the element do -/
def CompTurnOk (prog : Program) (w : World) (A : Around) (cenv : Env) (ifs : List Expr) (elt : Expr) (Good : Nat → List Value → Heap → Prop) (i : Nat) (ys : List Value) (s₃ : Shared) : Prop :=
  wpAny (model prog w) A (testsOf ifs cenv) (fun ok s₄ => Same s₃ s₄ ∧ Keeps s₃.heap s₄.heap ∧
    (if ok = true then wpAny (model prog w) A (eval elt cenv) (fun y s₅ => Same s₄ s₅ ∧ Keeps s₄.heap s₅.heap ∧ Good (i + 1) (ys ++ [y]) s₅.heap) NoE s₄ else Good (i + 1) ys s₄.heap)) NoE s₃
section
variable {prog : Program} {w : World} {A : Around} {R : Result → Shared → Prop} {s : Shared}
theorem ns_obj {h : Heap} {a : Addr} {m : Str → Option Value} (x : h.Ns a m) : ∃ o, h.get? a = some o ∧ ∃ es ep, o.data = .dict es ep := let ⟨o, es, ep, e, hd, _⟩ := x; ⟨o, e, es, ep, hd⟩
/-- the emitting loop, at the only clause -/
theorem compLoop_one {elt iter : Expr} {x : Str} {px : Pos} {ifs : List Expr} {scope : Scope} {pos : Pos} {cenv : Env} {I D : Addr} {fp wr : List Addr} {n : Nat} {P : Nat → Value → Prop} {St : Nat → Heap → Prop} {h₂ : Heap}
    {Good : Nat → List Value → Heap → Prop} (W : Walks prog w A I fp wr n P St) (hn : n ≤ 1000)
    (hx : cenv.kindOf x = some .local) (hp : (cenv.scope.kind == .class || (cenv.scope.kind == .module && cenv.locals != cenv.globals)) = false)
    (hCw : cenv.locals ∉ fp) (hDw : D ∉ fp) (hCD : D ≠ cenv.locals) (hC2 : h₂.get? cenv.locals = none) (hD2 : h₂.get? D = none)
    (hnt : ∀ i h, St i h → ∀ b ∈ wr, ∃ o, h.get? b = some o ∧ NotTup o)
    (hG : ∀ i ys h h', Good i ys h → TupKeep h h' → Good i ys h')
    (hst : St 0 s.heap) (h0 : CompInv h₂ wr cenv.locals D Good 0 s.heap)
    (step : ∀ i v ys s₃ m₃, i < n → P i v → Same s s₃ → s.toks ≤ s₃.toks → s₃.heap.Ns cenv.locals m₃ → m₃ x = some v → KeepsBut wr h₂ s₃.heap → Good i ys s₃.heap → CompTurnOk prog w A cenv ifs elt Good i ys s₃)
    (hR : ∀ h tk, CompInv h₂ wr cenv.locals D Good n h → R (.ok .next) { s with heap := h, toks := tk }) :
    codeAny (model prog w) A (.compLoop (.ListComp elt [⟨.Name x px, iter, ifs, 0⟩] scope pos) 0 (.ref I) (.ref D) cenv) R s := by
  refine codeAny_compLoop_tests (fun k s' => ∃ h' tk i, s' = { s with heap := h', toks := tk } ∧ s.toks ≤ tk ∧ St i h' ∧ CompInv h₂ wr cenv.locals D Good i h' ∧ i ≤ n ∧ k = n + 1 - i) ?_ (n + 1) ⟨s.heap, s.toks, 0, rfl, Nat.le_refl _, hst, h0, Nat.zero_le _, rfl⟩
  rintro k s' ⟨h', tk, i, rfl, htk, hst', ⟨m, ys, ny, hns, hD, hlen, hk2, hgood⟩, hi, rfl⟩
  have hCwr : cenv.locals ∉ wr := fun q => hCw (W.sub _ q)
  have hDwr : D ∉ wr := fun q => hDw (W.sub _ q)
  by_cases hlt : i < n
  · refine wpAny_le_toks (W.item i _ _ _ hlt hst' fun v h₁ tk₁ hP hst₁ hk₁ hle1 => ?_)
    have hle1' : tk ≤ tk₁ := hle1
    have t1 : TupKeep h' h₁ := TupKeep.but (hnt i h' hst') hk₁
    have hns₁ : h₁.Ns cenv.locals m := hns.at' fun o e => hk₁ _ o hCwr e
    refine wpAny_assign_Name (wpAny_storeName_local hx hns₁ (fun h₃ hns₃ hsb₃ => ?_) hp)
    obtain ⟨oC, hoC, hdC⟩ := ns_obj hns₁
    have hk21 : KeepsBut wr h₂ h₁ := fun b o hb e => hk₁ b o hb (hk2 b o hb e)
    have t3 : TupKeep h₁ h₃ := TupKeep.sameBut hoC (NotTup.dict hdC) hsb₃
    have hk23 : KeepsBut wr h₂ h₃ := fun b o hb e => (hsb₃.2 b (fun q => by rw [q, hC2] at e; cases e)).trans (hk21 b o hb e)
    have hD₃ : h₃.get? D = some (lstO ys ny) := (hsb₃.2 D hCD).trans (hk₁ D _ hDwr hD)
    have hst₃ : St (i + 1) h₃ := W.frame _ _ _ hst₁ fun b hb o e => (hsb₃.2 b fun q => hCw (q ▸ hb)).trans e
    have st := step i v ys { s with heap := h₃, toks := tk₁ + 1 } _ hlt hP (Same.to _ _) (Nat.le_succ_of_le (Nat.le_trans htk hle1')) hns₃ (by simp) hk23 (hG _ _ _ _ hgood (t1.trans t3))
    refine wpAny_mono (wpAny_toks st) (fun ok s₄ h₄ => ?_) fun _ _ e => e.elim
    obtain ⟨hle4, ⟨h4, tk4, rfl⟩, k4, h₄⟩ := h₄
    have hle4' : s.toks ≤ tk4 := Nat.le_trans (Nat.le_succ_of_le (Nat.le_trans htk hle1')) hle4
    have k4' : ∀ b o, h₃.get? b = some o → h4.get? b = some o := k4
    cases ok with
    | false =>
      rw [if_neg Bool.false_ne_true] at h₄ ⊢
      exact ⟨n + 1 - (i + 1), by omega, h4, tk4, i + 1, rfl, hle4', W.frame _ _ _ hst₃ fun b _ o e => k4' b o e, ⟨_, ys, ny, hns₃.keeps k4', k4' _ _ hD₃, by omega, fun b o hb e => k4' b o (hk23 b o hb e), h₄⟩, hlt, rfl⟩
    | true =>
      rw [if_pos rfl] at h₄ ⊢
      refine wpAny_mono (wpAny_toks h₄) (fun y s₅ h₅ => ?_) fun _ _ e => e.elim
      obtain ⟨hle5, ⟨h5, tk5, rfl⟩, k5, h₅⟩ := h₅
      have hle5' : s.toks ≤ tk5 := Nat.le_trans hle4' hle5
      have k5' : ∀ b o, h4.get? b = some o → h5.get? b = some o := k5
      have k35 : ∀ b o, h₃.get? b = some o → h5.get? b = some o := fun b o e => k5' b o (k4' b o e)
      have hD5 : h5.get? D = some (listOf ys.toArray ny) := k35 _ _ hD₃
      refine append_at (hsz := by rw [List.size_toArray, sizeLine_eq]; omega) hD5 fun h6 hs6 ho6 => ?_
      have t6 : TupKeep h5 h6 := TupKeep.sameBut hD5 (NotTup.lst ys ny) hs6
      refine ⟨n + 1 - (i + 1), by omega, h6, tk5, i + 1, rfl, hle5', W.frame _ _ _ hst₃ fun b hb o e => (hs6.2 b fun q => hDw (q ▸ hb)).trans (k35 b o e), ⟨_, ys ++ [y], ny + 1, (hns₃.keeps k35).sameBut hs6 (Ne.symm hCD), ?_, by simp; omega, ?_, hG _ _ _ _ h₅ t6⟩, hlt, rfl⟩
      · rw [List.push_toArray] at ho6; exact ho6
      · intro b o hb e
        exact (hs6.2 b (fun q => by rw [q, hD2] at e; cases e)).trans (k35 b o (hk23 b o hb e))
  · have hin : i = n := by omega
    subst hin
    refine W.done _ _ _ hst' fun h₁ tk₁ hk₁ => ?_
    have t1 : TupKeep h' h₁ := TupKeep.but (hnt _ h' hst') hk₁
    exact hR h₁ tk₁ ⟨m, ys, ny, hns.at' fun o e => hk₁ _ o hCwr e, hk₁ D _ hDwr hD, hlen, fun b o hb e => hk₁ b o hb (hk2 b o hb e), hG _ _ _ _ hgood t1⟩
end
section
variable {prog : Program} {w : World} {A : Around} {s : Shared} {env : Env}
/-- a list comprehension with one clause -/
theorem comp1 {elt iter : Expr} {x : Str} {px : Pos} {ifs : List Expr} {scope : Scope} {cl : List (Str × Addr)} {pos : Pos} {Q : Value → Shared → Prop} (Good : Nat → List Value → Heap → Prop)
    (hG : ∀ i ys h h', Good i ys h → TupKeep h h' → Good i ys h')
    (hclos : closureFor scope env = pure cl) (hcell : ∀ y ∈ scope.names, y.2 ≠ .cell) (hkind : scope.kind = .function)
    (hnames : ∀ y ∈ scope.names, y.2 = .local → scope.names.lookup y.1 = some .local) (hx : scope.names.lookup x = some .local)
    (h : wpAny (model prog w) A (eval iter env) (fun xv s₁ => wpAny (model prog w) A (pyIter xv) (fun it s₂ => ∃ I fp wr n P St, it = .ref I ∧ Walks prog w A I fp wr n P St ∧ n ≤ 1000 ∧ St 0 s₂.heap ∧ (∀ b ∈ fp, b < s₂.heap.objs.size) ∧
      (∀ i h, St i h → ∀ b ∈ wr, ∃ o, h.get? b = some o ∧ NotTup o) ∧ Good 0 [] s₂.heap ∧
      (∀ C i v ys s₃ m₃, s₂.heap.objs.size ≤ C → i < n → P i v → Same s₂ s₃ → s₂.toks ≤ s₃.toks → s₃.heap.Ns C m₃ → m₃ x = some v → KeepsBut wr s₂.heap s₃.heap → Good i ys s₃.heap → CompTurnOk prog w A (compEnvC scope cl C env) ifs elt Good i ys s₃) ∧
      (∀ D h' tk ys n', s₂.heap.get? D = none → h'.get? D = some (lstO ys n') → KeepsBut wr s₂.heap h' → Good n ys h' → Q (.ref D) { s₂ with heap := h', toks := tk })) NoE s₁) NoE s)
    (hs : ∀ x, foldedSetIterable iter env x = pure x := by intro _; rfl) :
    wpAny (model prog w) A (eval (.ListComp elt [⟨.Name x px, iter, ifs, 0⟩] scope pos) env) Q NoE s := by
  rw [eval_ListComp]
  refine wpAny_comprehension_free (use := none) rfl hs hclos hkind hnames (wpAny_mono h (fun xv s₁ h₁ => wpAny_mono h₁ (fun it s₂ h₂ => ?_) fun _ _ e => e) fun _ _ e => e)
  obtain ⟨I, fp, wr, n, P, St, rfl, W, hsz, hst, hfp, hnt, hg0, hstep, hQ⟩ := h₂
  refine wpAny_newObj_type (wpAny_newFunctionEnv hcell (by intro y hy; simp at hy) (fun h₁ hns₁ hsb₁ => ?_) hkind)
  dsimp only at hns₁ hsb₁ ⊢
  generalize hH2 : s₂.heap.push { cls := .type "list", dict := none, data := .seq ([] : List Value).toArray } = H2 at hns₁ hsb₁ ⊢
  have hC : H2.objs.size = s₂.heap.objs.size + 1 := by rw [← hH2, Heap.size_push]
  have hDC : s₂.heap.objs.size ≠ H2.objs.size := by rw [hC]; exact Nat.ne_of_lt (Nat.lt_succ_self _)
  have below : ∀ b, b < s₂.heap.objs.size → b ≠ H2.objs.size ∧ b ≠ s₂.heap.objs.size := fun b hb => ⟨by rw [hC]; exact Nat.ne_of_lt (Nat.lt_succ_of_lt hb), Nat.ne_of_lt hb⟩
  have hDf : s₂.heap.objs.size ∉ fp := fun hm => Nat.lt_irrefl _ (hfp _ hm)
  have hCf : H2.objs.size ∉ fp := fun hm => by have := hfp _ hm; rw [hC] at this; exact Nat.lt_irrefl _ (Nat.lt_of_succ_lt this)
  have old : Keeps s₂.heap h₁ := fun b o e => hsb₁.extBut b o (below b (Heap.lt_size e)).1 (Heap.get?_push_of_some _ (hH2 ▸ Heap.get?_push_of_some _ e))
  have hacc : h₁.get? s₂.heap.objs.size = some (lstO [] 0) := hsb₁.extBut _ _ hDC (Heap.get?_push_of_some _ (hH2 ▸ Heap.get?_push_size _ rfl))
  have hst₁ : St 0 h₁ := W.frame _ _ _ hst fun b _ o e => old b o e
  have fresh : ∀ a, s₂.heap.objs.size ≤ a → s₂.heap.get? a = none := fun a ha => by
    cases e : s₂.heap.get? a with
    | none => rfl
    | some o' => exact absurd (Heap.lt_size e) (Nat.not_lt.mpr ha)
  have hDn := fresh s₂.heap.objs.size (Nat.le_refl _)
  have hCn := fresh H2.objs.size (by rw [hC]; exact Nat.le_succ _)
  have loop : ∀ s₃ : Shared, s₃ = { s₂ with heap := h₁, toks := s₂.toks + ([] : List (Str × Value)).length } →
      codeAny (model prog w) A (.compLoop (.ListComp elt [⟨.Name x px, iter, ifs, 0⟩] scope pos) 0 (.ref I) (.ref s₂.heap.objs.size) (compEnvC scope cl H2.objs.size env))
        (compPost (model prog w) A NoE none Q (.ref s₂.heap.objs.size) H2.objs.size) s₃ := by
    rintro s₃ rfl
    refine compLoop_one (cenv := compEnvC scope cl H2.objs.size env) (h₂ := s₂.heap) W hsz (lookup_relabel_local hx) (by simp [compEnvC, relabel, hkind]) hCf hDf hDC hCn hDn hnt hG hst₁
      ⟨_, [], 0, hns₁, hacc, Nat.le_refl _, fun b o _ e => old b o e, hG _ _ _ _ hg0 old.tup⟩ (fun i v ys s₃ m₃ hi hv hsm hle hns hm hk hg => hstep H2.objs.size i v ys s₃ m₃ (by rw [hC]; exact Nat.le_succ _) hi hv ?_ (Nat.le_trans (by simp) hle) hns hm hk hg) fun h tk hinv => ?_
    · exact Same.trans (Same.to _ _) hsm
    · obtain ⟨m, ys, n', hns, hD, _, hk, hg⟩ := hinv
      refine ⟨m, hns, fun h' hs' => ?_⟩
      obtain ⟨oC, hoC, hdC⟩ := ns_obj hns
      exact hQ _ h' tk ys n' hDn ((hs'.2 _ hDC).trans hD) (fun b o hb e => (hs'.2 b (fun q => by rw [q] at e; exact nomatch (hCn.symm.trans e))).trans (hk b o hb e)) (hG _ _ _ _ hg (TupKeep.sameBut hoC (NotTup.dict hdC) hs'))
  exact codeAny_compStart_list (loop _ rfl) (W.self 0 _ _ _ hst₁ (loop _ rfl))
end

/-! the set's table, in plain Lean -/
open PySem.SetTable in
def T0 (M : Nat) : SetTable := { mask := M, place := #[], dummies := #[], finger := 0, led := true, moves := 0, plain := true }
def adv (M : Nat) (p : SetTable.Probe) : SetTable.Probe := (T0 M).advance p
def stt (M : Nat) (h : Int) : SetTable.Probe := (T0 M).probeStart h
theorem adv_eq {t : SetTable} {M : Nat} (e : t.mask = M) (p : SetTable.Probe) : t.advance p = adv M p := by subst e; rfl
theorem stt_eq {t : SetTable} {M : Nat} (e : t.mask = M) (h : Int) : t.probeStart h = stt M h := by subst e; rfl
def itn (M : Nat) : Nat → SetTable.Probe → SetTable.Probe
  | 0, p => p
  | k + 1, p => itn M k (adv M p)
theorem itn_add (M : Nat) : ∀ (a b : Nat) (p : SetTable.Probe), itn M (a + b) p = itn M b (itn M a p)
  | 0, b, p => by rw [Nat.zero_add]; rfl
  | a + 1, b, p => by rw [Nat.succ_add]; exact itn_add M a b (adv M p)
theorem itn_succ (M k : Nat) (p : SetTable.Probe) : itn M (k + 1) p = adv M (itn M k p) := itn_add M k 1 p
/-- a run's start -/
def rs (M i q : Nat) : SetTable.Probe := { j := i, more := SetTable.runEnd M i - i, i, perturb := q, dummy := none }
def lp (M : Nat) (x : Nat × Nat) : Nat × Nat := SetTable.leap M x.1 x.2
def lpn (M : Nat) : Nat → Nat × Nat → Nat × Nat
  | 0, x => x
  | k + 1, x => lpn M k (lp M x)
theorem lpn_add (M : Nat) : ∀ (a b : Nat) (x : Nat × Nat), lpn M (a + b) x = lpn M b (lpn M a x)
  | 0, b, x => by rw [Nat.zero_add]; rfl
  | a + 1, b, x => by rw [Nat.succ_add]; exact lpn_add M a b (lp M x)
theorem stt_rs (M : Nat) (h : Int) : stt M h = rs M (SetTable.bits h % (M + 1)) (SetTable.bits h) := rfl
theorem run_le (M i : Nat) : SetTable.runEnd M i - i ≤ 9 := by unfold SetTable.runEnd; split <;> omega
theorem in_run (M i q : Nat) : ∀ k, k ≤ SetTable.runEnd M i - i → itn M k (rs M i q) = { rs M i q with j := i + k, more := SetTable.runEnd M i - i - k }
  | 0, _ => rfl
  | k + 1, h => by
    rw [itn_succ, in_run M i q k (by omega)]
    unfold adv SetTable.advance
    dsimp only
    rw [if_pos (by omega)]
    simp only [SetTable.Probe.mk.injEq, true_and, and_true]
    omega
theorem next_run (M i q : Nat) : itn M (SetTable.runEnd M i - i + 1) (rs M i q) = rs M (lp M (i, q)).1 (lp M (i, q)).2 := by
  rw [itn_succ, in_run M i q _ (Nat.le_refl _)]
  unfold adv SetTable.advance
  dsimp only
  rw [if_neg (by omega)]
  rfl
theorem runs (M : Nat) : ∀ (n i q : Nat), ∃ k, k ≤ 10 * n ∧ itn M k (rs M i q) = rs M (lpn M n (i, q)).1 (lpn M n (i, q)).2
  | 0, i, q => ⟨0, by omega, rfl⟩
  | n + 1, i, q => by
    obtain ⟨k, hk, e⟩ := runs M n (lp M (i, q)).1 (lp M (i, q)).2
    refine ⟨SetTable.runEnd M i - i + 1 + k, by have := run_le M i; omega, ?_⟩
    rw [itn_add, next_run, e]; rfl
theorem lp_lt (M : Nat) (x : Nat × Nat) : (lp M x).1 < M + 1 := Nat.mod_lt _ (Nat.succ_pos _)
theorem lpn_lt (M : Nat) : ∀ (n : Nat) (x : Nat × Nat), x.1 < M + 1 → (lpn M n x).1 < M + 1
  | 0, x, h => h
  | n + 1, x, _ => lpn_lt M n _ (lp_lt M x)
theorem lpn_q (M : Nat) : ∀ (n : Nat) (x : Nat × Nat), (lpn M n x).2 = x.2 / 32 ^ n
  | 0, x => by simp [lpn]
  | n + 1, x => by
    show (lpn M n (lp M x)).2 = _
    rw [lpn_q M n]
    show x.2 / 32 / 32 ^ n = _
    rw [Nat.div_div_eq_div_mul, Nat.pow_succ, Nat.mul_comm]
theorem bits_lt (h : Int) : SetTable.bits h < 2 ^ 64 := by unfold SetTable.bits; omega
theorem cyc7 : ∀ i, i < 8 → ∀ j, j < 8 → ∃ n, n < 8 ∧ (lpn 7 n (i, 0)).1 = j := by decide +kernel
theorem cyc31 : ∀ i, i < 32 → ∀ j, j < 32 → ∃ n, n < 32 ∧ (lpn 31 n (i, 0)).1 = j := by decide +kernel
/-- every place is met in time -/
theorem cover_lp {M : Nat} (hM : M = 7 ∨ M = 31) (h : Int) {j : Nat} (hj : j ≤ M) : ∃ n, n ≤ 13 + M ∧ (lpn M n (SetTable.bits h % (M + 1), SetTable.bits h)).1 = j := by
  have e0 : (lpn M 13 (SetTable.bits h % (M + 1), SetTable.bits h)).2 = 0 := by
    rw [lpn_q]
    have := bits_lt h
    exact Nat.div_eq_of_lt (Nat.lt_of_lt_of_le this (by decide))
  have l0 := lpn_lt M 13 (SetTable.bits h % (M + 1), SetTable.bits h) (Nat.mod_lt _ (Nat.succ_pos _))
  generalize hx : lpn M 13 (SetTable.bits h % (M + 1), SetTable.bits h) = x at e0 l0
  obtain ⟨i, q⟩ := x
  simp only at e0 l0
  subst e0
  have : ∃ n, n < M + 1 ∧ (lpn M n (i, 0)).1 = j := by
    rcases hM with rfl | rfl
    · exact cyc7 i l0 j (by omega)
    · exact cyc31 i l0 j (by omega)
  obtain ⟨n, hn, e⟩ := this
  exact ⟨13 + n, by omega, by rw [lpn_add, hx, e]⟩
theorem cover {M : Nat} (hM : M = 7 ∨ M = 31) (h : Int) {j : Nat} (hj : j ≤ M) : ∃ k, k ≤ 10 * (13 + M) ∧ (itn M k (stt M h)).j = j := by
  obtain ⟨n, hn, e⟩ := cover_lp hM h hj
  obtain ⟨k, hk, e'⟩ := runs M n (SetTable.bits h % (M + 1)) (SetTable.bits h)
  refine ⟨k, by omega, ?_⟩
  rw [stt_rs, e']
  exact e
theorem itn_dummy (M : Nat) : ∀ (k : Nat) (p : SetTable.Probe), p.dummy = none → (itn M k p).dummy = none
  | 0, _, h => h
  | k + 1, p, h => itn_dummy M k _ (by unfold adv SetTable.advance; split <;> exact h)
/-! looking a place up -/
def Ris (xs : List Nat) : Prop := xs.Pairwise (· < ·)
theorem ris_get {xs : Array Nat} (h : Ris xs.toList) {a b : Nat} (hab : a < b) (hb : b < xs.size) : xs[a]'(by omega) < xs[b] := by
  have := List.pairwise_iff_getElem.mp h a b (by simpa using Nat.lt_trans hab hb) (by simpa using hb) hab
  simpa using this
theorem below_go {xs : Array Nat} (hr : Ris xs.toList) (j : Nat) : ∀ (f lo hi : Nat), hi - lo ≤ f → lo ≤ hi → hi ≤ xs.size → (∀ i (h : i < xs.size), i < lo → xs[i] < j) → (∀ i (h : i < xs.size), hi ≤ i → j ≤ xs[i]) →
    (SetTable.below.go xs j f lo hi) ≤ xs.size ∧ (∀ i (h : i < xs.size), i < SetTable.below.go xs j f lo hi → xs[i] < j) ∧ (∀ i (h : i < xs.size), SetTable.below.go xs j f lo hi ≤ i → j ≤ xs[i])
  | 0, lo, hi, hf, hl, hs, h1, h2 => by
    have : lo = hi := by omega
    subst this
    exact ⟨hs, h1, h2⟩
  | f + 1, lo, hi, hf, hl, hs, h1, h2 => by
    unfold SetTable.below.go
    by_cases hlt : lo < hi
    · rw [if_pos hlt]
      dsimp only
      have hm : (lo + hi) / 2 < xs.size := by omega
      have e : xs.getD ((lo + hi) / 2) j = xs[(lo + hi) / 2] := by simp [Array.getD, hm]
      rw [e]
      by_cases hc : xs[(lo + hi) / 2] < j
      · rw [if_pos hc]
        refine below_go hr j f _ hi (by omega) (by omega) hs (fun i h hi' => ?_) h2
        by_cases hq : i = (lo + hi) / 2
        · subst hq; exact hc
        · exact Nat.lt_trans (ris_get hr (by omega) hm) hc
      · rw [if_neg hc]
        refine below_go hr j f lo _ (by omega) (by omega) (by omega) h1 fun i h hi' => ?_
        by_cases hq : i = (lo + hi) / 2
        · subst hq; omega
        · have := ris_get hr (show (lo + hi) / 2 < i by omega) h; omega
    · rw [if_neg hlt]
      have : lo = hi := by omega
      subst this
      exact ⟨hs, h1, h2⟩
theorem below_ok {xs : Array Nat} (hr : Ris xs.toList) (j : Nat) : SetTable.below xs j ≤ xs.size ∧ (∀ i (h : i < xs.size), i < SetTable.below xs j → xs[i] < j) ∧ (∀ i (h : i < xs.size), SetTable.below xs j ≤ i → j ≤ xs[i]) :=
  below_go hr j xs.size 0 xs.size (by omega) (by omega) (Nat.le_refl _) (fun i h hi => by omega) fun i h hi => by omega
theorem below_at {xs : Array Nat} (hr : Ris xs.toList) {i j : Nat} (hi : xs[i]? = some j) : SetTable.below xs j = i := by
  obtain ⟨hlt, e⟩ := Array.getElem?_eq_some_iff.mp hi
  obtain ⟨h1, h2, h3⟩ := below_ok hr j
  rcases Nat.lt_trichotomy (SetTable.below xs j) i with h | h | h
  · have := h3 _ (by omega) (Nat.le_refl _)
    have h' := ris_get hr h hlt
    omega
  · exact h
  · have := h2 i hlt h; omega
theorem slot_live {t : SetTable} (hr : Ris t.place.toList) {i j : Nat} (hi : t.place[i]? = some j) : t.slot j = .live i := by
  unfold SetTable.slot
  dsimp only
  rw [below_at hr hi, hi, if_pos (by simp)]
theorem slot_empty {t : SetTable} (hd : t.dummies = #[]) {j : Nat} (hj : j ∉ t.place.toList) : t.slot j = .empty := by
  unfold SetTable.slot
  dsimp only
  have h1 : (t.place[SetTable.below t.place j]? == some j) = false := by
    rw [beq_eq_false_iff_ne]
    intro e
    exact hj (Array.mem_toList_iff.mpr (Array.mem_of_getElem? e))
  rw [if_neg (by simp [h1])]
  have h2 : SetTable.has t.dummies j = false := by rw [hd]; unfold SetTable.has; simp
  rw [if_neg (by simp [h2])]
/-- how an item's place is met: every place ahead of it is taken -/
def Path (M : Nat) (P : List Nat) (h : Int) (j : Nat) : Prop := ∃ k, (itn M k (stt M h)).j = j ∧ ∀ k', k' < k → (itn M k' (stt M h)).j ∈ P
theorem Path.more {M : Nat} {P P' : List Nat} {h : Int} {j : Nat} (x : Path M P h j) (hs : ∀ a ∈ P, a ∈ P') : Path M P' h j := let ⟨k, e, r⟩ := x; ⟨k, e, fun k' hk => hs _ (r k' hk)⟩
structure TabOk (t : SetTable) (hs : List Int) : Prop where
  dum : t.dummies = #[]
  m : t.mask = 7 ∨ t.mask = 31
  size : t.place.size = hs.length
  ris : Ris t.place.toList
  le : ∀ j ∈ t.place.toList, j ≤ t.mask
  path : ∀ q ∈ t.place.toList.zip hs, Path t.mask t.place.toList q.2 q.1
theorem free_place {M : Nat} {P : List Nat} (hP : P.length ≤ M) : ∃ j, j ≤ M ∧ j ∉ P := by
  apply Classical.byContradiction
  intro hn
  have : ∀ j, j < M + 1 → j ∈ P := fun j hj => Classical.byContradiction fun hc => hn ⟨j, by omega, hc⟩
  have hsub : (List.range (M + 1)) ⊆ P := fun j hj => this j (List.mem_range.mp hj)
  have := List.Nodup.length_le_of_subset (List.nodup_range) hsub
  rw [List.length_range] at this
  omega

/-- what a search from the k0-th step on meets -/
inductive Meets (t : SetTable) (hs : List Int) (h : Int) (k0 : Nat) : SetTable.Met → Prop
  | empty (k : Nat) : k0 ≤ k → (itn t.mask k (stt t.mask h)).j ∉ t.place.toList → (∀ k', k0 ≤ k' → k' < k → ∃ i, t.place[i]? = some (itn t.mask k' (stt t.mask h)).j ∧ hs.getD i 0 ≠ h) → Meets t hs h k0 (.empty (itn t.mask k (stt t.mask h)).j none)
  | cand (k i : Nat) : k0 ≤ k → t.place[i]? = some (itn t.mask k (stt t.mask h)).j → hs.getD i 0 = h → (∀ k', k0 ≤ k' → k' < k → ∃ i, t.place[i]? = some (itn t.mask k' (stt t.mask h)).j ∧ hs.getD i 0 ≠ h) →
      Meets t hs h k0 (.candidate (itn t.mask k (stt t.mask h)).j i (itn t.mask (k + 1) (stt t.mask h)))
theorem Meets.back {t : SetTable} {hs : List Int} {h : Int} {k0 : Nat} {m : SetTable.Met} (hl : ∃ i, t.place[i]? = some (itn t.mask k0 (stt t.mask h)).j ∧ hs.getD i 0 ≠ h) (x : Meets t hs h (k0 + 1) m) : Meets t hs h k0 m := by
  have key : ∀ k : Nat, k0 + 1 ≤ k → (∀ k', k0 + 1 ≤ k' → k' < k → ∃ i, t.place[i]? = some (itn t.mask k' (stt t.mask h)).j ∧ hs.getD i 0 ≠ h) → ∀ k', k0 ≤ k' → k' < k → ∃ i, t.place[i]? = some (itn t.mask k' (stt t.mask h)).j ∧ hs.getD i 0 ≠ h := fun k _ r k' h1 h2 => by
    by_cases e : k' = k0
    · subst e; exact hl
    · exact r k' (by omega) h2
  cases x with
  | empty k a b c => exact .empty k (by omega) b (key k a c)
  | cand k i a b c d => exact .cand k i (by omega) b c (key k a d)
theorem probe_go {t : SetTable} {hs : List Int} (X : TabOk t hs) (hashAt : Nat → Int) (hh : ∀ i, i < hs.length → hashAt i = hs.getD i 0) (h : Int) {N : Nat} (hN : (itn t.mask N (stt t.mask h)).j ∉ t.place.toList) :
    ∀ (f k0 : Nat), N - k0 < f → k0 ≤ N → ∃ m, SetTable.probe.go t hashAt h f (itn t.mask k0 (stt t.mask h)) = some m ∧ Meets t hs h k0 m
  | 0, k0, hf, _ => by omega
  | f + 1, k0, hf, hk => by
    unfold SetTable.probe.go
    by_cases hp : (itn t.mask k0 (stt t.mask h)).j ∈ t.place.toList
    · obtain ⟨i, hi⟩ := Array.mem_iff_getElem?.mp (Array.mem_toList_iff.mp hp)
      have hil : i < hs.length := by rw [← X.size]; exact (Array.getElem?_eq_some_iff.mp hi).1
      rw [slot_live X.ris hi]
      dsimp only
      have hne : k0 ≠ N := fun e => by subst e; exact hN hp
      rw [hh i hil]
      by_cases he : hs.getD i 0 = h
      · rw [if_pos (by simpa using he), adv_eq rfl, ← itn_succ]
        exact ⟨_, rfl, .cand k0 i (Nat.le_refl _) hi he fun k' h1 h2 => by omega⟩
      · rw [if_neg (by simpa using he), adv_eq rfl, ← itn_succ]
        obtain ⟨m, e, r⟩ := probe_go X hashAt hh h hN f (k0 + 1) (by omega) (by omega)
        exact ⟨m, e, r.back ⟨i, hi, he⟩⟩
    · rw [slot_empty X.dum hp]
      dsimp only
      rw [itn_dummy _ _ _ rfl]
      exact ⟨_, rfl, .empty k0 (Nat.le_refl _) hp fun k' h1 h2 => by omega⟩
/-- an empty place ends every search -/
theorem ends {t : SetTable} {hs : List Int} (X : TabOk t hs) (hf : hs.length ≤ t.mask) (h : Int) : ∃ N, N ≤ 10 * (13 + t.mask) ∧ (itn t.mask N (stt t.mask h)).j ∉ t.place.toList := by
  obtain ⟨j, hj, hn⟩ := free_place (M := t.mask) (P := t.place.toList) (by rw [Array.length_toList, X.size]; exact hf)
  obtain ⟨k, hk, e⟩ := cover X.m h hj
  exact ⟨k, hk, by rw [e]; exact hn⟩
theorem j_le {M : Nat} (h : Int) : ∀ k, (itn M k (stt M h)).j ≤ M := by
  have inv : ∀ k (p : SetTable.Probe), p.j + p.more ≤ M → (itn M k p).j + (itn M k p).more ≤ M := by
    intro k
    induction k with
    | zero => exact fun p hp => hp
    | succ k ih =>
      intro p hp
      refine ih _ ?_
      unfold adv SetTable.advance
      split
      · dsimp only; omega
      · show (lp M (p.i, p.perturb)).1 + (SetTable.runEnd M (lp M (p.i, p.perturb)).1 - (lp M (p.i, p.perturb)).1) ≤ M
        have := lp_lt M (p.i, p.perturb)
        unfold SetTable.runEnd
        split <;> omega
  intro k
  have := inv k (stt M h) (by
    rw [stt_rs]
    show SetTable.bits h % (M + 1) + (SetTable.runEnd M (SetTable.bits h % (M + 1)) - SetTable.bits h % (M + 1)) ≤ M
    have : SetTable.bits h % (M + 1) < M + 1 := Nat.mod_lt _ (Nat.succ_pos _)
    unfold SetTable.runEnd
    split <;> omega)
  omega
/-! a new item -/
theorem insAt {α : Type} (xs : Array α) (p : Nat) (x : α) : (SetTable.insertAt xs p x).toList = xs.toList.take p ++ x :: xs.toList.drop p := by
  rw [SetTable.toList_insertAt]
theorem put_ok {t : SetTable} {hs : List Int} (X : TabOk t hs) {h : Int} {j : Nat} (hj : j ∉ t.place.toList) (hm : j ≤ t.mask) (hp : Path t.mask t.place.toList h j) :
    TabOk (t.put j).1 (hs.take (t.put j).2 ++ h :: hs.drop (t.put j).2) ∧ (t.put j).1.mask = t.mask ∧ (t.put j).1.led = t.led ∧ (t.put j).1.plain = t.plain ∧ (t.put j).1.moves = t.moves := by
  have hd : (t.put j).1.dummies = #[] := by
    unfold SetTable.put
    dsimp only
    rw [if_neg (by rw [X.dum]; unfold SetTable.has; simp), X.dum]
  have e2 : (t.put j).2 = SetTable.below t.place j := rfl
  have e1 : (t.put j).1.place.toList = t.place.toList.take (t.put j).2 ++ j :: t.place.toList.drop (t.put j).2 := insAt _ _ _
  obtain ⟨b1, b2, b3⟩ := below_ok X.ris j
  have lenp : t.place.toList.length = hs.length := by rw [Array.length_toList, X.size]
  have memI : ∀ a, a ∈ (t.put j).1.place.toList ↔ a = j ∨ a ∈ t.place.toList := fun a => by
    rw [e1, List.mem_append, List.mem_cons]
    conv => rhs; rw [← List.take_append_drop (t.put j).2 t.place.toList, List.mem_append]
    constructor
    · rintro (h | h | h) <;> simp [h]
    · rintro (h | h | h) <;> simp [h]
  refine ⟨⟨hd, X.m, ?_, ?_, ?_, ?_⟩, rfl, rfl, rfl, rfl⟩
  · rw [← Array.length_toList, e1]
    simp only [List.length_append, List.length_cons, List.length_take, List.length_drop, lenp]
  · rw [e1]
    have sp : Ris (t.place.toList.take (t.put j).2 ++ t.place.toList.drop (t.put j).2) := by rw [List.take_append_drop]; exact X.ris
    obtain ⟨s1, s2, s3⟩ := List.pairwise_append.mp sp
    refine List.pairwise_append.mpr ⟨s1, List.pairwise_cons.mpr ⟨fun b hb => ?_, s2⟩, fun a ha b hb => ?_⟩
    · obtain ⟨i, hi, e⟩ := List.mem_iff_getElem.mp hb
      rw [List.length_drop, Array.length_toList] at hi
      rw [List.getElem_drop, Array.getElem_toList] at e
      have := b3 ((t.put j).2 + i) (by omega) (by rw [e2]; omega)
      rcases Nat.lt_or_ge j b with h | h
      · exact h
      · exfalso
        have : j = b := by omega
        subst this
        exact hj (List.mem_of_mem_drop hb)
    · have ha' : a < j := by
        obtain ⟨i, hi, e⟩ := List.mem_iff_getElem.mp ha
        rw [List.length_take, Array.length_toList] at hi
        rw [List.getElem_take, Array.getElem_toList] at e
        have := b2 i (by omega) (by omega)
        omega
      rcases List.mem_cons.mp hb with rfl | hb
      · exact ha'
      · exact s3 a ha b hb
  · intro a ha
    rcases (memI a).mp ha with rfl | ha
    · exact hm
    · exact X.le a ha
  · intro q hq
    have : q ∈ t.place.toList.zip hs ∨ q = (j, h) := by
      rw [e1, List.zip_append (by simp only [List.length_take, lenp]), List.zip_cons_cons, List.mem_append, List.mem_cons] at hq
      have hz : t.place.toList.zip hs = (t.place.toList.take (t.put j).2).zip (hs.take (t.put j).2) ++ (t.place.toList.drop (t.put j).2).zip (hs.drop (t.put j).2) := by
        rw [← List.zip_append (by simp only [List.length_take, lenp]), List.take_append_drop, List.take_append_drop]
      rw [hz, List.mem_append]
      rcases hq with hq | hq | hq
      · exact .inl (.inl hq)
      · exact .inr hq
      · exact .inl (.inr hq)
    rcases this with hq | rfl
    · exact (X.path q hq).more fun a ha => (memI a).mpr (.inr ha)
    · exact hp.more fun a ha => (memI a).mpr (.inr ha)

/-! the table laid anew -/
def Held (ow : Array (Option Nat)) (j : Nat) : Prop := ∃ i, ow[j]? = some (some i)
theorem isNone_iff {ow : Array (Option Nat)} {j : Nat} : (ow.getD j (some 0)).isNone = true ↔ ow[j]? = some none := by
  rw [Array.getD_eq_getD_getElem?]
  cases ow[j]? with
  | none => simp
  | some o => cases o <;> simp
/-- the search for a free place, among the places that ow holds -/
theorem free_ok {M : Nat} {ow : Array (Option Nat)} (hsz : ow.size = M + 1) (hin : ∀ k p, p.j + p.more ≤ M → (itn M k p).j ≤ M) : ∀ (f i q : Nat), i ≤ M → (∃ n, n < f ∧ ow[(lpn M n (i, q)).1]? = some none) →
    ∃ j, SetTable.layClean.free M ow f i q = some j ∧ ow[j]? = some none ∧ ∃ k, (itn M k (rs M i q)).j = j ∧ ∀ k', k' < k → Held ow (itn M k' (rs M i q)).j
  | 0, i, q, hi, ⟨n, hn, _⟩ => by omega
  | f + 1, i, q, hi, ⟨n, hn, e⟩ => by
    have heldAt : ∀ j, j ≤ M → ow[j]? ≠ some none → Held ow j := fun j hj hne => by
      have hlt : j < ow.size := by omega
      rw [getElem?_pos ow j hlt] at hne
      cases ho : ow[j] with
      | none => rw [ho] at hne; exact absurd rfl hne
      | some v => exact ⟨v, by rw [getElem?_pos ow j hlt, ho]⟩
    have hre : SetTable.runEnd M i ≤ M := by unfold SetTable.runEnd; split <;> omega
    have hri : i ≤ SetTable.runEnd M i := by unfold SetTable.runEnd; split <;> omega
    unfold SetTable.layClean.free
    cases hfind : (List.range (SetTable.runEnd M i + 1 - i)).find? fun k => (ow.getD (i + k) (some 0)).isNone with
    | some k =>
      dsimp only
      obtain ⟨h1, as, bs, h2, h3⟩ := List.find?_eq_some_iff_append.mp hfind
      have hkm : k ∈ List.range (SetTable.runEnd M i + 1 - i) := by rw [h2]; simp
      have hk : k < SetTable.runEnd M i + 1 - i := List.mem_range.mp hkm
      have lt_mem : ∀ k', k' < k → k' ∈ as := fun k' hk' => by
        have hm : k' ∈ List.range (SetTable.runEnd M i + 1 - i) := List.mem_range.mpr (by omega)
        rw [h2] at hm
        have hs : (as ++ k :: bs).Pairwise (· < ·) := by rw [← h2]; exact List.pairwise_lt_range
        rcases List.mem_append.mp hm with h | h
        · exact h
        · rcases List.mem_cons.mp h with rfl | h
          · omega
          · have := (List.pairwise_cons.mp (List.pairwise_append.mp hs).2.1).1 k' h; omega
      refine ⟨_, rfl, isNone_iff.mp h1, k, by rw [in_run M i q k (by omega)], fun k' hk' => ?_⟩
      rw [in_run M i q k' (by omega)]
      show Held ow (i + k')
      refine heldAt _ (by omega) fun hc => ?_
      have := h3 k' (lt_mem k' hk')
      rw [isNone_iff.mpr hc] at this
      simp at this
    | none =>
      dsimp only
      have hall : ∀ k, k < SetTable.runEnd M i + 1 - i → ow[i + k]? ≠ some none := fun k hk hc => by
        have := List.find?_eq_none.mp hfind k (List.mem_range.mpr hk)
        exact this (isNone_iff.mpr hc)
      have hn0 : n ≠ 0 := fun h0 => by subst h0; exact hall 0 (by omega) e
      obtain ⟨n', rfl⟩ : ∃ n', n = n' + 1 := ⟨n - 1, by omega⟩
      have hlt := lp_lt M (i, q)
      obtain ⟨j, e1, e2, k, e3, e4⟩ := free_ok hsz hin f (lp M (i, q)).1 (lp M (i, q)).2 (by omega) ⟨n', by omega, e⟩
      refine ⟨j, e1, e2, SetTable.runEnd M i - i + 1 + k, ?_, fun k' hk' => ?_⟩
      · rw [itn_add, next_run]; exact e3
      · by_cases hq : k' < SetTable.runEnd M i - i + 1
        · rw [in_run M i q k' (by omega)]
          exact heldAt _ (by show i + k' ≤ M; omega) (hall k' (by omega))
        · obtain ⟨r, rfl⟩ : ∃ r, k' = SetTable.runEnd M i - i + 1 + r := ⟨k' - (SetTable.runEnd M i - i + 1), by omega⟩
          rw [itn_add, next_run]
          exact e4 r (by omega)
/-- the places after n items have been laid -/
structure OwnsAt (M : Nat) (hs : List Int) (ow : Array (Option Nat)) (n : Nat) : Prop where
  size : ow.size = M + 1
  lt : ∀ (j i : Nat), ow[j]? = some (some i) → i < n
  all : ∀ i : Nat, i < n → ∃ j : Nat, ow[j]? = some (some i)
  inj : ∀ (j j' i : Nat), ow[j]? = some (some i) → ow[j']? = some (some i) → j = j'
  path : ∀ (j i : Nat), ow[j]? = some (some i) → ∃ k, (itn M k (stt M (hs.getD i 0))).j = j ∧ ∀ k', k' < k → Held ow (itn M k' (stt M (hs.getD i 0))).j
theorem some_none_free {M n : Nat} {hs : List Int} {ow : Array (Option Nat)} (X : OwnsAt M hs ow n) (hn : n ≤ M) : ∃ j : Nat, j ≤ M ∧ ow[j]? = some none := by
  apply Classical.byContradiction
  intro hc
  have h : ∀ j : Nat, j < M + 1 → ∃ i : Nat, i < n ∧ ow[j]? = some (some i) := fun j hj => by
    have hlt : j < ow.size := by rw [X.size]; exact hj
    cases ho : ow[j] with
    | none => exact absurd ⟨j, by omega, by rw [getElem?_pos ow j hlt, ho]⟩ hc
    | some v => exact ⟨v, X.lt j v (by rw [getElem?_pos ow j hlt, ho]), by rw [getElem?_pos ow j hlt, ho]⟩
  have hsub : (List.range (M + 1)).map (fun j => (ow.getD j none).getD 0) ⊆ List.range n := fun x hx => by
    obtain ⟨j, hj, e⟩ := List.mem_map.mp hx
    obtain ⟨i, hi, e'⟩ := h j (List.mem_range.mp hj)
    rw [Array.getD_eq_getD_getElem?, e'] at e
    simp only [Option.getD_some] at e
    subst e
    exact List.mem_range.mpr hi
  have hnd : ((List.range (M + 1)).map (fun j => (ow.getD j none).getD 0)).Nodup := by
    refine List.pairwise_map.mpr (List.Pairwise.imp_of_mem (fun {a b} ha hb hab => ?_) List.pairwise_lt_range)
    obtain ⟨i, _, e⟩ := h a (List.mem_range.mp ha)
    obtain ⟨i', _, e'⟩ := h b (List.mem_range.mp hb)
    rw [Array.getD_eq_getD_getElem?, e, Array.getD_eq_getD_getElem?, e']
    simp only [Option.getD_some]
    intro q
    subst q
    have := X.inj _ _ _ e e'
    omega
  have := List.Nodup.length_le_of_subset hnd hsub
  simp only [List.length_map, List.length_range] at this
  omega
theorem own_step {M : Nat} (hM : M = 7 ∨ M = 31) {hs : List Int} {ow : Array (Option Nat)} {n : Nat} (X : OwnsAt M hs ow n) (hn : n < M) :
    ∃ j, SetTable.layClean.free M ow (SetTable.turns M) (SetTable.bits (hs.getD n 0) % (M + 1)) (SetTable.bits (hs.getD n 0)) = some j ∧ OwnsAt M hs (ow.setIfInBounds j (some n)) (n + 1) := by
  obtain ⟨jf, hjf, ef⟩ := some_none_free X (by omega)
  obtain ⟨m, hm, em⟩ := cover_lp hM (hs.getD n 0) hjf
  have hin : ∀ k p, p.j + p.more ≤ M → (itn M k p).j ≤ M := by
    intro k
    have inv : ∀ k (p : SetTable.Probe), p.j + p.more ≤ M → (itn M k p).j + (itn M k p).more ≤ M := by
      intro k
      induction k with
      | zero => exact fun p hp => hp
      | succ k ih =>
        intro p hp
        refine ih _ ?_
        unfold adv SetTable.advance
        split
        · dsimp only; omega
        · show (lp M (p.i, p.perturb)).1 + (SetTable.runEnd M (lp M (p.i, p.perturb)).1 - (lp M (p.i, p.perturb)).1) ≤ M
          have := lp_lt M (p.i, p.perturb)
          unfold SetTable.runEnd
          split <;> omega
    exact fun p hp => by have := inv k p hp; omega
  have hb : SetTable.bits (hs.getD n 0) % (M + 1) < M + 1 := Nat.mod_lt _ (Nat.succ_pos _)
  obtain ⟨j, e1, e2, k, e3, e4⟩ := free_ok X.size hin (SetTable.turns M) (SetTable.bits (hs.getD n 0) % (M + 1)) (SetTable.bits (hs.getD n 0)) (by omega) ⟨m, by unfold SetTable.turns; omega, by rw [em]; exact ef⟩
  rw [← stt_rs] at e3 e4
  refine ⟨j, e1, ?_⟩
  have hjl : j < ow.size := by
    rcases Nat.lt_or_ge j ow.size with h | h
    · exact h
    · rw [Array.getElem?_eq_none h] at e2; cases e2
  have gs : ∀ a : Nat, (ow.setIfInBounds j (some n))[a]? = if j = a then some (some n) else ow[a]? := fun a => by
    rw [Array.getElem?_setIfInBounds]
    by_cases h : j = a
    · rw [if_pos h, if_pos h, if_pos (by omega)]
    · rw [if_neg h, if_neg h]
  have grow : ∀ a, Held ow a → Held (ow.setIfInBounds j (some n)) a := fun a ⟨i, e⟩ => by
    by_cases h : j = a
    · exact ⟨n, by rw [gs, if_pos h]⟩
    · exact ⟨i, by rw [gs, if_neg h]; exact e⟩
  refine ⟨by rw [Array.size_setIfInBounds, X.size], fun a i e => ?_, fun i hi => ?_, fun a b i ea eb => ?_, fun a i e => ?_⟩
  · rw [gs] at e
    by_cases h : j = a
    · rw [if_pos h] at e; cases e; omega
    · rw [if_neg h] at e; have := X.lt a i e; omega
  · by_cases h : i = n
    · exact ⟨j, by rw [gs, if_pos rfl, h]⟩
    · obtain ⟨a, e⟩ := X.all i (by omega)
      refine ⟨a, ?_⟩
      rw [gs, if_neg (fun q => by subst q; rw [e] at e2; cases e2)]
      exact e
  · rw [gs] at ea eb
    by_cases h : j = a
    · by_cases h' : j = b
      · omega
      · rw [if_pos h] at ea; rw [if_neg h'] at eb
        cases ea
        have := X.lt b _ eb; omega
    · by_cases h' : j = b
      · rw [if_neg h] at ea; rw [if_pos h'] at eb
        cases eb
        have := X.lt a _ ea; omega
      · rw [if_neg h] at ea; rw [if_neg h'] at eb
        exact X.inj a b i ea eb
  · rw [gs] at e
    by_cases h : j = a
    · rw [if_pos h] at e; cases e
      exact ⟨k, by rw [e3, h], fun k' hk' => grow _ (e4 k' hk')⟩
    · rw [if_neg h] at e
      obtain ⟨k2, e5, e6⟩ := X.path a i e
      exact ⟨k2, e5, fun k' hk' => grow _ (e6 k' hk')⟩
theorem lay_fold {M : Nat} (hM : M = 7 ∨ M = 31) (hs : List Int) : ∀ (rest : List Int) (n : Nat) (ow : Array (Option Nat)), hs.drop n = rest → n + rest.length ≤ M → OwnsAt M hs ow n →
    ∃ ow', (rest.foldl (fun (acc : Option (Array (Option Nat) × Nat)) h => do
      let (owner, k) ← acc
      let j ← SetTable.layClean.free M owner (SetTable.turns M) (SetTable.bits h % (M + 1)) (SetTable.bits h)
      pure (owner.setIfInBounds j (some k), k + 1)) (some (ow, n))) = some (ow', n + rest.length) ∧ OwnsAt M hs ow' (n + rest.length)
  | [], n, ow, _, _, X => ⟨ow, rfl, X⟩
  | h :: r, n, ow, hd, hl, X => by
    rw [List.length_cons] at hl
    have hh : hs.getD n 0 = h := by
      have : hs[n]? = some h := by
        have := congrArg (·[0]?) hd
        simpa using this
      simp [this]
    obtain ⟨j, e, X'⟩ := own_step hM X (by omega)
    rw [hh] at e
    have hd' : hs.drop (n + 1) = r := by
      have := congrArg List.tail hd
      simpa using this
    obtain ⟨ow', e', X''⟩ := lay_fold hM hs r (n + 1) _ hd' (by omega) X'
    refine ⟨ow', ?_, by rw [List.length_cons]; rw [show n + (r.length + 1) = n + 1 + r.length by omega]; exact X''⟩
    rw [List.foldl_cons, List.length_cons, show n + (r.length + 1) = n + 1 + r.length by omega, ← e']
    congr 1
    simp [e]
theorem lay_ok {M : Nat} (hM : M = 7 ∨ M = 31) (hs : List Int) (hl : hs.length ≤ M) : ∃ ow, SetTable.layClean M hs.toArray = some ow ∧ OwnsAt M hs ow hs.length := by
  have X0 : OwnsAt M hs (Array.replicate (M + 1) none) 0 := by
    have g : ∀ (j i : Nat), (Array.replicate (M + 1) (none : Option Nat))[j]? ≠ some (some i) := fun j i e => by
      rw [Array.getElem?_replicate] at e
      split at e <;> cases e
    exact ⟨by simp, fun j i e => absurd e (g j i), fun i hi => by omega, fun j _ i e => absurd e (g j i), fun j i e => absurd e (g j i)⟩
  obtain ⟨ow, e, X⟩ := lay_fold hM hs hs 0 _ rfl (by omega) X0
  refine ⟨ow, ?_, by rw [Nat.zero_add] at X; exact X⟩
  unfold SetTable.layClean
  rw [List.foldl_toArray']
  · exact (congrArg (Option.map (·.1)) e)
  · simp

def liveOf (ow : Array (Option Nat)) (l : List Nat) : List (Nat × Nat) := l.filterMap fun j => (ow.getD j none).map (j, ·)
theorem live_fst (ow : Array (Option Nat)) : ∀ l : List Nat, (liveOf ow l).map (·.1) = l.filter fun j => (ow.getD j none).isSome
  | [] => rfl
  | j :: l => by
    unfold liveOf
    rw [List.filterMap_cons, List.filter_cons]
    cases h : ow.getD j none with
    | none => exact live_fst ow l
    | some i => exact congrArg (j :: ·) (live_fst ow l)
theorem live_mem {ow : Array (Option Nat)} {l : List Nat} {q : Nat × Nat} : q ∈ liveOf ow l ↔ q.1 ∈ l ∧ ow[q.1]? = some (some q.2) := by
  unfold liveOf
  rw [List.mem_filterMap]
  constructor
  · rintro ⟨j, hj, e⟩
    cases h : ow.getD j none with
    | none => rw [h] at e; cases e
    | some i =>
      rw [h] at e
      cases e
      refine ⟨hj, ?_⟩
      rw [Array.getD_eq_getD_getElem?] at h
      cases h' : ow[j]? with
      | none => rw [h'] at h; cases h
      | some o => rw [h'] at h; simp only [Option.getD_some] at h; rw [h]
  · rintro ⟨hj, e⟩
    exact ⟨q.1, hj, by rw [Array.getD_eq_getD_getElem?, e]; rfl⟩
theorem zip_map_fst {α β γ : Type} (f : β → γ) : ∀ l : List (α × β), (l.map (·.1)).zip ((l.map (·.2)).map f) = l.map fun q => (q.1, f q.2)
  | [] => rfl
  | _ :: l => by simpa using zip_map_fst f l
theorem laid_ok {M : Nat} (hM : M = 7 ∨ M = 31) (hs : List Int) (hl : hs.length ≤ M) (finger moves : Nat) (led plain : Bool) :
    ∃ t order, SetTable.laid M finger moves led plain hs.toArray = some (t, order) ∧ TabOk t (order.toList.map fun i => hs.getD i 0) ∧ order.toList.Perm (List.range hs.length) ∧ t.mask = M ∧ t.led = led ∧ t.plain = plain ∧ t.moves = moves := by
  obtain ⟨ow, e, X⟩ := lay_ok hM hs hl
  refine ⟨{ mask := M, place := ((liveOf ow (List.range (M + 1))).map (·.1)).toArray, dummies := #[], finger, led, moves, plain }, ((liveOf ow (List.range (M + 1))).map (·.2)).toArray, ?_, ?_, ?_, rfl, rfl, rfl, rfl⟩
  · unfold SetTable.laid
    rw [e]
    rfl
  · have held : ∀ a, a ≤ M → Held ow a → a ∈ (liveOf ow (List.range (M + 1))).map (·.1) := fun a ha ⟨i, ei⟩ => List.mem_map.mpr ⟨(a, i), live_mem.mpr ⟨List.mem_range.mpr (by omega), ei⟩, rfl⟩
    refine ⟨rfl, hM, ?_, ?_, ?_, ?_⟩
    · simp
    · show Ris ((liveOf ow (List.range (M + 1))).map (·.1))
      rw [live_fst]
      exact List.Pairwise.filter _ List.pairwise_lt_range
    · intro j hj
      obtain ⟨q, hq, rfl⟩ := List.mem_map.mp hj
      have := List.mem_range.mp (live_mem.mp hq).1
      show q.1 ≤ M
      omega
    · intro q hq
      replace hq : q ∈ ((liveOf ow (List.range (M + 1))).map (·.1)).zip (((liveOf ow (List.range (M + 1))).map (·.2)).map fun i => hs.getD i 0) := hq
      rw [zip_map_fst] at hq
      obtain ⟨r, hr, rfl⟩ := List.mem_map.mp hq
      obtain ⟨k, e1, e2⟩ := X.path r.1 r.2 (live_mem.mp hr).2
      exact ⟨k, e1, fun k' hk' => held _ (j_le _ _) (e2 k' hk')⟩
  · show ((liveOf ow (List.range (M + 1))).map (·.2)).Perm (List.range hs.length)
    have hnd : ((liveOf ow (List.range (M + 1))).map (·.2)).Nodup := by
      have h1 : ((liveOf ow (List.range (M + 1))).map (·.1)).Nodup := by rw [live_fst]; exact (List.nodup_range).filter _
      have h2 := List.pairwise_map.mp h1
      refine List.pairwise_map.mpr (List.Pairwise.imp_of_mem (fun {a b} ha hb hab => ?_) h2)
      intro q
      have ea := (live_mem.mp ha).2
      have eb := (live_mem.mp hb).2
      rw [q] at ea
      exact hab (X.inj _ _ _ ea eb)
    refine (List.perm_ext_iff_of_nodup hnd List.nodup_range).mpr fun i => ?_
    rw [List.mem_range, List.mem_map]
    constructor
    · rintro ⟨q, hq, rfl⟩
      exact X.lt _ _ (live_mem.mp hq).2
    · intro hi
      obtain ⟨j, ej⟩ := X.all i hi
      have hj : j < ow.size := (Array.getElem?_eq_some_iff.mp ej).1
      exact ⟨(j, i), live_mem.mpr ⟨List.mem_range.mpr (by rw [X.size] at hj; exact hj), ej⟩, rfl⟩
/-- the items in the table's order -/
theorem order_items {es : Array (Int × Value)} {order : Array Nat} (hp : order.toList.Perm (List.range es.size)) :
    (order.filterMap (es[·]?)).toList.Perm es.toList ∧ (order.filterMap (es[·]?)).toList.map (·.1) = order.toList.map (fun i => (es.toList.map (·.1)).getD i 0) := by
  constructor
  · rw [Array.toList_filterMap]
    have := List.Perm.filterMap (fun i => es[i]?) hp
    rw [filterMap_getElem?_range] at this
    exact this
  · rw [Array.toList_filterMap]
    have hlt : ∀ i ∈ order.toList, i < es.size := fun i hi => List.mem_range.mp (hp.mem_iff.mp hi)
    generalize order.toList = l at hlt
    induction l with
    | nil => rfl
    | cons i l ih =>
      have hi : i < es.size := hlt i (.head _)
      rw [List.filterMap_cons, getElem?_pos es i hi, List.map_cons, List.map_cons, ih fun j hj => hlt j (.tail _ hj)]
      congr 1
      simp [hi]

/-! sets of pairs (int, str) -/
def mixK (prog : Program) (w : World) : KeyKind prog w (Int ⊕ Str) where
  is := fun k v => match k with
    | .inl i => Value.isInt i v
    | .inr x => Value.isStrOf x v
  hash := fun k => match k with
    | .inl i => (PySem.intKind prog w).hash i
    | .inr x => hashStr w x
  inj := fun v a b ha hb => by
    cases a with
    | inl i =>
      cases b with
      | inl j => exact congrArg Sum.inl (Value.isInt_inj v i j ha hb)
      | inr y => obtain ⟨t, rfl⟩ := Value.isInt_shape ha; obtain ⟨u, e⟩ := Value.isStrOf_shape hb; cases e
    | inr x =>
      cases b with
      | inl j => obtain ⟨t, rfl⟩ := Value.isInt_shape hb; obtain ⟨u, e⟩ := Value.isStrOf_shape ha; cases e
      | inr y => exact congrArg Sum.inr (Value.isStrOf_inj v x y ha hb)
  byValue := fun k v h => by
    cases k with
    | inl i => obtain ⟨t, rfl⟩ := Value.isInt_shape h; rfl
    | inr x => obtain ⟨t, rfl⟩ := Value.isStrOf_shape h; rfl
  pyHash := fun {A E s k v Q} hv h => by
    cases k with
    | inl i => exact (PySem.intKind prog w).pyHash (k := i) hv h
    | inr x => exact (PySem.strKind prog w).pyHash (k := x) hv h
  eqBool := fun {A E s a b u v Q} hu hv h => by
    cases a with
    | inl i =>
      cases b with
      | inl j => exact (PySem.intKind prog w).eqBool (a := i) (b := j) hu hv (by simpa using h)
      | inr y => obtain ⟨t, rfl⟩ := Value.isInt_shape hu; obtain ⟨t', rfl⟩ := Value.isStrOf_shape hv; exact PySem.SeqAt.EqAt.int_str _ _ _ _ _ _ _ _ (by simpa using h)
    | inr x =>
      obtain ⟨t, rfl⟩ := Value.isStrOf_shape hu
      cases b with
      | inl j => obtain ⟨t', rfl⟩ := Value.isInt_shape hv; exact PySem.SeqAt.EqAt.str_int _ _ _ _ _ _ _ _ (by simpa using h)
      | inr y => obtain ⟨t', rfl⟩ := Value.isStrOf_shape hv; exact wpAny_eqBool_str (by simpa using h)
  «strs» := fun k x t v h => by
    cases k with
    | inl i => simp [Value.isInt] at h
    | inr y => exact (PySem.strKind prog w).«strs» y x t v h
def PairAt (h : Heap) (v : Value) (p : Int × Str) : Prop := ∃ r t u, v = .ref r ∧ h.get? r = some (tupO [.int p.1 t, .str p.2 u])
theorem PairAt.tup {h h' : Heap} {v : Value} {p : Int × Str} (x : PairAt h v p) (k : TupKeep h h') : PairAt h' v p := let ⟨r, t, u, e, g⟩ := x; ⟨r, t, u, e, k _ _ g⟩
def keyOf (p : Int × Str) : List (Int ⊕ Str) := [.inl p.1, .inr p.2]
theorem keyOf_eq (p q : Int × Str) : decide (keyOf p = keyOf q) = decide (p = q) := by
  have : keyOf p = keyOf q ↔ p = q := by
    obtain ⟨a, b⟩ := p; obtain ⟨c, d⟩ := q
    simp [keyOf]
  simp [this]
def hP (prog : Program) (w : World) (p : Int × Str) : Int := tupleKeyHash (mixK prog w) (keyOf p)
theorem tupKey {prog : Program} {w : World} {h : Heap} {r : Addr} {p : Int × Str} {t u : Tok} (e : h.get? r = some (tupO [.int p.1 t, .str p.2 u])) : IsTupleKey (mixK prog w) h (keyOf p) r :=
  ⟨_, _, _, e, rfl, rfl, .cons (by simp [mixK, Value.isInt]) (.cons (by simp [mixK, Value.isStrOf]) .nil)⟩
section
variable {prog : Program} {w : World} {A : Around} {E : Value → Shared → Prop} {s : Shared}
theorem pair_hash {v : Value} {p : Int × Str} {Q : Int → Shared → Prop} (hu : A.units < cLine) (x : PairAt s.heap v p) (h : Q (hP prog w p) { s with toks := s.toks + 3 }) : wpAny (model prog w) A (pyHash v) Q E s := by
  obtain ⟨r, t, u, rfl, e⟩ := x
  exact wpAny_pyHash_tuple (knd := mixK prog w) hu (tupKey e) h
theorem pair_eq {v v' : Value} {p q : Int × Str} {Q : Bool → Shared → Prop} (hu : A.units < cLine) (x : PairAt s.heap v p) (y : PairAt s.heap v' q) (h : Q (decide (p = q)) s) : wpAny (model prog w) A (eqBool v v') Q E s := by
  obtain ⟨r, t, u, rfl, e⟩ := x
  obtain ⟨r', t', u', rfl, e'⟩ := y
  exact wpAny_eqBool_tuple (knd := mixK prog w) hu (tupKey e) (tupKey e') (by rw [keyOf_eq]; exact h)
theorem pair_quiet {v : Value} {p : Int × Str} {Q : Bool → Shared → Prop} (x : PairAt s.heap v p) (h : Q true s) : wpAny (model prog w) A (eqIsQuiet 8 v) Q E s := by
  obtain ⟨r, t, u, rfl, e⟩ := x
  exact wpAny_eqIsQuiet_tuple (knd := mixK prog w) (tupKey e) h
theorem pair_class {v : Value} {p : Int × Str} {Q : Bool → Shared → Prop} (x : PairAt s.heap v p) (h : Q false s) : wpAny (model prog w) A (ofAClassStatement 8 v) Q E s := by
  obtain ⟨r, t, u, rfl, e⟩ := x
  unfold ofAClassStatement
  refine wpAny_bind (wpAny_typeOf (T := "tuple") ⟨_, e, rfl⟩ ?_)
  dsimp only
  rw [if_pos (by decide)]
  refine wpAny_bind (wpAny_pure ?_)
  simp only [Bool.not_true, Bool.false_eq_true, if_false]
  refine wpAny_bind (wpAny_seqItems e rfl ?_)
  dsimp only
  refine wpAny_bind ?_
  rw [← Array.forIn_toList]
  simp only [List.forIn_cons, List.forIn_nil]
  refine wpAny_bind (wpAny_bind (by unfold ofAClassStatement; refine wpAny_pure ?_; simp only [Bool.false_eq_true, if_false]; refine wpAny_pure ?_; dsimp only; refine wpAny_bind (wpAny_bind (by (try unfold ofAClassStatement); refine wpAny_pure ?_; simp only [Bool.false_eq_true, if_false]; refine wpAny_pure ?_; dsimp only; refine wpAny_pure ?_; dsimp only; exact wpAny_pure h))))
theorem pair_byValue {v : Value} {p : Int × Str} {Q : Bool → Shared → Prop} (x : PairAt s.heap v p) (h : Q false s) : wpAny (model prog w) A (hashByValue 8 v) Q E s := by
  obtain ⟨r, t, u, rfl, e⟩ := x
  unfold hashByValue
  refine wpAny_bind (wpAny_specialOf (T := "tuple") ⟨_, e, rfl⟩ F.slot_tuple_hash.lookup ?_)
  dsimp only
  refine wpAny_bind (wpAny_seqItems e rfl ?_)
  refine wpAny_bind ?_
  rw [← Array.forIn_toList]
  simp only [Option.getD_some, List.forIn_cons, List.forIn_nil]
  refine wpAny_bind (wpAny_bind (by unfold hashByValue; refine wpAny_pure ?_; simp only [Bool.not_true, Bool.false_eq_true, if_false]; refine wpAny_pure ?_; dsimp only; refine wpAny_bind (wpAny_bind (by (try unfold hashByValue); refine wpAny_pure ?_; simp only [Bool.not_false, if_true]; refine wpAny_pure ?_; dsimp only; refine wpAny_pure ?_; dsimp only; exact wpAny_pure h))))
theorem pair_unseen {v : Value} {p : Int × Str} (x : PairAt s.heap v p) : ∀ (l : List Value) {Q : Bool → Shared → Prop}, (∀ y ∈ l, ∃ q, PairAt s.heap y q) → Q false s → wpAny (model prog w) A (searchCouldBeSeen v l) Q E s := by
  intro l Q hl h
  unfold searchCouldBeSeen
  refine wpAny_bind (wpAny_forIn_list _ (fun rest r s' => r.1 = none ∧ s' = s ∧ ∀ y ∈ rest, ∃ q, PairAt s.heap y q) _ ?_ ?_ _ _ ⟨rfl, rfl, hl⟩)
  · rintro y rest r s' ⟨hr, rfl, hall⟩
    obtain ⟨q, hy⟩ := hall y List.mem_cons_self
    have hrest : ∀ z ∈ rest, ∃ q, PairAt s'.heap z q := fun z hz => hall z (List.mem_cons_of_mem _ hz)
    obtain ⟨r1, t1, u1, rfl, e1⟩ := id x
    obtain ⟨r2, t2, u2, rfl, e2⟩ := id hy
    dsimp only
    split
    · exact wpAny_pure ⟨rfl, rfl, hrest⟩
    · refine wpAny_bind (pair_quiet x ?_)
      simp only [Bool.not_true, Bool.false_eq_true, if_false]
      refine wpAny_bind (pair_quiet hy ?_)
      simp only [Bool.not_true, Bool.false_eq_true, if_false]
      refine wpAny_bind (pair_class x ?_)
      simp only [Bool.false_eq_true, if_false]
      refine wpAny_bind (pair_class hy ?_)
      simp only [Bool.false_eq_true, if_false]
      exact wpAny_pure ⟨rfl, rfl, hrest⟩
  · rintro ⟨r1, r2⟩ s' ⟨hr, rfl, _⟩
    simp only at hr
    subst hr
    exact wpAny_pure h
end

abbrev setO (es : Array (Int × Value)) (ep : Nat) (t : SetTable) : Obj := { cls := .type "set", dict := none, data := .set es ep t }
abbrev Ent := Value × (Int × Str)
def entF (H : Int × Str → Int) (q : Ent) : Int × Value := (H q.2, q.1)
structure SetRep (H : Int × Str → Int) (h : Heap) (es : Array (Int × Value)) (t : SetTable) (L : List Ent) : Prop where
  ents : es.toList = L.map (entF H)
  items : ∀ q ∈ L, PairAt h q.1 q.2
  nd : (L.map (·.2)).Nodup
  tab : TabOk t (L.map fun q => H q.2)
theorem SetRep.size {H : Int × Str → Int} {h : Heap} {es : Array (Int × Value)} {t : SetTable} {L : List Ent} (R : SetRep H h es t L) : es.size = L.length := by
  rw [← Array.length_toList, R.ents, List.length_map]
theorem SetRep.fits {H : Int × Str → Int} {h : Heap} {es : Array (Int × Value)} {t : SetTable} {L : List Ent} (R : SetRep H h es t L) (hf : L.length ≤ t.mask) : t.fits es.size = true := by
  have h1 := R.tab.size
  rw [List.length_map] at h1
  simp only [SetTable.fits, SetTable.fill, R.tab.dum, R.size, h1]
  simp
  exact hf
theorem SetRep.at' {H : Int × Str → Int} {h : Heap} {es : Array (Int × Value)} {t : SetTable} {L : List Ent} (R : SetRep H h es t L) {i : Nat} {q : Ent} (hq : L[i]? = some q) : es[i]? = some (H q.2, q.1) := by
  rw [← Array.getElem?_toList, R.ents, List.getElem?_map, hq]; rfl
section
variable {prog : Program} {w : World} {A : Around} {E : Value → Shared → Prop} {s : Shared}
theorem probe_eq (t : SetTable) (hashAt : Nat → Int) (h : Int) (p : SetTable.Probe) : t.probe hashAt h p = SetTable.probe.go t hashAt h (10 * SetTable.turns t.mask) p := by unfold SetTable.probe; rfl
theorem mask_odd {t : SetTable} {hs : List Int} (X : TabOk t hs) : t.gaveWay = false := by
  unfold SetTable.gaveWay
  rcases X.m with e | e <;> rw [e] <;> rfl
theorem search_from {H : Int × Str → Int} {S : Addr} {es : Array (Int × Value)} {ep : Nat} {t : SetTable} {L : List Ent} {v : Value} {p : Int × Str} {Q : SetFound → Shared → Prop} (hu : A.units < cLine) (ho : s.heap.get? S = some (setO es ep t)) (R : SetRep H s.heap es t L) (hf : L.length ≤ t.mask)
    (x : PairAt s.heap v p) {N : Nat} (hN : (itn t.mask N (stt t.mask (H p))).j ∉ t.place.toList) (hNb : N ≤ 10 * (13 + t.mask))
    (hthere : p ∈ L.map (·.2) → Q (.there none) s)
    (hfree : ∀ k, p ∉ L.map (·.2) → (itn t.mask k (stt t.mask (H p))).j ∉ t.place.toList → (∀ k', k' < k → (itn t.mask k' (stt t.mask (H p))).j ∈ t.place.toList) → Q (.free (itn t.mask k (stt t.mask (H p))).j false) s) :
    ∀ (f k0 : Nat) (stand : Option SetTable.Probe), N - k0 < f → k0 ≤ N → stand.getD (t.probeStart (H p)) = itn t.mask k0 (stt t.mask (H p)) →
      (∀ k', k' < k0 → ∃ (i : Nat) (q : Ent), t.place[i]? = some (itn t.mask k' (stt t.mask (H p))).j ∧ L[i]? = some q ∧ q.2 ≠ p) →
      wpAny (model prog w) A (setSearchFrom S v (H p) true f stand) Q E s := by
  intro f
  induction f with
  | zero => intro k0 stand h1 h2; omega
  | succ f ih =>
    intro k0 stand hfu hk0 hst hpre
    unfold setSearchFrom
    refine wpAny_bind (wpAny_setState_of ho rfl (R.fits hf) ?_)
    dsimp only
    rw [if_neg (by rw [mask_odd R.tab]; exact Bool.false_ne_true), hst]
    have key : ∀ hashAt : Nat → Int, (∀ i, i < L.length → hashAt i = (L.map fun q => H q.2).getD i 0) → ∃ m, t.probe hashAt (H p) (itn t.mask k0 (stt t.mask (H p))) = some m ∧ Meets t (L.map fun q => H q.2) (H p) k0 m := fun hashAt hh => by
      rw [probe_eq]
      exact probe_go R.tab hashAt (fun i hi => hh i (by simpa using hi)) (H p) hN (10 * SetTable.turns t.mask) k0 (by unfold SetTable.turns; omega) hk0
    have hash_ok : ∀ i, i < L.length → (es[i]?.map (·.1)).getD 0 = (L.map fun q => H q.2).getD i 0 := fun i hi => by
      have e := R.at' (getElem?_pos L i hi)
      rw [e]
      simp [hi]
    have notyet : ∀ (i : Nat) (j : Nat), t.place[i]? = some j → i < L.length := fun i j e => by
      have := (Array.getElem?_eq_some_iff.mp e).1
      rw [R.tab.size, List.length_map] at this
      exact this
    generalize hpr : t.probe _ (H p) _ = pr
    obtain ⟨m, e, M⟩ := key _ hash_ok
    have hpr' : some m = pr := e.symm.trans hpr
    subst hpr'
    dsimp only
    cases M with
    | empty k hk hj hb =>
      dsimp only
      refine wpAny_pure (hfree k (fun hm => ?_) hj fun k' hk' => ?_)
      · obtain ⟨q, hq, rfl⟩ := List.mem_map.mp hm
        obtain ⟨i, hi⟩ := List.mem_iff_getElem?.mp hq
        have hil : i < L.length := (List.getElem?_eq_some_iff.mp hi).1
        have hip : i < t.place.size := by rw [R.tab.size, List.length_map]; exact hil
        have hz : (t.place[i], H q.2) ∈ t.place.toList.zip (L.map fun q => H q.2) := by
          refine List.mem_iff_getElem?.mpr ⟨i, ?_⟩
          rw [List.getElem?_zip_eq_some]
          exact ⟨by simp [hip], by rw [List.getElem?_map, hi]; rfl⟩
        obtain ⟨k1, e1, e2⟩ := R.tab.path _ hz
        have hlt : k1 < k := by
          rcases Nat.lt_or_ge k1 k with h | h
          · exact h
          · exfalso
            rcases Nat.eq_or_lt_of_le h with rfl | h
            · apply hj; dsimp only at e1; rw [e1]; simp
            · exact hj (e2 k h)
        dsimp only at e1
        have hsame : ∀ i', t.place[i']? = some t.place[i] → i' = i := fun i' e' => by
          rw [← below_at R.tab.ris e', below_at R.tab.ris (getElem?_pos t.place i hip)]
        by_cases hc : k1 < k0
        · obtain ⟨i', q', a1, a2, a3⟩ := hpre k1 hc
          rw [e1] at a1
          rw [hsame i' a1, hi] at a2
          cases a2
          exact a3 rfl
        · obtain ⟨i', a1, a2⟩ := hb k1 (by omega) hlt
          rw [e1] at a1
          rw [hsame i' a1] at a2
          apply a2
          simp [hi]
      · by_cases hc : k' < k0
        · obtain ⟨i', q', a1, _⟩ := hpre k' hc
          exact Array.mem_toList_iff.mpr (Array.mem_of_getElem? a1)
        · obtain ⟨i', a1, _⟩ := hb k' (by omega) hk'
          exact Array.mem_toList_iff.mpr (Array.mem_of_getElem? a1)
    | cand k i hk hi hh hb =>
      dsimp only
      have hil := notyet _ _ hi
      have hLi : L[i]? = some L[i] := getElem?_pos L i hil
      have hesi := R.at' hLi
      have hmem : L[i] ∈ L := List.getElem_mem hil
      have hy := R.items _ hmem
      have hkN : k < N := by
        rcases Nat.lt_trichotomy k N with h | h | h
        · exact h
        · exact absurd (Array.mem_toList_iff.mpr (Array.mem_of_getElem? hi)) (h ▸ hN)
        · obtain ⟨i', a1, _⟩ := hb N hk0 h
          exact absurd (Array.mem_toList_iff.mpr (Array.mem_of_getElem? a1)) hN
      have main : wpAny (model prog w) A (match es[i]? with
          | some (_, y) => (do
            let equal ← holding [y] (eqBool y v)
            let (es', _, t') ← setState S
            if true && equal then return SetFound.there none
            let some same := t'.sameMemory t.moves t.mask | unsupported "set.changed-during-lookup:is-the-new-block-at-the-old-address"
            let still ← match (if same then t'.slot (itn t.mask k (stt t.mask (H p))).j else .empty) with
              | .live i' => match es'[i']? with
                | some (_, y') => do pure (if ← isSame y' y then some i' else none)
                | none => pure none
              | _ => pure none
            match still with
            | none => rule "set.search.anew"; setSearchFrom S v (H p) true f none
            | some i' => if equal then return .there (some i') else setSearchFrom S v (H p) true f (some (itn t.mask (k + 1) (stt t.mask (H p)))))
          | _ => unsupported "internal:set-entry") Q E s := by
        rw [hesi]
        dsimp only
        refine wpAny_bind (wpAny_holding (pair_eq hu hy x ?_))
        refine wpAny_bind (wpAny_setState_of ho rfl (R.fits hf) ?_)
        dsimp only
        by_cases hpq : L[i].2 = p
        · rw [if_pos (by simp [hpq])]
          exact wpAny_pure (hthere (List.mem_map.mpr ⟨L[i], hmem, hpq⟩))
        · rw [if_neg (by simp [hpq])]
          have hsm : t.sameMemory t.moves t.mask = some true := by unfold SetTable.sameMemory; simp
          rw [hsm]
          dsimp only
          rw [if_pos rfl, slot_live R.tab.ris hi]
          dsimp only
          rw [hesi]
          dsimp only
          obtain ⟨r1, t1, u1, e1, g1⟩ := hy
          rw [e1]
          refine wpAny_bind (wpAny_isSame_ref_self (wpAny_bind (wpAny_pure ?_)))
          rw [if_pos rfl]
          dsimp only
          rw [if_neg (by simp [hpq])]
          refine ih (k + 1) (some _) (by omega) (by omega) rfl fun k' hk' => ?_
          by_cases hc : k' < k0
          · exact hpre k' hc
          · by_cases hc2 : k' = k
            · subst hc2; exact ⟨i, L[i], hi, hLi, hpq⟩
            · obtain ⟨i', a1, a2⟩ := hb k' (by omega) (by omega)
              have hil' := notyet _ _ a1
              refine ⟨i', L[i'], a1, getElem?_pos L i' hil', fun q => a2 ?_⟩
              simp [hil', q]
      have old : ∀ y ∈ List.map (·.2) (es.filter (·.1 == H p)).toList, ∃ q, PairAt s.heap y q := fun y hy => by
        obtain ⟨e, he, rfl⟩ := List.mem_map.mp hy
        have : e ∈ es.toList := by
          rw [Array.toList_filter] at he
          exact (List.mem_filter.mp he).1
        rw [R.ents] at this
        obtain ⟨q, hq, rfl⟩ := List.mem_map.mp this
        exact ⟨q.2, R.items q hq⟩
      cases hled : t.led with
      | true =>
        rw [if_neg (by simp)]
        exact main
      | false =>
        rw [if_pos (by simp)]
        refine wpAny_bind (pair_unseen x _ old ?_)
        rw [if_neg Bool.false_ne_true]
        exact main
end

def SetIs (H : Int × Str → Int) (h : Heap) (S : Addr) (led : Bool) (L : List Ent) : Prop :=
  ∃ es ep t, h.get? S = some (setO es ep t) ∧ SetRep H h es t L ∧ L.length * 5 < t.mask * 3 ∧ t.led = led ∧ (L ≠ [] → t.plain = false)
theorem tupKeep_set {h h' : Heap} {S : Addr} {es : Array (Int × Value)} {ep : Nat} {t : SetTable} (ho : h.get? S = some (setO es ep t)) (k : Heap.SameBut S h h') : TupKeep h h' :=
  TupKeep.sameBut ho (fun vs q => by have := congrArg Obj.data q; cases this) k
theorem relay_rep {H : Int × Str → Int} {h : Heap} {es : Array (Int × Value)} {t : SetTable} {L : List Ent} (R : SetRep H h es t L) {t' : SetTable} {order : Array Nat}
    (T : TabOk t' (order.toList.map fun i => (L.map fun q => H q.2).getD i 0)) (hp : order.toList.Perm (List.range L.length)) :
    ∃ L', SetRep H h (order.filterMap (es[·]?)) t' L' ∧ L'.Perm L := by
  have hlt : ∀ i ∈ order.toList, i < L.length := fun i hi => List.mem_range.mp (hp.mem_iff.mp hi)
  have hL : (order.toList.filterMap (L[·]?)).Perm L := by
    have := List.Perm.filterMap (fun i => L[i]?) hp
    rw [List.filterMap_getElem?_range_length] at this
    exact this
  refine ⟨order.toList.filterMap (L[·]?), ⟨?_, fun q hq => R.items q (hL.mem_iff.mp hq), (hL.map _).nodup_iff.mpr R.nd, ?_⟩, hL⟩
  · rw [Array.toList_filterMap, List.map_filterMap]
    congr 1
    funext i
    rw [← Array.getElem?_toList, R.ents, List.getElem?_map]
  · have e : (order.toList.filterMap (L[·]?)).map (fun q => H q.2) = order.toList.map fun i => (L.map fun q => H q.2).getD i 0 := by
      generalize order.toList = l at hlt
      induction l with
      | nil => rfl
      | cons i l ih =>
        have hi : i < L.length := hlt i (.head _)
        rw [List.filterMap_cons, getElem?_pos L i hi, List.map_cons, List.map_cons, ih fun j hj => hlt j (.tail _ hj)]
        congr 1
        simp [hi]
    rw [e]
    exact T
section
variable {prog : Program} {w : World} {A : Around} {E : Value → Shared → Prop} {s : Shared}
theorem relay_to {H : Int × Str → Int} {S : Addr} {es : Array (Int × Value)} {ep : Nat} {t : SetTable} {L : List Ent} {Q : Unit → Shared → Prop} (ho : s.heap.get? S = some (setO es ep t)) (R : SetRep H s.heap es t L) (hm : t.mask = 7) (hl : L.length = 5)
    (hQ : ∀ h' L', Heap.SameBut S s.heap h' → (∃ es' ep' t', h'.get? S = some (setO es' ep' t') ∧ SetRep H h' es' t' L' ∧ L'.length * 5 < t'.mask * 3 ∧ t'.led = t.led ∧ t'.plain = t.plain) → L'.Perm L → Q () { s with heap := h' }) :
    wpAny (model prog w) A (setRelay S 20) Q E s := by
  unfold setRelay
  refine wpAny_bind (wpAny_setState_of ho rfl (R.fits (by omega)) ?_)
  dsimp only
  have e1 : SetTable.sizeAbove 20 = 32 := by decide
  rw [e1, if_neg (by decide)]
  obtain ⟨t', order, e2, T, hp, hm', hled, hpl, _⟩ := laid_ok (M := 31) (.inr rfl) (L.map fun q => H q.2) (by rw [List.length_map]; omega) t.finger (t.movedTo 31) t.led t.plain
  have e3 : t.relaid (es.map (·.1)) 20 = some (t', order) := by
    unfold SetTable.relaid
    rw [e1]
    have : es.map (·.1) = (L.map fun q => H q.2).toArray := by
      apply Array.toList_inj.mp
      rw [Array.toList_map, R.ents, List.map_map]
      rfl
    rw [this]
    exact e2
  rw [e3]
  rw [List.length_map] at hp
  obtain ⟨L', R', hL'⟩ := relay_rep R T hp
  have hsz : (order.filterMap (es[·]?)).size = es.size := by rw [R'.size, R.size]; exact hL'.length_eq
  refine wpAny_bind (show wpAny (model prog w) A (do
    let es' := order.filterMap (es[·]?)
    if es'.size != es.size then unsupported "internal:set-table-lost-an-element"
    pure (es', t')) _ E s from ?_)
  dsimp only
  rw [if_neg (by rw [hsz]; simp)]
  refine wpAny_pure ?_
  dsimp only
  have sb := Heap.SameBut.update s.heap S (Obj.putSet (order.filterMap (es[·]?)) t')
  have ho' : (s.heap.update S (Obj.putSet (order.filterMap (es[·]?)) t')).get? S = some (setO (order.filterMap (es[·]?)) (ep + 1) t') := Heap.get?_update_self _ ho rfl
  refine wpAny_storeSet_of ho rfl (hQ _ L' sb ⟨_, _, _, ho', ⟨R'.ents, fun q hq => (R'.items q hq).tup (tupKeep_set ho sb), R'.nd, R'.tab⟩, ?_, hled, hpl⟩ hL') ?_
  · rw [hL'.length_eq, hm']; omega
  · rw [hsz, R.size, sizeLine_eq]; omega
theorem add_in {H : Int × Str → Int} {S : Addr} {led : Bool} {L : List Ent} {v : Value} {p : Int × Str} {Q : Bool → Shared → Prop} (hu : A.units < cLine) (I : SetIs H s.heap S led L) (x : PairAt s.heap v p) (hl : L.length ≤ 8) (f : Nat)
    (hQ : ∀ h' L' b, Heap.SameBut S s.heap h' → SetIs H h' S led L' → L'.Perm (if p ∈ L.map (·.2) then L else (v, p) :: L) → Q b { s with heap := h' }) :
    wpAny (model prog w) A (setAddHashedIn S v (H p) (f + 1)) Q E s := by
  obtain ⟨es, ep, t, ho, R, hfew, hled, hpl⟩ := I
  have hm : t.mask = 7 ∨ t.mask = 31 := R.tab.m
  have hf : L.length ≤ t.mask := by rcases hm with e | e <;> rw [e] at hfew ⊢ <;> omega
  unfold setAddHashedIn
  refine wpAny_bind (wpAny_setState_of ho rfl (R.fits hf) ?_)
  obtain ⟨r, t1, u1, rfl, g⟩ := id x
  dsimp only
  rw [if_neg (by simp [byScan, Value.scannable])]
  unfold setSearch
  obtain ⟨N, hNb, hN⟩ := ends R.tab (by rw [List.length_map]; exact hf) (H p)
  refine wpAny_bind (search_from hu ho R hf x hN hNb (fun hin => ?_) (fun k hnin hj hbefore => ?_) 100000 0 none (by rcases hm with e | e <;> rw [e] at hNb <;> omega) (Nat.zero_le _) (stt_eq rfl _) fun k' hk' => absurd hk' (Nat.not_lt_zero _))
  · dsimp only
    refine wpAny_pure (hQ s.heap L false ⟨rfl, fun _ _ => rfl⟩ ⟨es, ep, t, ho, R, hfew, hled, hpl⟩ ?_)
    rw [if_pos hin]
  · dsimp only
    refine wpAny_bind (wpAny_setState_of ho rfl (R.fits hf) ?_)
    dsimp only
    generalize hj' : (itn t.mask k (stt t.mask (H p))).j = j at hj
    obtain ⟨T, m1, m2, m3, m4⟩ := put_ok R.tab hj (hj' ▸ j_le _ _) ⟨k, hj', hbefore⟩
    have hes : (SetTable.insertAt es (t.put j).2 (H p, Value.ref r)).toList = (L.take (t.put j).2 ++ (Value.ref r, p) :: L.drop (t.put j).2).map (entF H) := by
      rw [insAt, R.ents, List.map_append, List.map_cons, List.map_take, List.map_drop]
      rfl
    have hperm : (L.take (t.put j).2 ++ (Value.ref r, p) :: L.drop (t.put j).2).Perm ((Value.ref r, p) :: L) := by
      have := List.perm_middle (a := (Value.ref r, p)) (l₁ := L.take (t.put j).2) (l₂ := L.drop (t.put j).2)
      rw [List.take_append_drop] at this
      exact this
    generalize hL1 : L.take (t.put j).2 ++ (Value.ref r, p) :: L.drop (t.put j).2 = L1 at hes hperm
    have hlen : L1.length = L.length + 1 := by rw [hperm.length_eq]; rfl
    have hhs : L1.map (fun q => H q.2) = (L.map fun q => H q.2).take (t.put j).2 ++ H p :: (L.map fun q => H q.2).drop (t.put j).2 := by
      rw [← hL1, List.map_append, List.map_cons, List.map_take, List.map_drop]
    rw [← hhs] at T
    have fin : ∀ pl : Bool, pl = false → wpAny (model prog w) A (do
        storeSet S (SetTable.insertAt es (t.put j).2 (H p, Value.ref r)) { (t.put j).1 with plain := pl }
        if !false && ({ (t.put j).1 with plain := pl } : SetTable).tooFull then setRelay S (SetTable.grown (es.size + 1))
        return true) Q E s := by
      rintro _ rfl
      have T' : TabOk { (t.put j).1 with plain := false } (L1.map fun q => H q.2) := ⟨T.dum, T.m, T.size, T.ris, T.le, T.path⟩
      have sb := Heap.SameBut.update s.heap S (Obj.putSet (SetTable.insertAt es (t.put j).2 (H p, Value.ref r)) { (t.put j).1 with plain := false })
      have ho' : (s.heap.update S (Obj.putSet (SetTable.insertAt es (t.put j).2 (H p, Value.ref r)) { (t.put j).1 with plain := false })).get? S = some (setO (SetTable.insertAt es (t.put j).2 (H p, Value.ref r)) (ep + 1) { (t.put j).1 with plain := false }) := Heap.get?_update_self _ ho rfl
      have hz : (SetTable.insertAt es (t.put j).2 (H p, Value.ref r)).size ≤ sizeLine := by
        rw [← Array.length_toList, hes, List.length_map, hlen, sizeLine_eq]; omega
      refine wpAny_bind (wpAny_storeSet_of ho rfl ?_ hz)
      have ht1 : ({ (t.put j).1 with plain := false } : SetTable).mask = t.mask := m1
      have ht2 : ({ (t.put j).1 with plain := false } : SetTable).led = led := m2.trans hled
      have ht3 : ({ (t.put j).1 with plain := false } : SetTable).plain = false := rfl
      have hful : ({ (t.put j).1 with plain := false } : SetTable).tooFull = decide (L1.length * 5 ≥ t.mask * 3) := by
        unfold SetTable.tooFull SetTable.fill
        rw [T'.dum, T'.size, List.length_map, ht1]
        rfl
      generalize s.heap.update S (Obj.putSet (SetTable.insertAt es (t.put j).2 (H p, Value.ref r)) { (t.put j).1 with plain := false }) = h1 at sb ho' ⊢
      generalize ({ (t.put j).1 with plain := false } : SetTable) = t2 at T' ho' ht1 ht2 ht3 hful ⊢
      generalize SetTable.insertAt es (t.put j).2 (H p, Value.ref r) = es2 at ho' hes
      have R1 : SetRep H h1 es2 t2 L1 := ⟨hes, fun q hq => by
        rcases List.mem_cons.mp (hperm.mem_iff.mp hq) with rfl | hq
        · exact x.tup (tupKeep_set ho sb)
        · exact (R.items q hq).tup (tupKeep_set ho sb), by
        refine (hperm.map _).nodup_iff.mpr ?_
        exact List.nodup_cons.mpr ⟨hnin, R.nd⟩, T'⟩
      rw [hful]
      by_cases hc : L1.length * 5 ≥ t.mask * 3
      · have hm7 : t.mask = 7 := by rcases hm with e | e; · exact e
                                    · rw [e] at hc; omega
        rw [hm7] at hc hfew
        have hl5 : L1.length = 5 := by omega
        rw [if_pos (by rw [hm7]; simp [hc])]
        have hg : SetTable.grown (es.size + 1) = 20 := by rw [R.size, show L.length = 4 by omega]; rfl
        rw [hg]
        refine wpAny_bind (relay_to (s := { s with heap := h1 }) ho' R1 (by rw [ht1, hm7]) hl5 fun h' L' sb' hh hp => wpAny_pure ?_)
        obtain ⟨es', ep', t', a1, a2, a3, a4, a5⟩ := hh
        refine hQ h' L' true ⟨sb'.1.trans sb.1, fun b hb => (sb'.2 b hb).trans (sb.2 b hb)⟩ ⟨es', ep', t', a1, a2, a3, a4.trans ht2, fun _ => a5.trans ht3⟩ ?_
        rw [if_neg hnin]
        exact hp.trans hperm
      · rw [if_neg (by simp [hc])]
        refine wpAny_pure ?_
        refine hQ h1 L1 true sb ⟨es2, ep + 1, t2, ho', R1, by rw [ht1]; omega, ht2, fun _ => ht3⟩ ?_
        rw [if_neg hnin]
        exact hperm
    cases hpv : t.plain with
    | true =>
      rw [if_pos (m3.trans hpv)]
      refine wpAny_bind (pair_byValue x ?_)
      rw [if_neg Bool.false_ne_true]
      exact fin false rfl
    | false =>
      rw [if_neg (by rw [m3, hpv]; exact Bool.false_ne_true)]
      refine wpAny_bind (wpAny_pure ?_)
      rw [if_pos rfl]
      have eta : ∀ u : SetTable, u.plain = false → u = { u with plain := false } := by rintro ⟨⟩ h; cases h; rfl
      rw [eta _ (m3.trans hpv)]
      exact fin false rfl
theorem pair_add {S : Addr} {led : Bool} {L : List Ent} {v : Value} {p : Int × Str} {Q : Bool → Shared → Prop} (hu : A.units < cLine) (I : SetIs (hP prog w) s.heap S led L) (x : PairAt s.heap v p) (hl : L.length ≤ 8)
    (hQ : ∀ h' L' b, Heap.SameBut S s.heap h' → SetIs (hP prog w) h' S led L' → L'.Perm (if p ∈ L.map (·.2) then L else (v, p) :: L) → Q b { s with heap := h', toks := s.toks + 3 }) :
    wpAny (model prog w) A (setAdd S v) Q E s := by
  unfold setAdd
  refine wpAny_holding (wpAny_bind (pair_hash hu x ?_))
  unfold setAddHashed
  exact wpAny_holding (add_in (s := { s with toks := s.toks + 3 }) hu I x hl 99999 hQ)
end

section
variable {prog : Program} {w : World} {A : Around} {R : Result → Shared → Prop} {I : Addr} {fp wr : List Addr} {G : Array GenState → Array GenState → Prop} {n : Nat} {P : Nat → Value → Prop} {St : Nat → Shared → Prop}
/-- the loop that fills a set of pairs -/
theorem fill_loop (W : WalksS prog w A.in1 I fp wr G n P St) (S : Addr) (hSf : S ∉ fp) (hu : A.units + 1 < cLine) (ps : Nat → Int × Str) (ds : List (Int × Str)) (hds : ds.length ≤ 8) (hps : ∀ i, i < n → ps i ∈ ds)
    (hnt : ∀ i s, St i s → ∀ b ∈ wr, ∃ o, s.heap.get? b = some o ∧ NotTup o) (led : Bool) :
    ∀ (k i : Nat) (s : Shared) (L : List Ent), n - i = k → i ≤ n → St i s → SetIs (hP prog w) s.heap S led L → (∀ p, p ∈ L.map (·.2) ↔ ∃ j, j < i ∧ ps j = p) → (∀ j v, j < n → P j v → PairAt s.heap v (ps j)) →
      (∀ s' L', Moved (S :: wr) G s s' → TupKeep s.heap s'.heap → SetIs (hP prog w) s'.heap S led L' → (∀ p, p ∈ L'.map (·.2) ↔ ∃ j, j < n ∧ ps j = p) → R (.ok (.ret .none)) s') →
      codeAny (model prog w) A (.builtin "set.update.loop" ⟨[.ref S, .ref I], []⟩) R s := by
  have hSw : S ∉ wr := fun h => hSf (W.sub _ h)
  have hsub : ∀ b ∈ wr, b ∈ S :: wr := fun b hb => List.mem_cons_of_mem _ hb
  have keepS : ∀ {s s' : Shared} {i : Nat} {L : List Ent}, St i s → Moved wr G s s' → SetIs (hP prog w) s.heap S led L → TupKeep s.heap s'.heap ∧ SetIs (hP prog w) s'.heap S led L := fun {s s' i L} hst hm hS => by
    have tk : TupKeep s.heap s'.heap := TupKeep.but (hnt i s hst) fun b o hb e => hm.heap b o hb e
    obtain ⟨es, ep, t, ho, Rp, rest⟩ := hS
    exact ⟨tk, es, ep, t, hm.heap S _ hSw ho, ⟨Rp.ents, fun q hq => (Rp.items q hq).tup tk, Rp.nd, Rp.tab⟩, rest⟩
  intro k
  induction k with
  | zero =>
    intro i s L hk hi hst hS hL hP hR
    have hin : i = n := by omega
    subst hin
    refine codeAny_builtin F.entry_set_update_loop ?_
    rw [Around.under_plainId F.plain_set_update_loop _]
    show wpAny _ A.in1 (pyNext (.ref I) >>= _) _ _ s
    refine wpAny_bind (W.done s _ _ hst fun s' hm => ?_)
    show wpAny _ A.in1 (ret Value.none) _ _ s'
    obtain ⟨tk, hS'⟩ := keepS hst hm hS
    exact wpAny_pure (hR s' L (hm.mono hsub) tk hS' hL)
  | succ k ih =>
    intro i s L hk hi hst hS hL hP hR
    have hlt : i < n := by omega
    refine codeAny_builtin F.entry_set_update_loop ?_
    rw [Around.under_plainId F.plain_set_update_loop _]
    show wpAny _ A.in1 (pyNext (.ref I) >>= _) _ _ s
    refine wpAny_bind (W.item i s _ _ hlt hst fun v s' hPv hst' hm => ?_)
    obtain ⟨tk, hS'⟩ := keepS hst hm hS
    have hx := (hP i v hlt hPv).tup tk
    show wpAny _ A.in1 (holding [v] (setAdd S v) >>= _) _ _ s'
    refine wpAny_bind (wpAny_holding ?_)
    have hlen : L.length ≤ 8 := by
      obtain ⟨es, ep, t, ho, Rp, rest⟩ := hS
      have := List.Nodup.length_le_of_subset Rp.nd (l₂ := ds) fun p hp => by
        obtain ⟨j, hj, rfl⟩ := (hL p).mp hp
        exact hps j (by omega)
      rw [List.length_map] at this
      omega
    refine pair_add (by simpa using hu) hS' hx hlen fun h' L' b hsb hS2 hperm => ?_
    have tk2 : TupKeep s'.heap h' := by obtain ⟨es, ep, t, ho, _⟩ := hS'; exact tupKeep_set ho hsb
    have hL' : ∀ p, p ∈ L'.map (·.2) ↔ ∃ j, j < i + 1 ∧ ps j = p := fun p => by
      rw [(hperm.map (·.2)).mem_iff]
      have step : (∃ j, j < i + 1 ∧ ps j = p) ↔ (∃ j, j < i ∧ ps j = p) ∨ ps i = p := by
        constructor
        · rintro ⟨j, hj, e⟩
          by_cases hji : j = i
          · subst hji; exact .inr e
          · exact .inl ⟨j, by omega, e⟩
        · rintro (⟨j, hj, e⟩ | e)
          · exact ⟨j, by omega, e⟩
          · exact ⟨i, by omega, e⟩
      rw [step, ← hL p]
      split
      · rename_i hin
        constructor
        · exact .inl
        · rintro (h | rfl)
          · exact h
          · exact hin
      · rw [List.map_cons, List.mem_cons]
        constructor
        · rintro (rfl | h)
          · exact .inr rfl
          · exact .inl h
        · rintro (h | rfl)
          · exact .inr h
          · exact .inl rfl
    refine wpAny_pure ⟨plainId_quiet F.plain_set_update_loop _, ih (i + 1) _ L' (by omega) hlt (W.frame _ s' _ _ hst' (by omega) fun b hb o e => ?_) hS2 hL' (fun j u hj hu' => ((hP j u hj hu').tup tk).tup tk2) fun s'' L'' hm'' tk'' hS'' hL'' => ?_⟩
    · rw [hsb.2 b (fun h : b = S => hSf (by rw [← h]; exact hb))]; exact e
    · refine hR s'' L'' (Moved.trans W.gtrans ((hm.mono hsub).then_heap (by omega) fun b o hb e => ?_) hm'') ((tk.trans tk2).trans tk'') hS'' hL''
      rw [hsb.2 b (fun h : b = S => hb (by rw [h]; exact List.mem_cons_self))]; exact e
end

theorem setIs_fresh {H : Int × Str → Int} {h : Heap} {S : Addr} {led : Bool} (e : h.get? S = some (setO #[] 0 (.fresh 0 0 led))) : SetIs H h S led [] :=
  ⟨_, _, _, e, ⟨rfl, fun q hq => absurd hq List.not_mem_nil, List.nodup_nil, ⟨rfl, .inl rfl, rfl, List.Pairwise.nil, fun j hj => absurd hj List.not_mem_nil, fun q hq => absurd hq List.not_mem_nil⟩⟩, (show ([] : List Ent).length * 5 < 7 * 3 by decide), rfl, fun h => absurd rfl h⟩
section
variable {prog : Program} {w : World} {A : Around} {E : Value → Shared → Prop} {s : Shared}
def ledOf (w : World) : Bool := !(w.params.followText "set-order")
theorem code_set_new_led (a : Value) {Q₁ : Value → Shared → Prop}
    (h : Q₁ (.ref s.heap.objs.size) { s with heap := s.heap.push { cls := .type "set", dict := none, data := .set #[] 0 (.fresh 0 0 (ledOf w)) } }) :
    codeAny (model prog w) A (.call (.builtin "set.__new__") ⟨[.type "set", a], []⟩) (wants Q₁ E) s := by
  refine codeAny_of_tree ?_
  show wpAny _ A.in1 (do checkBuiltinCall "set.__new__" ⟨[.type "set", a], []⟩; again (.builtin "set.__new__" ⟨[.type "set", a], []⟩)) _ _ s
  refine wpAny_bind (wpAny_of_eq (PySem.F.newCall_set_1 a) (wpAny_pure ⟨plainId_quiet PySem.F.plain_set_new _, codeAny_builtin PySem.F.entry_set_new ?_⟩))
  rw [Around.under_plainId PySem.F.plain_set_new _]
  unfold Builtin.«set.__new__» Builtin.Frozenset.newClass
  have hsub := sub_set_self
  obtain ⟨hp, g, d, tk, os⟩ := s
  dsimp only
  wp_walk
  refine wpAny_askSetting (wpAny_pure ?_)
  dsimp only
  simp only [newObj]
  refine wpAny_bind (wpAny_alloc (wpAny_pure ?_))
  exact wpAny_pure h
theorem call_set_pairs {l : Addr} {items : Array Value} {ps : Nat → Int × Str} {ds : List (Int × Str)} {Q : Value → Shared → Prop}
    (hh : A.handled = none) (hu : A.units + 8 < cLine) (hl : s.heap.IsList l items) (hi : ∀ i v, items[i]? = some v → PairAt s.heap v (ps i)) (hds : ds.length ≤ 8) (hps : ∀ i, i < items.size → ps i ∈ ds)
    (h : ∀ (S : Addr) (h' : Heap) (tk : Nat) (L : List Ent), s.heap.objs.size ≤ S → SetIs (hP prog w) h' S (ledOf w) L → (∀ p, p ∈ L.map (·.2) ↔ ∃ j, j < items.size ∧ ps j = p) → Keeps s.heap h' → Q (.ref S) { s with heap := h', toks := tk }) :
    wpAny (model prog w) A (call (.type "set") [.ref l]) Q E s := by
  obtain ⟨c, tl, hmro⟩ := PySem.F.called_set.mro
  have hmade := PySem.F.called_set.made
  have hsub := PySem.F.called_set.sub
  refine wpAny_call (codeAny_of_tree ?_)
  show wpAny _ _ (callAny (.type "set") _) _ _ _
  refine wpAny_pure ⟨Code.quiet_builtin _ (by decide +kernel), codeAny_builtin PySem.F.entry_type_call ?_⟩
  rw [Around.under_plain (weight_type_call_type "set" [.ref l] []) rfl]
  have h1 := PySem.F.called_set.notType
  have h2 := PySem.F.called_set.canCreate
  have hct := PySem.F.typeCall_set_1 (.ref l)
  repeat (any_goals (first | assumption | wp_step))
  refine codeAny_mono (code_set_new_led (.ref l) (E := E) (Q₁ := fun obj s₁ => ∃ led : Bool, led = ledOf w ∧ obj = .ref s.heap.objs.size ∧ s₁ = { s with heap := s.heap.push (setO #[] 0 (.fresh 0 0 led)) }) ⟨ledOf w, rfl, rfl, rfl⟩) fun r s₁ hr => ?_
  cases r with
  | error e => exact hr
  | ok fl =>
    cases fl with
    | ret obj =>
      obtain ⟨led, hledw, rfl, rfl⟩ := hr
      have hS : (s.heap.push (setO #[] 0 (.fresh 0 0 led))).get? s.heap.objs.size = some (setO #[] 0 (.fresh 0 0 led)) := Heap.get?_push_size _ rfl
      have hT : Shared.TypeIs { s with heap := s.heap.push (setO #[] 0 (.fresh 0 0 led)) } (.ref s.heap.objs.size) "set" := ⟨_, hS, rfl⟩
      have hli := PySem.F.called_set.init.lookup
      have hbi := PySem.F.called_set.init.bind (.ref s.heap.objs.size)
      repeat (any_goals (first | assumption | wp_step))
      refine codeAny_mono (codeAny_call_builtin (R := wants (fun r s₂ => r = .none ∧ ∃ h' tk L, s₂ = { s with heap := h', toks := tk } ∧
          SetIs (hP prog w) h' s.heap.objs.size led L ∧ (∀ p, p ∈ L.map (·.2) ↔ ∃ j, j < items.size ∧ ps j = p) ∧ Keeps s.heap h') E) PySem.F.called_set.init.plain PySem.F.entry_set_init (check_set_init_1 hT ?_)) fun r₂ s₂ hr₂ => ?_
      · obtain ⟨ol, hol, hcl, nl, hdl⟩ := hl
        obtain ⟨ocls, odict, odata, oslots⟩ := ol
        simp only at hcl hdl
        subst hcl; subst hdl
        have hol' : (s.heap.push (setO #[] 0 (.fresh 0 0 led))).get? l = some { cls := .type "list", dict := odict, data := .seq items nl, slots := oslots } := Heap.get?_push_of_some _ hol
        have hsls := PySem.F.sub_list_set
        have hslf := PySem.F.sub_list_frozenset
        have hne : (Value.type "list" == Value.type "dict") = false := by decide
        have hl1 : (s.heap.push (setO #[] 0 (.fresh 0 0 led))).IsList l items := ⟨_, hol', rfl, nl, rfl⟩
        unfold Builtin.«set.__init__» noKeywords Builtin.Frozenset.updateFrom
        generalize hPI : pyIter = PI
        wp_walk
        subst hPI
        refine wpAny_pyIter_list hl1 ?_
        refine wpAny_bind (wpAny_runValue ?_)
        have hlS : l < s.heap.objs.size := Heap.lt_size hol
        have hh3 : A.in1.in1.in1.handled = none := by simp [hh]
        have hneI : l ≠ (s.heap.push (setO #[] 0 (.fresh 0 0 led))).objs.size := by
          rw [Heap.size_push]; exact Nat.ne_of_lt (Nat.lt_succ_of_lt hlS)
        have hSf : s.heap.objs.size ∉ [(s.heap.push (setO #[] 0 (.fresh 0 0 led))).objs.size, l] := by
          rw [Heap.size_push]; simp only [List.mem_cons, List.mem_singleton, List.not_mem_nil, or_false, not_or]
          exact ⟨Nat.ne_of_lt (Nat.lt_succ_self _), Nat.ne_of_gt hlS⟩
        refine fill_loop ((Walks.list hh3 _ l hneI items).toS) s.heap.objs.size hSf (by simp; omega) ps ds hds hps ?hnt led (items.size - 0) 0 _ [] (by omega) (Nat.zero_le _)
          ⟨⟨_, Heap.get?_push_size _ rfl, rfl, rfl⟩, (hl1.push _)⟩ ?hS0 (fun p => ⟨fun hp => absurd hp List.not_mem_nil, fun ⟨j, hj, _⟩ => absurd hj (Nat.not_lt_zero _)⟩) (fun j v _ hv => (hi j v hv).tup fun b vs e => Heap.get?_push_of_some _ (Heap.get?_push_of_some _ e)) ?hR
        case hnt =>
          intro i s' hst b hb
          obtain ⟨o, e, _, hd⟩ := hst.1
          rw [List.mem_singleton.mp hb]
          exact ⟨o, e, NotTup.fields hd⟩
        case hS0 => exact setIs_fresh (Heap.get?_push_of_some _ hS)
        case hR =>
          intro s' L' hm tk hS' hL'
          obtain ⟨h', g', d', tk', os'⟩ := s'
          have eg : g' = s.gens := hm.gens
          have ed : d' = s.drawn := hm.drawn
          have eo : os' = s.os := hm.os
          subst eg; subst ed; subst eo
          show wpAny _ _ _ _ _ _
          refine wpAny_pure ?_
          show wpAny _ _ (ret Value.none) _ _ _
          refine wpAny_pure ⟨rfl, h', tk', L', rfl, hS', hL', fun b o e => ?_⟩
          have hb := Heap.lt_size e
          have hb1 : b ≠ s.heap.objs.size := Nat.ne_of_lt hb
          have hb2 : b ≠ (s.heap.push (setO #[] 0 (.fresh 0 0 led))).objs.size := by
            rw [Heap.size_push]; exact Nat.ne_of_lt (Nat.lt_succ_of_lt hb)
          exact hm.heap b o (by simp only [List.mem_cons, List.mem_singleton, List.not_mem_nil, or_false, not_or]; exact ⟨hb1, hb2⟩) (Heap.get?_push_of_some _ (Heap.get?_push_of_some _ e))
      · cases r₂ with
        | error e => exact hr₂
        | ok fl₂ =>
          cases fl₂ with
          | ret r =>
            obtain ⟨rfl, h', tk, L', rfl, hS', hL', hk'⟩ := hr₂
            repeat (any_goals (first | assumption | wp_step))
            exact h _ _ _ _ (Nat.le_refl _) (hledw ▸ hS') hL' hk'
          | _ => exact hr₂.elim
    | _ => exact hr.elim
end

/-! walking a set of pairs -/
theorem slot_setiter_next : Slot "set_iterator" "__next__" "set_iterator.__next__" :=
  .of (owner := "set_iterator") (n := "__next__") (by rw [typeLookup_type, builtinLookup_eq_fast]; kernel_rfl) (by decide +kernel) (by decide +kernel) (by decide +kernel)
    (by first | exact .inl (by decide +kernel) | exact .inr (by decide +kernel)) (by rw [isSubtype_type]; kernel_rfl)
theorem slot_setiter_iter : Slot "set_iterator" "__iter__" "set_iterator.__iter__" :=
  .of (owner := "set_iterator") (n := "__iter__") (by rw [typeLookup_type, builtinLookup_eq_fast]; kernel_rfl) (by decide +kernel) (by decide +kernel) (by decide +kernel)
    (by first | exact .inl (by decide +kernel) | exact .inr (by decide +kernel)) (by rw [isSubtype_type]; kernel_rfl)
theorem entry_setiter_next : entryFor table "set_iterator.__next__" = some Builtin.«set_iterator.__next__» := entryFor_of_tree (by kernel_rfl)
theorem entry_setiter_iter : entryFor table "set_iterator.__iter__" = some Builtin.«dict_keyiterator.__iter__» :=
  entryFor_alias (id' := "dict_keyiterator.__iter__") (by kernel_rfl) rfl (by decide +kernel) (by kernel_rfl)
theorem entry_set_iter : entryFor table "set.__iter__" = some Builtin.«frozenset.__iter__» :=
  entryFor_alias (id' := "frozenset.__iter__") (by kernel_rfl) rfl (by decide +kernel) (by kernel_rfl)
theorem args_setiter_next (a : Value) : argsOk "set_iterator.__next__" ⟨[a], []⟩ := by unfold argsOk; kernel_rfl
theorem args_setiter_iter (a : Value) : argsOk "set_iterator.__iter__" ⟨[a], []⟩ := by unfold argsOk; kernel_rfl
theorem wpAny_choose {M : Model} {A : Around} {E : Value → Shared → Prop} {s : Shared} {src : Source} {n : Nat} {Q : Nat → Shared → Prop} (hn : n ≠ 0) (h : ∀ i, i < n → Q i { s with drawn := s.drawn.bump src }) :
    wpAny M A (choose src n) Q E s := fun _ _ _ => ⟨hn, h _ (Nat.mod_lt _ (Nat.pos_of_ne_zero hn))⟩
theorem eraseIdx_perm {α : Type} : ∀ (xs : List α) (i : Nat) (x : α), xs[i]? = some x → xs.Perm (x :: xs.eraseIdx i)
  | [], i, x, h => by simp at h
  | y :: ys, 0, x, h => by simp at h; subst h; exact List.Perm.refl _
  | y :: ys, i + 1, x, h => by
    rw [List.eraseIdx_cons_succ]
    exact ((eraseIdx_perm ys i x (by simpa using h)).cons y).trans (List.Perm.swap ..)
theorem drawOrder_ok {M : Model} {A : Around} {E : Value → Shared → Prop} {α : Type} : ∀ (n : Nat) (xs : List α) (s : Shared) {Q : List α → Shared → Prop}, xs.length = n → (∀ ys d, ys.Perm xs → Q ys { s with drawn := d }) → wpAny M A (drawOrder n xs) Q E s
  | 0, xs, s, Q, hl, h => by
    obtain rfl := List.length_eq_zero_iff.mp hl
    unfold drawOrder
    exact wpAny_pure (h [] s.drawn (List.Perm.refl _))
  | n + 1, [], s, Q, hl, h => by simp at hl
  | n + 1, x :: xs, s, Q, hl, h => by
    unfold drawOrder
    refine wpAny_bind (wpAny_choose (by simp) fun i hi => ?_)
    rw [getElem?_pos (x :: xs) i hi]
    dsimp only
    have hp := eraseIdx_perm (x :: xs) i _ (getElem?_pos (x :: xs) i hi)
    have hlen : ((x :: xs).eraseIdx i).length = n := by have := hp.length_eq; simp only [List.length_cons] at this hl ⊢; omega
    refine wpAny_bind (drawOrder_ok n _ _ hlen fun ys d hy => wpAny_pure ?_)
    exact h _ d ((hy.cons _).trans hp.symm)
theorem pick_go {α : Type} (next : Nat → Nat) : ∀ (f k : Nat) (left : List α) (out : Array α), left.length = f → (pickOrder.go next f k left out).toList.Perm (out.toList ++ left)
  | 0, k, left, out, h => by
    obtain rfl := List.length_eq_zero_iff.mp h
    unfold pickOrder.go
    simp
  | f + 1, k, left, out, h => by
    unfold pickOrder.go
    have hi : next k % left.length < left.length := Nat.mod_lt _ (by omega)
    rw [getElem?_pos left _ hi]
    dsimp only
    have hp := eraseIdx_perm left _ _ (getElem?_pos left _ hi)
    have hlen : (left.eraseIdx (next k % left.length)).length = f := by have := hp.length_eq; simp only [List.length_cons] at this; omega
    refine (pick_go next f (k + 1) _ _ hlen).trans ?_
    rw [Array.toList_push, List.append_assoc]
    exact List.Perm.append_left _ hp.symm
theorem pick_perm {α : Type} (next : Nat → Nat) (xs : Array α) : (pickOrder next xs).toList.Perm xs.toList := by
  have := pick_go next xs.size 0 xs.toList #[] (by simp)
  simpa [pickOrder] using this
abbrev siO (first : Value) (i : Nat) (S : Addr) (n ep : Nat) : Obj := { cls := .type "set_iterator", data := .fields #[first, rawInt i, .ref S, rawInt n, rawInt ep] }

section
variable {prog : Program} {w : World} {A : Around} {E : Value → Shared → Prop} {s : Shared}
theorem fits_not {t : SetTable} {n : Nat} (hf : t.fits n = true) : (t.place.size != n || decide (t.fill > t.mask)) = false := by
  simp only [SetTable.fits, Bool.and_eq_true, beq_iff_eq, decide_eq_true_eq] at hf
  simp [hf.1, Nat.not_lt.mpr hf.2]
/-- an item of a set that is walked in a drawn order -/
theorem si_item_drawn {I S T : Addr} {i n ep pl : Nat} {es : Array (Int × Value)} {t : SetTable} {places : Array Value} {tp : Tok} {x : Int × Value} {Q : Option Value → Shared → Prop} (hit : s.heap.get? I = some (siO (.ref T) i S n ep)) (ho : s.heap.get? S = some (setO es ep t)) (hf : t.fits es.size = true) (hn : es.size = n)
    (hT : s.heap.get? T = some { cls := .type "tuple", data := .seq places }) (hp : places[i]? = some (.int pl tp)) (hx : es[pl]? = some x)
    (h : ∀ h', Heap.SameBut I s.heap h' → h'.get? I = some (siO (.ref T) (i + 1) S n ep) → Q (some x.2) { s with heap := h' }) :
    wpAny (model prog w) A (pyNext (.ref I)) Q E s := by
  have hTy : s.TypeIs (.ref I) "set_iterator" := ⟨_, hit, rfl⟩
  unfold pyNext
  refine wpAny_bind (wpAny_attempt (wpAny_callSpecial?_slot (name := Str.ofString "__next__") hTy slot_setiter_next
    (wpAny_call_entry slot_setiter_next hTy entry_setiter_next ?_ (args_setiter_next _))))
  have hfn := fits_not hf
  unfold Builtin.«set_iterator.__next__»
  obtain ⟨hp', g, d, tk, os⟩ := s
  wp_walk
  rw [hfn, if_neg Bool.false_ne_true]
  refine wpAny_pure (wpAny_pure ?_)
  dsimp only
  rw [if_neg (by rw [hn]; simp)]
  wp_walk
  simp only [Int.toNat_natCast, hp]
  refine wpAny_bind ?_
  unfold setNextDrawn
  refine wpAny_bind (wpAny_setState_of ho rfl hf ?_)
  dsimp only
  rw [if_neg (by simp), hx]
  refine wpAny_pure ?_
  refine wpAny_bind (wpAny_setField hit rfl (by simp) (wpAny_pure ⟨_, rfl, wpAny_pure (h _ (Heap.SameBut.update ..) ?_)⟩))
  exact Heap.get?_update_self _ hit rfl
/-- a walk's end -/
theorem si_stop {I S : Addr} {first : Value} {i n ep : Nat} {Q : Option Value → Shared → Prop} (hh : A.handled = none) (hit : s.heap.get? I = some (siO first i S n ep)) (h : ∀ h', Heap.ExtBut I s.heap h' → Q none { s with heap := h' }) :
    wpAny (model prog w) A.in1 (do
      setField (Value.ref I) 2 Value.none
      raiseNew (← newExc (.type "StopIteration") []))
      (fun fin s' => ∃ v, fin = PySem.Fin.done (.ret v) ∧ wpAny (model prog w) A (pure (some v)) Q E s')
      (fun e s' => wpAny (model prog w) A (do if ← isInstance e (.type "StopIteration") then pure none else throw e) Q E s') s := by
  refine wpAny_bind (wpAny_setField hit rfl (by simp) ?_)
  refine wpAny_bind ?_
  simp only [newExc, newTuple]
  refine wpAny_bind (wpAny_newObj_type ?_ (by size_fits))
  refine wpAny_bind (m := firstArgMember _ _) (wpAny_of_eq (a := Value.none) (by first | rfl | (simp only [firstArgMember]; rfl)) ?_)
  refine wpAny_newObj_type ?_ (by size_fits)
  simp only [raiseNew]
  refine wpAny_bind (wpAny_handled ?_)
  rw [show A.in1.handled = none from hh]
  refine wpAny_bind (wpAny_pure (wpAny_throw ?_))
  refine wpAny_bind (wpAny_isInstance (T := "StopIteration") (b := true) ⟨_, Heap.get?_push_size _ rfl, rfl⟩ isSubtype_stop ?_)
  exact wpAny_pure (h _ (((Heap.SameBut.update ..).extBut.push _).push _))
theorem si_done_drawn {I S T : Addr} {i n ep : Nat} {es : Array (Int × Value)} {t : SetTable} {places : Array Value} {Q : Option Value → Shared → Prop} (hh : A.handled = none) (hit : s.heap.get? I = some (siO (.ref T) i S n ep)) (ho : s.heap.get? S = some (setO es ep t)) (hf : t.fits es.size = true) (hn : es.size = n)
    (hT : s.heap.get? T = some { cls := .type "tuple", data := .seq places }) (hp : places[i]? = none)
    (h : ∀ h', Heap.ExtBut I s.heap h' → Q none { s with heap := h' }) :
    wpAny (model prog w) A (pyNext (.ref I)) Q E s := by
  have hTy : s.TypeIs (.ref I) "set_iterator" := ⟨_, hit, rfl⟩
  unfold pyNext
  refine wpAny_bind (wpAny_attempt (wpAny_callSpecial?_slot (name := Str.ofString "__next__") hTy slot_setiter_next
    (wpAny_call_entry slot_setiter_next hTy entry_setiter_next ?_ (args_setiter_next _))))
  have hfn := fits_not hf
  unfold Builtin.«set_iterator.__next__»
  obtain ⟨hp', g, d, tk, os⟩ := s
  wp_walk
  rw [hfn, if_neg Bool.false_ne_true]
  refine wpAny_pure (wpAny_pure ?_)
  dsimp only
  rw [if_neg (by rw [hn]; simp)]
  wp_walk
  simp only [Int.toNat_natCast, hp]
  refine wpAny_bind (wpAny_setField hit rfl (by simp) ?_)
  refine si_stop (I := I) (S := S) (first := rawInt 0) (i := i) (n := n) (ep := ep) hh (Heap.get?_update_self _ hit rfl) fun h' hx => h h' fun b o hb e => hx b o hb ((Heap.SameBut.update ..).extBut b o hb e)
theorem setNext_text {S : Addr} {slot i ep : Nat} {es : Array (Int × Value)} {t : SetTable} {Q : Option (Value × Nat) → Shared → Prop} (hbt : w.params.followText "set-order" = true) (ho : s.heap.get? S = some (setO es ep t)) (hf : t.fits es.size = true)
    (h : Q (((pickOrder (w.params.setOrder S ep) es)[i]?).map fun e => (e.2, slot)) s) : wpAny (model prog w) A (setNext S slot i ep) Q E s := by
  unfold setNext
  refine wpAny_bind (wpAny_setState_of ho rfl hf ?_)
  dsimp only
  unfold setsByText
  refine wpAny_bind (wpAny_bind (wpAny_askSetting (wpAny_pure ?_)))
  refine wpAny_ite_split (fun _ => ?_) (fun hc => absurd hbt hc)
  rw [if_neg (by simp)]
  refine wpAny_bind ?_
  unfold setWalk
  refine wpAny_bind (wpAny_setState_of ho rfl hf ?_)
  dsimp only
  unfold setsByText
  refine wpAny_bind (wpAny_bind (wpAny_askSetting (wpAny_pure ?_)))
  refine wpAny_ite_split (fun _ => ?_) (fun hc => absurd hbt hc)
  exact wpAny_bind (wpAny_askSetting (wpAny_pure (wpAny_pure h)))
theorem setNext_led {S : Addr} {slot i ep : Nat} {es : Array (Int × Value)} {t : SetTable} {Q : Option (Value × Nat) → Shared → Prop} (hbt : w.params.followText "set-order" = false) (hled : t.led = true) (h1 : es.size ≤ 1) (ho : s.heap.get? S = some (setO es ep t)) (hf : t.fits es.size = true)
    (h : Q (match es[SetTable.below t.place slot]?, t.place[SetTable.below t.place slot]? with
      | some (_, x), some j => some (x, j + 1)
      | _, _ => none) s) : wpAny (model prog w) A (setNext S slot i ep) Q E s := by
  unfold setNext
  refine wpAny_bind (wpAny_setState_of ho rfl hf ?_)
  dsimp only
  unfold setsByText
  refine wpAny_bind (wpAny_bind (wpAny_askSetting (wpAny_pure ?_)))
  refine wpAny_ite_split (fun hc => absurd (hbt.symm.trans hc) Bool.false_ne_true) (fun _ => ?_)
  refine wpAny_ite_split (fun hc => ?_) fun _ => ?_
  · exfalso
    have hc' : (!t.plain && decide (es.size > 1)) = true := hc
    simp only [Bool.and_eq_true, decide_eq_true_eq] at hc'
    omega
  · refine wpAny_bind (show wpAny (model prog w) A (do if !t.led && !es.isEmpty then unsupported "set:maker-not-led") _ E s from ?_)
    rw [if_neg (by rw [hled]; simp)]
    exact wpAny_pure (wpAny_pure h)
/-- an item of a set whose order the text tells -/
theorem si_item_text {I S : Addr} {i n ep : Nat} {es : Array (Int × Value)} {t : SetTable} {x : Int × Value} {Q : Option Value → Shared → Prop} (hbt : w.params.followText "set-order" = true) (hit : s.heap.get? I = some (siO (rawInt 0) i S n ep)) (ho : s.heap.get? S = some (setO es ep t)) (hf : t.fits es.size = true) (hn : es.size = n)
    (hx : (pickOrder (w.params.setOrder S ep) es)[i]? = some x)
    (h : ∀ h', Heap.SameBut I s.heap h' → h'.get? I = some (siO (rawInt 0) (i + 1) S n ep) → Q (some x.2) { s with heap := h' }) :
    wpAny (model prog w) A (pyNext (.ref I)) Q E s := by
  have hTy : s.TypeIs (.ref I) "set_iterator" := ⟨_, hit, rfl⟩
  unfold pyNext
  refine wpAny_bind (wpAny_attempt (wpAny_callSpecial?_slot (name := Str.ofString "__next__") hTy slot_setiter_next
    (wpAny_call_entry slot_setiter_next hTy entry_setiter_next ?_ (args_setiter_next _))))
  have hfn := fits_not hf
  unfold Builtin.«set_iterator.__next__»
  obtain ⟨hp', g, d, tk, os⟩ := s
  wp_walk
  rw [hfn, if_neg Bool.false_ne_true]
  refine wpAny_pure (wpAny_pure ?_)
  dsimp only
  rw [if_neg (by rw [hn]; simp)]
  generalize hSN : setNext = SN
  wp_walk
  subst hSN
  refine setNext_text hbt ho hf ?_
  simp only [Int.toNat_natCast, hx, Option.map_some]
  refine wpAny_bind (wpAny_setField hit rfl (by simp) ?_)
  have hit2 := Heap.get?_update_self (Obj.mapFields fun x => x.setIfInBounds 0 (rawInt ((0 : Int).toNat : Nat))) hit rfl
  refine wpAny_bind (wpAny_setField hit2 rfl (by simp) (wpAny_pure ⟨_, rfl, wpAny_pure (h _ ?_ ?_)⟩))
  · exact ⟨by rw [Heap.size_update, Heap.size_update], fun b hb => ((Heap.SameBut.update ..).2 b hb).trans ((Heap.SameBut.update ..).2 b hb)⟩
  · exact Heap.get?_update_self _ hit2 rfl
theorem si_done_text {I S : Addr} {i n ep : Nat} {es : Array (Int × Value)} {t : SetTable} {Q : Option Value → Shared → Prop} (hh : A.handled = none) (hbt : w.params.followText "set-order" = true) (hit : s.heap.get? I = some (siO (rawInt 0) i S n ep)) (ho : s.heap.get? S = some (setO es ep t)) (hf : t.fits es.size = true) (hn : es.size = n)
    (hx : (pickOrder (w.params.setOrder S ep) es)[i]? = none)
    (h : ∀ h', Heap.ExtBut I s.heap h' → Q none { s with heap := h' }) :
    wpAny (model prog w) A (pyNext (.ref I)) Q E s := by
  have hTy : s.TypeIs (.ref I) "set_iterator" := ⟨_, hit, rfl⟩
  unfold pyNext
  refine wpAny_bind (wpAny_attempt (wpAny_callSpecial?_slot (name := Str.ofString "__next__") hTy slot_setiter_next
    (wpAny_call_entry slot_setiter_next hTy entry_setiter_next ?_ (args_setiter_next _))))
  have hfn := fits_not hf
  unfold Builtin.«set_iterator.__next__»
  obtain ⟨hp', g, d, tk, os⟩ := s
  wp_walk
  rw [hfn, if_neg Bool.false_ne_true]
  refine wpAny_pure (wpAny_pure ?_)
  dsimp only
  rw [if_neg (by rw [hn]; simp)]
  generalize hSN : setNext = SN
  wp_walk
  subst hSN
  refine setNext_text hbt ho hf ?_
  simp only [Int.toNat_natCast, hx, Option.map_none]
  exact si_stop (I := I) (S := S) (first := rawInt 0) (i := i) (n := n) (ep := ep) hh hit fun h' hx => h h' hx
theorem si_item_one {I S : Addr} {ep j : Nat} {es : Array (Int × Value)} {t : SetTable} {x : Int × Value} {Q : Option Value → Shared → Prop} (hbt : w.params.followText "set-order" = false) (hled : t.led = true) (hit : s.heap.get? I = some (siO (rawInt 0) 0 S 1 ep)) (ho : s.heap.get? S = some (setO es ep t)) (hf : t.fits es.size = true) (hn : es.size = 1)
    (hj : SetTable.below t.place 0 = 0) (hp : t.place[0]? = some j) (hx : es[0]? = some x)
    (h : ∀ h', Heap.SameBut I s.heap h' → h'.get? I = some (siO (rawInt (j + 1 : Nat)) 1 S 1 ep) → Q (some x.2) { s with heap := h' }) :
    wpAny (model prog w) A (pyNext (.ref I)) Q E s := by
  have hTy : s.TypeIs (.ref I) "set_iterator" := ⟨_, hit, rfl⟩
  unfold pyNext
  refine wpAny_bind (wpAny_attempt (wpAny_callSpecial?_slot (name := Str.ofString "__next__") hTy slot_setiter_next
    (wpAny_call_entry slot_setiter_next hTy entry_setiter_next ?_ (args_setiter_next _))))
  have hfn := fits_not hf
  unfold Builtin.«set_iterator.__next__»
  obtain ⟨hp', g, d, tk, os⟩ := s
  wp_walk
  rw [hfn, if_neg Bool.false_ne_true]
  refine wpAny_pure (wpAny_pure ?_)
  dsimp only
  rw [if_neg (by rw [hn]; simp)]
  generalize hSN : setNext = SN
  wp_walk
  subst hSN
  refine setNext_led hbt hled (by omega) ho hf ?_
  simp only [Int.toNat_zero, hj, hp, hx]
  refine wpAny_bind (wpAny_setField hit rfl (by simp) ?_)
  have hit2 := Heap.get?_update_self (Obj.mapFields fun x => x.setIfInBounds 0 (rawInt (j + 1 : Nat))) hit rfl
  refine wpAny_bind (wpAny_setField hit2 rfl (by simp) (wpAny_pure ⟨_, rfl, wpAny_pure (h _ ?_ ?_)⟩))
  · exact ⟨by rw [Heap.size_update, Heap.size_update], fun b hb => ((Heap.SameBut.update ..).2 b hb).trans ((Heap.SameBut.update ..).2 b hb)⟩
  · exact Heap.get?_update_self _ hit2 rfl
theorem si_done_one {I S : Addr} {ep j i n : Nat} {es : Array (Int × Value)} {t : SetTable} {Q : Option Value → Shared → Prop} (hh : A.handled = none) (hbt : w.params.followText "set-order" = false) (hled : t.led = true) (hit : s.heap.get? I = some (siO (rawInt (j : Nat)) i S n ep)) (ho : s.heap.get? S = some (setO es ep t)) (hf : t.fits es.size = true) (hn : es.size = n) (h1 : n ≤ 1)
    (hj : es[SetTable.below t.place j]? = none)
    (h : ∀ h', Heap.ExtBut I s.heap h' → Q none { s with heap := h' }) :
    wpAny (model prog w) A (pyNext (.ref I)) Q E s := by
  have hTy : s.TypeIs (.ref I) "set_iterator" := ⟨_, hit, rfl⟩
  unfold pyNext
  refine wpAny_bind (wpAny_attempt (wpAny_callSpecial?_slot (name := Str.ofString "__next__") hTy slot_setiter_next
    (wpAny_call_entry slot_setiter_next hTy entry_setiter_next ?_ (args_setiter_next _))))
  have hfn := fits_not hf
  unfold Builtin.«set_iterator.__next__»
  obtain ⟨hp', g, d, tk, os⟩ := s
  wp_walk
  rw [hfn, if_neg Bool.false_ne_true]
  refine wpAny_pure (wpAny_pure ?_)
  dsimp only
  rw [if_neg (by rw [hn]; simp)]
  generalize hSN : setNext = SN
  wp_walk
  subst hSN
  refine setNext_led hbt hled (by omega) ho hf ?_
  simp only [Int.toNat_natCast, hj]
  exact si_stop (I := I) (S := S) (first := rawInt (j : Nat)) (i := i) (n := n) (ep := ep) hh hit fun h' hx => h h' hx
end

section
variable {prog : Program} {w : World} {E : Value → Shared → Prop} {s : Shared}
theorem walk_text {A : Around} (hh : A.handled = none) {I S : Addr} (hne : S ≠ I) {ep n : Nat} {es : Array (Int × Value)} {t : SetTable} (hbt : w.params.followText "set-order" = true) (hf : t.fits es.size = true) (hn : es.size = n) :
    Walks prog w A I [I, S] [I] n (fun i v => ((pickOrder (w.params.setOrder S ep) es).toList.map (·.2))[i]? = some v) (fun i h => h.get? I = some (siO (rawInt 0) i S n ep) ∧ h.get? S = some (setO es ep t)) where
  sub := fun b hb => by simp at hb; simp [hb]
  frame := fun _ _ _ st hk => ⟨hk I (by simp) _ st.1, hk S (by simp) _ st.2⟩
  item := fun i s Q E hi st hQ => by
    have hl : (pickOrder (w.params.setOrder S ep) es).toList.length = n := by rw [(pick_perm _ es).length_eq, Array.length_toList, hn]
    have hx : (pickOrder (w.params.setOrder S ep) es)[i]? = some ((pickOrder (w.params.setOrder S ep) es).toList[i]'(by omega)) := by
      rw [← Array.getElem?_toList]; exact getElem?_pos _ i (by omega)
    refine si_item_text hbt st.1 st.2 hf hn hx fun h' hs hit => hQ _ h' s.toks ?_ ⟨hit, (hs.2 S hne).trans st.2⟩ fun b o hb e => (hs.2 b fun h => hb (by simp [h])).trans e
    rw [List.getElem?_map, getElem?_pos _ i (by omega)]; rfl
  done := fun s Q E st hQ => by
    have hl : (pickOrder (w.params.setOrder S ep) es).toList.length = n := by rw [(pick_perm _ es).length_eq, Array.length_toList, hn]
    refine si_done_text hh hbt st.1 st.2 hf hn ?_ fun h' hx => hQ h' s.toks fun b o hb e => hx b o (fun h => hb (by simp [h])) e
    rw [← Array.getElem?_toList]; exact List.getElem?_eq_none (by omega)
  self := fun i s Q E st hQ => by
    refine wpAny_pyIter_slot (T := "set_iterator") ⟨_, st.1, rfl⟩ slot_setiter_iter (wpAny_call_entry slot_setiter_iter ⟨_, st.1, rfl⟩ entry_setiter_iter ?_ (args_setiter_iter _))
    exact wpAny_pure ⟨_, rfl, "set_iterator", _, ⟨_, st.1, rfl⟩, slot_setiter_next.lookup, hQ⟩
theorem walk_drawn {A : Around} (hh : A.handled = none) {I S T : Addr} (hne : S ≠ I) (hT : T ≠ I) {ep n : Nat} {es : Array (Int × Value)} {t : SetTable} (hf : t.fits es.size = true) (hn : es.size = n) {pl : List Nat} (hpl : pl.length = n) (hlt : ∀ j ∈ pl, j < n) :
    Walks prog w A I [I, S, T] [I] n (fun i v => ((pl.filterMap fun j => es[j]?).map (·.2))[i]? = some v) (fun i h => h.get? I = some (siO (.ref T) i S n ep) ∧ h.get? S = some (setO es ep t) ∧ h.get? T = some { cls := .type "tuple", data := .seq (pl.map fun (i : Nat) => rawInt i).toArray }) where
  sub := fun b hb => by simp at hb; simp [hb]
  frame := fun _ _ _ st hk => ⟨hk I (by simp) _ st.1, hk S (by simp) _ st.2.1, hk T (by simp) _ st.2.2⟩
  item := fun i s Q E hi st hQ => by
    have hip : i < pl.length := by omega
    have hj : pl[i] < es.size := by have := hlt _ (List.getElem_mem hip); omega
    have hfm : ∀ (l : List Nat), (∀ j ∈ l, j < es.size) → ∀ i, (h : i < l.length) → (l.filterMap fun j => es[j]?)[i]? = es[l[i]]? := by
      intro l
      induction l with
      | nil => intro _ i h; exact absurd h (Nat.not_lt_zero _)
      | cons a l ih =>
        intro hl i h
        have ha := hl a (.head _)
        rw [List.filterMap_cons, getElem?_pos es a ha]
        cases i with
        | zero => simp [ha]
        | succ i => simpa using ih (fun j hj => hl j (.tail _ hj)) i (by simpa using h)
    refine si_item_drawn st.1 st.2.1 hf hn st.2.2 (pl := pl[i]) (tp := 0) (by simp [hip, rawInt]) (getElem?_pos es _ hj) fun h' hs hit => hQ _ h' s.toks ?_ ⟨hit, (hs.2 S hne).trans st.2.1, (hs.2 T hT).trans st.2.2⟩ fun b o hb e => (hs.2 b fun h => hb (by simp [h])).trans e
    rw [List.getElem?_map, hfm pl (fun j hj => by have := hlt j hj; omega) i hip, getElem?_pos es _ hj]; rfl
  done := fun s Q E st hQ => by
    refine si_done_drawn hh st.1 st.2.1 hf hn st.2.2 ?_ fun h' hx => hQ h' s.toks fun b o hb e => hx b o (fun h => hb (by simp [h])) e
    simp [hpl]
  self := fun i s Q E st hQ => by
    refine wpAny_pyIter_slot (T := "set_iterator") ⟨_, st.1, rfl⟩ slot_setiter_iter (wpAny_call_entry slot_setiter_iter ⟨_, st.1, rfl⟩ entry_setiter_iter ?_ (args_setiter_iter _))
    exact wpAny_pure ⟨_, rfl, "set_iterator", _, ⟨_, st.1, rfl⟩, slot_setiter_next.lookup, hQ⟩
theorem walk_one {A : Around} (hh : A.handled = none) {I S : Addr} (hne : S ≠ I) {ep j : Nat} {x : Int × Value} {es : Array (Int × Value)} {t : SetTable} (hbt : w.params.followText "set-order" = false) (hled : t.led = true) (hf : t.fits es.size = true) (hes : es = #[x]) (hp : t.place = #[j]) (hr : Ris t.place.toList) :
    Walks prog w A I [I, S] [I] 1 (fun i v => ([x.2])[i]? = some v) (fun i h => (h.get? I = some (siO (rawInt ((if i = 0 then 0 else j + 1 : Nat) : Nat)) i S 1 ep) ∧ i ≤ 1) ∧ h.get? S = some (setO es ep t)) where
  sub := fun b hb => by simp at hb; simp [hb]
  frame := fun _ _ _ st hk => ⟨⟨hk I (by simp) _ st.1.1, st.1.2⟩, hk S (by simp) _ st.2⟩
  item := fun i s Q E hi st hQ => by
    obtain rfl : i = 0 := by omega
    have hb0 : SetTable.below t.place 0 = 0 := by
      obtain ⟨h1, h2, _⟩ := below_ok hr 0
      rcases Nat.eq_zero_or_pos (SetTable.below t.place 0) with h | h
      · exact h
      · exact absurd (h2 0 (by omega) h) (Nat.not_lt_zero _)
    refine si_item_one (j := j) (x := x) hbt hled st.1.1 st.2 hf (by rw [hes]; rfl) hb0 (by rw [hp]; rfl) (by rw [hes]; rfl) fun h' hs hit => hQ _ h' s.toks rfl ⟨⟨hit, Nat.le_refl _⟩, (hs.2 S hne).trans st.2⟩ fun b o hb e => (hs.2 b fun h => hb (by simp [h])).trans e
  done := fun s Q E st hQ => by
    have hb1 : SetTable.below t.place (j + 1) = 1 := by
      obtain ⟨h1, h2, h3⟩ := below_ok hr (j + 1)
      have hsz : t.place.size = 1 := by rw [hp]; rfl
      rcases Nat.lt_or_ge (SetTable.below t.place (j + 1)) 1 with h | h
      · have := h3 0 (by omega) (by omega)
        have e0 : t.place[0]'(by omega) = j := by simp [hp]
        omega
      · omega
    refine si_done_one (j := j + 1) hh hbt hled st.1.1 st.2 hf (by rw [hes]; rfl) (Nat.le_refl _) (by rw [hb1, hes]; rfl) fun h' hx => hQ h' s.toks fun b o hb e => hx b o (fun h => hb (by simp [h])) e
  self := fun i s Q E st hQ => by
    refine wpAny_pyIter_slot (T := "set_iterator") ⟨_, st.1.1, rfl⟩ slot_setiter_iter (wpAny_call_entry slot_setiter_iter ⟨_, st.1.1, rfl⟩ entry_setiter_iter ?_ (args_setiter_iter _))
    exact wpAny_pure ⟨_, rfl, "set_iterator", _, ⟨_, st.1.1, rfl⟩, slot_setiter_next.lookup, hQ⟩
end

/-- what a walk over a set of pairs is -/
def WalksSet (prog : Program) (w : World) (S : Addr) (old : Nat) (I : Addr) (n : Nat) (vs : List Value) (h : Heap) : Prop :=
  ∃ fp St, (∀ A : Around, A.handled = none → Walks prog w A I fp [I] n (fun i v => vs[i]? = some v) St) ∧ St 0 h ∧ (∀ b ∈ fp, b < h.objs.size) ∧ I ∈ fp ∧ (∀ b ∈ fp, b = S ∨ old ≤ b) ∧ (∀ i h, St i h → ∃ f j S ep, h.get? I = some (siO f j S n ep))
section
variable {prog : Program} {w : World} {A : Around} {E : Value → Shared → Prop} {s : Shared}
theorem iter_set {H : Int × Str → Int} {S : Addr} {L : List Ent} {Q : Value → Shared → Prop} (X : SetIs H s.heap S (ledOf w) L) (hl : L.length ≤ 8) (hl0 : L ≠ [])
    (hQ : ∀ I vs h' d', s.heap.objs.size ≤ I → WalksSet prog w S s.heap.objs.size I L.length vs h' → vs.Perm (L.map (·.1)) → Keeps s.heap h' → Q (.ref I) { s with heap := h', drawn := d' }) :
    wpAny (model prog w) A (pyIter (.ref S)) Q E s := by
  obtain ⟨es, ep, t, ho, R, hfew, hled, hpl⟩ := X
  have hm : t.mask = 7 ∨ t.mask = 31 := R.tab.m
  have hf : t.fits es.size = true := R.fits (by rcases hm with e | e <;> rw [e] at hfew ⊢ <;> omega)
  have hT : s.TypeIs (.ref S) "set" := ⟨_, ho, rfl⟩
  have hperm2 : es.toList.map (·.2) = L.map (·.1) := by rw [R.ents, List.map_map]; rfl
  have hSlt := Heap.lt_size ho
  refine wpAny_pyIter_slot hT PySem.F.slot_set_iter (wpAny_call_entry PySem.F.slot_set_iter hT entry_set_iter ?_ (PySem.F.args_set_iter_1 _))
  show wpAny _ _ (do
    let n ← Builtin.Frozenset.sizeOf S
    let first ← if ← setDrawn S then newTuple ((← drawOrder n (List.range n)).map fun (i : Nat) => rawInt i) else pure (rawInt 0)
    ret (← newFields "set_iterator" [first, rawInt 0, .ref S, rawInt n, rawInt (← setEpoch S)])) _ _ s
  unfold Builtin.Frozenset.sizeOf setEntries
  refine wpAny_bind (wpAny_bind (wpAny_bind (wpAny_setState_of ho rfl hf (wpAny_pure (wpAny_pure ?_)))))
  dsimp only
  unfold setDrawn
  refine wpAny_bind (wpAny_bind (wpAny_setState_of ho rfl hf ?_))
  dsimp only
  unfold setsByText
  refine wpAny_bind (wpAny_bind (wpAny_askSetting (wpAny_pure (wpAny_pure ?_))))
  have tail : ∀ (first : Value) (s₁ : Shared), s₁.heap.get? S = some (setO es ep t) → Keeps s.heap s₁.heap → s.heap.objs.size ≤ s₁.heap.objs.size → (∃ d, s₁ = { s with heap := s₁.heap, drawn := d }) →
      (∀ h', h'.get? s₁.heap.objs.size = some (siO first 0 S es.size ep) → h'.get? S = some (setO es ep t) → h' = s₁.heap.push (siO first 0 S es.size ep) → ∃ vs, WalksSet prog w S s.heap.objs.size s₁.heap.objs.size L.length vs h' ∧ vs.Perm (L.map (·.1))) →
      wpAny (model prog w) A.in1 (do ret (← newFields "set_iterator" [first, rawInt 0, .ref S, rawInt es.size, rawInt (← setEpoch S)])) (fun fin s' => ∃ v, fin = PySem.Fin.done (.ret v) ∧ ∃ T' r, s'.TypeIs v T' ∧ typeLookup (.type T') "__next__" = pure (some r) ∧ Q v s') E s₁ := by
    rintro first s₁ ho₁ hk hsz ⟨d, hs₁⟩ hw
    refine wpAny_bind (wpAny_setEpoch_of ho₁ rfl hf ?_)
    refine wpAny_bind (wpAny_newObj_type ?_ (by size_fits))
    obtain ⟨vs, hW, hP⟩ := hw _ (Heap.get?_push_size _ rfl) (Heap.get?_push_of_some _ ho₁) rfl
    refine wpAny_pure ⟨_, rfl, "set_iterator", _, ⟨_, Heap.get?_push_size _ rfl, rfl⟩, slot_setiter_next.lookup, ?_⟩
    have := hQ s₁.heap.objs.size vs _ d hsz hW hP fun b o e => Heap.get?_push_of_some _ (hk b o e)
    rw [hs₁]
    exact this
  have hne1 : ∀ s₁ : Shared, s₁.heap.get? S = some (setO es ep t) → S ≠ s₁.heap.objs.size := fun s₁ e => Nat.ne_of_lt (Heap.lt_size e)
  refine wpAny_ite_split (fun hc => ?_) (fun hc => ?_)
  · have hc' : (!w.params.followText "set-order" && (!t.plain && decide (es.size > 1))) = true := hc
    refine wpAny_bind (drawOrder_ok es.size (List.range es.size) _ (by simp) fun ys d hy => ?_)
    refine wpAny_bind (wpAny_newTuple ?_ (by rw [List.length_map, hy.length_eq, List.length_range, R.size, sizeLine_eq]; omega))
    refine tail _ _ (Heap.get?_push_of_some _ ho) (fun b o e => Heap.get?_push_of_some _ e) (by rw [Heap.size_push]; exact Nat.le_succ _) ⟨d, rfl⟩ fun h' hit hS' hh' => ?_
    have hlt : ∀ j ∈ ys, j < es.size := fun j hj => List.mem_range.mp (hy.mem_iff.mp hj)
    have hit' : h'.get? (s.heap.push { cls := .type "tuple", data := .seq (ys.map fun (i : Nat) => rawInt i).toArray }).objs.size = some (siO (.ref s.heap.objs.size) 0 S L.length ep) := by rw [R.size] at hit; exact hit
    have hTu : h'.get? s.heap.objs.size = some { cls := .type "tuple", data := .seq (ys.map fun (i : Nat) => rawInt i).toArray } := by rw [hh']; exact Heap.get?_push_of_some _ (Heap.get?_push_size _ rfl)
    have n1 : S ≠ (s.heap.push { cls := .type "tuple", data := .seq (ys.map fun (i : Nat) => rawInt i).toArray }).objs.size := Nat.ne_of_lt (by rw [Heap.size_push]; exact Nat.lt_succ_of_lt hSlt)
    have n2 : s.heap.objs.size ≠ (s.heap.push { cls := .type "tuple", data := .seq (ys.map fun (i : Nat) => rawInt i).toArray }).objs.size := Nat.ne_of_lt (by rw [Heap.size_push]; exact Nat.lt_succ_self _)
    have bel : ∀ b ∈ [(s.heap.push { cls := .type "tuple", data := .seq (ys.map fun (i : Nat) => rawInt i).toArray }).objs.size, S, s.heap.objs.size], b < h'.objs.size := by
      rw [hh']
      intro b hb
      simp only [List.mem_cons, List.not_mem_nil, or_false] at hb
      rw [Heap.size_push, Heap.size_push]
      rw [Heap.size_push] at hb
      rcases hb with rfl | rfl | rfl
      · exact Nat.lt_succ_self _
      · exact Nat.lt_succ_of_lt (Nat.lt_succ_of_lt hSlt)
      · exact Nat.lt_succ_of_lt (Nat.lt_succ_self _)
    have old3 : ∀ b ∈ [(s.heap.push { cls := .type "tuple", data := .seq (ys.map fun (i : Nat) => rawInt i).toArray }).objs.size, S, s.heap.objs.size], b = S ∨ s.heap.objs.size ≤ b := by
      intro b hb
      simp only [List.mem_cons, List.not_mem_nil, or_false] at hb
      rw [Heap.size_push] at hb
      rcases hb with rfl | rfl | rfl
      · exact .inr (Nat.le_succ _)
      · exact .inl rfl
      · exact .inr (Nat.le_refl _)
    have hperm : ((ys.filterMap fun j => es[j]?).map (·.2)).Perm (L.map (·.1)) := by
      rw [← hperm2]
      refine List.Perm.map _ ?_
      have := List.Perm.filterMap (fun i => es[i]?) hy
      rw [filterMap_getElem?_range] at this
      exact this
    exact ⟨_, ⟨_, _, fun A' hA => walk_drawn (T := s.heap.objs.size) hA n1 n2 hf R.size (by rw [hy.length_eq, List.length_range, R.size]) (fun j hj => by rw [← R.size]; exact hlt j hj), ⟨hit', hS', hTu⟩, bel, List.mem_cons_self, old3, fun i h st => ⟨_, _, _, _, st.1⟩⟩, hperm⟩
  · have hc' : (!w.params.followText "set-order" && (!t.plain && decide (es.size > 1))) = false := by
      cases hb : (!w.params.followText "set-order" && (!t.plain && decide (es.size > 1))) with
      | false => rfl
      | true => exact absurd hb hc
    refine wpAny_bind (wpAny_pure ?_)
    refine (tail _ _ ho (fun _ _ e => e) (Nat.le_refl _) ⟨s.drawn, rfl⟩ fun h' hit hS' hh' => ?_)
    have hSI := hne1 s ho
    have below : ∀ b ∈ [s.heap.objs.size, S], b < h'.objs.size := by
      rw [hh']
      intro b hb
      simp only [List.mem_cons, List.not_mem_nil, or_false] at hb
      rw [Heap.size_push]
      rcases hb with rfl | rfl
      · exact Nat.lt_succ_self _
      · exact Nat.lt_succ_of_lt hSlt
    have old2 : ∀ b ∈ [s.heap.objs.size, S], b = S ∨ s.heap.objs.size ≤ b := by
      intro b hb
      simp only [List.mem_cons, List.not_mem_nil, or_false] at hb
      rcases hb with rfl | rfl
      · exact .inr (Nat.le_refl _)
      · exact .inl rfl
    rw [R.size] at hit
    cases hbt : w.params.followText "set-order" with
    | true =>
      refine ⟨_, ⟨_, _, fun A' hA => walk_text hA hSI hbt hf R.size, ⟨hit, hS'⟩, below, List.mem_cons_self, old2, fun i h st => ⟨_, _, _, _, st.1⟩⟩, ?_⟩
      rw [← hperm2]
      exact (pick_perm _ es).map _
    | false =>
      have h1 : es.size = 1 := by
        rw [hbt, hpl hl0] at hc'
        simp at hc'
        have : L.length ≠ 0 := fun h => hl0 (List.length_eq_zero_iff.mp h)
        have := R.size
        omega
      obtain ⟨x, hx⟩ : ∃ x, es = #[x] := by
        have hl' : es.toList.length = 1 := by rw [Array.length_toList]; exact h1
        obtain ⟨x, e⟩ := List.length_eq_one_iff.mp hl'
        exact ⟨x, by apply Array.toList_inj.mp; rw [e]⟩
      obtain ⟨j, hj⟩ : ∃ j, t.place = #[j] := by
        have hl' : t.place.toList.length = 1 := by rw [Array.length_toList, R.tab.size, List.length_map, ← R.size]; exact h1
        obtain ⟨x, e⟩ := List.length_eq_one_iff.mp hl'
        exact ⟨x, by apply Array.toList_inj.mp; rw [e]⟩
      have hL1 : L.length = 1 := by rw [← R.size]; exact h1
      rw [hL1] at hit ⊢
      refine ⟨[x.2], ⟨_, _, fun A' hA => walk_one hA hSI hbt (by rw [hled, ledOf, hbt]; rfl) hf hx hj R.tab.ris, ⟨⟨hit, Nat.zero_le _⟩, hS'⟩, below, List.mem_cons_self, old2, fun i h st => ⟨_, _, _, _, st.1.1⟩⟩, ?_⟩
      rw [← hperm2, hx]
      exact List.Perm.refl _
end

section
variable {prog : Program} {w : World} {A : Around} {E : Value → Shared → Prop} {s : Shared}
theorem sub_set_set : isSubtype (.type "set") (.type "set") = pure true := by rw [isSubtype_type]; kernel_rfl
theorem collect_set {H : Int × Str → Int} {S : Addr} {L : List Ent} {Q : List Value → Shared → Prop} (hh : A.handled = none) (X : SetIs H s.heap S (ledOf w) L) (hl : L.length ≤ 8) (hl0 : L ≠ [])
    (hQ : ∀ vs h' tk d', vs.Perm (L.map (·.1)) → Keeps s.heap h' → Q vs { s with heap := h', toks := tk, drawn := d' }) : wpAny (model prog w) A (collect (.ref S)) Q E s := by
  obtain ⟨oS, hoS, hcS⟩ : ∃ o, s.heap.get? S = some o ∧ o.cls = .type "set" := by obtain ⟨es, ep, t, ho, _⟩ := id X; exact ⟨_, ho, rfl⟩
  unfold collect
  refine wpAny_bind (wpAny_runValue (codeAny_builtin PySem.F.entry_proto_collect ?_))
  rw [Around.under_plainId PySem.F.plain_proto_collect _]
  show wpAny _ A.in1 (newList [] >>= fun l => again (.builtin "list.__iadd__" ⟨[l, .ref S], []⟩)) _ _ s
  refine wpAny_bind (wpAny_newObj_type ?_)
  refine wpAny_pure ⟨plainId_quiet PySem.F.plain_list_iadd _, codeAny_builtin PySem.F.entry_list_iadd ?_⟩
  rw [Around.under_plainId PySem.F.plain_list_iadd _]
  show wpAny _ A.in1 (Builtin.List.listExtendWith (.ref s.heap.objs.size) (.ref S) (.ref s.heap.objs.size)) _ _ _
  unfold Builtin.List.listExtendWith
  have keep1 : Keeps s.heap (s.heap.push { cls := .type "list", data := .seq ([] : List Value).toArray }) := fun b o e => Heap.get?_push_of_some _ e
  have hne : s.heap.objs.size ≠ S := Nat.ne_of_gt (Heap.lt_size hoS)
  have hT1 : Shared.TypeIs { s with heap := s.heap.push { cls := .type "list", data := .seq ([] : List Value).toArray } } (.ref S) "set" := ⟨_, keep1 _ _ hoS, hcS⟩
  refine wpAny_bind (wpAny_typeOf hT1 ?_)
  have h1 : Builtin.List.listSameRef (.ref s.heap.objs.size) (.ref S) = false := by simp [Builtin.List.listSameRef, hne]
  have h2 : (Value.type "set" == Value.type "list") = false := by decide
  have h3 : (Value.type "set" == Value.type "tuple") = false := by decide
  simp only [h1, h2, h3, Bool.or_false, Bool.false_eq_true, if_false]
  have X1 : SetIs H (s.heap.push { cls := .type "list", data := .seq ([] : List Value).toArray }) S (ledOf w) L := by
    obtain ⟨es, ep, t, ho, R, rest⟩ := X
    exact ⟨es, ep, t, keep1 _ _ ho, ⟨R.ents, fun q hq => (R.items q hq).tup keep1.tup, R.nd, R.tab⟩, rest⟩
  refine wpAny_bind (iter_set (s := { s with heap := s.heap.push { cls := .type "list", data := .seq ([] : List Value).toArray } }) X1 hl hl0 fun I vs h2 d2 hI hW hP hk2 => ?_)
  obtain ⟨fp, St, hWalk, hst, hfp, hIm, hold, hIo⟩ := hW
  have hk12 : Keeps s.heap h2 := keep1.trans hk2
  have hT2 : ∀ tk, Shared.TypeIs { s with heap := h2, toks := tk, drawn := d2 } (.ref S) "set" := fun _ => ⟨_, hk12 _ _ hoS, hcS⟩
  refine wpAny_bind (wpAny_holding ?_)
  unfold Builtin.List.listLengthHint
  refine wpAny_bind (wpAny_specialOf (hT2 _) PySem.F.slot_set_len.lookup ?_)
  dsimp only
  have e1 : splitId "set.__len__" = some ("set", "__len__") := by decide +kernel
  rw [e1]
  dsimp only
  refine wpAny_bind (wpAny_isInstance (hT2 _) sub_set_set ?_)
  simp only [Bool.not_true, Bool.false_eq_true, if_false]
  refine wpAny_ite_split (fun _ => ?_) (fun hc => (hc (by decide +kernel)).elim)
  refine wpAny_bind (wpAny_typeOf (hT2 _) ?_)
  dsimp only
  refine wpAny_pure ?_
  refine wpAny_ite_split (fun _ => ?_) (fun hc => (hc (by decide +kernel)).elim)
  refine wpAny_bind (wpAny_rule ?_)
  have hS₁ : h2.get? s.heap.objs.size = some { cls := .type "list", data := .seq ([] : List Value).toArray } := hk2 _ _ (Heap.get?_push_size _ rfl)
  refine wpAny_bind ?_
  show wpAny _ A.in1 (updateSeq s.heap.objs.size (·.push .none) >>= fun _ => updateSeq s.heap.objs.size (·.pop)) _ _ _
  refine wpAny_bind (wpAny_updateSeq hS₁ rfl ?_)
  have hS₂ := Heap.get?_update_self (Obj.mapSeq (·.push Value.none)) hS₁ rfl
  refine wpAny_updateSeq hS₂ rfl ?_
  have hS₃ := Heap.get?_update_self (Obj.mapSeq (·.pop)) hS₂ rfl
  have oth : ∀ b o, b ≠ s.heap.objs.size → h2.get? b = some o → ((h2.update s.heap.objs.size (Obj.mapSeq (·.push Value.none))).update s.heap.objs.size (Obj.mapSeq (·.pop))).get? b = some o :=
    fun b o hb e => (Heap.get?_update_other _ _ (Ne.symm hb)).trans ((Heap.get?_update_other _ _ (Ne.symm hb)).trans e)
  have hSf : s.heap.objs.size ∉ fp := fun hm => by
    rcases hold _ hm with h | h
    · exact hne h
    · rw [Heap.size_push] at h
      exact Nat.lt_irrefl _ (Nat.lt_of_lt_of_le (Nat.lt_succ_self _) h)
  have W := (hWalk A.in1 (by simpa using hh)).toS
  refine wpAny_pure ⟨plainId_quiet PySem.F.plain_extend_loop _, codeAny_extend_loopS W (by rw [sizeLine_eq]; omega) _ hSf _ L.length 0 _ _ _ rfl (Nat.zero_le _)
    (W.frame 0 ({ s with heap := h2, drawn := d2 } : Shared) _ s.toks hst (Nat.le_refl _) fun b hb o e => oth b o (fun h => hSf (h ▸ hb)) e) hS₃ (ItemsOf.nil _) fun s' acc' c' hm hS' hacc => ?_⟩
  show wpAny _ A (load s.heap.objs.size >>= _) _ _ s'
  refine wpAny_bind (wpAny_load hS' ?_)
  have hacc' : acc'.toList = vs := by
    have hlen : vs.length = L.length := by rw [hP.length_eq, List.length_map]
    refine List.ext_getElem? fun j => ?_
    by_cases hj : j < L.length
    · have hj' : j < acc'.size := by rw [hacc.1]; exact hj
      rw [Array.getElem?_toList, getElem?_pos acc' j hj', hacc.2 j _ (getElem?_pos acc' j hj')]
    · rw [List.getElem?_eq_none (by rw [Array.length_toList, hacc.1]; omega), List.getElem?_eq_none (by omega)]
  rw [← hacc'] at hP
  obtain ⟨h', g', d', tk', os'⟩ := s'
  have eg : g' = s.gens := hm.gens
  have eo : os' = s.os := hm.os
  subst eg; subst eo
  refine wpAny_pure (hQ acc'.toList h' tk' d' hP fun b o e => ?_)
  have hb : b ≠ s.heap.objs.size := Nat.ne_of_lt (Heap.lt_size e)
  have hbI : b ≠ I := fun q => by
    subst q
    rw [Heap.size_push] at hI
    exact Nat.lt_irrefl _ (Nat.lt_of_lt_of_le (Nat.lt_succ_of_lt (Heap.lt_size e)) hI)
  exact hm.heap b o (by simp only [List.mem_cons, List.not_mem_nil, or_false, not_or]; exact ⟨hb, hbI⟩) (oth b o hb (hk12 b o e))
end

/-! sorting by a key: what the sort's questions come to -/
section
variable {key : Nat → Int} {n : Nat} {cmp : Nat → Nat → (Bool → Shared → Prop) → Shared → Prop} {s : Shared}
abbrev KeyAt (key : Nat → Int) (p : Array Nat) (i : Nat) : Int := key (p.getD i 0)
def Asc (key : Nat → Int) (p : Array Nat) (m : Nat) : Prop := ∀ i j, i < j → j < m → KeyAt key p i ≤ KeyAt key p j
def Desc (key : Nat → Int) (p : Array Nat) (m : Nat) : Prop := ∀ i j, i < j → j < m → KeyAt key p j ≤ KeyAt key p i
def AnswersTo (key : Nat → Int) (n : Nat) (cmp : Nat → Nat → (Bool → Shared → Prop) → Shared → Prop) (s : Shared) : Prop := ∀ i j C, i < n → j < n → C (decide (key i < key j)) s → cmp i j C s
structure PermN (n : Nat) (p : Array Nat) : Prop where
  size : p.size = n
  perm : p.toList.Perm (List.range n)
theorem PermN.lt {p : Array Nat} (X : PermN n p) {i : Nat} (hi : i < n) : p.getD i 0 < n := by
  have h : i < p.size := by rw [X.size]; exact hi
  have : p.getD i 0 = p[i] := by simp [Array.getD, h]
  rw [this]
  exact List.mem_range.mp (X.perm.mem_iff.mp (by simp))
theorem PermN.of {p q : Array Nat} (X : PermN n p) (h : q.Perm p) : PermN n q := ⟨by rw [← X.size]; exact h.size_eq, (Array.perm_iff_toList_perm.mp h).trans X.perm⟩
theorem asc_wp (hc : AnswersTo key n cmp s) {p : Array Nat} (X : PermN n p) {G : Nat → Shared → Prop} : ∀ (f k : Nat), 1 ≤ k → k + f = n → Asc key p k → (∀ m, k ≤ m → m ≤ n → Asc key p m → (m < n → KeyAt key p m < KeyAt key p (m - 1)) → G m s) → (kas_asc p f k).kasWp cmp G s
  | 0, k, h1, h2, ha, h => h k (Nat.le_refl _) (by omega) ha fun hlt => by omega
  | f + 1, k, h1, h2, ha, h => by
    unfold kas_asc
    refine hc _ _ _ (X.lt (by omega)) (X.lt (by omega)) ?_
    by_cases hd : KeyAt key p k < KeyAt key p (k - 1)
    · rw [show decide (key (p.getD k 0) < key (p.getD (k - 1) 0)) = true from decide_eq_true hd]; dsimp only; rw [if_pos rfl]
      exact h k (Nat.le_refl _) (by omega) ha fun _ => hd
    · rw [show decide (key (p.getD k 0) < key (p.getD (k - 1) 0)) = false from decide_eq_false hd]; dsimp only; rw [if_neg Bool.false_ne_true]
      refine asc_wp hc X f (k + 1) (by omega) (by omega) (fun i j hij hj => ?_) fun m a b c d => h m (by omega) b c d
      by_cases hjk : j < k
      · exact ha i j hij hjk
      · obtain rfl : j = k := by omega
        by_cases hi : i = j - 1
        · subst hi; omega
        · have := ha i (j - 1) (by omega) (by omega); omega
theorem desc_wp (hc : AnswersTo key n cmp s) {p : Array Nat} (X : PermN n p) (hinj : ∀ i j, i < n → j < n → KeyAt key p i = KeyAt key p j → i = j) {G : Array Nat × Nat × Nat → Shared → Prop} :
    ∀ (f k : Nat), 1 ≤ k → k + f = n → Desc key p k → (∀ m, k ≤ m → m ≤ n → Desc key p m → G (p, m, 0) s) → (kas_desc f p k 0).kasWp cmp G s
  | 0, k, h1, h2, ha, h => h k (Nat.le_refl _) (by omega) ha
  | f + 1, k, h1, h2, ha, h => by
    unfold kas_desc
    refine hc _ _ _ (X.lt (by omega)) (X.lt (by omega)) ?_
    by_cases hd : KeyAt key p k < KeyAt key p (k - 1)
    · rw [show decide (key (p.getD k 0) < key (p.getD (k - 1) 0)) = true from decide_eq_true hd]; dsimp only; rw [if_pos rfl, if_neg (by omega)]
      refine desc_wp hc X hinj f (k + 1) (by omega) (by omega) (fun i j hij hj => ?_) fun m a b c => h m (by omega) b c
      by_cases hjk : j < k
      · exact ha i j hij hjk
      · obtain rfl : j = k := by omega
        by_cases hi : i = j - 1
        · subst hi; omega
        · have := ha i (j - 1) (by omega) (by omega); omega
    · rw [show decide (key (p.getD k 0) < key (p.getD (k - 1) 0)) = false from decide_eq_false hd]; dsimp only; rw [if_neg Bool.false_ne_true]
      refine hc _ _ _ (X.lt (by omega)) (X.lt (by omega)) ?_
      have hd2 : KeyAt key p (k - 1) < KeyAt key p k := by
        have : KeyAt key p (k - 1) ≠ KeyAt key p k := fun e => by have := hinj _ _ (by omega) (by omega) e; omega
        omega
      rw [show decide (key (p.getD (k - 1) 0) < key (p.getD k 0)) = true from decide_eq_true hd2]; dsimp only; rw [if_pos rfl]
      exact h k (Nat.le_refl _) (by omega) ha
theorem getD_rev {p : Array Nat} {m : Nat} (hm : m ≤ p.size) {i : Nat} (hi : i < m) : (kas_rev p 0 m).getD i 0 = p.getD (m - 1 - i) 0 := by
  unfold kas_rev
  rw [Array.getD_eq_getD_getElem?, getElem?_mirror_all (by omega), if_pos (by omega), Array.getD_eq_getD_getElem?]
  congr 2
  omega
theorem place_wp (hc : AnswersTo key n cmp s) {p : Array Nat} (X : PermN n p) {k : Nat} (hk : k < n) (ha : Asc key p k) {G : Nat → Shared → Prop} :
    ∀ (f l r : Nat), r - l ≤ f → l ≤ r → r ≤ k → (∀ i, i < l → KeyAt key p i ≤ KeyAt key p k) → (∀ i, r ≤ i → i < k → KeyAt key p k < KeyAt key p i) →
      (∀ x, x ≤ k → (∀ i, i < x → KeyAt key p i ≤ KeyAt key p k) → (∀ i, x ≤ i → i < k → KeyAt key p k < KeyAt key p i) → G x s) → (kas_place p k f l r).kasWp cmp G s
  | 0, l, r, hf, hl, hr, h1, h2, h => by
    obtain rfl : l = r := by omega
    exact h l hr h1 h2
  | f + 1, l, r, hf, hl, hr, h1, h2, h => by
    unfold kas_place
    by_cases hlr : l ≥ r
    · rw [if_pos hlr]
      obtain rfl : l = r := by omega
      exact h l hr h1 h2
    · rw [if_neg hlr]
      refine hc _ _ _ (X.lt hk) (X.lt (by omega)) ?_
      by_cases hd : KeyAt key p k < KeyAt key p ((l + r) / 2)
      · rw [show decide (key (p.getD k 0) < key (p.getD ((l + r) / 2) 0)) = true from decide_eq_true hd]; dsimp only; rw [if_pos rfl]
        refine place_wp hc X hk ha f l _ (by omega) (by omega) (by omega) h1 (fun i hi hik => ?_) h
        by_cases he : i = (l + r) / 2
        · subst he; exact hd
        · have := ha ((l + r) / 2) i (by omega) hik; omega
      · rw [show decide (key (p.getD k 0) < key (p.getD ((l + r) / 2) 0)) = false from decide_eq_false hd]; dsimp only; rw [if_neg Bool.false_ne_true]
        refine place_wp hc X hk ha f _ r (by omega) (by omega) hr (fun i hi => ?_) h2 h
        by_cases he : i = (l + r) / 2
        · subst he; omega
        · have := ha i ((l + r) / 2) (by omega) (by omega); omega
theorem bin_wp (hc : AnswersTo key n cmp s) {G : Array Nat → Shared → Prop} : ∀ (f : Nat) (p : Array Nat) (k : Nat), PermN n p → k + f = n → Asc key p k → (∀ q, PermN n q → Asc key q n → G q s) → (kas_bin f p k).kasWp cmp G s
  | 0, p, k, X, hk, ha, h => h p X (by rw [← hk]; exact ha)
  | f + 1, p, k, X, hk, ha, h => by
    unfold kas_bin
    rw [KasT.kasWp_bind]
    refine place_wp hc X (by omega) ha k 0 k (by omega) (Nat.zero_le _) (Nat.le_refl _) (fun i hi => by omega) (fun i h1 h2 => by omega) fun x hx h1 h2 => ?_
    have g : ∀ i, (bubble p k (k - x)).getD i 0 = if i = x then p.getD k 0 else if x < i ∧ i ≤ k then p.getD (i - 1) 0 else p.getD i 0 := fun i => by
      rw [Array.getD_eq_getD_getElem?, getElem?_bubble (by rw [X.size]; omega) (k - x) (by omega), show k - (k - x) = x by omega]
      simp only [Array.getD_eq_getD_getElem?]
      split
      · rfl
      · split <;> rfl
    refine bin_wp hc f _ (k + 1) (X.of (bubble_perm _ _ _)) (by omega) (fun i j hij hj => ?_) h
    show key ((bubble p k (k - x)).getD i 0) ≤ key ((bubble p k (k - x)).getD j 0)
    rw [g, g]
    have ha' : ∀ a b, a ≤ b → b < k → KeyAt key p a ≤ KeyAt key p b := fun a b hab hb => by
      rcases Nat.eq_or_lt_of_le hab with rfl | h
      · exact Int.le_refl _
      · exact ha a b h hb
    by_cases e1 : i = x
    · rw [if_pos e1, if_neg (by omega), if_pos (by omega)]
      exact Int.le_of_lt (h2 (j - 1) (by omega) (by omega))
    · rw [if_neg e1]
      by_cases e2 : j = x
      · rw [if_pos e2, if_neg (by omega)]
        exact h1 i (by omega)
      · rw [if_neg e2]
        by_cases e3 : x < i ∧ i ≤ k
        · rw [if_pos e3, if_pos (by omega)]
          exact ha' _ _ (by omega) (by omega)
        · rw [if_neg e3]
          by_cases e4 : x < j ∧ j ≤ k
          · rw [if_pos e4]
            exact ha' _ _ (by omega) (by omega)
          · rw [if_neg e4]
            exact ha' _ _ (by omega) (by omega)
theorem sort_wp (hc : AnswersTo key n cmp s) (h2 : 2 ≤ n) (hinj : ∀ i j, i < n → j < n → key i = key j → i = j) {G : Array Nat → Shared → Prop} (h : ∀ q, PermN n q → Asc key q n → G q s) : (kas_sort n).kasWp cmp G s := by
  have X0 : PermN n (List.toArray (List.range n)) := ⟨by simp, List.Perm.refl _⟩
  have g0 : ∀ i, i < n → (List.toArray (List.range n)).getD i 0 = i := fun i hi => by simp [Array.getD, hi]
  generalize hp0 : List.toArray (List.range n) = p0 at X0 g0
  have hfin : ∀ (r : Nat × Array Nat), PermN n r.2 → 1 ≤ r.1 → r.1 ≤ n → Asc key r.2 r.1 → (if r.1 < n then kas_bin (n - max r.1 1) r.2 (max r.1 1) else KasT.ret r.2).kasWp cmp G s := fun r X h1 hle ha => by
    by_cases hlt : r.1 < n
    · rw [if_pos hlt, show max r.1 1 = r.1 by omega]
      exact bin_wp hc _ _ _ X (by omega) ha h
    · rw [if_neg hlt]
      exact h _ X (by rw [show n = r.1 by omega]; exact ha)
  have keyEq : ∀ i, i < n → KeyAt key p0 i = key i := fun i hi => by show key (p0.getD i 0) = _; rw [g0 i hi]
  have hinj0 : ∀ i j, i < n → j < n → KeyAt key p0 i = KeyAt key p0 j → i = j := fun i j hi hj e => hinj i j hi hj (by rw [← keyEq i hi, ← keyEq j hj]; exact e)
  have tail3 : ∀ m, 1 ≤ m → m ≤ n → Desc key p0 m → (kas_tail3 m n p0).kasWp cmp (fun a s' => (if a.1 < n then kas_bin (n - max a.1 1) a.2 (max a.1 1) else KasT.ret a.2).kasWp cmp G s') s := fun m hm1 hm hd => by
    unfold kas_tail3
    rw [KasT.kasWp_bind]
    have Xr : PermN n (kas_rev p0 0 m) := X0.of (mirror_perm _ _ _ _)
    refine asc_wp hc Xr (n - m) m hm1 (by omega) (fun i j hij hj => ?_) fun m' a b c _ => hfin (m', kas_rev p0 0 m) Xr (by show 1 ≤ m'; omega) b c
    show key ((kas_rev p0 0 m).getD i 0) ≤ key ((kas_rev p0 0 m).getD j 0)
    rw [getD_rev (by rw [X0.size]; exact hm) (by omega), getD_rev (by rw [X0.size]; exact hm) hj]
    exact hd _ _ (by omega) (by omega)
  have main : (kas_count n p0).kasWp cmp (fun a s' => (if a.1 < n then kas_bin (n - max a.1 1) a.2 (max a.1 1) else KasT.ret a.2).kasWp cmp G s') s := by
    unfold kas_count
    rw [KasT.kasWp_bind]
    refine asc_wp hc X0 (n - 1) 1 (Nat.le_refl _) (by omega) (fun i j hij hj => by omega) fun m h1 hmn ha hstop => ?_
    by_cases hm : m = n
    · rw [if_pos (by simp [hm])]
      exact hfin (m, p0) X0 h1 hmn ha
    · rw [if_neg (by simp [hm])]
      by_cases hm1 : m > 1
      · rw [if_pos hm1]
        refine hc _ _ _ (X0.lt (by omega)) (X0.lt (by omega)) ?_
        have hlt : KeyAt key p0 0 < KeyAt key p0 (m - 1) := by
          have hle := ha 0 (m - 1) (by omega) (by omega)
          have : KeyAt key p0 0 ≠ KeyAt key p0 (m - 1) := fun e => by have := hinj0 _ _ (by omega) (by omega) e; omega
          omega
        rw [show decide (key (p0.getD 0 0) < key (p0.getD (m - 1) 0)) = true from decide_eq_true hlt]; dsimp only; rw [if_pos rfl]
        exact hfin (m, p0) X0 h1 hmn ha
      · rw [if_neg hm1]
        obtain rfl : m = 1 := by omega
        unfold kas_descPart
        rw [KasT.kasWp_bind]
        have h10 : KeyAt key p0 1 < KeyAt key p0 0 := hstop (by omega)
        refine desc_wp hc X0 hinj0 (n - (1 + 1)) (1 + 1) (by omega) (by omega) (fun i j hij hj => ?_) fun m' a b c => ?_
        · obtain rfl : i = 0 := by omega
          obtain rfl : j = 1 := by omega
          exact Int.le_of_lt h10
        · dsimp only
          rw [if_neg (by omega)]
          exact tail3 m' (by omega) b c
  unfold kas_sort
  rw [KasT.kasWp_bind, hp0]
  exact main
end

section
variable {prog : Program} {w : World} {A : Around} {E : Value → Shared → Prop} {s : Shared}
theorem pair_lt {v v' : Value} {p q : Int × Str} {Q : Bool → Shared → Prop} (x : PairAt s.heap v p) (y : PairAt s.heap v' q) (hne : p.1 ≠ q.1) (h : Q (decide (p.1 < q.1)) s) : wpAny (model prog w) A (keyLt' (tuples' true) v v') Q E s := by
  obtain ⟨r, t, u, rfl, e⟩ := x
  obtain ⟨r', t', u', rfl, e'⟩ := y
  refine kat_lt e rfl e' rfl (kat_cons (wpAny_eqBool_int ?_))
  have hb : (p.1 == q.1) = false := by simpa using hne
  rw [hb]
  exact kat_no (oneLt_int h)
theorem pair_kind {vs : List Value} {kp : Nat → Int × Str} {Q : SortKind → Shared → Prop} (hv : ∀ (i : Nat) v, vs[i]? = some v → PairAt s.heap v (kp i)) (hn : 0 < vs.length) (h : Q (tuples' true) s) : wpAny (model prog w) A (keyKind' vs.toArray) Q E s := by
  have key : ∀ (vs : List Value), (∀ v ∈ vs, ∃ p, PairAt s.heap v p) → ∃ fs, KatTups s.heap vs fs ∧ fs.length = vs.length ∧ ∀ f ∈ fs, ∃ i t, f = Value.int i t := by
    intro vs
    induction vs with
    | nil => exact fun _ => ⟨[], KatTups.nil, rfl, fun f hf => absurd hf List.not_mem_nil⟩
    | cons v vs ih =>
      intro hv
      obtain ⟨fs, a1, a2, a3⟩ := ih fun u hu => hv u (.tail _ hu)
      obtain ⟨p, r, t, u, rfl, e⟩ := hv v (.head _)
      refine ⟨_ :: fs, KatTups.cons e rfl rfl rfl a1, by simp [a2], fun f hf => ?_⟩
      rcases List.mem_cons.mp hf with rfl | hf
      · exact ⟨_, _, rfl⟩
      · exact a3 f hf
  obtain ⟨fs, a1, a2, a3⟩ := key vs fun v hm => by
    obtain ⟨i, hi⟩ := List.mem_iff_getElem?.mp hm
    exact ⟨_, hv i v hi⟩
  refine kat_kind (T := .type "int") a1 (by omega) (fun f hf => ?_) rfl ?_
  · obtain ⟨i, t, rfl⟩ := a3 f hf
    exact .now
  · exact h
theorem sort_pairs {a : Addr} {vs : List Value} {n c : Nat} {kp : Nat → Int × Str} {P : PySem.Fin → Shared → Prop} (ho : s.heap.get? a = some (seqObj "list" vs.toArray c)) (hn : vs.length = n) (h1 : 1 ≤ n) (h64 : n < 64) (hv : ∀ (i : Nat) v, vs[i]? = some v → PairAt s.heap v (kp i))
    (hinj : ∀ i j, i < n → j < n → (kp i).1 = (kp j).1 → i = j)
    (h : ∀ h' c' q, PermN n q → Asc (fun i => (kp i).1) q n → h'.get? a = some (seqObj "list" (q.toList.map fun i => vs.getD i Value.none).toArray c') → (∀ b o, b ≠ a → s.heap.get? b = some o → h'.get? b = some o) → P (.done (.ret .none)) { s with heap := h' }) :
    wpAny (model prog w) A (Builtin.«list.sort» ⟨[.ref a], []⟩) P E s := by
  subst hn
  have ha : a < s.heap.objs.size := Heap.lt_size ho
  have s1 := Heap.SameBut.update s.heap a (Obj.mapSeq fun _ => (#[] : Array Value))
  obtain ⟨e1, ho1⟩ : ∃ e1, (s.heap.update a (Obj.mapSeq fun _ => (#[] : Array Value))).get? a = some (seqObj "list" #[] e1) := ⟨_, get?_update_seq ho fun _ => #[]⟩
  rw [list_sort_plain]
  refine wpAny_bind (listItems_at ho rfl ?_)
  refine wpAny_bind (listUpdate_at ho rfl ?_ (by rw [List.size_toArray, sizeLine_eq]; omega) (Nat.zero_le _))
  refine wpAny_bind (seqEpoch_at ho1 rfl ?_)
  refine wpAny_bind (wpAny_newTuple ?_ (by show vs.length ≤ _; rw [sizeLine_eq]; omega))
  refine wpAny_bind (wpAny_newList ?_ (Nat.zero_le _))
  refine wpAny_holding ?_
  show wpAny (model prog w) A _ P E { s with heap := ((s.heap.update a (Obj.mapSeq fun _ => (#[] : Array Value))).push (seqObj "tuple" vs.toArray 0)).push (seqObj "list" #[] 0) }
  have ho3 : (((s.heap.update a (Obj.mapSeq fun _ => (#[] : Array Value))).push (seqObj "tuple" vs.toArray 0)).push (seqObj "list" #[] 0)).get? a = some (seqObj "list" #[] e1) := Heap.get?_push_of_some _ (Heap.get?_push_of_some _ ho1)
  have oth : ∀ b o, b ≠ a → s.heap.get? b = some o → (((s.heap.update a (Obj.mapSeq fun _ => (#[] : Array Value))).push (seqObj "tuple" vs.toArray 0)).push (seqObj "list" #[] 0)).get? b = some o := fun b o hb e => Heap.get?_push_of_some _ (Heap.get?_push_of_some _ ((s1.2 b hb).trans e))
  generalize ((s.heap.update a (Obj.mapSeq fun _ => (#[] : Array Value))).push (seqObj "tuple" vs.toArray 0)).push (seqObj "list" #[] 0) = h3 at ho3 oth ⊢
  have tk : TupKeep s.heap h3 := fun b ws e => oth b _ (fun q => by subst q; rw [ho] at e; have := congrArg Obj.cls (Option.some.inj e); exact absurd this (by show Value.type "list" ≠ Value.type "tuple"; decide)) e
  have hv3 : ∀ (i : Nat) v, vs[i]? = some v → PairAt h3 v (kp i) := fun i v hi => (hv i v hi).tup tk
  have fin : ∀ (st' : SortSt) (q : Array Nat), PermN vs.length q → Asc (fun i => (kp i).1) q vs.length → (arrOf st').map (·.2) = List.toArray (q.toList.map fun i => vs.getD i Value.none) → failedOf st' = none →
      wpAny (model prog w) A (do
        let sorted := (arrOf st').map (·.2)
        let touched := (← seqEpoch a) != e1
        Builtin.List.listUpdate (.ref a) fun _ => sorted
        if let some e := failedOf st' then rule "list.sort.comparison-raised"; throw e
        if touched then rule "list.sort.modified"; raiseError "ValueError" "list modified during sort"
        ret .none) P E { s with heap := h3 } := fun st' q X ha' hout hfl => by
    dsimp only
    rw [hout, hfl]
    have hsz : (List.toArray (q.toList.map fun i => vs.getD i Value.none)).size = vs.length := by rw [List.size_toArray, List.length_map, X.perm.length_eq, List.length_range]
    refine wpAny_bind (seqEpoch_at ho3 rfl ?_)
    refine wpAny_bind (listUpdate_at ho3 rfl ?_ (Nat.zero_le _) (Nat.le_trans (Nat.le_of_eq hsz) (by rw [sizeLine_eq]; omega)))
    simp only [bne_self_eq_false, Bool.false_eq_true, if_false]
    have s2 := Heap.SameBut.update h3 a (Obj.mapSeq fun _ => List.toArray (q.toList.map fun i => vs.getD i Value.none))
    exact wpAny_pure (h _ _ q X ha' (get?_update_seq ho3 fun _ => _) fun b o hb e => (s2.2 b hb).trans (oth b o hb e))
  dsimp only
  by_cases h2 : 2 ≤ vs.length
  · have hn2 : ¬ vs.toArray.size < 2 := by rw [List.size_toArray]; omega
    rw [if_neg hn2, if_neg hn2]
    refine wpAny_bind (pair_kind (s := { s with heap := h3 }) hv3 (by omega) ?_)
    have hask : AnswersTo (fun i => (kp i).1) vs.length (kas_ask prog w A (tuples' true) vs) { s with heap := h3 } := fun i j C hi hj hC => by
      unfold kas_ask
      have e1 : vs.getD i Value.none = vs[i] := by simp [hi]
      have e2 : vs.getD j Value.none = vs[j] := by simp [hj]
      rw [e1, e2]
      by_cases hij : i = j
      · subst hij
        obtain ⟨r, t, u, e, g⟩ := hv3 i _ (getElem?_pos vs i hi)
        rw [e]
        refine kat_lt g rfl g rfl (kat_cons (wpAny_eqBool_int ?_))
        rw [show ((kp i).1 == (kp i).1) = true by simp]
        refine kat_yes (kat_cons (wpAny_eqBool_str ?_))
        rw [show decide ((kp i).2 = (kp i).2) = true by simp]
        refine kat_yes (kat_nil ?_)
        have hC' : C false { s with heap := h3 } := by simpa using hC
        simpa using hC'
      · exact pair_lt (hv3 i _ (getElem?_pos vs i hi)) (hv3 j _ (getElem?_pos vs j hj)) (fun e => hij (hinj i j hi hj e)) hC
    refine wpAny_bind (wpAny_mono (kat_run (Q := fun st' s' => s' = { s with heap := h3 } ∧ ∃ q : Array Nat, PermN vs.length q ∧ Asc (fun i => (kp i).1) q vs.length ∧ arrOf st' = q.map (kas_item (vs.toArray.zip vs.toArray)) ∧ failedOf st' = none) (G := fun q s' => s' = { s with heap := h3 } ∧ PermN vs.length q ∧ Asc (fun i => (kp i).1) q vs.length)
      rfl h2 h64 (fun q st' s' a1 a2 a3 a4 => ⟨a4.1, q, a4.2.1, a4.2.2, a2, a3⟩) (sort_wp hask h2 hinj fun q X ha' => ⟨rfl, X, ha'⟩)) ?_ fun _ _ e => e)
    rintro ⟨⟨⟩, st'⟩ s' ⟨rfl, q, X, ha', har, hfl⟩
    exact fin st' q X ha' (kat_snds rfl har) hfl
  · have hn2 : vs.toArray.size < 2 := by rw [List.size_toArray]; omega
    rw [if_pos hn2, if_pos hn2]
    obtain ⟨v, rfl⟩ : ∃ v, vs = [v] := List.length_eq_one_iff.mp (by omega)
    refine wpAny_bind (wpAny_pure ?_)
    refine wpAny_bind (wpAny_pure ?_)
    exact fin _ #[0] ⟨rfl, List.Perm.refl _⟩ (fun i j hij hj => by simp at hj; omega) (by show (([v].toArray).zip [v].toArray).map (·.2) = [v].toArray; simp) rfl
end

theorem perm_map_inv {α β : Type} (f : α → β) : ∀ {l m : List β}, l.Perm m → ∀ L : List α, m = L.map f → ∃ L' : List α, L'.Perm L ∧ l = L'.map f := by
  intro l m h
  induction h with
  | nil =>
    intro L e
    cases L with
    | nil => exact ⟨[], List.Perm.refl _, rfl⟩
    | cons a L => cases e
  | cons x _ ih =>
    intro L e
    cases L with
    | nil => cases e
    | cons a L =>
      injection e with e1 e2
      obtain ⟨L', h1, h2⟩ := ih L e2
      exact ⟨a :: L', h1.cons a, by rw [h2, e1]; rfl⟩
  | swap x y l =>
    intro L e
    match L, e with
    | a :: b :: L, e =>
      injection e with e1 e2
      injection e2 with e2 e3
      exact ⟨b :: a :: L, List.Perm.swap .., by rw [e1, e2, e3]; rfl⟩
  | trans _ _ ih1 ih2 =>
    intro L e
    obtain ⟨L2, a1, a2⟩ := ih2 L e
    obtain ⟨L1, b1, b2⟩ := ih1 L2 a2
    exact ⟨L1, b1.trans a1, b2⟩
section
variable {prog : Program} {w : World} {A : Around} {E : Value → Shared → Prop} {s : Shared}
theorem sorted_set {H : Int × Str → Int} {S : Addr} {L : List Ent} {Q : Value → Shared → Prop} (hh : A.handled = none) (X : SetIs H s.heap S (ledOf w) L) (hl : L.length ≤ 8) (hl0 : L ≠ []) (hinj : (L.map (·.2.1)).Nodup)
    (hQ : ∀ (D : Addr) (vs : List Value) (ps : List (Int × Str)) (h' : Heap) (tk : Nat) (d' : Drawn) (c : Nat), vs.length = ps.length → (∀ (i : Nat) v, vs[i]? = some v → PairAt h' v (ps.getD i (0, default))) → ps.Perm (L.map (·.2)) → (ps.map (·.1)).Pairwise (· < ·) → h'.get? D = some (lstO vs c) → s.heap.get? D = none → Keeps s.heap h' → Q (.ref D) { s with heap := h', toks := tk, drawn := d' }) :
    wpAny (model prog w) A (call (.builtin "sorted") [.ref S]) Q E s := by
  refine Calls.call_function_entry kind_sorted plain_sorted entry_sorted (args_sorted1 _) ?_
  unfold Builtin.«sorted»
  refine wpAny_bind (m := checkCount "sorted" 1 1 _) (wpAny_pure ?_)
  refine wpAny_bind (collect_set (by simpa using hh) X hl hl0 fun vs h1 tk1 d1 hP hk1 => ?_)
  have hlen : vs.length = L.length := by rw [hP.length_eq, List.length_map]
  refine wpAny_bind (wpAny_newList ?_ (by rw [sizeLine_eq]; omega))
  have hoL : (h1.push (seqObj "list" vs.toArray 0)).get? h1.objs.size = some (seqObj "list" vs.toArray 0) := Heap.get?_push_size _ rfl
  obtain ⟨L', hL', rfl⟩ := perm_map_inv (·.1) hP L rfl
  have hk2 : Keeps s.heap (h1.push (seqObj "list" (L'.map (·.1)).toArray 0)) := fun b o e => Heap.get?_push_of_some _ (hk1 b o e)
  have items : ∀ q ∈ L, PairAt s.heap q.1 q.2 := by obtain ⟨es, ep, t, ho, R, _⟩ := X; exact R.items
  have hD : s.heap.get? h1.objs.size = none := by
    cases e : s.heap.get? h1.objs.size with
    | none => rfl
    | some o => exact absurd (Heap.lt_size (hk1 _ _ e)) (Nat.lt_irrefl _)
  have hn : L'.length = L.length := hL'.length_eq
  have kpAt : ∀ (i : Nat) q, L'[i]? = some q → (L'.map (·.2)).getD i (0, default) = q.2 := fun i q e => by simp [e]
  refine wpAny_bind (wpAny_holding (wpAny_call_entry slot_list_sort ⟨_, hoL, rfl⟩ entry_list_sort ?body (args_list_sort _)))
  case body =>
    refine sort_pairs (s := { s with heap := h1.push (seqObj "list" (L'.map (·.1)).toArray 0), toks := tk1, drawn := d1 }) (n := L.length) (kp := fun i => (L'.map (·.2)).getD i (0, default)) hoL hlen ?_ (by omega) (fun i v hi => ?_) (fun i j hi hj e => ?_) fun h' c' q Xq ha ho' hk' => ?_
    · cases L with
      | nil => exact absurd rfl hl0
      | cons _ _ => simp
    · rw [List.getElem?_map] at hi
      cases hq : L'[i]? with
      | none => rw [hq] at hi; cases hi
      | some x =>
        rw [hq] at hi
        cases hi
        rw [kpAt i x hq]
        exact (items x (hL'.mem_iff.mp (List.mem_of_getElem? hq))).tup hk2.tup
    · have hnd : (L'.map (·.2.1)).Nodup := (hL'.map _).nodup_iff.mpr hinj
      rw [kpAt i _ (getElem?_pos L' i (by omega)), kpAt j _ (getElem?_pos L' j (by omega))] at e
      have := (List.getElem_inj (xs := L'.map (·.2.1)) (i := i) (j := j) (h₀ := by rw [List.length_map]; omega) (h₁ := by rw [List.length_map]; omega) hnd).mp (by simpa using e)
      exact this
    · refine ⟨_, rfl, wpAny_pure ⟨_, rfl, ?_⟩⟩
      have tk' : Keeps s.heap h' := fun b o e => hk' b o (fun q => by subst q; rw [hD] at e; cases e) (hk2 b o e)
      have qn : ∀ i ∈ q.toList, i < L'.length := fun i hi => by rw [hn]; exact List.mem_range.mp (Xq.perm.mem_iff.mp hi)
      refine hQ h1.objs.size (q.toList.map fun i => (L'.map (·.1)).getD i Value.none) (q.toList.map fun i => (L'.map (·.2)).getD i (0, default)) h' tk1 d1 c' (by simp) (fun i v hi => ?_) ?_ ?_ ho' hD tk'
      · rw [List.getElem?_map] at hi
        cases hq : q.toList[i]? with
        | none => rw [hq] at hi; cases hi
        | some j =>
          rw [hq] at hi
          cases hi
          have hj := qn j (List.mem_of_getElem? hq)
          have e1 : (q.toList.map fun i => (L'.map (·.2)).getD i (0, default)).getD i (0, default) = L'[j].2 := by
            rw [List.getD_eq_getElem?_getD, List.getElem?_map, hq]
            simp [hj]
          have e2 : (L'.map (·.1)).getD j Value.none = L'[j].1 := by simp [hj]
          rw [e1]; dsimp only; rw [e2]
          exact (items _ (hL'.mem_iff.mp (List.getElem_mem hj))).tup tk'.tup
      · have e1 : (List.range L.length).map (fun i => (L'.map (·.2)).getD i (0, default)) = L'.map (·.2) := by
          refine List.ext_getElem (by simp [hn]) fun i h1 h2 => ?_
          simp at h2
          simp [h2]
        have := Xq.perm.map fun i => (L'.map (·.2)).getD i (0, default)
        rw [e1] at this
        exact this.trans (hL'.map _)
      · rw [List.map_map, List.pairwise_map]
        refine List.pairwise_iff_getElem.mpr fun i j hi hj hij => ?_
        have hsz : q.toList.length = L.length := by rw [Xq.perm.length_eq, List.length_range]
        have hle := ha i j hij (by omega)
        have g : ∀ k, (hk : k < q.toList.length) → q.getD k 0 = q.toList[k] := fun k hk => by
          have hk' : k < q.size := by simpa using hk
          simp [Array.getD, hk']
        have hle' : ((L'.map (·.2)).getD q.toList[i] (0, default)).1 ≤ ((L'.map (·.2)).getD q.toList[j] (0, default)).1 := by
          have := hle
          unfold KeyAt at this
          rw [g i hi, g j hj] at this
          exact this
        have hne : ((L'.map (·.2)).getD q.toList[i] (0, default)).1 ≠ ((L'.map (·.2)).getD q.toList[j] (0, default)).1 := fun e => by
          have hi' := qn _ (List.getElem_mem hi)
          have hj' := qn _ (List.getElem_mem hj)
          have hnd : (L'.map (·.2.1)).Nodup := (hL'.map _).nodup_iff.mpr hinj
          rw [kpAt _ _ (getElem?_pos L' _ hi'), kpAt _ _ (getElem?_pos L' _ hj')] at e
          have e3 := (List.getElem_inj (xs := L'.map (·.2.1)) (i := q.toList[i]) (j := q.toList[j]) (h₀ := by rw [List.length_map]; exact hi') (h₁ := by rw [List.length_map]; exact hj') hnd).mp (by simpa using e)
          have hqn : q.toList.Nodup := Xq.perm.nodup_iff.mpr List.nodup_range
          have := (List.getElem_inj (xs := q.toList) (h₀ := hi) (h₁ := hj) hqn).mp e3
          omega
        show ((L'.map (·.2)).getD q.toList[i] (0, default)).1 < ((L'.map (·.2)).getD q.toList[j] (0, default)).1
        omega
end

/-! equality of seals, of triples that bear one, and of lists of them -/
def eqF (x y : UInt64) : Bool := Float64.cmp x y == some Ordering.eq
def eq3 (a b : UInt64 × UInt64 × UInt64) : Bool := eqF a.1 b.1 && eqF a.2.1 b.2.1 && eqF a.2.2 b.2.2
theorem seal_eq8 : ∀ c d : Fin 8, ∀ sh lv : Fin 4, eq3 (sealF (c.val : Nat) sh.val lv.val) (sealF (d.val : Nat) sh.val lv.val) = decide (c.val = d.val) := by decide +kernel
theorem seal_eq {c d sh lv : Nat} (hc : c < 8) (hd : d < 8) (hs : sh < 4) (hl : lv < 4) : eq3 (sealF (c : Nat) sh lv) (sealF (d : Nat) sh lv) = decide (c = d) := seal_eq8 ⟨c, hc⟩ ⟨d, hd⟩ ⟨sh, hs⟩ ⟨lv, hl⟩
def SealAt (h : Heap) (v : Value) (c sh lv lo hi tc : Nat) : Prop := Tup3T h v (sealF (c : Nat) sh lv).1 (sealF (c : Nat) sh lv).2.1 (sealF (c : Nat) sh lv).2.2 lo hi (q4 lv) tc
theorem SealAt.tup {h h' : Heap} {v : Value} {c sh lv lo hi tc : Nat} (x : SealAt h v c sh lv lo hi tc) (k : TupKeep h h') : SealAt h' v c sh lv lo hi tc := let ⟨r, t1, t2, t3, e, g, q⟩ := x; ⟨r, t1, t2, t3, e, k _ _ g, q⟩
section
open PySem.SeqAt
variable {A : Around} {s : Shared}
/-- two floats: what their tokens must not say -/
def TokPair (x : UInt64) (t : Nat) (y : UInt64) (u : Nat) : Prop := t ≠ 0 ∧ u ≠ 0 ∧ (t = u → x = y)
theorem isSame_float {prog : Program} {w : World} {E : Value → Shared → Prop} {Q : Bool → Shared → Prop} {x y : UInt64} {t u : Tok} (hb : NoneBooked s.heap) (hp : TokPair x t y u) (h1 : x = y → Q true s) (h2 : Q false s) : wpAny (model prog w) A (isSame (.float x t) (.float y u)) Q E s := by
  unfold isSame
  show wpAny _ _ (isSame.created (x == y && !Float64.isNaN x) t u) _ _ _
  unfold isSame.created
  have e0 : (t == 0 || u == 0) = false := by
    have a := hp.1; have b := hp.2.1
    simp only [Bool.or_eq_false_iff, beq_eq_false_iff_ne]
    exact ⟨a, b⟩
  rw [e0, if_neg Bool.false_ne_true]
  by_cases htu : t = u
  · rw [if_pos (by simp [htu])]
    exact wpAny_pure (h1 (hp.2.2 htu))
  · rw [if_neg (by simp [htu])]
    by_cases hc : (x == y && !Float64.isNaN x) = true
    · have hxy : x = y := by simp only [Bool.and_eq_true, beq_iff_eq] at hc; exact hc.1
      rw [if_neg (by rw [hc]; simp)]
      refine wpAny_bind (wpAny_sharingNotTold_none hb ?_)
      rw [if_neg Bool.false_ne_true]
      refine wpAny_bind (wpAny_sharingNotTold_none hb ?_)
      rw [if_neg Bool.false_ne_true]
      refine wpAny_bind (wpAny_rule (wpAny_bind (wpAny_askSetting (wpAny_pure ?_))))
      have both : ∀ bb : Bool, Q bb s := fun bb => by cases bb with
        | true => exact h1 hxy
        | false => exact h2
      exact both _
    · rw [if_pos (by simp only [Bool.not_eq_true] at hc; rw [hc]; rfl)]
      exact wpAny_pure h2
theorem eqAt_float {x y : UInt64} {t u : Tok} (hb : NoneBooked s.heap) (hp : TokPair x t y u) (hx : eqF x x = true) : EqAt A s (.float x t) (.float y u) (eqF x y) := fun prog w E Q h => by
  unfold eqBool
  refine wpAny_holding ?_
  refine wpAny_ite_split (fun hab => ?_) (fun _ => ?_)
  · have := eq_of_beq hab
    injection this with e
    subst e
    rw [hx] at h
    exact wpAny_bind (wpAny_rule (wpAny_pure h))
  · dsimp only
    refine wpAny_bind (isSame_float hb hp (fun e => ?_) ?_)
    · rw [if_pos rfl]
      subst e
      rw [hx] at h
      exact wpAny_pure h
    · rw [if_neg Bool.false_ne_true]
      exact wpAny_bind (AutoFloatOps.eq_0 (wpAny_truthy_bool h))
theorem TokPair.of {lo hi lo' hi' tc : Nat} {c x y : UInt64} {t u : Nat} (a : TokOk lo hi c tc x t) (b : TokOk lo' hi' c tc y u) (h0 : 0 < tc) (h1 : tc < lo') (h2 : lo' ≤ hi') (h3 : hi' ≤ lo) : TokPair x t y u := by
  rcases a with ⟨rfl, rfl⟩ | ⟨a1, a2⟩
  · rcases b with ⟨rfl, rfl⟩ | ⟨b1, b2⟩
    · exact ⟨by omega, by omega, fun _ => rfl⟩
    · exact ⟨by omega, by omega, fun e => by omega⟩
  · rcases b with ⟨rfl, rfl⟩ | ⟨b1, b2⟩
    · exact ⟨by omega, by omega, fun e => by omega⟩
    · exact ⟨by omega, by omega, fun e => by omega⟩
theorem rcAt_seal {v v' : Value} {c d sh lv lo hi lo' hi' tc : Nat} (hb : NoneBooked s.heap) (hu : A.units + 2 < cLine) (hc : c < 8) (hd : d < 8) (hs : sh < 4) (hl : lv < 4) (h0 : 0 < tc) (h1 : tc < lo') (h2 : lo' ≤ hi') (h3 : hi' ≤ lo) (x : SealAt s.heap v c sh lv lo hi tc) (y : SealAt s.heap v' d sh lv lo' hi' tc) : RcAt A s v v' (decide (c = d)) := by
  obtain ⟨r, t1, t2, t3, rfl, e, q1, q2, q3⟩ := x
  obtain ⟨r', u1, u2, u3, rfl, e', q1', q2', q3'⟩ := y
  have hcc := seal_eq hc hc hs hl
  have hcd := seal_eq hc hd hs hl
  rw [decide_eq_true rfl] at hcc
  unfold eq3 at hcc hcd
  simp only [Bool.and_eq_true] at hcc
  have this := RcAt.tuples (A := A) (e := fun j => if j = 0 then eqF (sealF (c : Nat) sh lv).1 (sealF (d : Nat) sh lv).1 else if j = 1 then eqF (sealF (c : Nat) sh lv).2.1 (sealF (d : Nat) sh lv).2.1 else eqF (sealF (c : Nat) sh lv).2.2 (sealF (d : Nat) sh lv).2.2) (s := s) (l := r) (b := r') (items := #[_, _, _]) (items2 := #[_, _, _]) ⟨_, e, rfl, _, rfl⟩ ⟨_, e', rfl, _, rfl⟩ (by omega) (fun j h1' h2' => by
    have hj : j = 0 ∨ j = 1 ∨ j = 2 := by simp at h1'; omega
    rcases hj with rfl | rfl | rfl
    · exact eqAt_float hb (.of q1 q1' h0 h1 h2 h3) hcc.1.1
    · exact eqAt_float hb (.of q2 q2' h0 h1 h2 h3) hcc.1.2
    · exact eqAt_float hb (.of q3 q3' h0 h1 h2 h3) hcc.2)
  rw [← hcd]
  have e3 : (List.range 3).all (fun j => if j = 0 then eqF (sealF (c : Nat) sh lv).1 (sealF (d : Nat) sh lv).1 else if j = 1 then eqF (sealF (c : Nat) sh lv).2.1 (sealF (d : Nat) sh lv).2.1 else eqF (sealF (c : Nat) sh lv).2.2 (sealF (d : Nat) sh lv).2.2) = (eqF (sealF (c : Nat) sh lv).1 (sealF (d : Nat) sh lv).1 && eqF (sealF (c : Nat) sh lv).2.1 (sealF (d : Nat) sh lv).2.1 && eqF (sealF (c : Nat) sh lv).2.2 (sealF (d : Nat) sh lv).2.2) := by
    simp [List.range, List.range.loop, Bool.and_assoc]
  rw [← e3]
  simpa using this
end

/-- a triple (place, word, seal) -/
def TripAt (h : Heap) (v : Value) (k : Int) (u : Str) (c sh lv lo hi tc : Nat) : Prop := ∃ r t1 t2 sv, v = .ref r ∧ h.get? r = some (tupO [.int k t1, .str u t2, sv]) ∧ SealAt h sv c sh lv lo hi tc
theorem TripAt.tup {h h' : Heap} {v : Value} {k : Int} {u : Str} {c sh lv lo hi tc : Nat} (x : TripAt h v k u c sh lv lo hi tc) (q : TupKeep h h') : TripAt h' v k u c sh lv lo hi tc :=
  let ⟨r, t1, t2, sv, a, b, d⟩ := x; ⟨r, t1, t2, sv, a, q _ _ b, d.tup q⟩
section
open PySem.SeqAt
variable {A : Around} {s : Shared}
theorem eqAt_seal {v v' : Value} {c d sh lv lo hi lo' hi' tc : Nat} (hb : NoneBooked s.heap) (hu : A.units + 2 < cLine) (hc : c < 8) (hd : d < 8) (hs : sh < 4) (hl : lv < 4) (h0 : 0 < tc) (h1 : tc < lo') (h2 : lo' ≤ hi') (h3 : hi' ≤ lo) (hne : v ≠ v') (x : SealAt s.heap v c sh lv lo hi tc) (y : SealAt s.heap v' d sh lv lo' hi' tc) : EqAt A s v v' (decide (c = d)) := by
  have R := rcAt_seal (A := A) hb hu hc hd hs hl h0 h1 h2 h3 x y
  obtain ⟨r, t1, t2, t3, rfl, e, _⟩ := x
  obtain ⟨r', u1, u2, u3, rfl, e', _⟩ := y
  exact EqAt.of_refs (fun q => hne (by rw [q])) R
/-- a triple of the row, against one that was made with the seal itself -/
theorem eqAt_trip {v v' sv' : Value} {k k' : Int} {u u' : Str} {c d sh lv lo hi lo' hi' tc : Nat} (hb : NoneBooked s.heap) (hu : A.units + 3 < cLine) (hc : c < 8) (hd : d < 8) (hs : sh < 4) (hl : lv < 4) (h0 : 0 < tc) (h1 : tc < lo') (h2 : lo' ≤ hi') (h3 : hi' ≤ lo)
    (hne : v ≠ v') (hsv : ∀ r t1 t2 sv, v = .ref r → s.heap.get? r = some (tupO [.int k t1, .str u t2, sv]) → sv ≠ sv') (x : TripAt s.heap v k u c sh lv lo hi tc) (hy : ∃ r t1 t2, v' = .ref r ∧ s.heap.get? r = some (tupO [.int k' t1, .str u' t2, sv'])) (y : SealAt s.heap sv' d sh lv lo' hi' tc) :
    EqAt A s v v' (decide (k = k') && decide (u = u') && decide (c = d)) := by
  obtain ⟨r, t1, t2, sv, rfl, e, S⟩ := x
  obtain ⟨r', u1, u2, rfl, e'⟩ := hy
  have hs' := hsv r t1 t2 sv rfl e
  have this := RcAt.tuples (A := A) (e := fun j => if j = 0 then decide (k = k') else if j = 1 then decide (u = u') else decide (c = d)) (s := s) (l := r) (b := r') (items := #[_, _, _]) (items2 := #[_, _, _]) ⟨_, e, rfl, _, rfl⟩ ⟨_, e', rfl, _, rfl⟩ (by omega) (fun j h1' h2' => by
    have hj : j = 0 ∨ j = 1 ∨ j = 2 := by simp at h1'; omega
    rcases hj with rfl | rfl | rfl
    · have := EqAt.int_int (A := A.in1) (s := s) k t1 k' u1
      rw [show (k == k') = decide (k = k') from rfl] at this
      exact this
    · have := EqAt.str_str (A := A.in1) (s := s) u t2 u' u2
      rw [show (u == u') = decide (u = u') by by_cases h : u = u' <;> simp [h]] at this
      exact this
    · exact eqAt_seal hb (by simp; omega) hc hd hs hl h0 h1 h2 h3 hs' S y)
  refine EqAt.of_refs (fun q => hne (by rw [q])) ?_
  have e3 : (List.range 3).all (fun j => if j = 0 then decide (k = k') else if j = 1 then decide (u = u') else decide (c = d)) = (decide (k = k') && decide (u = u') && decide (c = d)) := by
    simp [List.range, List.range.loop, Bool.and_assoc]
  rw [← e3]
  simpa using this
end

/-- the items that a row of answers picks -/
def pickTo (p : Nat → Bool) (vs : List Value) : Nat → List Value
  | 0 => []
  | k + 1 => if p k = true then pickTo p vs k ++ [vs.getD k .none] else pickTo p vs k
theorem pickTo_len (p : Nat → Bool) (vs : List Value) : ∀ k, (pickTo p vs k).length ≤ k
  | 0 => Nat.le_refl _
  | k + 1 => by have := pickTo_len p vs k; unfold pickTo; split <;> simp <;> omega
section
local macro_rules | `(tactic| walk_at "callWith") => `(tactic| ((with_reducible show wpAny _ _ (callWith _ (Value.ref _) _ _ _) _ _ _); (with_unfolding_all refine callWith_F (by assumption) ?_)))
theorem fnKept {q : Addr} {h h' : Heap} (x : FnAt q h) (k : Keeps h h') : FnAt q h' := let ⟨a, b, c, d, e⟩ := x; ⟨a, b, c, d, k _ _ e⟩
theorem list_iterG {prog : Program} {w : World} {A : Around} {E : Value → Shared → Prop} {s : Shared} {l : Addr} {items : Array Value} {K : Value → Shared → Prop} (hl : s.heap.IsList l items)
    (h : ∀ I h', l ≠ I → Keeps s.heap h' → s.heap.objs.size ≤ I → (h'.get? I = some { cls := .type "list_iterator", data := .fields #[.ref l, .int 0 0] }) → h'.IsListIter I l 0 → h'.IsList l items → K (.ref I) { s with heap := h' }) :
    wpAny (model prog w) A (pyIter (.ref l)) K E s := by
  refine wpAny_pyIter_list hl ?_
  have hk : Keeps s.heap (s.heap.push { cls := .type "list_iterator", data := .fields #[.ref l, .int 0 0] }) := fun b o e => Heap.get?_push_of_some _ e
  have hI := Heap.get?_push_size (h := s.heap) (o := { cls := .type "list_iterator", data := .fields #[.ref l, .int 0 0] }) rfl
  refine h _ _ ?_ hk (Nat.le_refl _) hI ⟨_, hI, rfl, rfl⟩ (hl.push _)
  obtain ⟨o, ho, _⟩ := hl
  exact Nat.ne_of_lt (Heap.lt_size ho)
theorem split_call {w : World} {A : Around} {R : Result → Shared → Prop} {s : Shared} {mg mb : Str → Option Value} {mean : ExcName → Option Value}
    (X : (KH w).In s.heap) (T : Top topProg LN mean mg mb s.heap) (hroom : A.depth < 800) (hh : A.handled = none) (l lam : Addr) (items : List Value) (p : Nat → Bool) (hl : s.heap.IsList l items.toArray) (hlen : items.length ≤ 20) (hf : FnAt lam s.heap)
    (hp : ∀ (A' : Around) i v (s' : Shared), items[i]? = some v → A'.handled = none → A'.depth ≤ A.depth + 3 → A'.units ≤ A.units + 8 → Keeps s.heap s'.heap → codeAny (model PG w) A' (.call (.ref lam) ⟨[v], []⟩) (fun r s'' => r = .ok (.ret (.bool (p i))) ∧ Same s' s'' ∧ Keeps s'.heap s''.heap) s')
    (hR : ∀ v h' tk y n a b c, Keeps s.heap h' → v = .ref c → h'.get? c = some (tupO [.ref y, .ref n]) → h'.get? y = some (lstO (pickTo p items items.length) a) → h'.get? n = some (lstO (pickTo (fun i => !p i) items items.length) b) → R (.ok (.ret v)) { s with heap := h', toks := tk }) :
    codeAny (model PG w) A (.call (.ref 49) ⟨[.ref l, .ref lam], []⟩) R s := by
  obtain ⟨ahd, ad, af, ag, au⟩ := A
  obtain rfl : ahd = none := hh
  refine call_plain_ret (binds := [("s", .ref l), ("predicate", .ref lam)]) (Nat.lt_trans hroom (by decide)) (X 49 _ rfl) rfl T.nolimit ?hcd rfl (locs rfl) (fun h₁ F => ?_)
  case hcd => exact codeRec_of X rfl
  have N0 : News s.heap s.heap.objs.size h₁ [] := News.nil
  w_on
  refine wpAny_execs_cons ?_
  repeat' ((fail_if_success (with_reducible show wpAny _ _ (execs (_ :: _) _) _ _ _)); first | walk1 | (dsimp only; walk1) )
  refine wpAny_execs_cons ?_
  repeat' ((fail_if_success (with_reducible show wpAny _ _ (execs (_ :: _) _) _ _ _)); first | walk1 | (dsimp only; walk1) )
  rename Fr _ _ _ _ => F1
  rename News _ _ _ _ => N1
  rename _ < _ => hyn
  obtain ⟨y, n, hyn, F1, N1⟩ : ∃ y n, y < n ∧ Fr s.heap s.heap.objs.size _ (fun z => if z = Str.ofString "no" then some (.ref n) else if z = Str.ofString "yes" then some (.ref y) else List.lookup z [(Str.ofString "s", Value.ref l), (Str.ofString "predicate", Value.ref lam)].reverse) ∧ News s.heap s.heap.objs.size _ [(n, lstO [] 0), (y, lstO [] 0)] := ⟨_, _, hyn, F1, N1⟩
  refine wpAny_execs_cons ?_
  refine wpAny_For ?_
  repeat' ((fail_if_success (with_reducible show wpAny _ _ (pyIter _) _ _ _)); first | walk1 | (dsimp only; walk1) )
  have hl1 : Heap.IsList _ l items.toArray := hl.at fun o e => F1.keep l o e
  refine list_iterG hl1 fun I h' hlI k hI hit0 hit hl2 => ?_
  have F2 := frKept F1 k
  have N2 := newsFresh F1 N1 k hI hit0
  have hIL := (N2 _ (.head _)).2.1
  have hI0 := (N2 _ (.head _)).2.2
  have hnI : n ≠ I := (Nat.ne_of_lt (Nat.lt_of_lt_of_le (Heap.lt_size (N1 _ (.head _)).1) hI))
  have hyI : y ≠ I := (Nat.ne_of_lt (Nat.lt_of_lt_of_le (Heap.lt_size (N1 _ (.tail _ (.head _))).1) hI))
  have hny : n ≠ y := Nat.ne_of_gt hyn
  dsimp only at hIL hI0
  refine forLoop_J (Walks.list (by exact rfl) I l hlI items.toArray) (fun i h => ∃ xv a b, i ≤ items.length ∧ News s.heap s.heap.objs.size h [(n, lstO (pickTo (fun i => !p i) items i) b), (y, lstO (pickTo p items i) a)] ∧
    Fr s.heap s.heap.objs.size h (fun z => if z = Str.ofString "x" then xv else if z = Str.ofString "no" then some (.ref n) else if z = Str.ofString "yes" then some (.ref y) else List.lookup z [(Str.ofString "s", Value.ref l), (Str.ofString "predicate", Value.ref lam)].reverse)) (by exact ⟨hit, hl2⟩) ?_ ?_ ?_ ?_
  · exact ⟨_, _, _, Nat.zero_le _, fun q hq => N2 q (.tail _ hq), frStart _ F2⟩
  · rintro i h h' ⟨xv, a, b, hi, N3, F3⟩ kk
    exact ⟨xv, a, b, hi, newsBut N3 (by intro q hq; rcases List.mem_cons.mp hq with rfl | hq; exact hnI; rw [List.mem_singleton.mp hq]; exact hyI) kk, frBut F3 hIL hI0 kk⟩
  · rintro i v h tk hi hv ⟨xv, a, b, hii, N3, F3⟩ ⟨hit3, hl3⟩
    clear F1 N1 F2 N2 hit hit0 k hI hl1 hl2
    have hi' : i < items.length := by simpa using hi
    have hv' : items[i]? = some v := by simpa using hv
    have hlen1 := pickTo_len p items i
    have hlen2 := pickTo_len (fun i => !p i) items i
    obtain ⟨o, ho, hoc, hod⟩ := hit3
    have N4 : News s.heap s.heap.objs.size h [(I, o), (n, lstO (pickTo (fun i => !p i) items i) b), (y, lstO (pickTo p items i) a)] := fun q hq => by
      rcases List.mem_cons.mp hq with rfl | hq
      · exact ⟨ho, hIL, hI0⟩
      · exact N3 q hq
    clear N3
    repeat' ((fail_if_success (with_reducible show wpAny _ _ (callWith _ _ _ _ _) _ _ _)); first | walk1 | (dsimp only; walk1) )
    rename Fr _ _ _ _ => F5
    rename News _ _ _ _ => N5
    refine callWith_F (fnKept hf F5.keep) ?_
    repeat' ((fail_if_success (with_reducible show FnAt _ _ ∧ _)); first | walk1 | (dsimp only; walk1) )
    refine ⟨fnKept hf F5.keep, wpAny_call (codeAny_mono (hp _ i v _ hv' rfl (by show ad + 1 ≤ ad + 3; omega) (by show au + 3 ≤ au + 8; omega) F5.keep) fun r s'' hr => ?_)⟩
    obtain ⟨rfl, ⟨h6, tk6, rfl⟩, k6⟩ := hr
    have F6 := frKept F5 k6
    have N6 := newsKept N5 k6
    clear F5 N5
    dsimp only
    refine wpAny_truthy_bool ?_
    cases hb : p i with
    | true =>
      first | rw [if_pos rfl] | rw [if_neg Bool.false_ne_true]
      repeat' ((fail_if_success (with_reducible show wpAny _ _ (call (Value.builtin "list.append") _) _ _ _)); first | walk1 | (dsimp only; walk1) )
      refine append_K (its := (pickTo p items i).toArray) (n := a) F6 N6 (.tail (Ne.symm hyI) (.tail hny (.head (fun _ q => nomatch q)))) (fun h8 F8 N8 => ?_) (by rw [List.size_toArray, sizeLine_eq]; omega)
      rw [List.push_toArray] at N8
      repeat' (first | walk1 | (dsimp only; walk1) )
      refine ⟨_, _, rfl, ⟨_, a + 1, b, by omega, ?_, frC1 F8 rfl ?_⟩, ?_⟩
      · have e1 : pickTo p items (i + 1) = pickTo p items i ++ [v] := by show (if p i = true then _ else _) = _; rw [hb]; rw [if_pos rfl, List.getD_eq_getElem?_getD, hv']; rfl
        have e2 : pickTo (fun i => !p i) items (i + 1) = pickTo (fun i => !p i) items i := by show (if (!p i) = true then _ else _) = _; rw [hb]; rfl
        rw [e1, e2]; exact fun q hq => N8 q (.tail _ hq)
      · intro z e1; simp only [e1, if_false]
      · exact ⟨⟨o, N8.get (.head _), hoc, hod⟩, hl.at fun o e => F8.keep l o e⟩
    | false =>
      first | rw [if_pos rfl] | rw [if_neg Bool.false_ne_true]
      repeat' ((fail_if_success (with_reducible show wpAny _ _ (call (Value.builtin "list.append") _) _ _ _)); first | walk1 | (dsimp only; walk1) )
      refine append_K (its := (pickTo (fun i => !p i) items i).toArray) (n := b) F6 N6 (.tail (Ne.symm hnI) (.head (by intro q hq; rw [List.mem_singleton.mp hq]; exact Ne.symm hny))) (fun h8 F8 N8 => ?_) (by rw [List.size_toArray, sizeLine_eq]; omega)
      rw [List.push_toArray] at N8
      repeat' (first | walk1 | (dsimp only; walk1) )
      refine ⟨_, _, rfl, ⟨_, a, b + 1, by omega, ?_, frC1 F8 rfl ?_⟩, ?_⟩
      · have e1 : pickTo p items (i + 1) = pickTo p items i := by show (if p i = true then _ else _) = _; rw [hb]; rfl
        have e2 : pickTo (fun i => !p i) items (i + 1) = pickTo (fun i => !p i) items i ++ [v] := by show (if (!p i) = true then _ else _) = _; rw [hb]; first | rw [if_pos rfl, List.getD_eq_getElem?_getD, hv']; rfl | (show pickTo (fun i => !p i) items i ++ [items.getD i Value.none] = _; rw [List.getD_eq_getElem?_getD, hv']; rfl)
        rw [e1, e2]; exact fun q hq => N8 q (.tail _ hq)
      · intro z e1; simp only [e1, if_false]
      · exact ⟨⟨o, N8.get (.head _), hoc, hod⟩, hl.at fun o e => F8.keep l o e⟩
  · rintro h tk ⟨xv, a, b, hi, N3, F3⟩
    clear F1 N1 F2 N2 hit hit0 k hI hl1 hl2
    rw [List.size_toArray] at N3
    repeat' (first | walk1 | (dsimp only; walk1) )
    refine (show R (.ok (.ret (.ref _))) _ from ?_)
    rename Fr _ _ _ _ => F5
    rename News _ _ _ _ => N5
    exact hR _ _ _ y n a b _ F5.keep rfl (N5.get (.head _)) (N5.get (.tail _ (.tail _ (.head _)))) (N5.get (.tail _ (.head _)))
end

/-! a list comprehension with two clauses, the inner one over a written text -/
abbrev twoC (elt : Expr) (x : Str) (px : Pos) (iter : Expr) (y : Str) (py : Pos) (c : Str) (kk : Nat) (pc : Pos) (scope : Scope) (pos : Pos) : Expr :=
  .ListComp elt [⟨.Name x px, iter, [], 0⟩, ⟨.Name y py, .Constant (.str c) kk pc, [], 0⟩] scope pos
section
variable {prog : Program} {w : World} {A : Around} {R : Result → Shared → Prop} {s : Shared}
variable {elt iter : Expr} {x y c : Str} {px py pc pos : Pos} {kk : Nat} {scope : Scope} {env cenv : Env}
theorem compStart_1 {it acc : Value} (h0 : codeAny (model prog w) A (.compLoop (twoC elt x px iter y py c kk pc scope pos) 1 it acc env) R s)
    (h : wpAny (model prog w) A (pyIter it) (fun it' s' => codeAny (model prog w) A (.compLoop (twoC elt x px iter y py c kk pc scope pos) 1 it' acc env) R s') NoE s) :
    codeAny (model prog w) A (.compStart (twoC elt x px iter y py c kk pc scope pos) 1 it acc env) R s := by
  refine codeAny_of_tree ?_
  show wpAny _ _ ((compStart (twoC elt x px iter y py c kk pc scope pos) 1 it acc env).onRaise (fun x => do noteFrame x env; standAt theWindowsPlace)) _ _ s
  refine wpAny_notedAt ?_
  unfold compStart
  show wpAny _ _ (ask >>= _) _ _ s
  refine wpAny_bind (wpAny_askSetting (wpAny_ite ?_))
  split
  · first
      | exact wpAny_bind (wpAny_pure (wpAny_pure (And.intro rfl h0)))
      | exact wpAny_pure (And.intro rfl h0)
  · first
      | exact wpAny_bind (wpAny_rule (wpAny_bind (wpAny_standAt (wpAny_bind (wpAny_mono h (fun it' s' h' => wpAny_pure (And.intro rfl h')) fun _ _ x => x.elim)))))
      | (refine wpAny_bind (wpAny_rule ?_); show wpAny _ _ (standAt pc >>= _) _ _ s; exact wpAny_bind (wpAny_standAt (wpAny_bind (wpAny_mono h (fun it' s' h' => wpAny_pure (And.intro rfl h')) fun _ _ x => x.elim))))
theorem compStart_self {I : Addr} {acc : Value} {fp wr : List Addr} {n : Nat} {P : Nat → Value → Prop} {St : Nat → Heap → Prop} (W : Walks prog w A I fp wr n P St) (hst : St 0 s.heap) (h0 : codeAny (model prog w) A (.compLoop (twoC elt x px iter y py c kk pc scope pos) 1 (.ref I) acc env) R s) :
    codeAny (model prog w) A (.compStart (twoC elt x px iter y py c kk pc scope pos) 1 (.ref I) acc env) R s := compStart_1 h0 (W.self 0 _ _ _ hst h0)
theorem strIt_notTup {h : Heap} {I : Addr} {ty : String} {c : Str} {t : Tok} {j : Nat} (x : h.IsStrIter I ty c t j) : ∃ o, h.get? I = some o ∧ NotTup o := let ⟨o, e, _, hd⟩ := x; ⟨o, e, NotTup.fields hd⟩
theorem compTurn_in (it acc : Value) : compTurn (twoC elt x px iter y py c kk pc scope pos) 1 it acc env = (standAt pc >>= fun _ => pyNext it >>= fun r => match r with
      | none => pure (.done .next)
      | some v => letOwnedTupleGo (.Name y py) it v >>= fun _ => assign (.Name y py) env v >>= fun _ =>
        (eval elt env >>= fun x => call (.builtin "list.append") [acc, x] >>= fun _ => pure ()) >>= fun _ =>
          again (.compLoop (twoC elt x px iter y py c kk pc scope pos) 1 it acc env)) := by rfl
theorem compTurn_out (it acc : Value) : compTurn (twoC elt x px iter y py c kk pc scope pos) 0 it acc env = (standAt iter.pos >>= fun _ => pyNext it >>= fun r => match r with
      | none => pure (.done .next)
      | some v => letOwnedTupleGo (.Name x px) it v >>= fun _ => assign (.Name x px) env v >>= fun _ =>
        eval (.Constant (.str c) kk pc) env >>= fun u => standAt pc >>= fun _ => foldedSetIterable (.Constant (.str c) kk pc) env u >>= fun u => holding [u] (pyIter u) >>= fun i2 => runOwn (.compStart (twoC elt x px iter y py c kk pc scope pos) 1 i2 acc env) env >>= fun _ =>
          again (.compLoop (twoC elt x px iter y py c kk pc scope pos) 0 it acc env)) := by rfl
/-- what stands while the loops go -/
def CompInv2 (h₂ : Heap) (wr : List Addr) (C D : Addr) (Good : List Value → Heap → Prop) (k : Nat) (vx : Str → Option Value → Prop) (h : Heap) : Prop :=
  ∃ m ys n, h.Ns C m ∧ (∀ z, vx z (m z)) ∧ h.get? D = some (lstO ys n) ∧ ys.length ≤ k ∧ KeepsBut wr h₂ h ∧ Good ys h
theorem compLoop_in {D I2 : Addr} {n2 : Nat} {P2 : Nat → Value → Prop} {St2 : Nat → Heap → Prop} {h₂ : Heap} {wr : List Addr} {base : Nat} {vx : Str → Option Value → Prop}
    {Good : Nat → List Value → Heap → Prop} {Stay : Heap → Prop} (W : Walks prog w A I2 [I2] [I2] n2 P2 St2) (hn : base + n2 ≤ 1000)
    (hx : cenv.kindOf y = some .local) (hp : (cenv.scope.kind == .class || (cenv.scope.kind == .module && cenv.locals != cenv.globals)) = false)
    (hCw : cenv.locals ≠ I2) (hDw : D ≠ I2) (hCD : D ≠ cenv.locals) (hC2 : h₂.get? cenv.locals = none) (hD2 : h₂.get? D = none) (hI2 : h₂.get? I2 = none)
    (hnt : ∀ i h, St2 i h → ∃ o, h.get? I2 = some o ∧ NotTup o)
    (hG : ∀ i ys h h', Good i ys h → TupKeep h h' → Good i ys h')
    (hStay : ∀ h h', Stay h → (∀ b o, b ≠ I2 → b ≠ cenv.locals → b ≠ D → h.get? b = some o → h'.get? b = some o) → Stay h')
    (hvx : ∀ z u u', z ≠ y → vx z u → u = u' → vx z u') (hvy : ∀ v, vx y (some v))
    (hst : St2 0 s.heap) (h0 : CompInv2 h₂ wr cenv.locals D (Good 0) base vx s.heap) (h0S : Stay s.heap)
    (step : ∀ i v ys s₃ m₃, i < n2 → P2 i v → Same s s₃ → s₃.heap.Ns cenv.locals m₃ → (∀ z, vx z (m₃ z)) → m₃ y = some v → KeepsBut wr h₂ s₃.heap → Good i ys s₃.heap →
      wpAny (model prog w) A (eval elt cenv) (fun u s₅ => Same s₃ s₅ ∧ Keeps s₃.heap s₅.heap ∧ Good (i + 1) (ys ++ [u]) s₅.heap) NoE s₃)
    (hR : ∀ h tk, CompInv2 h₂ wr cenv.locals D (Good n2) (base + n2) vx h → Stay h → R (.ok .next) { s with heap := h, toks := tk }) :
    codeAny (model prog w) A (.compLoop (twoC elt x px iter y py c kk pc scope pos) 1 (.ref I2) (.ref D) cenv) R s := by
  refine codeAny_loop rfl (fun k s' => ∃ h' tk i, s' = { s with heap := h', toks := tk } ∧ St2 i h' ∧ CompInv2 h₂ wr cenv.locals D (Good i) (base + i) vx h' ∧ Stay h' ∧ i ≤ n2 ∧ k = n2 + 1 - i) ?_ (n2 + 1) ⟨s.heap, s.toks, 0, rfl, hst, h0, h0S, Nat.zero_le _, rfl⟩
  rintro k s' ⟨h', tk, i, rfl, hst', ⟨m, ys, ny, hns, hmx, hD, hlen, hk2, hgood⟩, hS', hi, rfl⟩
  show wpAny _ A ((compTurn (twoC elt x px iter y py c kk pc scope pos) 1 (.ref I2) (.ref D) cenv).onRaise (fun x => do noteFrame x cenv; theTreesLotGoes x)) _ _ _
  refine wpAny_noted ?_
  rw [compTurn_in]
  refine wpAny_bind (wpAny_standAt (wpAny_bind ?_))
  have one : ∀ {p : Addr}, p ∉ [I2] ↔ p ≠ I2 := fun {p} => by simp
  by_cases hlt : i < n2
  · refine W.item i _ _ _ hlt hst' fun v h₁ tk₁ hP hst₁ hk₁ => ?_
    have t1 : TupKeep h' h₁ := TupKeep.but (fun b hb => by rw [List.mem_singleton.mp hb]; exact hnt i h' hst') hk₁
    have hns₁ : h₁.Ns cenv.locals m := hns.at' fun o e => hk₁ _ o (one.mpr hCw) e
    refine wpAny_bind (wpAny_of_eq (show letOwnedTupleGo (.Name y py) _ v = pure () from rfl) ?_)
    refine wpAny_bind (wpAny_assign_Name (wpAny_storeName_local hx hns₁ (fun h₃ hns₃ hsb₃ => ?_) hp))
    obtain ⟨oC, hoC, hdC⟩ := ns_obj hns₁
    have hk21 : KeepsBut wr h₂ h₁ := fun b o hb e => hk₁ b o (one.mpr fun q => by rw [q, hI2] at e; cases e) (hk2 b o hb e)
    have t3 : TupKeep h₁ h₃ := TupKeep.sameBut hoC (NotTup.dict hdC) hsb₃
    have hk23 : KeepsBut wr h₂ h₃ := fun b o hb e => (hsb₃.2 b (fun q => by rw [q, hC2] at e; cases e)).trans (hk21 b o hb e)
    have hD₃ : h₃.get? D = some (lstO ys ny) := (hsb₃.2 D hCD).trans (hk₁ D _ (one.mpr hDw) hD)
    have hst₃ : St2 (i + 1) h₃ := W.frame _ _ _ hst₁ fun b hb o e => (hsb₃.2 b fun q => hCw (by rw [List.mem_singleton.mp hb] at q; exact q.symm)).trans e
    have hS₃ : Stay h₃ := hStay _ _ hS' fun b o b1 b2 _ e => (hsb₃.2 b b2).trans (hk₁ b o (one.mpr b1) e)
    have hmx3 : ∀ z, vx z ((fun z => if z = y then some v else m z) z) := fun z => by
      by_cases hz : z = y
      · subst hz; simpa using hvy v
      · simpa [hz] using hmx z
    have st := step i v ys { s with heap := h₃, toks := tk₁ + 1 } _ hlt hP (Same.to _ _) hns₃ hmx3 (by simp) hk23 (hG _ _ _ _ hgood (t1.trans t3))
    refine wpAny_bind (wpAny_bind (wpAny_mono st (fun u s₅ h₅ => ?_) fun _ _ e => e.elim))
    obtain ⟨⟨h5, tk5, rfl⟩, k5, h₅⟩ := h₅
    have k5' : ∀ b o, h₃.get? b = some o → h5.get? b = some o := k5
    have hD5 : h5.get? D = some (listOf ys.toArray ny) := k5' _ _ hD₃
    refine wpAny_bind (append_at (hsz := by rw [List.size_toArray, sizeLine_eq]; omega) hD5 fun h6 hs6 ho6 => ?_)
    have t6 : TupKeep h5 h6 := TupKeep.sameBut hD5 (NotTup.lst ys ny) hs6
    refine wpAny_pure (wpAny_pure ⟨rfl, n2 + 1 - (i + 1), by omega, h6, tk5, i + 1, rfl, W.frame _ _ _ hst₃ fun b hb o e => (hs6.2 b fun q => hDw (by rw [List.mem_singleton.mp hb] at q; exact q.symm)).trans (k5' b o e), ⟨_, ys ++ [u], ny + 1, (hns₃.keeps k5').sameBut hs6 (Ne.symm hCD), hmx3, ?_, by simp; omega, ?_, hG _ _ _ _ h₅ t6⟩, ?_, hlt, rfl⟩)
    · rw [List.push_toArray] at ho6; exact ho6
    · intro b o hb e
      exact (hs6.2 b (fun q => by rw [q, hD2] at e; cases e)).trans (k5' b o (hk23 b o hb e))
    · exact hStay _ _ hS₃ fun b o _ _ b3 e => (hs6.2 b b3).trans (k5' b o e)
  · have hin : i = n2 := by omega
    subst hin
    refine W.done _ _ _ hst' fun h₁ tk₁ hk₁ => ?_
    have t1 : TupKeep h' h₁ := TupKeep.but (fun b hb => by rw [List.mem_singleton.mp hb]; exact hnt _ h' hst') hk₁
    refine wpAny_pure ?_
    exact hR h₁ tk₁ ⟨m, ys, ny, hns.at' fun o e => hk₁ _ o (one.mpr hCw) e, hmx, hk₁ D _ (one.mpr hDw) hD, hlen, fun b o hb e => hk₁ b o (one.mpr fun q => by rw [q, hI2] at e; cases e) (hk2 b o hb e), hG _ _ _ _ hgood t1⟩ (hStay _ _ hS' fun b o b1 _ _ e => hk₁ b o (one.mpr b1) e)
end
section
variable {prog : Program} {w : World} {A : Around} {s : Shared} {env : Env}
theorem comp2 {elt iter : Expr} {x y c : Str} {px py pc : Pos} {kk : Nat} {scope : Scope} {cl : List (Str × Addr)} {pos : Pos} {Q : Value → Shared → Prop} (Good : Nat → Nat → List Value → Heap → Prop)
    (hG : ∀ i j ys h h', Good i j ys h → TupKeep h h' → Good i j ys h') (hrow : ∀ i ys h, Good i c.cps.size ys h → Good (i + 1) 0 ys h)
    (hclos : closureFor scope env = pure cl) (hcell : ∀ y ∈ scope.names, y.2 ≠ .cell) (hkind : scope.kind = .function)
    (hnames : ∀ y ∈ scope.names, y.2 = .local → scope.names.lookup y.1 = some .local) (hx : scope.names.lookup x = some .local) (hy : scope.names.lookup y = some .local) (hxy : x ≠ y) (hh : A.handled = none) (hasc : c.cps.all (· < 128) = true)
    (h : wpAny (model prog w) A (eval iter env) (fun xv s₁ => wpAny (model prog w) A (pyIter xv) (fun it s₂ => ∃ I fp wr n P St, it = .ref I ∧ Walks prog w A I fp wr n P St ∧ n * c.cps.size + c.cps.size ≤ 1000 ∧ St 0 s₂.heap ∧ (∀ b ∈ fp, b < s₂.heap.objs.size) ∧
      (∀ i h, St i h → ∀ b ∈ wr, ∃ o, h.get? b = some o ∧ NotTup o) ∧ Good 0 0 [] s₂.heap ∧
      (∀ C i j v v2 ys s₃ m₃, s₂.heap.objs.size ≤ C → i < n → j < c.cps.size → P i v → SignAt c j v2 → Same s₂ s₃ → s₃.heap.Ns C m₃ → m₃ x = some v → m₃ y = some v2 → KeepsBut wr s₂.heap s₃.heap → Good i j ys s₃.heap →
        wpAny (model prog w) (A.mark none) (eval elt (compEnvC scope cl C env)) (fun u s₅ => Same s₃ s₅ ∧ Keeps s₃.heap s₅.heap ∧ Good i (j + 1) (ys ++ [u]) s₅.heap) NoE s₃) ∧
      (∀ D h' tk ys n', s₂.heap.get? D = none → h'.get? D = some (lstO ys n') → KeepsBut wr s₂.heap h' → Good n 0 ys h' → Q (.ref D) { s₂ with heap := h', toks := tk })) NoE s₁) NoE s)
    (hs : ∀ x, foldedSetIterable iter env x = pure x := by intro _; rfl) :
    wpAny (model prog w) A (eval (twoC elt x px iter y py c kk pc scope pos) env) Q NoE s := by
  unfold twoC
  rw [eval_ListComp]
  refine wpAny_comprehension_free (use := none) rfl hs hclos hkind hnames (wpAny_mono h (fun xv s₁ h₁ => wpAny_mono h₁ (fun it s₂ h₂ => ?_) fun _ _ e => e) fun _ _ e => e)
  obtain ⟨I, fp, wr, n, P, St, rfl, W, hsz, hst, hfp, hnt, hg0, hstep, hQ⟩ := h₂
  refine wpAny_newObj_type (wpAny_newFunctionEnv hcell (by intro y hy; simp at hy) (fun h₁ hns₁ hsb₁ => ?_) hkind)
  dsimp only at hns₁ hsb₁ ⊢
  generalize hH2 : s₂.heap.push { cls := .type "list", dict := none, data := .seq ([] : List Value).toArray } = H2 at hns₁ hsb₁ ⊢
  have hC : H2.objs.size = s₂.heap.objs.size + 1 := by rw [← hH2, Heap.size_push]
  have hDC : s₂.heap.objs.size ≠ H2.objs.size := by rw [hC]; exact Nat.ne_of_lt (Nat.lt_succ_self _)
  have below : ∀ b, b < s₂.heap.objs.size → b ≠ H2.objs.size ∧ b ≠ s₂.heap.objs.size := fun b hb => ⟨by rw [hC]; exact Nat.ne_of_lt (Nat.lt_succ_of_lt hb), Nat.ne_of_lt hb⟩
  have hDf : s₂.heap.objs.size ∉ fp := fun hm => Nat.lt_irrefl _ (hfp _ hm)
  have hCf : H2.objs.size ∉ fp := fun hm => by have := hfp _ hm; rw [hC] at this; exact Nat.lt_irrefl _ (Nat.lt_of_succ_lt this)
  have old : Keeps s₂.heap h₁ := fun b o e => hsb₁.extBut b o (below b (Heap.lt_size e)).1 (Heap.get?_push_of_some _ (hH2 ▸ Heap.get?_push_of_some _ e))
  have hacc : h₁.get? s₂.heap.objs.size = some (lstO [] 0) := hsb₁.extBut _ _ hDC (Heap.get?_push_of_some _ (hH2 ▸ Heap.get?_push_size _ rfl))
  have hst₁ : St 0 h₁ := W.frame _ _ _ hst fun b _ o e => old b o e
  have fresh : ∀ a, s₂.heap.objs.size ≤ a → s₂.heap.get? a = none := fun a ha => by
    cases e : s₂.heap.get? a with
    | none => rfl
    | some o' => exact absurd (Heap.lt_size e) (Nat.not_lt.mpr ha)
  have hDn := fresh s₂.heap.objs.size (Nat.le_refl _)
  have hCn := fresh H2.objs.size (by rw [hC]; exact Nat.le_succ _)
  have hCwr : H2.objs.size ∉ wr := fun q => hCf (W.sub _ q)
  have hDwr : s₂.heap.objs.size ∉ wr := fun q => hDf (W.sub _ q)
  have ex : (compEnvC scope cl H2.objs.size env).kindOf x = some .local := lookup_relabel_local hx
  have ey : (compEnvC scope cl H2.objs.size env).kindOf y = some .local := lookup_relabel_local hy
  have ep : ((compEnvC scope cl H2.objs.size env).scope.kind == .class || ((compEnvC scope cl H2.objs.size env).scope.kind == .module && (compEnvC scope cl H2.objs.size env).locals != (compEnvC scope cl H2.objs.size env).globals)) = false := by simp [compEnvC, relabel, hkind]
  have loop : ∀ s₃ : Shared, s₃ = { s₂ with heap := h₁, toks := s₂.toks + ([] : List (Str × Value)).length } →
      codeAny (model prog w) A (.compLoop (twoC elt x px iter y py c kk pc scope pos) 0 (.ref I) (.ref s₂.heap.objs.size) (compEnvC scope cl H2.objs.size env))
        (compPost (model prog w) A NoE none Q (.ref s₂.heap.objs.size) H2.objs.size) s₃ := by
    rintro s₃ rfl
    refine codeAny_loop rfl (fun k s' => ∃ h' tk i, s' = { s₂ with heap := h', toks := tk } ∧ St i h' ∧ CompInv2 s₂.heap wr H2.objs.size s₂.heap.objs.size (Good i 0) (i * c.cps.size) (fun _ _ => True) h' ∧ i ≤ n ∧ k = n + 1 - i) ?_ (n + 1)
      ⟨h₁, _, 0, rfl, hst₁, ⟨_, [], 0, hns₁, fun _ => trivial, hacc, by simp, fun b o _ e => old b o e, hG _ _ _ _ _ hg0 old.tup⟩, Nat.zero_le _, rfl⟩
    rintro k s' ⟨h', tk, i, rfl, hst', ⟨m, ys, ny, hns, -, hD, hlen, hk2, hgood⟩, hi, rfl⟩
    show wpAny _ A ((compTurn (twoC elt x px iter y py c kk pc scope pos) 0 (.ref I) (.ref s₂.heap.objs.size) (compEnvC scope cl H2.objs.size env)).onRaise (fun x => do noteFrame x (compEnvC scope cl H2.objs.size env); theTreesLotGoes x)) _ _ _
    refine wpAny_noted ?_
    rw [compTurn_out]
    refine wpAny_bind (wpAny_standAt (wpAny_bind ?_))
    by_cases hlt : i < n
    · refine W.item i _ _ _ hlt hst' fun v h₃ tk₃ hP hst₃ hk₃ => ?_
      have t1 : TupKeep h' h₃ := TupKeep.but (hnt i h' hst') hk₃
      have hns₃ : h₃.Ns H2.objs.size m := hns.at' fun o e => hk₃ _ o hCwr e
      refine wpAny_bind (wpAny_of_eq (show letOwnedTupleGo (.Name x px) _ v = pure () from rfl) ?_)
      refine wpAny_bind (wpAny_assign_Name (wpAny_storeName_local ex hns₃ (fun h₄ hns₄ hsb₄ => ?_) ep))
      have hsb₄' : Heap.SameBut H2.objs.size h₃ h₄ := hsb₄
      obtain ⟨oC, hoC, hdC⟩ := ns_obj hns₃
      have hk23 : KeepsBut wr s₂.heap h₃ := fun b o hb e => hk₃ b o hb (hk2 b o hb e)
      have t4 : TupKeep h₃ h₄ := TupKeep.sameBut hoC (NotTup.dict hdC) hsb₄
      have hk24 : KeepsBut wr s₂.heap h₄ := fun b o hb e => (hsb₄'.2 b (fun q => by rw [q, hCn] at e; cases e)).trans (hk23 b o hb e)
      have hD₄ : h₄.get? s₂.heap.objs.size = some (lstO ys ny) := (hsb₄'.2 _ hDC).trans (hk₃ _ _ hDwr hD)
      have hst₄ : St (i + 1) h₄ := W.frame _ _ _ hst₃ fun b hb o e => (hsb₄'.2 b fun q => hCf (q ▸ hb)).trans e
      refine wpAny_bind (Calls.Constant_str ?_)
      refine wpAny_bind (wpAny_standAt (wpAny_bind (wpAny_of_eq (show foldedSetIterable (.Constant (.str c) kk pc) _ _ = pure _ from rfl) ?_)))
      refine wpAny_bind (wpAny_holding (wpAny_pyIter_ascii hasc ?_))
      generalize hO2 : ({ cls := .type "str_ascii_iterator", data := .fields #[.str c _, .int 0 0] } : Obj) = o2
      have hst2 : (h₄.push o2).IsStrIter h₄.objs.size "str_ascii_iterator" c _ 0 := ⟨o2, Heap.get?_push_size _ (by rw [← hO2]; rfl), by rw [← hO2], by rw [← hO2]; rfl⟩
      dsimp only at hst2 ⊢
      refine wpAny_bind (wpAny_runOwn ?_ (by intro e; cases e))
      have hk45 : Keeps h₄ (h₄.push o2) := fun b o e => Heap.get?_push_of_some _ e
      have lt4 : ∀ {b : Addr} {o : Obj}, h₄.get? b = some o → b ≠ h₄.objs.size := fun e => Nat.ne_of_lt (Heap.lt_size e)
      have hCo : ∃ o, h₄.get? H2.objs.size = some o := let ⟨o, e, _⟩ := ns_obj hns₄; ⟨o, e⟩
      have hCI : H2.objs.size ≠ h₄.objs.size := hCo.elim fun o e => lt4 e
      have hI2n : s₂.heap.get? h₄.objs.size = none := by
        cases e : s₂.heap.get? h₄.objs.size with
        | none => rfl
        | some o' =>
          by_cases hb : h₄.objs.size ∈ wr
          · obtain ⟨o3, e3, _⟩ := hnt _ _ hst₄ _ hb
            exact absurd rfl (lt4 e3)
          · exact absurd rfl (lt4 (hk24 _ _ hb e))
      have hI2f : h₄.objs.size ∉ fp := fun hm => Nat.lt_irrefl _ (Nat.lt_trans (hfp _ hm) (by have := hCo.elim fun o e => Heap.lt_size e; rw [hC] at this; exact Nat.lt_of_succ_lt this))
      have hmul : i * c.cps.size ≤ n * c.cps.size := Nat.mul_le_mul_right _ hi
      have hhm : (A.mark none).handled = none := hh
      refine compStart_self (Walks.strAscii hhm _ c _) (by exact hst2) (compLoop_in (cenv := compEnvC scope cl H2.objs.size env) (h₂ := s₂.heap) (wr := wr) (base := i * c.cps.size) (vx := fun z u => z = x → u = some v) (Good := fun j ys h => Good i j ys h) (Stay := fun h => St (i + 1) h)
          (Walks.strAscii hhm _ c _) (by omega) ey ep hCI (lt4 hD₄) hDC hCn hDn hI2n
          (fun j h hq => strIt_notTup hq) (fun j ys h h' g k => hG _ _ _ _ _ g k)
          (fun h h' hS k => W.frame _ _ _ hS fun b hb o e => k b o (fun q => hI2f (by rw [← q]; exact hb)) (fun q => hCf (by rw [show b = H2.objs.size from q] at hb; exact hb)) (fun q => hDf (by rw [← q]; exact hb)) e)
          (fun z u u' _ hu e hz => e ▸ hu hz) (fun v' q => absurd q.symm hxy) (by exact hst2) ?_ ?_ ?_ ?_)
      · exact ⟨_, ys, ny, hns₄.keeps hk45, fun z hz => by simp [hz], hk45 _ _ hD₄, hlen, fun b o hb e => hk45 _ _ (hk24 b o hb e), hG _ _ _ _ _ hgood ((t1.trans t4).trans hk45.tup)⟩
      · exact W.frame _ _ _ hst₄ fun b _ o e => hk45 b o e
      · intro j v2 ys' s₆ m₆ hj hv2 hsm hns₆ hvx6 hmy hk6 hg6
        refine hstep H2.objs.size i j v v2 ys' s₆ m₆ (by rw [hC]; exact Nat.le_succ _) hlt hj hP hv2 ?_ hns₆ (hvx6 x rfl) hmy hk6 hg6
        obtain ⟨h8, tk8, rfl⟩ := hsm
        exact ⟨h8, tk8, rfl⟩
      · rintro h8 tk8 ⟨m8, ys8, n8, hns8, _, hD8, hlen8, hk8, hg8⟩ hS8
        refine wpAny_pure ⟨rfl, n + 1 - (i + 1), by omega, h8, tk8, i + 1, rfl, hS8, ⟨m8, ys8, n8, hns8, fun _ => trivial, hD8, ?_, hk8, hrow _ _ _ hg8⟩, hlt, rfl⟩
        rw [Nat.succ_mul]; exact hlen8
    · have hin : i = n := by omega
      subst hin
      refine W.done _ _ _ hst' fun h₃ tk₃ hk₃ => ?_
      have t1 : TupKeep h' h₃ := TupKeep.but (hnt _ h' hst') hk₃
      refine wpAny_pure ?_
      have hns₃ : h₃.Ns H2.objs.size m := hns.at' fun o e => hk₃ _ o hCwr e
      refine ⟨m, hns₃, fun h'' hs' => ?_⟩
      obtain ⟨oC, hoC, hdC⟩ := ns_obj hns₃
      exact hQ _ h'' tk₃ ys ny hDn ((hs'.2 _ hDC).trans (hk₃ _ _ hDwr hD)) (fun b o hb e => (hs'.2 b (fun q => by rw [q] at e; exact nomatch (hCn.symm.trans e))).trans (hk₃ b o hb (hk2 b o hb e))) (hG _ _ _ _ _ hgood (t1.trans (TupKeep.sameBut hoC (NotTup.dict hdC) hs')))
  exact codeAny_compStart_list (loop _ rfl) (W.self 0 _ _ _ hst₁ (loop _ rfl))
end

/-! the law's own frame: its names, its cells, its code table -/
abbrev lawBody : List Stmt := match PySem.Challenge.pw_pe0104_01.main.body.getD 15 default with
  | .FunctionDef _ _ b _ _ _ _ _ _ _ => b
  | _ => []
abbrev lawScope : Scope := match PySem.Challenge.pw_pe0104_01.main.body.getD 15 default with
  | .FunctionDef _ _ _ _ _ _ s _ _ _ => s
  | _ => default
noncomputable abbrev LE (L : Addr) : Env := envOfC (Str.ofString "law") lawScope L 89 (.ref 88)
def cellsL (L : Addr) : List (Str × Addr) := [(Str.ofString "seal", L + 10), (Str.ofString "hues", L + 9), (Str.ofString "came", L + 8), (Str.ofString "gaps", L + 7), (Str.ofString "offers", L + 6), (Str.ofString "short", L + 5), (Str.ofString "level", L + 4), (Str.ofString "share", L + 3), (Str.ofString "word", L + 2), (Str.ofString "draws", L + 1)]
theorem cellsL_is (L : Addr) : cellsFrom (L + 1) lawScope.names [] = cellsL L := rfl
theorem LE_cells (L : Addr) : (LE L).cells = cellsL L := rfl
/-- a name reads a value -/
def Rd (env : Env) (h : Heap) (x : Str) (v : Value) : Prop :=
  (x == ("__debug__" : Str)) = false ∧ env.scope.kind = .function ∧
  ((env.kindOf x = some .local ∧ ∃ m, h.Ns env.locals m ∧ m x = some v) ∨ (env.kindOf x = some .cell ∧ ∃ c, env.cells.lookup x = some c ∧ h.IsCell c (some v)) ∨
   ((env.kindOf x = some .free ∧ (x == ("__classdict__" : Str)) = false) ∧ ∃ c, env.cells.lookup x = some c ∧ h.IsCell c (some v)) ∨
   (env.kindOf x = some .globalImplicit ∧ ((∃ mg, h.Ns env.globals mg ∧ mg x = some v) ∨ ∃ mg mb, h.Ns env.globals mg ∧ mg x = none ∧ h.Ns env.builtins mb ∧ mb x = some v)))
theorem Rd.keeps {env : Env} {h h' : Heap} {x : Str} {v : Value} (r : Rd env h x v) (k : Keeps h h') : Rd env h' x v := by
  obtain ⟨a, b, r⟩ := r
  refine ⟨a, b, ?_⟩
  rcases r with ⟨e, m, n, v⟩ | ⟨e, c, l, i⟩ | ⟨e, c, l, i⟩ | ⟨e, ⟨mg, n, v⟩ | ⟨mg, mb, n, q, n', v⟩⟩
  · exact .inl ⟨e, m, n.keeps k, v⟩
  · exact .inr (.inl ⟨e, c, l, i.keeps k⟩)
  · exact .inr (.inr (.inl ⟨e, c, l, i.keeps k⟩))
  · exact .inr (.inr (.inr ⟨e, .inl ⟨mg, n.keeps k, v⟩⟩))
  · exact .inr (.inr (.inr ⟨e, .inr ⟨mg, mb, n.keeps k, q, n'.keeps k, v⟩⟩))
theorem rd_name {M : Model} {A : Around} {E : Value → Shared → Prop} {s : Shared} {env : Env} {h₀ : Heap} {x : Str} {pos : Pos} {v : Value} {Q : Value → Shared → Prop} (r : Rd env h₀ x v) (k : Keeps h₀ s.heap) (h : Q v s) :
    wpAny M A (eval (.Name x pos) env) Q E s := by
  obtain ⟨a, b, r⟩ := r.keeps k
  rcases r with ⟨e, m, n, v⟩ | ⟨e, c, l, i⟩ | ⟨e, c, l, i⟩ | ⟨e, ⟨mg, n, v⟩ | ⟨mg, mb, n, q, n', v⟩⟩
  · exact wpAny_Name (wpAny_loadName_local b e n v h) a
  · exact wpAny_Name (wpAny_loadName_cell b e l i h) a
  · exact wpAny_Name (wpAny_loadName_free b e.1 l i h e.2) a
  · exact Calls.Name_function_global b e (Calls.loadGlobal_global n v h) a
  · exact Calls.Name_function_global b e (Calls.loadGlobal_builtin n q n' v h) a
theorem rd_local {env : Env} {h : Heap} {x : Str} {v : Value} {m : Str → Option Value} (n : h.Ns env.locals m) (e : m x = some v) (hk : env.scope.kind = .function := by rfl) (hx : env.kindOf x = some .local := by rfl) (hd : (x == ("__debug__" : Str)) = false := by decide) : Rd env h x v := ⟨hd, hk, .inl ⟨hx, m, n, e⟩⟩
theorem rd_cell {env : Env} {h : Heap} {x : Str} {v : Value} {c : Addr} (i : h.IsCell c (some v)) (hc : env.cells.lookup x = some c := by rfl) (hk : env.scope.kind = .function := by rfl) (hx : env.kindOf x = some .cell := by rfl) (hd : (x == ("__debug__" : Str)) = false := by decide) : Rd env h x v := ⟨hd, hk, .inr (.inl ⟨hx, c, hc, i⟩)⟩
theorem rd_free {env : Env} {h : Heap} {x : Str} {v : Value} {c : Addr} (i : h.IsCell c (some v)) (hc : env.cells.lookup x = some c := by rfl) (hk : env.scope.kind = .function := by rfl) (hx : env.kindOf x = some .free := by rfl) (hd : (x == ("__debug__" : Str)) = false := by decide) (hd2 : (x == ("__classdict__" : Str)) = false := by decide) : Rd env h x v := ⟨hd, hk, .inr (.inr (.inl ⟨⟨hx, hd2⟩, c, hc, i⟩))⟩
section
variable {w : World} {mg mb : Str → Option Value} {mean : ExcName → Option Value}
theorem rd_own {env : Env} {h : Heap} {x : Str} {v : Value} (X : (KH w).In h) (T : Top topProg LN mean mg mb h) (g : ∀ w, nsIn (KH w) mainGlobals x = some (some v)) (hg : env.globals = mainGlobals := by rfl) (hk : env.scope.kind = .function := by rfl) (hx : env.kindOf x = some .globalImplicit := by rfl) (hd : (x == ("__debug__" : Str)) = false := by decide) : Rd env h x v :=
  ⟨hd, hk, .inr (.inr (.inr ⟨hx, .inl ⟨mg, hg ▸ T.g, mg_of X T.g (g w)⟩⟩))⟩
theorem rd_built {env : Env} {h : Heap} {x : Str} {v : Value} (X : (KH w).In h) (T : Top topProg LN mean mg mb h) (g : ∀ w, nsIn (KH w) mainGlobals x = some none) (hv : bootBuiltins x = some v) (hn : x ≠ "__name__" := by decide) (hg : env.globals = mainGlobals := by rfl) (hb : env.builtins = builtinsNs := by rfl) (hk : env.scope.kind = .function := by rfl) (hx : env.kindOf x = some .globalImplicit := by rfl) (hd : (x == ("__debug__" : Str)) = false := by decide) : Rd env h x v :=
  ⟨hd, hk, .inr (.inr (.inr ⟨hx, .inr ⟨mg, mb, hg ▸ T.g, mg_none_of X T.g (g w), hb ▸ T.b, (T.builtins x hn).trans hv⟩⟩))⟩
end
theorem g_range (w : World) : nsIn (KH w) mainGlobals (Str.ofString "range") = some none := by kernel_rfl!
theorem g_len (w : World) : nsIn (KH w) mainGlobals (Str.ofString "len") = some none := by kernel_rfl!
theorem g_list (w : World) : nsIn (KH w) mainGlobals (Str.ofString "list") = some none := by kernel_rfl!
theorem g_sorted (w : World) : nsIn (KH w) mainGlobals (Str.ofString "sorted") = some none := by kernel_rfl!
theorem g_set (w : World) : nsIn (KH w) mainGlobals (Str.ofString "set") = some none := by kernel_rfl!
theorem b_range : bootBuiltins (Str.ofString "range") = some (.type "range") := by first | rfl | kernel_rfl! | decide +kernel
theorem b_len : bootBuiltins (Str.ofString "len") = some (.builtin "len") := by first | rfl | kernel_rfl! | decide +kernel
theorem b_list : bootBuiltins (Str.ofString "list") = some (.type "list") := by first | rfl | kernel_rfl! | decide +kernel
theorem b_sorted : bootBuiltins (Str.ofString "sorted") = some (.builtin "sorted") := by first | rfl | kernel_rfl! | decide +kernel
theorem b_set : bootBuiltins (Str.ofString "set") = some (.type "set") := by first | rfl | kernel_rfl! | decide +kernel
/-- the lambda's code object, once made -/
def lamQual : Str := "law" ++ ".<locals>." ++ "<lambda>"
def TabAt (h : Heap) : Prop := ∃ ps : Array Value, h.get? 86 = some (tabObj ps) ∧ (ps = #[] ∨ ∃ c', ps = #[rawInt 146, rawInt 38, .ref c'] ∧ h.CodeRec (.ref c') lamQual)
theorem TabAt.keeps {h h' : Heap} (x : TabAt h) (k : Keeps h h') : TabAt h' := by
  obtain ⟨ps, e, r⟩ := x
  refine ⟨ps, k _ _ e, r.imp id ?_⟩
  rintro ⟨c', e', c, oc, vs, t, e1, e2, r⟩
  exact ⟨c', e', c, oc, vs, t, e1, k _ _ e2, r⟩
/-- the law's frame between two statements: what its locals (ml) and its cells (cl) hold -/
structure LawAt (g h : Heap) (L : Addr) (ml cl : List (Str × Value)) : Prop where
  fr : ∃ m, Fr g L h m ∧ ∀ x v, ml.lookup x = some v → m x = some v
  cells : ∃ cv : Str → Option Value, (∀ x c, (cellsL L).lookup x = some c → h.IsCell c (cv x)) ∧ ∀ x v, cl.lookup x = some v → cv x = some v
  tab : TabAt h
  free : g.get? 86 = none
section
variable {g h : Heap} {L : Addr} {ml cl : List (Str × Value)}
theorem LawAt.keeps {h' : Heap} (x : LawAt g h L ml cl) (k : Keeps h h') : LawAt g h' L ml cl := by
  obtain ⟨⟨m, F, e⟩, ⟨cv, c, e'⟩, t, f⟩ := x
  exact ⟨⟨m, frKept F k, e⟩, ⟨cv, fun x a q => (c x a q).keeps k, e'⟩, t.keeps k, f⟩
theorem LawAt.keep {g h : Heap} {L : Addr} {ml cl : List (Str × Value)} (x : LawAt g h L ml cl) : Keeps g h := let ⟨m, F, _⟩ := x.fr; F.keep
theorem LawAt.weaken {ml' cl' : List (Str × Value)} (x : LawAt g h L ml cl) (a : ∀ p ∈ ml', ml.lookup p.1 = some p.2) (b : ∀ p ∈ cl', cl.lookup p.1 = some p.2) : LawAt g h L ml' cl' := by
  have mem : ∀ {l : List (Str × Value)} {y : Str} {v : Value}, l.lookup y = some v → (y, v) ∈ l := by
    intro l
    induction l with
    | nil => intro y v e; cases e
    | cons p l ih =>
      intro y v e
      obtain ⟨y', v'⟩ := p
      rw [List.lookup_cons] at e
      by_cases hy : y = y'
      · subst hy; simp at e; subst e; exact .head _
      · rw [beq_false_of_ne hy] at e; exact .tail _ (ih e)
  obtain ⟨⟨m, F, e⟩, ⟨cv, c, e'⟩, t, f⟩ := x
  exact ⟨⟨m, F, fun y v q => e _ _ (a _ (mem q))⟩, ⟨cv, c, fun y v q => e' _ _ (b _ (mem q))⟩, t, f⟩
theorem LawAt.rdL {x : Str} {v : Value} (Y : LawAt g h L ml cl) (e : ml.lookup x = some v := by rfl) (hx : (LE L).kindOf x = some .local := by rfl) (hd : (x == ("__debug__" : Str)) = false := by decide) : Rd (LE L) h x v := by
  obtain ⟨m, F, q⟩ := Y.fr
  exact ⟨hd, rfl, .inl ⟨hx, m, F.ns, q _ _ e⟩⟩
theorem LawAt.cellC {x : Str} {v : Value} {c : Addr} (Y : LawAt g h L ml cl) (e : cl.lookup x = some v := by rfl) (hc : (cellsL L).lookup x = some c := by rfl) : h.IsCell c (some v) := by
  obtain ⟨cv, q, q'⟩ := Y.cells
  have := q x c hc
  rw [q' _ _ e] at this; exact this
theorem LawAt.rdC {x : Str} {v : Value} (Y : LawAt g h L ml cl) (c : Addr) (e : cl.lookup x = some v := by rfl) (hc : (cellsL L).lookup x = some c := by rfl) (hx : (LE L).kindOf x = some .cell := by rfl) (hd : (x == ("__debug__" : Str)) = false := by decide) : Rd (LE L) h x v :=
  ⟨hd, rfl, .inr (.inl ⟨hx, c, hc, Y.cellC e hc⟩)⟩
def cellOffs : List (Str × Nat) := [(Str.ofString "seal", 10), (Str.ofString "hues", 9), (Str.ofString "came", 8), (Str.ofString "gaps", 7), (Str.ofString "offers", 6), (Str.ofString "short", 5), (Str.ofString "level", 4), (Str.ofString "share", 3), (Str.ofString "word", 2), (Str.ofString "draws", 1)]
theorem cellsL_offs : cellsL L = cellOffs.map (fun p => (p.1, L + p.2)) := rfl
theorem mem_of_lookup {x : Str} {c : Addr} : {l : List (Str × Addr)} → l.lookup x = some c → (x, c) ∈ l
  | [], h => by cases h
  | (a, b) :: t, h => by
    rw [List.lookup_cons] at h
    split at h
    · rename_i e; have e := eq_of_beq e; cases h; subst e; exact List.mem_cons_self ..
    · exact List.mem_cons_of_mem _ (mem_of_lookup h)
theorem cellsL_off {x : Str} {c : Addr} (hc : (cellsL L).lookup x = some c) : ∃ k, (x, k) ∈ cellOffs ∧ L + k = c := by
  have m := mem_of_lookup hc
  rw [cellsL_offs] at m
  obtain ⟨⟨y, k⟩, hm, e⟩ := List.mem_map.mp m
  cases e
  exact ⟨k, hm, rfl⟩
theorem cellsL_range {x : Str} {c : Addr} (hc : (cellsL L).lookup x = some c) : L < c ∧ c ≤ L + 10 := by
  obtain ⟨k, hm, rfl⟩ := cellsL_off hc
  have H : ∀ p ∈ cellOffs, 0 < p.2 ∧ p.2 ≤ 10 := by decide +kernel
  have := H _ hm
  exact ⟨Nat.lt_add_of_pos_right this.1, Nat.add_le_add_left this.2 L⟩
theorem cellsL_inj {x y : Str} {c : Addr} (hx : (cellsL L).lookup x = some c) (hy : (cellsL L).lookup y = some c) : x = y := by
  obtain ⟨k, hm, rfl⟩ := cellsL_off hx
  obtain ⟨k', hm', e⟩ := cellsL_off hy
  have H : ∀ p ∈ cellOffs, ∀ q ∈ cellOffs, p.2 = q.2 → q.1 = p.1 := by decide +kernel
  exact H _ hm' _ hm (Nat.add_left_cancel e)
end

/-! steps in a frame that keeps all that stood at h₀ -/
theorem keptK {h₀ : Heap} : KeptH (fun h => Keeps h₀ h) := fun _ _ k b o e => Heap.get?_push_of_some _ (k b o e)
theorem isList_kp {h h' : Heap} {l : Addr} {items : Array Value} (x : h.IsList l items) (k : Keeps h h') : h'.IsList l items := x.at fun o e => k _ o e
theorem isList_of {h : Heap} {l : Addr} {vs : List Value} {n : Nat} (e : h.get? l = some (lstO vs n)) : h.IsList l vs.toArray := ⟨_, e, rfl, _, rfl⟩
theorem topKp {p : Program} {loose : List Str} {mean : ExcName → Option Value} {mg mb : Str → Option Value} {h h' : Heap} (T : Top p loose mean mg mb h) (k : Keeps h h') : Top p loose mean mg mb h' := T.keeps k
theorem inKp {K : Frag} {h h' : Heap} (X : K.In h) (k : Keeps h h') : K.In h' := X.keeps k
section
variable {prog : Program} {w : World} {A : Around} {E : Value → Shared → Prop} {s : Shared} {h₀ : Heap} {value slice : Expr} {Q : Value → Shared → Prop}
theorem kslice_ns {x : Str} {t : Tok} {j : Int} {uj : Tok} (k : Keeps h₀ s.heap) (h : ∀ h' t' tk, Keeps h₀ h' → Q (.str (Txt.slice x none (some j)) t') { s with heap := h', toks := tk })
    (hsz : x.length ≤ sizeLine := by size_fits) (hs : subscripted slice false (.str x t) (.ref s.heap.objs.size) = operate [.ref s.heap.objs.size, .str x t] (getItem (.str x t) (.ref s.heap.objs.size)) := by with_unfolding_all rfl)
    (ht : ∀ r, letTemporaryGo value (.str x t) r = pure () := by intro _; with_unfolding_all rfl) :
    wpAny (model prog w) A (subscriptTail value slice (.str x t) (.ref s.heap.objs.size)) Q E { s with heap := s.heap.push { cls := .type "slice", data := .fields #[.none, .int j uj, .none] } } :=
  tail_of_ItemOn (SBH.sliceItem_ns keptK k h hsz) hs ht
theorem kslice_sn {x : Str} {t : Tok} {i : Int} {ui : Tok} (k : Keeps h₀ s.heap) (h : ∀ h' t' tk, Keeps h₀ h' → Q (.str (Txt.slice x (some i) none) t') { s with heap := h', toks := tk })
    (hsz : x.length ≤ sizeLine := by size_fits) (hs : subscripted slice false (.str x t) (.ref s.heap.objs.size) = operate [.ref s.heap.objs.size, .str x t] (getItem (.str x t) (.ref s.heap.objs.size)) := by with_unfolding_all rfl)
    (ht : ∀ r, letTemporaryGo value (.str x t) r = pure () := by intro _; with_unfolding_all rfl) :
    wpAny (model prog w) A (subscriptTail value slice (.str x t) (.ref s.heap.objs.size)) Q E { s with heap := s.heap.push { cls := .type "slice", data := .fields #[.int i ui, .none, .none] } } :=
  tail_of_ItemOn (SBH.sliceItem_sn keptK k h hsz) hs ht
theorem kslice_list {l : Addr} {items : Array Value} {vl vu : Value} {lo hi : Option Int} (k : Keeps h₀ s.heap) (hl : h₀.IsList l items) (pl : IsPart vl lo) (pu : IsPart vu hi)
    (h : ∀ D h', Keeps h₀ h' → s.heap.objs.size ≤ D → h'.get? D = some (lstO (slicePick items lo hi none).toList 0) → Q (.ref D) { s with heap := h' })
    (hsz : items.size ≤ sizeLine := by size_fits)
    (hs : subscripted slice false (.ref l) (.ref s.heap.objs.size) = operate [.ref s.heap.objs.size, .ref l] (getItem (.ref l) (.ref s.heap.objs.size)) := by with_unfolding_all rfl)
    (ht : ∀ r, letTemporaryGo value (.ref l) r = pure () := by intro _; with_unfolding_all rfl) :
    wpAny (model prog w) A (subscriptTail value slice (.ref l) (.ref s.heap.objs.size)) Q E { s with heap := s.heap.push { cls := .type "slice", data := .fields #[vl, vu, .none] } } := by
  have hl' := isList_kp hl k
  refine subscriptTail_ops (Heap.IsList.typeIs (s := { s with heap := s.heap.push { cls := .type "slice", data := .fields #[vl, vu, .none] } }) (hl'.push _)) list_getitem_lookup
    (wpAny_getItem_list_slice (hl'.push _) (Heap.IsSliceOf.new ..) pl pu .none (by simp) ?_ hsz) hs ht
  refine h _ _ (fun b o e => Heap.get?_push_of_some _ (Heap.get?_push_of_some _ (k b o e))) ?_ (Heap.get?_push_size _ rfl)
  dsimp only; rw [Heap.size_push]; exact Nat.le_succ _
theorem kitem_str {x : Str} {t : Tok} {i : Int} {u : Tok} (h0 : 0 ≤ i) (h1 : i < x.length) (h2 : x.length ≤ 1000) (h : Q (.str (Txt.item x i) s.toks) { s with toks := s.toks + 1 })
    (hs : subscripted slice false (.str x t) (.int i u) = operate [.str x t, .int i u] (getItem (.str x t) (.int i u)) := by with_unfolding_all rfl)
    (ht : ∀ r, letTemporaryGo value (.str x t) r = pure () := by intro _; with_unfolding_all rfl) :
    wpAny (model prog w) A (subscriptTail value slice (.str x t) (.int i u)) Q E s := item_str (fitsSsize_of (N := 9223372036854775808) (by omega) (by omega) (Int.le_refl _)) (by omega) h1 (fun _ => h) hs ht
theorem kitem_list {a : Addr} {l : List Value} {i : Int} {u : Tok} {x : Value} (k : Keeps h₀ s.heap) (hl : h₀.IsList a l.toArray) (h0 : 0 ≤ i) (hfit : i < 2 ^ 63) (hx : l[i.toNat]? = some x) (h : Q x s)
    (hs : subscripted slice false (.ref a) (.int i u) = operate [.ref a, .int i u] (getItem (.ref a) (.int i u)) := by with_unfolding_all rfl) (hg : ∀ r, letTemporaryGo value (.ref a) r = pure () := by intro _; with_unfolding_all rfl) :
    wpAny (model prog w) A (subscriptTail value slice (.ref a) (.int i u)) Q E s := item_listL (isList_kp hl k) h0 hfit hx h hs hg
theorem kitem_tup {a : Addr} {l : List Value} {i : Int} {u : Tok} {j : Nat} {v : Value} (k : Keeps h₀ s.heap) (ha : h₀.get? a = some (tupO l)) (hlo : -(2 ^ 63) ≤ i) (hhi : i < 2 ^ 63) (hj : seqIndex? i l.length = some j) (hx : l[j]? = some v) (h : Q v s)
    (hs : subscripted slice false (.ref a) (.int i u) = operate [.ref a, .int i u] (getItem (.ref a) (.int i u)) := by with_unfolding_all rfl) :
    wpAny (model prog w) A (subscriptTail value slice (.ref a) (.int i u)) Q E s := item_tupleT ⟨_, k _ _ ha, rfl, _, rfl⟩ hlo hhi hj hx h hs
theorem kadd_lists {l b : Addr} {vs ws : List Value} (k : Keeps h₀ s.heap) (hl : h₀.IsList l vs.toArray) (hb : s.heap.IsList b ws.toArray)
    (h : ∀ D h', Keeps h₀ h' → h'.get? D = some (lstO (vs ++ ws) 0) → Q (.ref D) { s with heap := h' }) (hsz : vs.length + ws.length ≤ sizeLine := by size_fits) :
    wpAny (model prog w) A (binaryOp .Add (.ref l) (.ref b)) Q E s := by
  obtain ⟨⟨cls, dd, data, sl⟩, ho, hc, n, hd⟩ := id (isList_kp hl k)
  obtain ⟨⟨cls2, dd2, data2, sl2⟩, ho2, hc2, n2, hd2⟩ := id hb
  simp only at hc hd hc2 hd2
  subst hc hd hc2 hd2
  have e : vs.toArray ++ ws.toArray = (vs ++ ws).toArray := by simp
  refine concat_meets ⟨_, ho, rfl⟩ ⟨_, ho2, rfl⟩ noFill_list_add seq_list_add PySem.F.slot_list_add PySem.F.entry_list_add (PySem.F.args_list_add_2 _ _) (list_addW l b vs.toArray ws.toArray n n2 dd dd2 sl sl2 (by simpa using hsz)) ⟨ho, ho2, ?_⟩
  rw [e]
  exact h _ _ (fun b o e => Heap.get?_push_of_some _ (k b o e)) (Heap.get?_push_size _ rfl)
theorem klen_list {l : Addr} {items : Array Value} (k : Keeps h₀ s.heap) (hl : h₀.IsList l items) (hfit : items.size ≤ 1000) (h : Q (.int items.size (s.toks + 1)) { s with toks := s.toks + 1 + 1 }) : wpAny (model prog w) A (call (.builtin "len") [.ref l]) Q E s :=
  len_list (isList_kp hl k) (by omega) h
theorem knewList {xs : List Value} (k : Keeps h₀ s.heap) (h : ∀ D h', Keeps h₀ h' → s.heap.objs.size ≤ D → h'.get? D = some (lstO xs 0) → Q (.ref D) { s with heap := h' }) (hsz : xs.length ≤ 1000 := by (first | decide | (simp; done) | (simp; omega))) : wpAny (model prog w) A (newList xs) Q E s :=
  wpAny_newList (h _ _ (fun b o e => Heap.get?_push_of_some _ (k b o e)) (Nat.le_refl _) (Heap.get?_push_size _ rfl)) (by rw [sizeLine_eq]; omega)
theorem knewTuple {xs : List Value} (k : Keeps h₀ s.heap) (h : ∀ D h', Keeps h₀ h' → Keeps s.heap h' → s.heap.objs.size ≤ D → h'.get? D = some (tupO xs) → Q (.ref D) { s with heap := h' }) (hsz : xs.length ≤ 1000 := by (first | decide | (simp; done) | (simp; omega))) : wpAny (model prog w) A (newTuple xs) Q E s :=
  wpAny_newTuple (h _ _ (fun b o e => Heap.get?_push_of_some _ (k b o e)) (fun b o e => Heap.get?_push_of_some _ e) (Nat.le_refl _) (Heap.get?_push_size _ rfl)) (by rw [sizeLine_eq]; omega)
theorem kcallWith {env : Env} {pos : Pos} {f : Addr} {e : Expr} {rest : List Expr} (X : (KH w).In h₀) (k : Keeps h₀ s.heap) (hf : f ∈ [21, 28, 35, 42, 49, 56, 63, 70, 77, 84]) (h : wpAny (model prog w) A (spliced (backTo pos (starEach (e :: rest) env))) (fun vs s₁ => (KH w).In s₁.heap ∧ wpAny (model prog w) A (call (.ref f) ([] ++ vs)) Q E s₁) E s)
    (he : starEach (e :: rest) env = (false, eval e env) :: starEach rest env := by rfl) (hplain : (backTo pos (starEach rest env)).any (·.1) = false := by rfl) :
    wpAny (model prog w) A (callWith pos (.ref f) [] (backTo pos (starEach (e :: rest) env)) []) Q E s :=
  callWith_K (X.keeps k) (keep_fn w f hf) h he hplain
end
/-! the law's own store -/
def DataObj (o : Obj) : Prop := (∀ es ep, o.data ≠ .dict es ep) ∧ (∀ v, o.data ≠ .cell v) ∧ o.cls ≠ .none
def Pres (h h' : Heap) : Prop := ∀ b o, h.get? b = some o → DataObj o → h'.get? b = some o
theorem Keeps.pres {h h' : Heap} (k : Keeps h h') : Pres h h' := fun b o e _ => k b o e
theorem Pres.trans {h h' h'' : Heap} (a : Pres h h') (b : Pres h' h'') : Pres h h'' := fun x o e d => b x o (a x o e d) d
theorem DataObj.lst (vs : List Value) (n : Nat) : DataObj (lstO vs n) := ⟨nofun, nofun, nofun⟩
theorem DataObj.tup (vs : List Value) : DataObj (tupO vs) := ⟨nofun, nofun, nofun⟩
theorem Pres.tupKeep {h h' : Heap} (p : Pres h h') : TupKeep h h' := fun b vs e => p b _ e (.tup vs)
theorem Pres.sameBut {h h' : Heap} {a : Addr} {o : Obj} (e : h.get? a = some o) (hn : ¬ DataObj o) (k : Heap.SameBut a h h') : Pres h h' := fun b o' e' d => (k.2 b (fun q => by subst q; rw [e] at e'; cases e'; exact hn d)).trans e'
section
variable {M : Model} {A : Around} {E : Value → Shared → Prop} {s : Shared} {g : Heap} {L : Addr} {ml cl : List (Str × Value)}
theorem LawAt.storeC {x : Str} {v : Value} {c : Addr} {Q : Unit → Shared → Prop} (Y : LawAt g s.heap L ml cl) (h : ∀ h', LawAt g h' L ml ((x, v) :: cl) → Pres s.heap h' → Q () { s with heap := h' })
    (hc : (cellsL L).lookup x = some c := by rfl) (hx : (LE L).kindOf x = some .cell := by rfl) : wpAny M A (storeName (LE L) x v) Q E s := by
  obtain ⟨⟨m, F, em⟩, ⟨cv, hcv, ecv⟩, ht, hf⟩ := Y
  have hr := cellsL_range hc
  have hi := hcv x c hc
  obtain ⟨oc, hoc, hdc⟩ := id hi
  have hcL : c ≠ L := Nat.ne_of_gt hr.1
  have hcg : g.get? c = none := by
    cases e : g.get? c with
    | none => rfl
    | some o => exact absurd (Nat.lt_of_lt_of_le (Heap.lt_size e) F.above) (Nat.not_lt.mpr (Nat.le_of_lt hr.1))
  obtain ⟨ps, et, rt⟩ := ht
  have hct : c ≠ 86 := fun q => by rw [q, et] at hoc; cases hoc; cases hdc
  refine wpAny_storeName_cell rfl hx (c := c) hc hi fun h' hi' hs => ?_
  have sub : ∀ b o, b ≠ c → s.heap.get? b = some o → h'.get? b = some o := fun b o hb e => (hs.2 b hb).trans e
  refine h h' ⟨⟨m, ⟨F.ns.sameBut hs (Ne.symm hcL), fun b o e => sub b o (fun q => by rw [q, hcg] at e; cases e) (F.keep b o e), F.above⟩, em⟩, ⟨fun y => if y = x then some v else cv y, fun y d hd => ?_, fun y u e => ?_⟩, ⟨ps, sub _ _ (Ne.symm hct) et, rt.imp id ?_⟩, hf⟩ (Pres.sameBut hoc (fun d => d.2.1 _ hdc) hs)
  · by_cases hy : y = x
    · subst hy; rw [hc] at hd; cases hd; dsimp only; rw [if_pos rfl]; exact hi'
    · dsimp only; rw [if_neg hy]
      obtain ⟨o, e, d'⟩ := hcv y d hd
      refine ⟨o, sub _ _ (fun q => ?_) e, d'⟩
      subst q
      exact hy (cellsL_inj hd hc)
  · rw [List.lookup_cons] at e
    by_cases hy : y = x
    · subst hy; simp at e; subst e; simp
    · rw [beq_false_of_ne hy] at e; dsimp only; rw [if_neg hy]; exact ecv _ _ e
  · rintro ⟨c', e', c2, oc2, vs, t, e1, e2, e3, e4⟩
    exact ⟨c', e', c2, oc2, vs, t, e1, sub _ _ (fun q => by rw [q, hoc] at e2; cases e2; rw [hdc] at e3; cases e3) e2, e3, e4⟩
theorem LawAt.setL {h h' : Heap} {x : Str} {v : Value} {m : Str → Option Value} (Y : LawAt g h L ml cl) (F : Fr g L h m) (em : ∀ x v, ml.lookup x = some v → m x = some v) (hn : h'.Ns L (fun z => if z = x then some v else m z)) (sub : ∀ b o, b ≠ L → h.get? b = some o → h'.get? b = some o) : LawAt g h' L ((x, v) :: ml) cl ∧ Pres h h' := by
  obtain ⟨-, ⟨cv, hcv, ecv⟩, ⟨ps, et, rt⟩, hf⟩ := Y
  obtain ⟨oL, es, ep, hoL, hdL, _⟩ := id F.ns
  refine ⟨⟨⟨_, ⟨hn, fun b o e => sub b o (Nat.ne_of_lt (Nat.lt_of_lt_of_le (Heap.lt_size e) F.above)) (F.keep b o e), F.above⟩, fun y u e => ?_⟩, ⟨cv, fun y d hd => ?_, ecv⟩, ⟨ps, sub _ _ (fun q => by rw [q, hoL] at et; cases et; cases hdL) et, rt.imp id ?_⟩, hf⟩, fun b o e d => sub b o (fun q => by rw [q, hoL] at e; cases e; exact d.1 _ _ hdL) e⟩
  · rw [List.lookup_cons] at e
    by_cases hy : y = x
    · subst hy; simp at e; subst e; simp
    · rw [beq_false_of_ne hy] at e; simp only [if_neg hy]; exact em _ _ e
  · obtain ⟨o, e, d'⟩ := hcv y d hd
    exact ⟨o, sub _ _ (Nat.ne_of_gt (cellsL_range hd).1) e, d'⟩
  · rintro ⟨c', e', c2, oc2, vs, t, e1, e2, e3, e4⟩
    exact ⟨c', e', c2, oc2, vs, t, e1, sub _ _ (fun q => by rw [q, hoL] at e2; cases e2; rw [hdL] at e3; cases e3) e2, e3, e4⟩
theorem LawAt.storeL {x : Str} {v : Value} {Q : Unit → Shared → Prop} (Y : LawAt g s.heap L ml cl) (h : ∀ h', LawAt g h' L ((x, v) :: ml) cl → Pres s.heap h' → Q () { s with heap := h', toks := s.toks + 1 })
    (hx : (LE L).kindOf x = some .local := by rfl) : wpAny M A (storeName (LE L) x v) Q E s := by
  obtain ⟨m, F, em⟩ := Y.fr
  refine wpAny_storeName_local (m := m) hx F.ns (fun h' hn hs => ?_) rfl
  obtain ⟨a, b⟩ := Y.setL F em hn fun b o hb e => (hs.2 b hb).trans e
  exact h h' a b
theorem stC {h₁ : Heap} {x : Str} {v : Value} {c : Addr} {Q : Unit → Shared → Prop} (Y : LawAt g h₁ L ml cl) (h : ∀ h', LawAt g h' L ml ((x, v) :: cl) → Pres h₁ h' → Q () { s with heap := h' })
    (he : s.heap = h₁ := by rfl) (hc : (cellsL L).lookup x = some c := by rfl) (hx : (LE L).kindOf x = some .cell := by rfl) : wpAny M A (storeName (LE L) x v) Q E s := by
  subst he; exact LawAt.storeC Y h hc hx
theorem stL {h₁ : Heap} {x : Str} {v : Value} {Q : Unit → Shared → Prop} (Y : LawAt g h₁ L ml cl) (h : ∀ h', LawAt g h' L ((x, v) :: ml) cl → Pres h₁ h' → Q () { s with heap := h', toks := s.toks + 1 })
    (he : s.heap = h₁ := by rfl) (hx : (LE L).kindOf x = some .local := by rfl) : wpAny M A (storeName (LE L) x v) Q E s := by
  subst he; exact LawAt.storeL Y h hx
end

local macro_rules | `(tactic| walk_at "eval Name") => `(tactic| (with_reducible refine rd_name (by with_reducible assumption) (by with_reducible assumption) ?_))
local macro_rules | `(tactic| walk_at "subscriptTail Name Slice str ref") => `(tactic| ((with_unfolding_all first | refine kslice_ns (by with_reducible assumption) ?_ | refine kslice_sn (by with_reducible assumption) ?_); intro h' t' tk' k'; (try dsimp only)))
local macro_rules | `(tactic| walk_at "newList") => `(tactic| ((with_reducible refine knewList (by with_reducible assumption) ?_); intro D' h' k' l' e'; (try dsimp only)))
local macro_rules | `(tactic| walk_at "newTuple") => `(tactic| ((with_reducible refine knewTuple (by with_reducible assumption) ?_); intro D' h' k' kk' l' e'; (try dsimp only)))
local macro_rules | `(tactic| walk_at "callWith") => `(tactic| ((with_reducible show wpAny _ _ (callWith _ (Value.ref _) _ _ _) _ _ _); (with_unfolding_all refine kcallWith (by with_reducible assumption) (by with_reducible assumption) (by decide) ?_)))
local macro_rules | `(tactic| walk_at "And") => `(tactic| (with_reducible refine ⟨inKp (by with_reducible assumption) (by with_reducible assumption), ?_⟩))
abbrev forBody : List Stmt := match lawBody.getD 6 default with | .For _ _ b _ _ => b | _ => []
abbrev ifA : List Stmt := match forBody.getD 0 default with | .If _ b _ _ => b | _ => []
abbrev ifB : List Stmt := match forBody.getD 0 default with | .If _ _ b _ => b | _ => []
/-- what stays through the whole call -/
structure Ctx (w : World) (A : Around) (g : Heap) (mg mb : Str → Option Value) (mean : ExcName → Option Value) : Prop where
  X : (KH w).In g
  T : Top topProg LN mean mg mb g
  hh : A.handled = none
  hd : A.depth < 400
  hu : A.units < 100
section
variable {w : World} {A : Around} {s : Shared} {g : Heap} {L : Addr} {ml cl : List (Str × Value)} {mg mb : Str → Option Value} {mean : ExcName → Option Value} {Q : Flow → Shared → Prop}
theorem st_placeA {d : Nat} {t : Tok} (Y : LawAt g s.heap L ml cl) (hml : ml.lookup (Str.ofString "d") = some (.int (d : Nat) t))
    (hQ : ∀ h' tk t', LawAt g h' L ((Str.ofString "place", .int ((d / 2 % 7 : Nat) : Int) t') :: ml) cl → Pres s.heap h' → Q .next { s with heap := h', toks := tk }) :
    wpAny (model PG w) A (exec (ifA.getD 0 default) (LE L)) Q NoE s := by
  have r1 := Y.rdL hml
  have k0 : Keeps s.heap s.heap := Keeps.rfl'
  show wpAny _ _ (exec (Stmt.Assign _ _ _) _) _ _ _
  refine wpAny_Assign_Name ?_
  generalize hE : LE L = env at r1 ⊢
  repeat' ((fail_if_success (with_reducible show wpAny _ _ (storeName _ _ _) _ _ _)); first | walk1 | (dsimp only; walk1))
  subst hE
  refine stL (Y.keeps k0) fun h' Y' P' => ?_
  have e : ((d : Int).fdiv 2).fmod 7 = ((d / 2 % 7 : Nat) : Int) := by
    rw [Int.fdiv_eq_ediv_of_nonneg _ (by decide), Int.fmod_eq_emod_of_nonneg _ (by decide)]; push_cast; rfl
  rw [e] at Y'
  exact hQ _ _ _ Y' P'
theorem st_placeB {d : Nat} {t : Tok} (Y : LawAt g s.heap L ml cl) (hml : ml.lookup (Str.ofString "d") = some (.int (d : Nat) t))
    (hQ : ∀ h' tk t', LawAt g h' L ((Str.ofString "place", .int ((d / 2 % 8 : Nat) : Int) t') :: ml) cl → Pres s.heap h' → Q .next { s with heap := h', toks := tk }) :
    wpAny (model PG w) A (exec (ifB.getD 0 default) (LE L)) Q NoE s := by
  have r1 := Y.rdL hml
  have k0 : Keeps s.heap s.heap := Keeps.rfl'
  show wpAny _ _ (exec (Stmt.Assign _ _ _) _) _ _ _
  refine wpAny_Assign_Name ?_
  generalize hE : LE L = env at r1 ⊢
  repeat' ((fail_if_success (with_reducible show wpAny _ _ (storeName _ _ _) _ _ _)); first | walk1 | (dsimp only; walk1))
  subst hE
  refine stL (Y.keeps k0) fun h' Y' P' => ?_
  have e : ((d : Int).fdiv 2).fmod 8 = ((d / 2 % 8 : Nat) : Int) := by
    rw [Int.fdiv_eq_ediv_of_nonneg _ (by decide), Int.fmod_eq_emod_of_nonneg _ (by decide)]; push_cast; rfl
  rw [e] at Y'
  exact hQ _ _ _ Y' P'
theorem st_short {p : Nat} {W : Str} {t1 t2 : Tok} (Y : LawAt g s.heap L ml cl) (hml : ml.lookup (Str.ofString "place") = some (.int (p : Nat) t1)) (hcl : cl.lookup (Str.ofString "word") = some (.str W t2)) (hlen : W.length ≤ 8) (hp : p ≤ 8)
    (hQ : ∀ h' tk t', LawAt g h' L ml ((Str.ofString "short", .str (Txt.slice W none (some (p : Nat)) ++ Txt.slice W (some ((p : Nat) + 1)) none) t') :: cl) → Pres s.heap h' → Q .next { s with heap := h', toks := tk }) :
    wpAny (model PG w) A (exec (ifA.getD 1 default) (LE L)) Q NoE s := by
  have r1 := Y.rdL hml
  have r2 := Y.rdC _ hcl
  have k0 : Keeps s.heap s.heap := Keeps.rfl'
  show wpAny _ _ (exec (Stmt.Assign _ _ _) _) _ _ _
  refine wpAny_Assign_Name ?_
  generalize hE : LE L = env at r1 r2 ⊢
  repeat' ((fail_if_success (with_reducible show wpAny _ _ (storeName _ _ _) _ _ _)); first | walk1 | (dsimp only; walk1))
  rename Keeps _ _ => kz
  subst hE
  refine stC (Y.keeps kz) fun h' Y' P' => ?_
  exact hQ _ _ _ Y' (kz.pres.trans P')
theorem st_came {d p : Nat} {W : Str} {t1 t2 t3 : Tok} (Y : LawAt g s.heap L ml cl) (hml : ml.lookup (Str.ofString "place") = some (.int (p : Nat) t1)) (hmd : ml.lookup (Str.ofString "d") = some (.int (d : Nat) t3)) (hcl : cl.lookup (Str.ofString "word") = some (.str W t2)) (hlen : W.length ≤ 8) (hp : p ≤ 8)
    (hQ : ∀ h' tk t', LawAt g h' L ml ((Str.ofString "came", .str (Txt.slice W none (some (p : Nat)) ++ Txt.item (Str.ofString "ab") ((d / 16 % 2 : Nat) : Int) ++ Txt.slice W (some (p : Nat)) none) t') :: cl) → Pres s.heap h' → Q .next { s with heap := h', toks := tk }) :
    wpAny (model PG w) A (exec (ifB.getD 1 default) (LE L)) Q NoE s := by
  have r1 := Y.rdL hml
  have r3 := Y.rdL hmd
  have r2 := Y.rdC _ hcl
  have k0 : Keeps s.heap s.heap := Keeps.rfl'
  show wpAny _ _ (exec (Stmt.Assign _ _ _) _) _ _ _
  refine wpAny_Assign_Name ?_
  have e : ((d : Int).fdiv 16).fmod 2 = ((d / 16 % 2 : Nat) : Int) := by
    rw [Int.fdiv_eq_ediv_of_nonneg _ (by decide), Int.fmod_eq_emod_of_nonneg _ (by decide)]; push_cast; rfl
  have e2 : (Str.ofString "ab").length = 2 := by decide
  generalize hE : LE L = env at r1 r3 r2 ⊢
  repeat' ((fail_if_success (with_reducible show wpAny _ _ (subscriptTail _ _ (Value.str _ _) (Value.int _ _)) _ _ _)); first | walk1 | (dsimp only; walk1))
  rw [e]
  refine kitem_str (by omega) (by omega) (by omega) ?_
  have e3 := len_item (Str.ofString "ab") ((d / 16 % 2 : Nat) : Int)
  repeat' ((fail_if_success (with_reducible show wpAny _ _ (storeName _ _ _) _ _ _)); first | walk1 | (dsimp only; walk1))
  rename Keeps _ _ => kz
  subst hE
  refine stC (Y.keeps kz) fun h' Y' P' => ?_
  exact hQ _ _ _ Y' (kz.pres.trans P')
theorem st_count8 (Y : LawAt g s.heap L ml cl) (hQ : ∀ h' tk t', LawAt g h' L ((Str.ofString "count", .int 8 t') :: ml) cl → Pres s.heap h' → Q .next { s with heap := h', toks := tk }) :
    wpAny (model PG w) A (exec (ifA.getD 5 default) (LE L)) Q NoE s := by
  have k0 : Keeps s.heap s.heap := Keeps.rfl'
  show wpAny _ _ (exec (Stmt.Assign _ _ _) _) _ _ _
  refine wpAny_Assign_Name ?_
  generalize hE : LE L = env at ⊢
  repeat' ((fail_if_success (with_reducible show wpAny _ _ (storeName _ _ _) _ _ _)); first | walk1 | (dsimp only; walk1))
  subst hE
  refine stL (Y) fun h' Y' P' => ?_
  exact hQ _ _ _ Y' P'
theorem st_runA {p : Nat} {W : Str} {t1 t2 : Tok} (C : Ctx w A g mg mb mean) (Y : LawAt g s.heap L ml cl) (hml : ml.lookup (Str.ofString "place") = some (.int (p : Nat) t1)) (hcl : cl.lookup (Str.ofString "word") = some (.str W t2)) (hlen : W.length ≤ 8) (hp : p < W.length)
    (hQ : ∀ h' tk v, LawAt g h' L ((Str.ofString "run", v) :: ml) cl → Pres s.heap h' → IsInts h' v (runOf W p) → Q .next { s with heap := h', toks := tk }) :
    wpAny (model PG w) A (exec (ifA.getD 4 default) (LE L)) Q NoE s := by
  have r1 := Y.rdL hml
  have r2 := Y.rdC _ hcl
  have X := inKp C.X Y.keep
  have T := topKp C.T Y.keep
  have r3 : Rd (LE L) s.heap (Str.ofString "_law_run") (.ref 70) := rd_own X T g_run
  have k0 : Keeps s.heap s.heap := Keeps.rfl'
  show wpAny _ _ (exec (Stmt.Assign _ _ _) _) _ _ _
  refine wpAny_Assign_Name ?_
  generalize hE : LE L = env at r1 r2 r3 ⊢
  repeat' ((fail_if_success (with_reducible show wpAny _ _ (call (Value.ref _) _) _ _ _)); first | walk1 | (dsimp only; walk1))
  refine wpAny_call (run_call X T (Nat.lt_trans C.hd (by decide)) C.hh W p _ _ hlen hp fun v h1 tk1 k1 hv => ?_)
  subst hE
  refine stL (Y.keeps k1) fun h' Y' P' => ?_
  obtain ⟨r, vs, n, e, ho, hi⟩ := hv
  exact hQ _ _ _ Y' (k1.pres.trans P') ⟨r, vs, n, e, P' _ _ ho (.lst _ _), hi⟩
theorem st_runB {p : Nat} {W : Str} {t1 t2 : Tok} (C : Ctx w A g mg mb mean) (Y : LawAt g s.heap L ml cl) (hml : ml.lookup (Str.ofString "place") = some (.int (p : Nat) t1)) (hcl : cl.lookup (Str.ofString "came") = some (.str W t2)) (hlen : W.length ≤ 8) (hp : p < W.length)
    (hQ : ∀ h' tk v, LawAt g h' L ((Str.ofString "run", v) :: ml) cl → Pres s.heap h' → IsInts h' v (runOf W p) → Q .next { s with heap := h', toks := tk }) :
    wpAny (model PG w) A (exec (ifB.getD 4 default) (LE L)) Q NoE s := by
  have r1 := Y.rdL hml
  have r2 := Y.rdC _ hcl
  have X := inKp C.X Y.keep
  have T := topKp C.T Y.keep
  have r3 : Rd (LE L) s.heap (Str.ofString "_law_run") (.ref 70) := rd_own X T g_run
  have k0 : Keeps s.heap s.heap := Keeps.rfl'
  show wpAny _ _ (exec (Stmt.Assign _ _ _) _) _ _ _
  refine wpAny_Assign_Name ?_
  generalize hE : LE L = env at r1 r2 r3 ⊢
  repeat' ((fail_if_success (with_reducible show wpAny _ _ (call (Value.ref _) _) _ _ _)); first | walk1 | (dsimp only; walk1))
  refine wpAny_call (run_call X T (Nat.lt_trans C.hd (by decide)) C.hh W p _ _ hlen hp fun v h1 tk1 k1 hv => ?_)
  subst hE
  refine stL (Y.keeps k1) fun h' Y' P' => ?_
  obtain ⟨r, vs, n, e, ho, hi⟩ := hv
  exact hQ _ _ _ Y' (k1.pres.trans P') ⟨r, vs, n, e, P' _ _ ho (.lst _ _), hi⟩
theorem st_judgedA {x y : Str} {t1 t2 : Tok} (C : Ctx w A g mg mb mean) (Y : LawAt g s.heap L ml cl) (hx : cl.lookup (Str.ofString "short") = some (.str x t1)) (hy : cl.lookup (Str.ofString "word") = some (.str y t2)) (hlen : x.length ≤ 7) (hlen2 : y.length ≤ 8) (hdot : ∀ k, k < y.length → DotOk x k)
    (hQ : ∀ h' tk v, LawAt g h' L ((Str.ofString "judged", v) :: ml) cl → Pres s.heap h' → IsInts h' v (gapsTo x y y.length) → Q .next { s with heap := h', toks := tk }) :
    wpAny (model PG w) A (exec (ifA.getD 6 default) (LE L)) Q NoE s := by
  have r1 := Y.rdC _ hx
  have r2 := Y.rdC _ hy
  have X := inKp C.X Y.keep
  have T := topKp C.T Y.keep
  have r3 : Rd (LE L) s.heap (Str.ofString "_law_gaps") (.ref 77) := rd_own X T g_gaps
  have k0 : Keeps s.heap s.heap := Keeps.rfl'
  show wpAny _ _ (exec (Stmt.Assign _ _ _) _) _ _ _
  refine wpAny_Assign_Name ?_
  generalize hE : LE L = env at r1 r2 r3 ⊢
  repeat' ((fail_if_success (with_reducible show wpAny _ _ (call (Value.ref _) _) _ _ _)); first | walk1 | (dsimp only; walk1))
  refine wpAny_call (gaps_call X T (Nat.lt_trans C.hd (by decide)) C.hh x y _ _ hlen hlen2 hdot fun v h1 tk1 k1 hv => ?_)
  subst hE
  refine stL (Y.keeps k1) fun h' Y' P' => ?_
  obtain ⟨r, vs, n, e, ho, hi⟩ := hv
  exact hQ _ _ _ Y' (k1.pres.trans P') ⟨r, vs, n, e, P' _ _ ho (.lst _ _), hi⟩
theorem st_judgedB {x y : Str} {t1 t2 : Tok} (C : Ctx w A g mg mb mean) (Y : LawAt g s.heap L ml cl) (hx : cl.lookup (Str.ofString "word") = some (.str x t1)) (hy : cl.lookup (Str.ofString "came") = some (.str y t2)) (hlen : x.length ≤ 7) (hlen2 : y.length ≤ 8) (hdot : ∀ k, k < y.length → DotOk x k)
    (hQ : ∀ h' tk v, LawAt g h' L ((Str.ofString "judged", v) :: ml) cl → Pres s.heap h' → IsInts h' v (gapsTo x y y.length) → Q .next { s with heap := h', toks := tk }) :
    wpAny (model PG w) A (exec (ifB.getD 6 default) (LE L)) Q NoE s := by
  have r1 := Y.rdC _ hx
  have r2 := Y.rdC _ hy
  have X := inKp C.X Y.keep
  have T := topKp C.T Y.keep
  have r3 : Rd (LE L) s.heap (Str.ofString "_law_gaps") (.ref 77) := rd_own X T g_gaps
  have k0 : Keeps s.heap s.heap := Keeps.rfl'
  show wpAny _ _ (exec (Stmt.Assign _ _ _) _) _ _ _
  refine wpAny_Assign_Name ?_
  generalize hE : LE L = env at r1 r2 r3 ⊢
  repeat' ((fail_if_success (with_reducible show wpAny _ _ (call (Value.ref _) _) _ _ _)); first | walk1 | (dsimp only; walk1))
  refine wpAny_call (gaps_call X T (Nat.lt_trans C.hd (by decide)) C.hh x y _ _ hlen hlen2 hdot fun v h1 tk1 k1 hv => ?_)
  subst hE
  refine stL (Y.keeps k1) fun h' Y' P' => ?_
  obtain ⟨r, vs, n, e, ho, hi⟩ := hv
  exact hQ _ _ _ Y' (k1.pres.trans P') ⟨r, vs, n, e, P' _ _ ho (.lst _ _), hi⟩
/-- the eighths of a text's seal -/
def hueN (x : Str) : Nat := (turnTo x x.length % 8).toNat
theorem hueN_lt (x : Str) : hueN x < 8 := by unfold hueN; omega
theorem hueN_eq (x : Str) : ((hueN x : Nat) : Int) = turnTo x x.length % 8 := by unfold hueN; omega
theorem seal_at {x : Str} (hlen : x.length ≤ 8) {sh lv : Nat} (hs : sh < 4) (hl : lv < 4) {h : Heap} {v : Value} {a b c : UInt64} {lo hi tc : Nat} (X : Tup3T h v a b c lo hi (q4 lv) tc) (e : (a, b, c) = sealF (turnTo x x.length) sh lv) : SealAt h v (hueN x) sh lv lo hi tc := by
  obtain ⟨h0, h1⟩ := turnTo_le x x.length
  have h2 : turnTo x x.length ≤ 36 := Int.le_trans h1 (tri_mono _ hlen)
  rw [(seal_hue h0 h2 hs hl).1, ← hueN_eq] at e
  unfold SealAt
  rw [← e]; exact X
theorem hue_at {h : Heap} {v : Value} {c sh lv lo hi tc : Nat} (hc : c < 8) (hs : sh < 4) (hl : lv < 4) (X : SealAt h v c sh lv lo hi tc) : ∃ r u1 u2 u3 x y z, v = .ref r ∧ h.get? r = some (tupO [.float x u1, .float y u2, .float z u3]) ∧ hueOk x y z (c : Nat) = true := by
  obtain ⟨r, t1, t2, t3, e, ho, _⟩ := X
  refine ⟨r, t1, t2, t3, _, _, _, e, ho, ?_⟩
  have := (seal_hue (T := (c : Nat)) (by omega) (by omega) hs hl).2
  rw [show ((c : Nat) : Int) % 8 = (c : Nat) by omega] at this
  exact this
theorem st_ahead {x : Str} {r : Addr} {c sh lv lo hi : Nat} {t1 t2 t3 : Tok} (C : Ctx w A g mg mb mean) (Y : LawAt g s.heap L ml cl) (hx : cl.lookup (Str.ofString "short") = some (.str x t1)) (hsh : cl.lookup (Str.ofString "share") = some (.float (q4 sh) t2)) (hlv : cl.lookup (Str.ofString "level") = some (.float (q4 lv) t3))
    (hse : cl.lookup (Str.ofString "seal") = some (.ref r)) (S : SealAt s.heap (.ref r) c sh lv lo hi t3) (hc : c < 8) (hs : sh < 4) (hl : lv < 4) (hlen : x.length ≤ 8)
    (hQ : ∀ h' tk t', LawAt g h' L ((Str.ofString "ahead", .int (((c : Nat) - (hueN x : Nat) : Int) % 8) t') :: ml) cl → Pres s.heap h' → Q .next { s with heap := h', toks := tk }) :
    wpAny (model PG w) A (exec (ifA.getD 7 default) (LE L)) Q NoE s := by
  have r1 := Y.rdC _ hx
  have r2 := Y.rdC _ hsh
  have r3 := Y.rdC _ hlv
  have r4 := Y.rdC _ hse
  have X := inKp C.X Y.keep
  have T := topKp C.T Y.keep
  have r5 : Rd (LE L) s.heap (Str.ofString "_law_eighths") (.ref 63) := rd_own X T g_eighths
  have r6 : Rd (LE L) s.heap (Str.ofString "_law_seal") (.ref 56) := rd_own X T g_seal
  have k0 : Keeps s.heap s.heap := Keeps.rfl'
  show wpAny _ _ (exec (Stmt.Assign _ _ _) _) _ _ _
  refine wpAny_Assign_Name ?_
  generalize hE : LE L = env at r1 r2 r3 r4 r5 r6 ⊢
  repeat' ((fail_if_success (with_reducible show wpAny _ _ (call (Value.ref _) _) _ _ _)); first | walk1 | (dsimp only; walk1))
  obtain ⟨r', u1, u2, u3, a, b, d, e, ho, hok⟩ := hue_at hc hs hl S
  cases e
  refine wpAny_call (eighths_call X T (Nat.lt_trans C.hd (by decide)) C.hh r a b d u1 u2 u3 _ ho hok fun t5 h1 tk1 k1 => ?_)
  repeat' ((fail_if_success (with_reducible show wpAny _ _ (call (Value.ref _) _) _ _ _)); first | walk1 | (dsimp only; walk1))
  refine wpAny_call (seal_call (inKp X k1) (topKp T k1) (Nat.lt_trans C.hd (by decide)) C.hh x sh lv _ _ _ hlen hs fun v2 h2 tk2 a2 b2 d2 k2 S2 e2 => ?_)
  have S3 := seal_at hlen hs hl S2 e2
  have k3 : Keeps s.heap h2 := k1.trans k2
  repeat' ((fail_if_success (with_reducible show wpAny _ _ (call (Value.ref _) _) _ _ _)); first | walk1 | (dsimp only; walk1))
  obtain ⟨r7, u4, u5, u6, a3, b3, d3, e3, ho3, hok3⟩ := hue_at (hueN_lt x) hs hl S3
  subst e3
  refine wpAny_call (eighths_call (inKp X k3) (topKp T k3) (Nat.lt_trans C.hd (by decide)) C.hh r7 a3 b3 d3 u4 u5 u6 _ ho3 hok3 fun t6 h4 tk4 k4 => ?_)
  have k5 : Keeps s.heap h4 := k3.trans k4
  have hh8 := hueN_lt x
  repeat' ((fail_if_success (with_reducible show wpAny _ _ (storeName _ _ _) _ _ _)); first | walk1 | (dsimp only; walk1))
  subst hE
  refine stL (Y.keeps k5) fun h' Y' P' => ?_
  rw [Int.fmod_eq_emod_of_nonneg _ (by decide)] at Y'
  exact hQ _ _ _ Y' (k5.pres.trans P')
/-- the put-back gives the word: the test is not met -/
theorem st_putback {x W : Str} {n : Int} {t1 t2 t3 : Tok} (C : Ctx w A g mg mb mean) (Y : LawAt g s.heap L ml cl) (hx : cl.lookup (Str.ofString "short") = some (.str x t1)) (hw : cl.lookup (Str.ofString "word") = some (.str W t2)) (hn : ml.lookup (Str.ofString "ahead") = some (.int n t3)) (hlen : x.length ≤ 8)
    (hpb : pbFrom x n 0 7 = W)
    (hQ : ∀ h' tk, LawAt g h' L ml cl → Pres s.heap h' → Q .next { s with heap := h', toks := tk }) :
    wpAny (model PG w) A (exec (ifA.getD 8 default) (LE L)) Q NoE s := by
  have r1 := Y.rdC _ hx
  have r2 := Y.rdC _ hw
  have r3 := Y.rdL hn
  have X := inKp C.X Y.keep
  have T := topKp C.T Y.keep
  have r5 : Rd (LE L) s.heap (Str.ofString "_law_put_back") (.ref 84) := rd_own X T g_putback
  have k0 : Keeps s.heap s.heap := Keeps.rfl'
  show wpAny _ _ (exec (Stmt.If _ _ _ _) _) _ _ _
  generalize hE : LE L = env at r1 r2 r3 r5 ⊢
  repeat' ((fail_if_success (with_reducible show wpAny _ _ (call (Value.ref _) _) _ _ _)); first | walk1 | (dsimp only; walk1))
  refine wpAny_call (putback_call X T (Nat.lt_trans C.hd (by decide)) C.hh x n _ _ hlen fun t6 h1 tk1 k1 => ?_)
  rw [hpb]
  have e1 : (W == W) = true := by simp
  repeat' ((fail_if_success (with_reducible show Q _ _)); first | walk1 | (dsimp only; walk1))
  all_goals first | exact hQ _ _ (Y.keeps k1) k1.pres | (exfalso; rename_i hbad; simp at hbad)
end

/-! comprehensions seen from the heap ahead of them -/
theorem kb_old {h1 h2 h3 : Heap} {I : Addr} (k : Keeps h1 h2) (hI : h1.objs.size ≤ I) (kb : KeepsBut [I] h2 h3) : Keeps h1 h3 := fun b o e => kb b o (fun hb => by
  rw [List.mem_singleton.mp hb] at e
  exact absurd (Heap.lt_size e) (Nat.not_lt.mpr hI)) (k b o e)
theorem Rd.of_eq {e e' : Env} {h : Heap} {x : Str} {v : Value} (q : e = e') (r : Rd e' h x v) : Rd e h x v := q ▸ r
/-- what an iterable gives: a walk over n values, all older objects kept -/
def IterK (prog : Program) (w : World) (A : Around) (s : Shared) (n : Nat) (P : Nat → Value → Prop) (it : Value) (s₂ : Shared) : Prop :=
  ∃ I fp St, it = .ref I ∧ Walks prog w A I fp [I] n P St ∧ St 0 s₂.heap ∧ (∀ b ∈ fp, b < s₂.heap.objs.size) ∧ (∀ i h, St i h → ∀ b ∈ [I], ∃ o, h.get? b = some o ∧ NotTup o) ∧ Same s s₂ ∧ Keeps s.heap s₂.heap ∧ s.heap.objs.size ≤ I
section
variable {prog : Program} {w : World} {A : Around} {s : Shared} {env : Env} {n : Nat} {P : Nat → Value → Prop}
theorem fresh_none {h h' : Heap} {D : Addr} (k : Keeps h h') (e : h'.get? D = none) : h.get? D = none := by
  cases q : h.get? D with
  | none => rfl
  | some o => rw [k _ _ q] at e; cases e
theorem compK {elt iter : Expr} {x : Str} {px : Pos} {ifs : List Expr} {scope : Scope} {cl : List (Str × Addr)} {pos : Pos} {Q : Value → Shared → Prop} (Good : Nat → List Value → Heap → Prop) (hn : n ≤ 1000)
    (hit : wpAny (model prog w) A (eval iter env) (fun xv s₁ => wpAny (model prog w) A (pyIter xv) (IterK prog w A s n P) NoE s₁) NoE s)
    (hG : ∀ i ys h h', Good i ys h → TupKeep h h' → Good i ys h') (hg0 : ∀ h, Good 0 [] h)
    (hclos : closureFor scope env = pure cl) (hcell : ∀ y ∈ scope.names, y.2 ≠ .cell) (hkind : scope.kind = .function)
    (hnames : ∀ y ∈ scope.names, y.2 = .local → scope.names.lookup y.1 = some .local) (hx : scope.names.lookup x = some .local)
    (step : ∀ C cenv i v ys s₃ m₃, cenv = compEnvC scope cl C env → s.heap.objs.size ≤ C → i < n → P i v → Same s s₃ → s₃.heap.Ns C m₃ → m₃ x = some v → Keeps s.heap s₃.heap → s.toks ≤ s₃.toks → Good i ys s₃.heap → CompTurnOk prog w A cenv ifs elt Good i ys s₃)
    (hQ : ∀ D h' tk ys n', s.heap.get? D = none → h'.get? D = some (lstO ys n') → Keeps s.heap h' → Good n ys h' → Q (.ref D) { s with heap := h', toks := tk })
    (hs : ∀ x, foldedSetIterable iter env x = pure x := by intro _; rfl) :
    wpAny (model prog w) A (eval (.ListComp elt [⟨.Name x px, iter, ifs, 0⟩] scope pos) env) Q NoE s := by
  refine comp1 Good hG hclos hcell hkind hnames hx ?_ hs
  refine wpAny_mono (wpAny_toks hit) (fun xv s₁ h₁ => wpAny_mono (wpAny_toks h₁.2) (fun it s₂ h₂ => ?_) fun _ _ e => e) fun _ _ e => e
  obtain ⟨hle2, I, fp, St, rfl, W, hst, hfp, hnt, hsm, hk, hI⟩ := h₂
  have hle : s.toks ≤ s₂.toks := Nat.le_trans h₁.1 hle2
  have hsz : s.heap.objs.size ≤ s₂.heap.objs.size := Nat.le_of_lt (Nat.lt_of_le_of_lt hI (hfp I (W.sub I (.head _))))
  refine ⟨I, fp, [I], n, P, St, rfl, W, hn, hst, hfp, hnt, hg0 _, ?_, ?_⟩
  · intro C i v ys s₃ m₃ hC hi hP hsm3 hle3 hns hm hk3 hg
    exact step C _ i v ys s₃ m₃ rfl (Nat.le_trans hsz hC) hi hP (hsm.trans hsm3) hns hm (kb_old hk hI hk3) (Nat.le_trans hle hle3) hg
  · intro D h' tk ys n' hD hD' hk' hg
    obtain ⟨h2, tk2, rfl⟩ := hsm
    exact hQ D h' tk ys n' (fresh_none hk hD) hD' (kb_old hk hI hk') hg
theorem compKA {elt iter : Expr} {x y : Str} {px py : Pos} {ifs : List Expr} {scope : Scope} {cl : List (Str × Addr)} {pos spos : Pos} {Q : Flow → Shared → Prop} {m : Str → Option Value} (Good : Nat → List Value → Heap → Prop) (hn : n ≤ 1000)
    (hsw : swapsWith (.ListComp elt [⟨.Name x px, iter, ifs, 0⟩] scope pos) (some (.Name y py)) spos.line env = pure true)
    (hy : env.kindOf y = some .local) (hp : (env.scope.kind == .class || (env.scope.kind == .module && env.locals != env.globals)) = false) (hm : s.heap.Ns env.locals m)
    (hit : wpAny (model prog w) A (eval iter env) (fun xv s₁ => wpAny (model prog w) A (pyIter xv) (IterK prog w A s n P) NoE s₁) NoE s)
    (hG : ∀ i ys h h', Good i ys h → TupKeep h h' → Good i ys h') (hg0 : ∀ h, Good 0 [] h)
    (hclos : closureFor scope env = pure cl) (hcell : ∀ y ∈ scope.names, y.2 ≠ .cell) (hkind : scope.kind = .function)
    (hnames : ∀ y ∈ scope.names, y.2 = .local → scope.names.lookup y.1 = some .local) (hx : scope.names.lookup x = some .local)
    (step : ∀ C cenv i v ys s₃ m₃, cenv = compEnvC scope cl C env → s.heap.objs.size ≤ C → i < n → P i v → Same s s₃ → s₃.heap.Ns C m₃ → m₃ x = some v → Keeps s.heap s₃.heap → s.toks ≤ s₃.toks → Good i ys s₃.heap → CompTurnOk prog w A cenv ifs elt Good i ys s₃)
    (hQ : ∀ D h' tk ys n', s.heap.get? D = none → h'.get? D = some (lstO ys n') → (∀ b o, b ≠ env.locals → s.heap.get? b = some o → h'.get? b = some o) → h'.Ns env.locals (fun z => if z = y then some (.ref D) else m z) → Good n ys h' → Q .next { s with heap := h', toks := tk })
    (hs : ∀ x, foldedSetIterable iter env x = pure x := by intro _; rfl) :
    wpAny (model prog w) A (exec (.Assign [.Name y py] (.ListComp elt [⟨.Name x px, iter, ifs, 0⟩] scope pos) spos) env) Q NoE s := by
  rw [exec_Assign_Name_used _ _ _ _ hsw]
  refine wpAny_bind (wpAny_standAt (wpAny_bind ?_))
  show wpAny _ A (do let _ ← comprehension (.ListComp elt [⟨.Name x px, iter, ifs, 0⟩] scope pos) scope env _ (newList []) false (eval iter env) (some (assign (.Name y py) env))) _ _ s
  refine wpAny_bind (wpAny_mono (wpAny_comprehension_free (use := some (assign (.Name y py) env)) (Q := fun _ s' => Q .next s') rfl hs hclos hkind hnames
    (wpAny_mono (wpAny_toks hit) (fun xv s₁ h₁ => wpAny_mono (wpAny_toks h₁.2) (fun it s₂ h₂ => ?_) fun _ _ e => e) fun _ _ e => e)) (fun _ s' hq => wpAny_pure (wpAny_pure hq)) fun _ _ e => e)
  obtain ⟨hle2, I, fp, St, rfl, W, hst, hfp, hnt, hsm, hk, hI⟩ := h₂
  have hle : s.toks ≤ s₂.toks := Nat.le_trans h₁.1 hle2
  have hsz0 : s.heap.objs.size ≤ s₂.heap.objs.size := Nat.le_of_lt (Nat.lt_of_le_of_lt hI (hfp I (W.sub I (.head _))))
  refine wpAny_newObj_type (wpAny_newFunctionEnv hcell (by intro y hy; simp at hy) (fun h₁ hns₁ hsb₁ => ?_) hkind)
  dsimp only at hns₁ hsb₁ ⊢
  generalize hH2 : s₂.heap.push { cls := .type "list", dict := none, data := .seq ([] : List Value).toArray } = H2 at hns₁ hsb₁ ⊢
  have hC : H2.objs.size = s₂.heap.objs.size + 1 := by rw [← hH2, Heap.size_push]
  have hDC : s₂.heap.objs.size ≠ H2.objs.size := by rw [hC]; exact Nat.ne_of_lt (Nat.lt_succ_self _)
  have below : ∀ b, b < s₂.heap.objs.size → b ≠ H2.objs.size ∧ b ≠ s₂.heap.objs.size := fun b hb => ⟨by rw [hC]; exact Nat.ne_of_lt (Nat.lt_succ_of_lt hb), Nat.ne_of_lt hb⟩
  have hDf : s₂.heap.objs.size ∉ fp := fun hm => Nat.lt_irrefl _ (hfp _ hm)
  have hCf : H2.objs.size ∉ fp := fun hm => by have := hfp _ hm; rw [hC] at this; exact Nat.lt_irrefl _ (Nat.lt_of_succ_lt this)
  have old : Keeps s₂.heap h₁ := fun b o e => hsb₁.extBut b o (below b (Heap.lt_size e)).1 (Heap.get?_push_of_some _ (hH2 ▸ Heap.get?_push_of_some _ e))
  have hacc : h₁.get? s₂.heap.objs.size = some (lstO [] 0) := hsb₁.extBut _ _ hDC (Heap.get?_push_of_some _ (hH2 ▸ Heap.get?_push_size _ rfl))
  have hst₁ : St 0 h₁ := W.frame _ _ _ hst fun b _ o e => old b o e
  have fresh : ∀ a, s₂.heap.objs.size ≤ a → s₂.heap.get? a = none := fun a ha => by
    cases e : s₂.heap.get? a with
    | none => rfl
    | some o' => exact absurd (Heap.lt_size e) (Nat.not_lt.mpr ha)
  have hDn := fresh s₂.heap.objs.size (Nat.le_refl _)
  have hCn := fresh H2.objs.size (by rw [hC]; exact Nat.le_succ _)
  have hLlt : env.locals < s₂.heap.objs.size := by obtain ⟨o, e, _⟩ := ns_obj hm; exact Heap.lt_size (hk _ _ e)
  have hLC : env.locals ≠ H2.objs.size := (below _ hLlt).1
  have hLD : env.locals ≠ s₂.heap.objs.size := (below _ hLlt).2
  have loop : ∀ s₃ : Shared, s₃ = { s₂ with heap := h₁, toks := s₂.toks + ([] : List (Str × Value)).length } →
      codeAny (model prog w) A (.compLoop (.ListComp elt [⟨.Name x px, iter, ifs, 0⟩] scope pos) 0 (.ref I) (.ref s₂.heap.objs.size) (compEnvC scope cl H2.objs.size env))
        (compPost (model prog w) A NoE (some (assign (.Name y py) env)) (fun _ s' => Q .next s') (.ref s₂.heap.objs.size) H2.objs.size) s₃ := by
    rintro s₃ rfl
    refine compLoop_one (cenv := compEnvC scope cl H2.objs.size env) (h₂ := s₂.heap) W hn (lookup_relabel_local hx) (by simp [compEnvC, relabel, hkind]) hCf hDf hDC hCn hDn hnt hG hst₁
      ⟨_, [], 0, hns₁, hacc, Nat.le_refl _, fun b o _ e => old b o e, hG _ _ _ _ (hg0 s₂.heap) old.tup⟩ (fun i v ys s₃ m₃ hi hv hsm3 hle3 hns hm hk3 hg => step H2.objs.size _ i v ys s₃ m₃ rfl (by rw [hC]; exact Nat.le_succ_of_le hsz0) hi hv ?_ hns hm (kb_old hk hI hk3) (Nat.le_trans hle (Nat.le_trans (by simp) hle3)) hg) fun h tk hinv => ?_
    · exact hsm.trans (Same.trans (Same.to _ _) hsm3)
    · obtain ⟨m', ys, n', hns, hD, _, hkk, hg⟩ := hinv
      have kk : Keeps s.heap h := kb_old hk hI hkk
      show wpAny _ A (assign (.Name y py) env (.ref s₂.heap.objs.size)) _ _ _
      refine wpAny_assign_Name (wpAny_storeName_local hy (hm.keeps kk) (fun h4 hn4 hs4 => ?_) hp)
      refine ⟨m', hns.sameBut hs4 (Ne.symm hLC), fun h5 hs5 => ?_⟩
      obtain ⟨oC, hoC, hdC⟩ := ns_obj (hns.sameBut hs4 (Ne.symm hLC))
      obtain ⟨oL, hoL, hdL⟩ := ns_obj (hm.keeps kk)
      obtain ⟨h2, tk2, rfl⟩ := hsm
      refine hQ _ h5 _ ys n' (fresh_none hk hDn) ((hs5.2 _ hDC).trans ((hs4.2 _ (Ne.symm hLD)).trans hD)) (fun b o hb e => ?_) (hn4.sameBut hs5 hLC) (hG _ _ _ _ hg ((TupKeep.sameBut hoL (NotTup.dict hdL) hs4).trans (TupKeep.sameBut hoC (NotTup.dict hdC) hs5)))
      have e2 := kk b o e
      refine (hs5.2 b (fun q => ?_)).trans ((hs4.2 b hb).trans e2)
      rw [q] at e
      exact nomatch (fresh_none hk hCn).symm.trans e
  exact codeAny_compStart_list (loop _ rfl) (W.self 0 _ _ _ hst₁ (loop _ rfl))
theorem range_iterK {N : Int} {t : Tok} {s0 : Shared} (h0 : 0 ≤ N) (hlo : N < 2 ^ 62) (hs : Same s0 s) (k : Keeps s0.heap s.heap) (hsz : s0.heap.objs.size ≤ s.heap.objs.size) (hh : A.handled = none) :
    wpAny (model prog w) A (call (.type "range") [.int N t]) (fun x s₁ => wpAny (model prog w) A (pyIter x) (IterK prog w A s0 N.toNat (fun i v => ∃ t, v = .int (i : Nat) t)) NoE s₁) NoE s := by
  refine call_range_iter h0 hlo fun I h' tk k' hI hit => ?_
  have W := Walks.range (prog := prog) (w := w) hh I 0 1 N.toNat
  have e : (fun (i : Nat) (v : Value) => ∃ t, v = Value.int (0 + (i : Int) * 1) t) = fun i v => ∃ t, v = Value.int (i : Nat) t := by
    funext i v; rw [show (0 + (i : Int) * 1) = (i : Int) by omega]
  rw [e] at W
  refine ⟨I, [I], _, rfl, W, hit, fun b hb => ?_, fun i h st b hb => ?_, hs.trans (Same.to _ _), k.trans k', Nat.le_trans hsz hI⟩
  · rw [List.mem_singleton.mp hb]; exact Heap.lt_size hit
  · rw [List.mem_singleton.mp hb]; exact ⟨_, st, NotTup.fields rfl⟩
theorem list_iterK {l : Addr} {items : Array Value} {s0 : Shared} (hl : s.heap.IsList l items) (hs : Same s0 s) (k : Keeps s0.heap s.heap) (hsz : s0.heap.objs.size ≤ s.heap.objs.size) (hh : A.handled = none) :
    wpAny (model prog w) A (pyIter (.ref l)) (IterK prog w A s0 items.size (fun i v => items[i]? = some v)) NoE s := by
  refine list_iterG hl fun I h' hlI k' hI _ hit hl2 => ?_
  refine ⟨I, [I, l], _, rfl, Walks.list hh I l hlI items, ⟨hit, hl2⟩, fun b hb => ?_, fun i h st b hb => ?_, hs.trans ⟨h', _, rfl⟩, k.trans k', Nat.le_trans hsz hI⟩
  · rcases List.mem_cons.mp hb with rfl | hb
    · obtain ⟨o, e, _⟩ := hit; exact Heap.lt_size e
    · rw [List.mem_singleton.mp hb]; obtain ⟨o, e, _⟩ := hl2; exact Heap.lt_size e
  · rw [List.mem_singleton.mp hb]
    obtain ⟨o, e, _, hd⟩ := st.1
    exact ⟨o, e, NotTup.fields hd⟩
end
section
variable {prog : Program} {w : World} {A : Around} {s : Shared} {env : Env} {n : Nat} {P : Nat → Value → Prop}
theorem comp2K {elt iter : Expr} {x y c : Str} {px py pc : Pos} {kk : Nat} {scope : Scope} {cl : List (Str × Addr)} {pos : Pos} {Q : Value → Shared → Prop} (Good : Nat → Nat → List Value → Prop) (hn : n * c.cps.size + c.cps.size ≤ 1000)
    (hit : wpAny (model prog w) A (eval iter env) (fun xv s₁ => wpAny (model prog w) A (pyIter xv) (IterK prog w A s n P) NoE s₁) NoE s)
    (hg0 : Good 0 0 []) (hrow : ∀ i ys, Good i c.cps.size ys → Good (i + 1) 0 ys)
    (hclos : closureFor scope env = pure cl) (hcell : ∀ y ∈ scope.names, y.2 ≠ .cell) (hkind : scope.kind = .function)
    (hnames : ∀ y ∈ scope.names, y.2 = .local → scope.names.lookup y.1 = some .local) (hx : scope.names.lookup x = some .local) (hy : scope.names.lookup y = some .local) (hxy : x ≠ y) (hh : A.handled = none) (hasc : c.cps.all (· < 128) = true)
    (step : ∀ C cenv i j v v2 ys s₃ m₃, cenv = compEnvC scope cl C env → i < n → j < c.cps.size → P i v → SignAt c j v2 → Same s s₃ → s₃.heap.Ns C m₃ → m₃ x = some v → m₃ y = some v2 → Keeps s.heap s₃.heap → Good i j ys →
      wpAny (model prog w) (A.mark none) (eval elt cenv) (fun u s₅ => Same s₃ s₅ ∧ Keeps s₃.heap s₅.heap ∧ Good i (j + 1) (ys ++ [u])) NoE s₃)
    (hQ : ∀ D h' tk ys n', s.heap.get? D = none → h'.get? D = some (lstO ys n') → Keeps s.heap h' → Good n 0 ys → Q (.ref D) { s with heap := h', toks := tk })
    (hs : ∀ x, foldedSetIterable iter env x = pure x := by intro _; rfl) :
    wpAny (model prog w) A (eval (twoC elt x px iter y py c kk pc scope pos) env) Q NoE s := by
  refine comp2 (fun i j ys _ => Good i j ys) (fun _ _ _ _ _ h _ => h) (fun i ys _ h => hrow i ys h) hclos hcell hkind hnames hx hy hxy hh hasc ?_ hs
  refine wpAny_mono hit (fun xv s₁ h₁ => wpAny_mono h₁ (fun it s₂ h₂ => ?_) fun _ _ e => e) fun _ _ e => e
  obtain ⟨I, fp, St, rfl, W, hst, hfp, hnt, hsm, hk, hI⟩ := h₂
  refine ⟨I, fp, [I], n, P, St, rfl, W, hn, hst, hfp, hnt, hg0, ?_, ?_⟩
  · intro C i j v v2 ys s₃ m₃ hC hi hj hP hv2 hsm3 hns hm hmy hk3 hg
    exact step C _ i j v v2 ys s₃ m₃ rfl hi hj hP hv2 (hsm.trans hsm3) hns hm hmy (kb_old hk hI hk3) hg
  · intro D h' tk ys n' hD hD' hk' hg
    obtain ⟨h2, tk2, rfl⟩ := hsm
    exact hQ D h' tk ys n' (fresh_none hk hD) hD' (kb_old hk hI hk') hg
end

section
variable {prog : Program} {w : World} {A : Around} {cenv : Env} {elt c : Expr} {Good : Nat → List Value → Heap → Prop} {i : Nat} {ys : List Value} {s₃ : Shared}
theorem turn_plain (h : wpAny (model prog w) A (eval elt cenv) (fun y s₅ => Same s₃ s₅ ∧ Keeps s₃.heap s₅.heap ∧ Good (i + 1) (ys ++ [y]) s₅.heap) NoE s₃) : CompTurnOk prog w A cenv [] elt Good i ys s₃ :=
  wpAny_tests_nil ⟨Same.rfl', Keeps.rfl', by rw [if_pos rfl]; exact h⟩
theorem turn_test (h : wpAny (model prog w) A (isTrue c cenv (eval c cenv)) (fun ok s₄ => Same s₃ s₄ ∧ Keeps s₃.heap s₄.heap ∧
    (if ok = true then wpAny (model prog w) A (eval elt cenv) (fun y s₅ => Same s₄ s₅ ∧ Keeps s₄.heap s₅.heap ∧ Good (i + 1) (ys ++ [y]) s₅.heap) NoE s₄ else Good (i + 1) ys s₄.heap)) NoE s₃) : CompTurnOk prog w A cenv [c] elt Good i ys s₃ :=
  wpAny_tests_one h
end
/-- what is left when one sign is left out, for the first places -/
def outL (W : Str) (n : Nat) : List Str := (List.range n).map fun k => Txt.slice W none (some (k : Nat)) ++ Txt.slice W (some ((k : Nat) + 1)) none
theorem outL_succ (W : Str) (i : Nat) : outL W (i + 1) = outL W i ++ [Txt.slice W none (some (i : Nat)) ++ Txt.slice W (some ((i : Nat) + 1)) none] := by unfold outL; rw [List.range_succ, List.map_append]; rfl
theorem strs_snoc {vs : List Value} {xs : List Str} {x : Str} {t : Tok} (h : StrsAre vs xs) : StrsAre (vs ++ [.str x t]) (xs ++ [x]) := StrsAre.append' h (.cons _ _ .nil)
theorem ints_snoc {vs : List Value} {ns : List Int} {n : Int} {t : Tok} (h : IntsAre vs ns) : IntsAre (vs ++ [.int n t]) (ns ++ [n]) := IntsAre.append h (.cons _ _ .nil)
/-- the places up to n at which a run begins -/
def begAt (W : Str) (k : Nat) : Bool := k == 0 || !(Txt.item W (k : Nat) == Txt.item W ((k : Int) - 1))
def begL (W : Str) : Nat → List Int
  | 0 => []
  | k + 1 => if begAt W k = true then begL W k ++ [(k : Int)] else begL W k
theorem begL_len (W : Str) : ∀ k, (begL W k).length ≤ k
  | 0 => Nat.le_refl _
  | k + 1 => by have := begL_len W k; unfold begL; split <;> simp <;> omega
section
variable {w : World} {A : Around} {s : Shared} {g : Heap} {L : Addr} {ml cl : List (Str × Value)} {mg mb : Str → Option Value} {mean : ExcName → Option Value} {Q : Flow → Shared → Prop}
theorem st_offersB {W : Str} {t1 : Tok} (C : Ctx w A g mg mb mean) (Y : LawAt g s.heap L ml cl) (hx : cl.lookup (Str.ofString "came") = some (.str W t1)) (hlen : W.length ≤ 8)
    (hQ : ∀ h' tk r vs n, LawAt g h' L ml ((Str.ofString "offers", .ref r) :: cl) → Pres s.heap h' → h'.get? r = some (lstO vs n) → StrsAre vs (outL W 8) → Q .next { s with heap := h', toks := tk }) :
    wpAny (model PG w) A (exec (ifB.getD 2 default) (LE L)) Q NoE s := by
  have X := inKp C.X Y.keep
  have T := topKp C.T Y.keep
  have r1 : Rd (LE L) s.heap (Str.ofString "range") (.type "range") := rd_built X T g_range b_range
  have k0 : Keeps s.heap s.heap := Keeps.rfl'
  show wpAny _ _ (exec (Stmt.Assign _ _ _) _) _ _ _
  refine wpAny_Assign_Name ?_
  refine compK (n := 8) (P := fun i v => ∃ t, v = .int (i : Nat) t) (cl := [(Str.ofString "came", L + 8)]) (fun i ys _ => StrsAre ys (outL W i)) (by decide) ?hit (fun _ _ _ _ h _ => h) (fun _ => .nil) rfl (by decide) rfl (by decide) rfl ?step ?hQ
  case hit =>
    generalize LE L = env at r1 ⊢
    repeat' ((fail_if_success (with_reducible show wpAny _ _ (call (Value.type "range") _) _ _ _)); first | walk1 | (dsimp only; walk1))
    exact range_iterK (by decide) (by decide) (Same.to _ _) Keeps.rfl' (Nat.le_refl _) C.hh
  case step =>
    rintro C1 cenv i v ys s₃ m₃ hce hC hi ⟨tv, rfl⟩ hsm hns hmx hk hle hg
    have rk := Rd.of_eq hce (rd_local hns hmx)
    have rc := Rd.of_eq hce (rd_cell (x := Str.ofString "came") (c := L + 8) ((Y.cellC hx).keeps hk))
    refine turn_plain ?_
    clear hce
    have k3 : Keeps s₃.heap s₃.heap := Keeps.rfl'
    repeat' ((fail_if_success (with_reducible show Same _ _ ∧ _)); first | walk1 | (dsimp only; walk1))
    rename Keeps _ _ => kz
    refine ⟨⟨_, _, rfl⟩, kz, ?_⟩
    rw [outL_succ]; exact strs_snoc hg
  case hQ =>
    intro D h' tk ys n' hD hD' hk hg
    refine stC (Y.keeps hk) fun h2 Y2 P2 => ?_
    exact hQ _ _ _ _ _ Y2 (hk.pres.trans P2) (P2 _ _ hD' (.lst _ _)) hg
theorem st_gapsB (C : Ctx w A g mg mb mean) (Y : LawAt g s.heap L ml cl)
    (hQ : ∀ h' tk r vs n, LawAt g h' L ml ((Str.ofString "gaps", .ref r) :: cl) → Pres s.heap h' → h'.get? r = some (lstO vs n) → IntsAre vs [0, 1, 2, 3, 4, 5, 6, 7] → Q .next { s with heap := h', toks := tk }) :
    wpAny (model PG w) A (exec (ifB.getD 3 default) (LE L)) Q NoE s := by
  have X := inKp C.X Y.keep
  have T := topKp C.T Y.keep
  have r1 : Rd (LE L) s.heap (Str.ofString "range") (.type "range") := rd_built X T g_range b_range
  have r2 : Rd (LE L) s.heap (Str.ofString "list") (.type "list") := rd_built X T g_list b_list
  have k0 : Keeps s.heap s.heap := Keeps.rfl'
  show wpAny _ _ (exec (Stmt.Assign _ _ _) _) _ _ _
  refine wpAny_Assign_Name ?_
  generalize hE : LE L = env at r1 r2 ⊢
  repeat' ((fail_if_success (with_reducible show wpAny _ _ (call (Value.type "range") _) _ _ _)); first | walk1 | (dsimp only; walk1))
  refine call_range_1 ?_
  repeat' ((fail_if_success (with_reducible show wpAny _ _ (call (Value.type "list") _) _ _ _)); first | walk1 | (dsimp only; walk1))
  have hsz : Builtin.Range.rangeSize 0 8 1 = ((8 : Nat) : Int) := by decide
  refine call_list_range C.hh (IsRange.new ..) (small_one (by omega) (by omega) (by omega) (by omega)) hsz (by omega) fun h' tk acc' c' hk hS' hacc => ?_
  have kk : Keeps s.heap h' := fun b o e => hk b o (Heap.get?_push_of_some _ e)
  subst hE
  refine stC (Y.keeps kk) fun h2 Y2 P2 => ?_
  refine hQ _ _ _ acc'.toList _ Y2 (kk.pres.trans P2) (P2 _ _ (by simpa using hS') (.lst _ _)) ?_
  have := intsAre_from 8 0 acc'.toList (by simpa using hacc.1) (fun i v hv => hacc.2 i v (by simpa using hv))
  exact this
theorem st_countB {W : Str} {t1 : Tok} (C : Ctx w A g mg mb mean) (Y : LawAt g s.heap L ml cl) (hx : cl.lookup (Str.ofString "came") = some (.str W t1)) (hlen : W.length = 8)
    (hQ : ∀ h' tk t', LawAt g h' L ((Str.ofString "count", .int (begL W 8).length t') :: ml) cl → Pres s.heap h' → Q .next { s with heap := h', toks := tk }) :
    wpAny (model PG w) A (exec (ifB.getD 5 default) (LE L)) Q NoE s := by
  have X := inKp C.X Y.keep
  have T := topKp C.T Y.keep
  have r1 : Rd (LE L) s.heap (Str.ofString "range") (.type "range") := rd_built X T g_range b_range
  have r2 : Rd (LE L) s.heap (Str.ofString "len") (.builtin "len") := rd_built X T g_len b_len
  have k0 : Keeps s.heap s.heap := Keeps.rfl'
  show wpAny _ _ (exec (Stmt.Assign _ _ _) _) _ _ _
  refine wpAny_Assign_Name ?_
  repeat' ((fail_if_success (with_reducible show wpAny _ _ (eval (Expr.ListComp _ _ _ _) _) _ _ _)); first | walk1 | (dsimp only; walk1))
  refine compK (n := 8) (P := fun i v => ∃ t, v = .int (i : Nat) t) (cl := [(Str.ofString "came", L + 8)]) (fun i ys _ => IntsAre ys (begL W i)) (by decide) ?hit (fun _ _ _ _ h _ => h) (fun _ => .nil) rfl (by decide) rfl (by decide) rfl ?step ?hQ
  case hit =>
    generalize LE L = env at r1 ⊢
    repeat' ((fail_if_success (with_reducible show wpAny _ _ (call (Value.type "range") _) _ _ _)); first | walk1 | (dsimp only; walk1))
    exact range_iterK (by decide) (by decide) (Same.to _ _) Keeps.rfl' (Nat.le_refl _) C.hh
  case step =>
    rintro C1 cenv i v ys s₃ m₃ hce hC hi ⟨tv, rfl⟩ hsm hns hmx hk hle hg
    have rk := Rd.of_eq hce (rd_local hns hmx)
    have rc := Rd.of_eq hce (rd_cell (x := Str.ofString "came") (c := L + 8) ((Y.cellC hx).keeps hk))
    refine turn_test ?_
    clear hce
    have k3 : Keeps s₃.heap s₃.heap := Keeps.rfl'
    repeat' ((fail_if_success (with_reducible show Same _ _ ∧ _)); first | walk1 | (dsimp only; walk1))
    · refine ⟨⟨_, _, rfl⟩, k3, ?_⟩
      rw [if_pos rfl]
      have hb : begAt W i = true := by unfold begAt; rw [show i = 0 by omega]; rfl
      refine rd_name rk k3 ⟨⟨_, _, rfl⟩, k3, ?_⟩
      show IntsAre _ (if begAt W i = true then _ else _)
      rw [if_pos hb]; exact ints_snoc hg
    · refine ⟨⟨_, _, rfl⟩, k3, ?_⟩
      rw [if_pos rfl]
      rename (_ != _) = true => hne
      have hb : begAt W i = true := by unfold begAt; rw [Bool.or_eq_true]; exact .inr hne
      refine rd_name rk k3 ⟨⟨_, _, rfl⟩, k3, ?_⟩
      show IntsAre _ (if begAt W i = true then _ else _)
      rw [if_pos hb]; exact ints_snoc hg
    · refine ⟨⟨_, _, rfl⟩, k3, ?_⟩
      rename (_ != _) = false => hne
      have hb : begAt W i = false := by
        unfold begAt; rw [Bool.or_eq_false_iff]
        exact ⟨by simp only [beq_eq_false_iff_ne]; omega, hne⟩
      rw [if_neg Bool.false_ne_true]
      show IntsAre _ (if begAt W i = true then _ else _)
      rw [if_neg (by rw [hb]; exact Bool.false_ne_true)]; exact hg
  case hQ =>
    intro D h' tk ys n' hD hD' hk hg
    have hgl := begL_len W 8
    have e0 : (begL W 8).length < 2 ^ 63 := by omega
    repeat' ((fail_if_success (with_reducible show wpAny _ _ (call (Value.builtin "len") _) _ _ _)); first | walk1 | (dsimp only; walk1))
    refine len_list (items := ys.toArray) (by exact isList_of hD') (by rw [List.size_toArray, hg.length]; omega) ?_
    refine stL (Y.keeps hk) fun h2 Y2 P2 => ?_
    rw [List.size_toArray, hg.length] at Y2
    exact hQ _ _ _ Y2 (hk.pres.trans P2)
end

/-- the offers behind a loss, the first n of them -/
def signS (j : Nat) : Str := ⟨#[97 + j]⟩
def offF (x : Str) (n : Nat) : List Str := (List.range n).map fun k => replF (cutAt x (k / 2)) (signS (k % 2))
def gapF (n : Nat) : List Int := (List.range n).map fun k => ((k / 2 : Nat) : Int)
theorem offF_succ (x : Str) (n : Nat) : offF x (n + 1) = offF x n ++ [replF (cutAt x (n / 2)) (signS (n % 2))] := by unfold offF; rw [List.range_succ, List.map_append]; rfl
theorem gapF_succ (n : Nat) : gapF (n + 1) = gapF n ++ [((n / 2 : Nat) : Int)] := by unfold gapF; rw [List.range_succ, List.map_append]; rfl
theorem sign_ab {j : Nat} {v : Value} (hj : j < 2) (h : SignAt (Str.ofString "ab") j v) : ∃ t, v = .str (signS j) t := by
  obtain ⟨c, u, hc, rfl⟩ := h
  refine ⟨u, ?_⟩
  have hj' : j = 0 ∨ j = 1 := by omega
  have e : (Str.ofString "ab").cps = #[97, 98] := by decide
  rcases hj' with rfl | rfl
  · rw [e] at hc; simp at hc; rw [← hc]; rfl
  · rw [e] at hc; simp at hc; rw [← hc]; rfl
theorem ab_asc : (Str.ofString "ab").cps.all (· < 128) = true := by rw [show (Str.ofString "ab").cps = #[97, 98] by decide]; decide +kernel
theorem cutAt_len (x : Str) (k : Nat) : (cutAt x k).length ≤ 2 * x.length + 1 := by
  have a := PyProof.Txt.length_slice_le x none (some (k : Nat))
  have b := PyProof.Txt.length_slice_le x (some (k : Nat)) none
  have e1 : (Str.ofString "-").length = 1 := by decide
  unfold cutAt
  rw [Str.length_append, Str.length_append]
  omega
section
variable {w : World} {A : Around} {s : Shared} {g : Heap} {L : Addr} {ml cl : List (Str × Value)} {mg mb : Str → Option Value} {mean : ExcName → Option Value} {Q : Flow → Shared → Prop}
theorem st_gapsA (C : Ctx w A g mg mb mean) (Y : LawAt g s.heap L ml cl)
    (hQ : ∀ h' tk r vs n, LawAt g h' L ml ((Str.ofString "gaps", .ref r) :: cl) → Pres s.heap h' → h'.get? r = some (lstO vs n) → IntsAre vs (gapF 14) → Q .next { s with heap := h', toks := tk }) :
    wpAny (model PG w) A (exec (ifA.getD 3 default) (LE L)) Q NoE s := by
  have X := inKp C.X Y.keep
  have T := topKp C.T Y.keep
  have r1 : Rd (LE L) s.heap (Str.ofString "range") (.type "range") := rd_built X T g_range b_range
  have k0 : Keeps s.heap s.heap := Keeps.rfl'
  have e2 : (Str.ofString "ab").cps.size = 2 := by decide
  show wpAny _ _ (exec (Stmt.Assign _ _ _) _) _ _ _
  refine wpAny_Assign_Name ?_
  refine comp2K (n := 7) (P := fun i v => ∃ t, v = .int (i : Nat) t) (cl := []) (fun i j ys => IntsAre ys (gapF (2 * i + j))) (by rw [e2]; decide) ?hit .nil (fun i ys h => by rw [e2] at h; exact h) rfl (by decide) rfl (by decide) rfl rfl (by decide) C.hh ab_asc ?step ?hQ
  case hit =>
    generalize LE L = env at r1 ⊢
    repeat' ((fail_if_success (with_reducible show wpAny _ _ (call (Value.type "range") _) _ _ _)); first | walk1 | (dsimp only; walk1))
    exact range_iterK (by decide) (by decide) (Same.to _ _) Keeps.rfl' (Nat.le_refl _) C.hh
  case step =>
    rintro C1 cenv i j v v2 ys s₃ m₃ hce hi hj ⟨tv, rfl⟩ hv2 hsm hns hmx hmy hk hg
    have rk := Rd.of_eq hce (rd_local hns hmx)
    refine rd_name rk Keeps.rfl' ⟨Same.rfl', Keeps.rfl', ?_⟩
    rw [e2] at hj
    rw [show 2 * i + (j + 1) = (2 * i + j) + 1 by omega, gapF_succ, show (2 * i + j) / 2 = i by omega]
    exact ints_snoc hg
  case hQ =>
    intro D h' tk ys n' hD hD' hk hg
    refine stC (Y.keeps hk) fun h2 Y2 P2 => ?_
    exact hQ _ _ _ _ _ Y2 (hk.pres.trans P2) (P2 _ _ hD' (.lst _ _)) hg
theorem st_offersA {x : Str} {t1 : Tok} (C : Ctx w A g mg mb mean) (Y : LawAt g s.heap L ml cl) (hx : cl.lookup (Str.ofString "short") = some (.str x t1)) (hlen : x.length ≤ 7)
    (hQ : ∀ h' tk r vs n, LawAt g h' L ml ((Str.ofString "offers", .ref r) :: cl) → Pres s.heap h' → h'.get? r = some (lstO vs n) → StrsAre vs (offF x 14) → Q .next { s with heap := h', toks := tk }) :
    wpAny (model PG w) A (exec (ifA.getD 2 default) (LE L)) Q NoE s := by
  have X := inKp C.X Y.keep
  have T := topKp C.T Y.keep
  have r1 : Rd (LE L) s.heap (Str.ofString "range") (.type "range") := rd_built X T g_range b_range
  have k0 : Keeps s.heap s.heap := Keeps.rfl'
  have e2 : (Str.ofString "ab").cps.size = 2 := by decide
  show wpAny _ _ (exec (Stmt.Assign _ _ _) _) _ _ _
  refine wpAny_Assign_Name ?_
  refine comp2K (n := 7) (P := fun i v => ∃ t, v = .int (i : Nat) t) (cl := [(Str.ofString "short", L + 5)]) (fun i j ys => StrsAre ys (offF x (2 * i + j))) (by rw [e2]; decide) ?hit .nil (fun i ys h => by rw [e2] at h; exact h) rfl (by decide) rfl (by decide) rfl rfl (by decide) C.hh ab_asc ?step ?hQ
  case hit =>
    generalize LE L = env at r1 ⊢
    repeat' ((fail_if_success (with_reducible show wpAny _ _ (call (Value.type "range") _) _ _ _)); first | walk1 | (dsimp only; walk1))
    exact range_iterK (by decide) (by decide) (Same.to _ _) Keeps.rfl' (Nat.le_refl _) C.hh
  case step =>
    rintro C1 cenv i j v v2 ys s₃ m₃ hce hi hj ⟨tv, rfl⟩ hv2 hsm hns hmx hmy hk hg
    rw [e2] at hj
    obtain ⟨t2, rfl⟩ := sign_ab hj hv2
    have X3 := inKp X hk
    have T3 := topKp T hk
    have rk := Rd.of_eq hce (rd_local hns hmx)
    have rs := Rd.of_eq hce (rd_local hns hmy)
    have rx := Rd.of_eq hce (rd_cell (x := Str.ofString "short") (c := L + 5) ((Y.cellC hx).keeps hk))
    have rp := Rd.of_eq hce (rd_own X3 T3 g_replace)
    clear hce
    have k3 : Keeps s₃.heap s₃.heap := Keeps.rfl'
    have e1 : (Str.ofString "-").length = 1 := by decide
    repeat' ((fail_if_success (with_reducible show wpAny _ _ (call (Value.ref _) _) _ _ _)); first | walk1 | (dsimp only; walk1))
    rename Keeps _ _ => kz
    refine wpAny_call (replace_call (inKp X3 kz) (topKp T3 kz) (Nat.lt_trans C.hd (by decide)) C.hh (cutAt x i) (signS j) _ _ _ (Nat.le_trans (cutAt_len x i) (by omega)) (show 1 ≤ 16 by decide) fun t6 h6 tk6 k6 => ?_)
    refine ⟨⟨_, _, rfl⟩, kz.trans k6, ?_⟩
    rw [show 2 * i + (j + 1) = (2 * i + j) + 1 by omega, offF_succ, show (2 * i + j) / 2 = i by omega, show (2 * i + j) % 2 = j by omega]
    exact strs_snoc hg
  case hQ =>
    intro D h' tk ys n' hD hD' hk hg
    refine stC (Y.keeps hk) fun h2 Y2 P2 => ?_
    exact hQ _ _ _ _ _ Y2 (hk.pres.trans P2) (P2 _ _ hD' (.lst _ _)) hg
end

/-- the row of triples: gap, offer, the offer's seal -/
def SealedAt (h : Heap) (vs : List Value) (gp : List Int) (of : List Str) (sh lv b0 tc n : Nat) : Prop :=
  vs.length = n ∧ ∀ (j : Nat) (v : Value), vs[j]? = some v → ∃ lo hi, b0 ≤ lo ∧ TripAt h v (gp.getD j 0) (of.getD j default) (hueN (of.getD j default)) sh lv lo hi tc
theorem SealedAt.tup {h h' : Heap} {vs : List Value} {gp : List Int} {of : List Str} {sh lv b0 tc n : Nat} (x : SealedAt h vs gp of sh lv b0 tc n) (k : TupKeep h h') : SealedAt h' vs gp of sh lv b0 tc n :=
  ⟨x.1, fun j v e => let ⟨lo, hi, a, b⟩ := x.2 j v e; ⟨lo, hi, a, b.tup k⟩⟩
theorem SealedAt.snoc {h : Heap} {vs : List Value} {gp : List Int} {of : List Str} {sh lv b0 tc n lo hi : Nat} {v : Value} (x : SealedAt h vs gp of sh lv b0 tc n) (hl : b0 ≤ lo) (hv : TripAt h v (gp.getD n 0) (of.getD n default) (hueN (of.getD n default)) sh lv lo hi tc) : SealedAt h (vs ++ [v]) gp of sh lv b0 tc (n + 1) := by
  refine ⟨by simp [x.1], fun j u e => ?_⟩
  by_cases hj : j < vs.length
  · rw [List.getElem?_append_left hj] at e; exact x.2 j u e
  · rw [List.getElem?_append_right (Nat.not_lt.mp hj)] at e
    have hj2 : j = n := by
      cases hq : j - vs.length with
      | zero => have := x.1; omega
      | succ q => rw [hq] at e; simp at e
    subst hj2
    rw [← x.1, Nat.sub_self] at e
    simp at e
    subst e
    exact ⟨lo, hi, hl, hv⟩
section
variable {w : World} {A : Around} {s : Shared} {g : Heap} {L : Addr} {ml cl : List (Str × Value)} {mg mb : Str → Option Value} {mean : ExcName → Option Value} {Q : Flow → Shared → Prop}
theorem st_sealed {ra rb : Addr} {va vb : List Value} {na nb : Nat} {gp : List Int} {of : List Str} {sh lv : Nat} {t2 t3 : Tok} (C : Ctx w A g mg mb mean) (Y : LawAt g s.heap L ml cl) (hga : cl.lookup (Str.ofString "gaps") = some (.ref ra)) (hof : cl.lookup (Str.ofString "offers") = some (.ref rb))
    (hsh : cl.lookup (Str.ofString "share") = some (.float (q4 sh) t2)) (hlv : cl.lookup (Str.ofString "level") = some (.float (q4 lv) t3)) (hs : sh < 4) (hl : lv < 4)
    (ea : s.heap.get? ra = some (lstO va na)) (eb : s.heap.get? rb = some (lstO vb nb)) (ia : IntsAre va gp) (ib : StrsAre vb of) (hlen : gp.length = of.length) (hsz : of.length ≤ 14) (hol : ∀ x ∈ of, x.length ≤ 8)
    (hQ : ∀ h' tk r vs n, LawAt g h' L ((Str.ofString "sealed", .ref r) :: ml) cl → Pres s.heap h' → h'.get? r = some (lstO vs n) → SealedAt h' vs gp of sh lv s.toks t3 of.length → Q .next { s with heap := h', toks := tk }) :
    wpAny (model PG w) A (exec (forBody.getD 1 default) (LE L)) Q NoE s := by
  have X := inKp C.X Y.keep
  have T := topKp C.T Y.keep
  have r1 : Rd (LE L) s.heap (Str.ofString "range") (.type "range") := rd_built X T g_range b_range
  have r2 : Rd (LE L) s.heap (Str.ofString "len") (.builtin "len") := rd_built X T g_len b_len
  have r3 := Y.rdC _ hof
  have k0 : Keeps s.heap s.heap := Keeps.rfl'
  have hvb := ib.length
  have hva := ia.length
  obtain ⟨m, F, em⟩ := Y.fr
  show wpAny _ _ (exec (Stmt.Assign _ _ _) _) _ _ _
  refine compKA (n := vb.length) (P := fun i v => ∃ t, v = .int (i : Nat) t) (m := m) (fun i ys h => SealedAt h ys gp of sh lv s.toks t3 i) (by omega) ?hsw rfl rfl F.ns ?hit (fun _ _ _ _ h k => h.tup k) (fun _ => ⟨rfl, fun j v e => by simp at e⟩) rfl (by decide) rfl (by decide) rfl ?step ?hQ
  case hsw => with_unfolding_all rfl
  case hit =>
    generalize LE L = env at r1 r2 r3 ⊢
    repeat' ((fail_if_success (with_reducible show wpAny _ _ (call (Value.builtin "len") _) _ _ _)); first | walk1 | (dsimp only; walk1))
    refine len_list (items := vb.toArray) (by exact isList_of eb) (by rw [List.size_toArray]; omega) ?_
    repeat' ((fail_if_success (with_reducible show wpAny _ _ (call (Value.type "range") _) _ _ _)); first | walk1 | (dsimp only; walk1))
    refine range_iterK (by omega) (by rw [List.size_toArray]; omega) (Same.to _ _) Keeps.rfl' (Nat.le_refl _) C.hh
  case step =>
    rintro C1 cenv i v ys s₃ m₃ hce hC hi ⟨tv, rfl⟩ hsm hns hmx hk hle hg
    have X3 := inKp X hk
    have T3 := topKp T hk
    have rk := Rd.of_eq hce (rd_local hns hmx)
    have ra' := Rd.of_eq hce (rd_cell (x := Str.ofString "gaps") (c := L + 7) ((Y.cellC hga).keeps hk))
    have rb' := Rd.of_eq hce (rd_cell (x := Str.ofString "offers") (c := L + 6) ((Y.cellC hof).keeps hk))
    have rc' := Rd.of_eq hce (rd_cell (x := Str.ofString "share") (c := L + 3) ((Y.cellC hsh).keeps hk))
    have rd' := Rd.of_eq hce (rd_cell (x := Str.ofString "level") (c := L + 4) ((Y.cellC hlv).keeps hk))
    have rp := Rd.of_eq hce (rd_own X3 T3 g_seal)
    clear hce
    have la := isList_of (hk _ _ ea)
    have lb := isList_of (hk _ _ eb)
    obtain ⟨ta, hxa⟩ := IntsAre.int_at ia i _ (getElem?_pos va i (by omega))
    have hya : va[i]? = some (.int (gp.getD i 0) ta) := by rw [getElem?_pos va i (by omega), hxa]
    have hoi : of[i]? = some (of.getD i default) := by rw [List.getD_eq_getElem?_getD, getElem?_pos of i (by omega)]; rfl
    obtain ⟨tb, hyb⟩ := StrsAre.at ib hoi
    have hlx := hol _ (List.mem_of_getElem? hoi)
    have k3 : Keeps s₃.heap s₃.heap := Keeps.rfl'
    refine turn_plain ?_
    repeat' ((fail_if_success (with_reducible show wpAny _ _ (subscriptTail _ _ (Value.ref _) (Value.int _ _)) _ _ _)); first | walk1 | (dsimp only; walk1))
    refine kitem_list k3 la (by omega) (by omega) hya ?_
    repeat' ((fail_if_success (with_reducible show wpAny _ _ (subscriptTail _ _ (Value.ref _) (Value.int _ _)) _ _ _)); first | walk1 | (dsimp only; walk1))
    refine kitem_list k3 lb (by omega) (by omega) hyb ?_
    repeat' ((fail_if_success (with_reducible show wpAny _ _ (subscriptTail _ _ (Value.ref _) (Value.int _ _)) _ _ _)); first | walk1 | (dsimp only; walk1))
    refine kitem_list k3 lb (by omega) (by omega) hyb ?_
    repeat' ((fail_if_success (with_reducible show wpAny _ _ (call (Value.ref _) _) _ _ _)); first | walk1 | (dsimp only; walk1))
    refine wpAny_call (seal_call X3 T3 (Nat.lt_trans C.hd (by decide)) C.hh (of.getD i default) sh lv _ _ _ hlx hs fun v2 h2 tk2 a2 b2 d2 k2 S2 e2 => ?_)
    have S3 := seal_at hlx hs hl S2 e2
    repeat' ((fail_if_success (with_reducible show Same _ _ ∧ _)); first | walk1 | (dsimp only; walk1))
    rename_i D4 h4 k4 kk4 l4 e4
    exact ⟨⟨_, _, rfl⟩, k4, (hg.tup k4.tup).snoc (lo := s₃.toks) (hi := tk2) hle ⟨_, _, _, _, rfl, e4, S3.tup (Keeps.tup kk4)⟩⟩
  case hQ =>
    intro D h' tk ys n' hD hD' hk hn' hg
    obtain ⟨Y2, P2⟩ := Y.setL F em hn' hk
    exact hQ _ _ _ _ _ Y2 P2 hD' (by rw [← hvb]; exact hg)
end

/-! the lambda: made (its code object once), called -/
theorem ns_none_of {K : Frag} {h : Heap} {a : Addr} {mg : Str → Option Value} {n : Str} (X : K.In h) (G : h.Ns a mg) (e : nsIn K a n = some none) : mg n = none := by
  obtain ⟨o, es, ep, ho, hd, _, hf⟩ := G
  unfold nsIn at e
  split at e
  · rename_i c d es' n' sl q
    have := X _ _ q
    rw [ho] at this
    cases this
    cases hd
    split at e
    · cases e
    · rename_i he
      rw [← hf]
      unfold nsFind findBy
      rw [← Array.find?_toList, he]
      rfl
  · cases e
theorem g_book (w : World) : nsIn (KH w) cStatics sharingNotToldKey = some none := by kernel_rfl!
theorem noBook {w : World} {h : Heap} {p : Program} {loose : List Str} {mg mb : Str → Option Value} {mean : ExcName → Option Value} (X : (KH w).In h) (T : Top p loose mean mg mb h) : NoneBooked h :=
  let ⟨mc, a, _⟩ := T.nolimit; ⟨mc, a, ns_none_of X a (g_book w)⟩
theorem code86 {w : World} {h : Heap} (X : (KH w).In h) : CodeHd h 88 86 := codeHd_of_K X (by kernel_rfl!)
theorem LawAt.butTab {g h h' : Heap} {L : Addr} {ml cl : List (Str × Value)} (Y : LawAt g h L ml cl) (sub : ∀ b o, b ≠ 86 → h.get? b = some o → h'.get? b = some o) (ht : TabAt h') : LawAt g h' L ml cl := by
  obtain ⟨⟨m, F, em⟩, ⟨cv, hcv, ecv⟩, ⟨ps, et, _⟩, hf⟩ := Y
  obtain ⟨oL, hoL, es, ep, hdL⟩ := ns_obj F.ns
  have hL : L ≠ 86 := fun q => by rw [q, et] at hoL; cases hoL; cases hdL
  refine ⟨⟨m, ⟨F.ns.at' fun o e => sub _ o hL e, fun b o e => sub b o (fun q => by rw [q, hf] at e; cases e) (F.keep b o e), F.above⟩, em⟩, ⟨cv, fun y d hd => ?_, ecv⟩, ht, hf⟩
  obtain ⟨o, e, d'⟩ := hcv y d hd
  exact ⟨o, sub _ _ (fun q => by rw [q, et] at e; cases e; cases d') e, d'⟩
section
variable {M : Model} {w : World} {A : Around} {E : Value → Shared → Prop} {s : Shared} {g : Heap} {L : Addr} {ml cl : List (Str × Value)} {mg mb : Str → Option Value} {mean : ExcName → Option Value}
theorem lam_make {params : Arguments} {body : Expr} {scope : Scope} {pos : Pos} {clos : List (Str × Addr)} {Q : Value → Shared → Prop} (X : (KH w).In s.heap) (T : Top topProg LN mean mg mb s.heap) (Y : LawAt g s.heap L ml cl) (hcl : closureFor scope (LE L) = pure clos) (hdef : defaultsOf params (LE L) = ([], []))
    (hp1 : pos.line = 146) (hp2 : pos.col = 38)
    (hQ : ∀ f c' pm ctv h' tk, LawAt g h' L ml cl → (∀ b o, b ≠ 86 → s.heap.get? b = some o → h'.get? b = some o) → h'.get? f = some (kla_obj "<lambda>" lamQual params body scope clos pm c' ctv) → h'.CodeRec (.ref c') lamQual → Q (.ref f) { s with heap := h', toks := tk }) :
    wpAny M A (eval (.Lambda params body scope pos) (LE L)) Q E s := by
  refine kla_eval hdef ?_
  obtain ⟨ps, hP, hps⟩ := Y.tab
  obtain ⟨bm, ob, b1, b2, b3, b4, b5, b6⟩ := T.bmain
  have hgP : mainGlobals ≠ 86 := by decide
  have hbP : bm ≠ 86 := fun q => by rw [q, hP] at b3; cases b3; cases b4
  have hbG : bm ≠ mainGlobals := fun q => by
    obtain ⟨o, es, ep, e, hd, _⟩ := T.g
    rw [q, e] at b3; cases b3; rw [hd] at b6; cases b6
  have hb : s.heap.BuiltinsAt mg 86 := ⟨bm, ob, b1, b2, hbG, hbP, b3, b4, b5, b6⟩
  rcases hps with rfl | ⟨c', rfl, hrec⟩
  · refine kla_makeFunction (mg := mg) (P := 86) (c := 88) (ps := #[]) hcl rfl T.g rfl (code86 X) hP trivial rfl hgP hb fun c' ctv h' tk hx hge hlt hrec htb => ?_
    rw [hp1, hp2] at htb
    have sub : ∀ b o, b ≠ 86 → s.heap.get? b = some o → (h'.push (kla_obj "<lambda>" ((LE L).qual ++ "<lambda>") params body scope clos ((mg "__name__").getD .none) c' ctv)).get? b = some o := fun b o hb e => Heap.get?_push_of_some _ (hx b o hb e)
    obtain ⟨c2, oc, vs, t, e1, e2, e3, e4⟩ := hrec
    have hrec2 : Heap.CodeRec (h'.push (kla_obj "<lambda>" ((LE L).qual ++ "<lambda>") params body scope clos ((mg "__name__").getD .none) c' ctv)) (.ref c') lamQual := ⟨c2, oc, vs, t, e1, Heap.get?_push_of_some _ e2, e3, e4⟩
    exact hQ _ c' _ ctv _ tk (Y.butTab sub ⟨_, Heap.get?_push_of_some _ htb, .inr ⟨c', by simp, hrec2⟩⟩) sub (Heap.get?_push_size _ rfl) hrec2
  · refine kla_makeFunctionHit (mg := mg) (P := 86) (c := 88) (cv := .ref c') hcl rfl T.g rfl (code86 X) hP (by simp [TriplesOk, rawInt]) (by simp [codeAmong, rawInt, hp1, hp2]) hb fun ctv h' tk hk hge => ?_
    have kk : Keeps s.heap (h'.push (kla_obj "<lambda>" ((LE L).qual ++ "<lambda>") params body scope clos ((mg "__name__").getD .none) c' ctv)) := fun b o e => Heap.get?_push_of_some _ (hk b o e)
    refine hQ _ c' _ ctv _ tk (Y.keeps kk) (fun b o _ e => kk b o e) (Heap.get?_push_size _ rfl) ?_
    obtain ⟨c2, oc, vs, t, e1, e2, e3, e4⟩ := hrec
    exact ⟨c2, oc, vs, t, e1, kk _ _ e2, e3, e4⟩
end

abbrev lamE : Expr := match forBody.getD 2 default with | .Assign _ (.Call _ (_ :: l :: _) _ _) _ => l | _ => default
abbrev lamP : Arguments := match lamE with | .Lambda p _ _ _ => p | _ => default
abbrev lamB : Expr := match lamE with | .Lambda _ b _ _ => b | _ => default
abbrev lamS : Scope := match lamE with | .Lambda _ _ s _ => s | _ => default
section
variable {w : World} {A : Around} {s : Shared} {mg mb : Str → Option Value} {mean : ExcName → Option Value}
theorem lam_call {f c' L : Addr} {pm ctv v sr : Value} {k : Int} {u : Str} {c d sh lv lo hi lo' hi' tc : Nat} (X : (KH w).In s.heap) (T : Top topProg LN mean mg mb s.heap) (hroom : A.depth < 900) (hh : A.handled = none) (hu : A.units < 200)
    (ho : s.heap.get? f = some (kla_obj "<lambda>" lamQual lamP lamB lamS [(Str.ofString "seal", L + 10)] pm c' ctv)) (hrec : s.heap.CodeRec (.ref c') lamQual) (hc10 : s.heap.IsCell (L + 10) (some sr))
    (hv : TripAt s.heap v k u c sh lv lo hi tc) (hse : SealAt s.heap sr d sh lv lo' hi' tc) (hc : c < 8) (hd : d < 8) (hs : sh < 4) (hl : lv < 4) (h0 : 0 < tc) (h1 : tc < lo') (h2 : lo' ≤ hi') (h3 : hi' ≤ lo) :
    codeAny (model PG w) A (.call (.ref f) ⟨[v], []⟩) (fun r s'' => r = .ok (.ret (.bool (decide (c = d)))) ∧ Same s s'' ∧ Keeps s.heap s''.heap) s := by
  refine kla_callFunE (Nat.lt_trans hroom (by decide)) ho rfl rfl rfl rfl hrec ?_
  have hb : bindArgs (kla_fn "<lambda>" lamQual lamP lamB lamS [(Str.ofString "seal", L + 10)] pm (.ref c') ctv) ⟨[v], []⟩ = pure [(Str.ofString "one", v)] := by rfl
  rw [hb]
  have hcells : ∀ x ∈ lamS.names, x.2 ≠ NameKind.cell := by decide
  refine wpAny_pure (wpAny_newFunctionEnv hcells (locs rfl) (fun h₁ hns hsb => ⟨(T.nolimit).fresh _ hsb, ?_⟩) rfl)
  show codeAny _ _ (.expr lamB (envX lamQual lamS s.heap.objs.size f (.ref c') [(Str.ofString "seal", L + 10)])) _ _
  have k1 : Keeps s.heap h₁ := fun b o e => hsb.extBut b o (Nat.ne_of_lt (Heap.lt_size e)) (Heap.get?_push_of_some _ e)
  refine kla_codeExpr ?_
  have hns' : h₁.Ns s.heap.objs.size (fun x => List.lookup x [(Str.ofString "one", v)].reverse) := hns
  have ro : Rd (envX lamQual lamS s.heap.objs.size f (.ref c') [(Str.ofString "seal", L + 10)]) h₁ (Str.ofString "one") v := rd_local hns' rfl
  have rs : Rd (envX lamQual lamS s.heap.objs.size f (.ref c') [(Str.ofString "seal", L + 10)]) h₁ (Str.ofString "seal") sr := rd_free (c := L + 10) (hc10.keeps k1)
  obtain ⟨r, t1, t2, sv, rfl, eo, S⟩ := hv
  show wpAny _ _ (eval (Expr.Compare _ _ _ _) _) _ _ _
  generalize hAA : A.deeper _ = A2
  have hu2 : A2.units + 10 < cLine := by rw [← hAA, units_deeper, cLine_is]; omega
  clear hAA
  generalize envX _ _ _ _ _ _ = env at ro rs ⊢
  have kz : Keeps h₁ h₁ := Keeps.rfl'
  repeat' ((fail_if_success (with_reducible show wpAny _ _ (compareOp _ _ _) _ _ _)); (fail_if_success (with_reducible show wpAny _ _ (subscriptTail _ _ _ _) _ _ _)); first | walk1 | (dsimp only; walk1))
  refine kitem_tup (j := 2) kz (k1 _ _ eo) (by decide) (by decide) rfl rfl ?_
  repeat' ((fail_if_success (with_reducible show wpAny _ _ (compareOp _ _ _) _ _ _)); first | walk1 | (dsimp only; walk1))
  refine rcAt_seal (A := A2) (noBook (inKp X k1) (topKp T k1)) (by omega) hc hd hs hl h0 h1 h2 h3 (S.tup k1.tup) (hse.tup k1.tup) _ _ _ _ ?_
  exact ⟨rfl, ⟨_, _, rfl⟩, k1⟩
end

section
variable {w : World} {A : Around} {s : Shared} {g : Heap} {L : Addr} {ml cl : List (Str × Value)} {mg mb : Str → Option Value} {mean : ExcName → Option Value} {Q : Flow → Shared → Prop}
theorem st_split {rs : Addr} {sr : Value} {vs : List Value} {nn : Nat} {gp : List Int} {of : List Str} {sh lv b0 tc n d lo' hi' : Nat} (C : Ctx w A g mg mb mean) (Y : LawAt g s.heap L ml cl) (hsl : ml.lookup (Str.ofString "sealed") = some (.ref rs)) (hsr : cl.lookup (Str.ofString "seal") = some sr)
    (es : s.heap.get? rs = some (lstO vs nn)) (S : SealedAt s.heap vs gp of sh lv b0 tc n) (hse : SealAt s.heap sr d sh lv lo' hi' tc) (hn : n ≤ 14) (hd : d < 8) (hs : sh < 4) (hl : lv < 4) (h0 : 0 < tc) (h1 : tc < lo') (h2 : lo' ≤ hi') (h3 : hi' ≤ b0)
    (hQ : ∀ h' tk y no a b, LawAt g h' L ((Str.ofString "no", .ref no) :: (Str.ofString "yes", .ref y) :: ml) cl → Pres s.heap h' → h'.get? y = some (lstO (pickTo (fun j => decide (hueN (of.getD j default) = d)) vs vs.length) a) →
      h'.get? no = some (lstO (pickTo (fun j => !decide (hueN (of.getD j default) = d)) vs vs.length) b) → Q .next { s with heap := h', toks := tk }) :
    wpAny (model PG w) A (exec (forBody.getD 2 default) (LE L)) Q NoE s := by
  have X := inKp C.X Y.keep
  have T := topKp C.T Y.keep
  have r1 : Rd (LE L) s.heap (Str.ofString "_split_list") (.ref 49) := rd_own X T g_split
  have r2 := Y.rdL hsl
  have k0 : Keeps s.heap s.heap := Keeps.rfl'
  show wpAny _ _ (exec (Stmt.Assign [Expr.Tuple _ _ _] _ _) _) _ _ _
  refine Assign_Tuple ?_
  repeat' ((fail_if_success (with_reducible show wpAny _ _ (eval (Expr.Lambda _ _ _ _) _) _ _ _)); first | walk1 | (dsimp only; walk1))
  refine lam_make (clos := [(Str.ofString "seal", L + 10)]) X T Y rfl rfl rfl rfl fun f c' pm ctv h1 tk1 Y1 sub1 ho hrec => ?_
  have P1 : Pres s.heap h1 := fun b o e dd => sub1 b o (fun q => by
    obtain ⟨ps, et, _⟩ := Y.tab
    rw [q, et] at e; cases e; exact dd.2.2 rfl) e
  have X1 := inKp C.X Y1.keep
  have T1 := topKp C.T Y1.keep
  repeat' ((fail_if_success (with_reducible show Frag.In _ _ ∧ _)); first | walk1 | (dsimp only; walk1))
  refine ⟨X1, ?_⟩
  have hvs := S.1
  refine wpAny_call (split_call X1 T1 (Nat.lt_trans C.hd (by decide)) C.hh rs f vs (fun j => decide (hueN (of.getD j default) = d)) (isList_of (P1 _ _ es (.lst _ _))) (by omega) ⟨_, _, _, _, ho⟩ ?hp ?hR)
  case hp =>
    intro A' i v s' hi hh' hdd huu kk
    obtain ⟨lo, hi2, hb, tr⟩ := S.2 i v hi
    refine lam_call (inKp X1 kk) (topKp T1 kk) ?_ hh' ?_ (kk _ _ ho) ?_ ((Y1.cellC hsr).keeps kk) (tr.tup (P1.tupKeep.trans kk.tup)) (hse.tup (P1.tupKeep.trans kk.tup)) (hueN_lt _) hd hs hl h0 (by omega) h2 (Nat.le_trans h3 hb)
    · exact Nat.lt_of_le_of_lt hdd (by have := C.hd; omega)
    · exact Nat.lt_of_le_of_lt huu (by have := C.hu; omega)
    · obtain ⟨c2, oc, vs2, t, e1, e2, e3, e4⟩ := hrec
      exact ⟨c2, oc, vs2, t, e1, kk _ _ e2, e3, e4⟩
  case hR =>
    rintro v h4 tk4 y no a b c kk rfl ec ey en
    show wpAny _ _ (assign (Expr.Tuple _ _ _) _ _) _ _ _
    refine assign_Tuple_tuple (items := #[.ref y, .ref no]) C.hh ⟨_, ec, rfl, _, rfl⟩ rfl rfl fun h5 he => ?_
    have k5 : Keeps h4 h5 := fun b o e => he b o (Nat.ne_of_lt (Heap.lt_size e)) e
    repeat' ((fail_if_success (with_reducible show wpAny _ _ (storeName _ _ _) _ _ _)); first | walk1 | (dsimp only; walk1))
    refine stL ((Y1.keeps kk).keeps k5) fun h6 Y6 P6 => ?_
    repeat' ((fail_if_success (with_reducible show wpAny _ _ (storeName _ _ _) _ _ _)); first | walk1 | (dsimp only; walk1))
    refine stL Y6 fun h7 Y7 P7 => ?_
    repeat' ((fail_if_success (with_reducible show Q _ _)); first | walk1 | (dsimp only; walk1))
    have P57 := P6.trans P7
    exact hQ _ _ _ _ _ _ Y7 (P1.trans (kk.pres.trans (k5.pres.trans P57))) (P57 _ _ (k5 _ _ ey) (.lst _ _)) (P57 _ _ (k5 _ _ en) (.lst _ _))
end

theorem seal_not_level8 : ∀ c : Fin 8, ∀ sh lv : Fin 4, (sealF (c.val : Nat) sh.val lv.val).1 ≠ q4 lv.val ∨ (sealF (c.val : Nat) sh.val lv.val).2.1 ≠ q4 lv.val ∨ (sealF (c.val : Nat) sh.val lv.val).2.2 ≠ q4 lv.val := by decide +kernel
/-- two seals of two times are two objects -/
theorem seal_ne {h : Heap} {v v' : Value} {c d sh lv lo hi lo' hi' tc : Nat} (hc : c < 8) (hs : sh < 4) (hl : lv < 4) (h3 : hi' ≤ lo) (x : SealAt h v c sh lv lo hi tc) (y : SealAt h v' d sh lv lo' hi' tc) : v ≠ v' := by
  rintro rfl
  obtain ⟨r, t1, t2, t3, rfl, e, q1, q2, q3⟩ := x
  obtain ⟨r', u1, u2, u3, e1, e', q1', q2', q3'⟩ := y
  cases e1
  rw [e] at e'
  have e2 := congrArg Obj.data (Option.some.inj e')
  simp only [Data.seq.injEq, List.toArray, and_true] at e2
  have e3 : [Value.float (sealF (c : Nat) sh lv).1 t1, Value.float (sealF (c : Nat) sh lv).2.1 t2, Value.float (sealF (c : Nat) sh lv).2.2 t3] = [Value.float (sealF (d : Nat) sh lv).1 u1, Value.float (sealF (d : Nat) sh lv).2.1 u2, Value.float (sealF (d : Nat) sh lv).2.2 u3] := by simpa using e2
  simp only [List.cons.injEq, Value.float.injEq, and_true] at e3
  obtain ⟨⟨a1, rfl⟩, ⟨a2, rfl⟩, ⟨a3, rfl⟩⟩ := e3
  have key : ∀ {a b : UInt64} {t : Nat}, a = b → a ≠ q4 lv → TokOk lo hi (q4 lv) tc a t → TokOk lo' hi' (q4 lv) tc b t → False := by
    rintro a b t rfl hne (⟨p, _⟩ | ⟨p1, p2⟩) (⟨p', _⟩ | ⟨p3, p4⟩)
    · exact hne p
    · exact hne p
    · exact hne p'
    · omega
  rcases seal_not_level8 ⟨c, hc⟩ ⟨sh, hs⟩ ⟨lv, hl⟩ with hq | hq | hq
  · exact key a1 hq q1 q1'
  · exact key a2 hq q2 q2'
  · exact key a3 hq q3 q3'
theorem pickTo_eq (p : Nat → Bool) (vs : List Value) : ∀ n, pickTo p vs n = ((List.range n).filter p).map fun i => vs.getD i .none
  | 0 => rfl
  | n + 1 => by
    rw [List.range_succ, List.filter_append, List.map_append, ← pickTo_eq p vs n]
    show (if p n = true then _ else _) = _
    cases h : p n <;> simp [List.filter, h]
theorem pickTo_congr {p q : Nat → Bool} (vs : List Value) : ∀ n, (∀ j, j < n → p j = q j) → pickTo p vs n = pickTo q vs n
  | 0, _ => rfl
  | n + 1, h => by
    show (if p n = true then _ else _) = (if q n = true then _ else _)
    rw [h n (Nat.lt_succ_self n), pickTo_congr vs n fun j hj => h j (Nat.lt_succ_of_lt hj)]
/-- the row of triples that bear the seal itself -/
def RowAt (h : Heap) (vs : List Value) (ks : List Int) (W : Str) (sr : Value) (n : Nat) : Prop :=
  vs.length = n ∧ ∀ (j : Nat) (v : Value), vs[j]? = some v → ∃ r t1 t2, v = .ref r ∧ h.get? r = some (tupO [.int (ks.getD j 0) t1, .str W t2, sr])
theorem RowAt.tup {h h' : Heap} {vs : List Value} {ks : List Int} {W : Str} {sr : Value} {n : Nat} (x : RowAt h vs ks W sr n) (k : TupKeep h h') : RowAt h' vs ks W sr n :=
  ⟨x.1, fun j v e => let ⟨r, t1, t2, a, b⟩ := x.2 j v e; ⟨r, t1, t2, a, k _ _ b⟩⟩
theorem RowAt.snoc {h : Heap} {vs : List Value} {ks : List Int} {W : Str} {sr : Value} {n : Nat} {r : Addr} {t1 t2 : Tok} (x : RowAt h vs ks W sr n) (e : h.get? r = some (tupO [.int (ks.getD n 0) t1, .str W t2, sr])) : RowAt h (vs ++ [.ref r]) ks W sr (n + 1) := by
  refine ⟨by simp [x.1], fun j u eu => ?_⟩
  by_cases hj : j < vs.length
  · rw [List.getElem?_append_left hj] at eu; exact x.2 j u eu
  · rw [List.getElem?_append_right (Nat.not_lt.mp hj)] at eu
    have hj2 : j = n := by
      cases hq : j - vs.length with
      | zero => have := x.1; omega
      | succ q => rw [hq] at eu; simp at eu
    subst hj2
    rw [← x.1, Nat.sub_self] at eu
    simp at eu
    subst eu
    exact ⟨r, t1, t2, rfl, e⟩
section
open PySem.SeqAt
variable {w : World} {A : Around} {s : Shared} {g : Heap} {L : Addr} {ml cl : List (Str × Value)} {mg mb : Str → Option Value} {mean : ExcName → Option Value} {Q : Flow → Shared → Prop}
/-- the picked triples and the row: equal, one by one -/
theorem rc_rows {ry rr : Addr} {zs : List Value} {na nb : Nat} {vs : List Value} {gp : List Int} {of : List Str} {W : Str} {ks : List Int} {sr : Value} {sh lv b0 tc n d lo' hi' : Nat} (hb : NoneBooked s.heap) (hu : A.units + 20 < cLine) (hs : sh < 4) (hl : lv < 4) (hd : d < 8) (h0 : 0 < tc) (h1 : tc < lo') (h2 : lo' ≤ hi') (h3 : hi' ≤ b0)
    (ey : s.heap.get? ry = some (lstO (pickTo (fun j => decide (hueN (of.getD j default) = d)) vs n) na)) (er : s.heap.get? rr = some (lstO zs nb)) (S : SealedAt s.heap vs gp of sh lv b0 tc n) (R : RowAt s.heap zs ks W sr ks.length) (hse : SealAt s.heap sr d sh lv lo' hi' tc)
    (hA : ((List.range n).filter fun j => decide (hueN (of.getD j default) = d)).map (fun j => gp.getD j 0) = ks) (hB : ∀ j, j < n → (hueN (of.getD j default) = d ↔ of.getD j default = W)) :
    RcNeAt A s (.ref ry) (.ref rr) false := by
  have hlen : (pickTo (fun j => decide (hueN (of.getD j default) = d)) vs n).length = zs.length := by
    rw [pickTo_eq, List.length_map, R.1, ← hA, List.length_map]
  have this := RcNeAt.lists (A := A) (s := s) (e := fun _ => true) (isList_of ey) (isList_of er) (by rw [List.size_toArray, List.size_toArray]; exact hlen) (by omega) (fun j h1' h2' => by
    rw [List.size_toArray] at h1' h2'
    simp only [List.getElem_toArray]
    generalize hYj : (pickTo (fun j => decide (hueN (of.getD j default) = d)) vs n)[j] = v
    generalize hZj : zs[j] = v'
    have hY? : (pickTo (fun j => decide (hueN (of.getD j default) = d)) vs n)[j]? = some v := by rw [← hYj]; exact List.getElem?_eq_getElem h1'
    have hZ? : zs[j]? = some v' := by rw [← hZj]; exact List.getElem?_eq_getElem h2'
    rw [pickTo_eq, List.getElem?_map] at hY?
    cases hi : ((List.range n).filter fun j => decide (hueN (of.getD j default) = d))[j]? with
    | none => rw [hi] at hY?; cases hY?
    | some i =>
      rw [hi] at hY?
      have hmem := List.mem_of_getElem? hi
      rw [List.mem_filter, List.mem_range, decide_eq_true_eq] at hmem
      obtain ⟨hin, hhue⟩ := hmem
      have hv : vs[i]? = some v := by
        have := S.1
        rw [List.getElem?_eq_getElem (by omega)]
        simp [List.getD_eq_getElem?_getD, List.getElem?_eq_getElem (show i < vs.length by omega)] at hY?
        rw [hY?]
      obtain ⟨lo, hi2, hb2, tr⟩ := S.2 i v hv
      obtain ⟨r', t1, t2, e1, e2⟩ := R.2 j v' hZ?
      have hk : ks.getD j 0 = gp.getD i 0 := by
        rw [← hA, List.getD_eq_getElem?_getD, List.getElem?_map, hi]; rfl
      have hsv : ∀ r t1 t2 sv, v = .ref r → s.heap.get? r = some (tupO [.int (gp.getD i 0) t1, .str (of.getD i default) t2, sv]) → sv ≠ sr := by
        rintro r t1 t2 sv rfl er2
        obtain ⟨r3, t3, t4, sv3, e3, e4, S3⟩ := tr
        cases e3
        rw [er2] at e4
        have e5 := congrArg Obj.data (Option.some.inj e4)
        have e6 : [Value.int (gp.getD i 0) t1, Value.str (of.getD i default) t2, sv] = [Value.int (gp.getD i 0) t3, Value.str (of.getD i default) t4, sv3] := by simpa using e5
        have e7 : sv = sv3 := by simp only [List.cons.injEq, and_true] at e6; exact e6.2.2
        rw [e7]
        exact seal_ne (hueN_lt _) hs hl (Nat.le_trans h3 hb2) S3 hse
      have hne : v ≠ v' := by
        rintro rfl
        obtain ⟨r3, t3, t4, sv3, e3, e4, S3⟩ := id tr
        rw [e1] at e3
        cases e3
        rw [e2] at e4
        have e5 := congrArg Obj.data (Option.some.inj e4)
        have e6 : [Value.int (ks.getD j 0) t1, Value.str W t2, sr] = [Value.int (gp.getD i 0) t3, Value.str (of.getD i default) t4, sv3] := by simpa using e5
        have e7 : sr = sv3 := by simp only [List.cons.injEq, and_true] at e6; exact e6.2.2
        exact seal_ne (hueN_lt _) hs hl (Nat.le_trans h3 hb2) S3 hse e7.symm
      have E := eqAt_trip (A := A.in1) hb (by show A.units + 1 + 3 < cLine; omega) (hueN_lt _) hd hs hl h0 h1 h2 (Nat.le_trans h3 hb2) hne hsv tr ⟨r', t1, t2, e1, e2⟩ hse
      rw [hk, (hB i hin).mp hhue, decide_eq_true rfl, decide_eq_true rfl, decide_eq_true (by rw [← (hB i hin).mp hhue]; exact hhue)] at E
      exact E)
  have e : (List.range (pickTo (fun j => decide (hueN (of.getD j default) = d)) vs n).toArray.size).all (fun _ => true) = true := by simp
  rw [e] at this
  exact this
/-- the same values in two lists -/
theorem rc_same {ra rb : Addr} {vs : List Value} {na nb : Nat} (hu : A.units + 2 < cLine) (ea : s.heap.get? ra = some (lstO vs na)) (eb : s.heap.get? rb = some (lstO vs nb)) : RcNeAt A s (.ref ra) (.ref rb) false := by
  have this := RcNeAt.lists (A := A) (s := s) (e := fun _ => true) (isList_of ea) (isList_of eb) rfl (by omega) (fun j _ _ => EqAt.same _)
  have e : (List.range vs.toArray.size).all (fun _ => true) = true := by simp
  rw [e] at this
  exact this
/-- the same ints in two lists -/
theorem rc_ints {ra rb : Addr} {va vb : List Value} {ns : List Int} {na nb : Nat} (hu : A.units + 2 < cLine) (ea : s.heap.get? ra = some (lstO va na)) (eb : s.heap.get? rb = some (lstO vb nb)) (ia : IntsAre va ns) (ib : IntsAre vb ns) : RcNeAt A s (.ref ra) (.ref rb) false := by
  have this := RcNeAt.lists (A := A) (s := s) (e := fun _ => true) (isList_of ea) (isList_of eb) (by rw [List.size_toArray, List.size_toArray, ia.length, ib.length]) (by omega) (fun j h1 h2 => by
    rw [List.size_toArray] at h1 h2
    obtain ⟨t, e1⟩ := IntsAre.int_at ia j _ (List.getElem?_eq_getElem h1)
    obtain ⟨u, e2⟩ := IntsAre.int_at ib j _ (List.getElem?_eq_getElem h2)
    simp only [List.getElem_toArray, e1, e2]
    have := EqAt.int_int (A := A.in1) (s := s) (ns.getD j 0) t (ns.getD j 0) u
    rw [beq_self_eq_true] at this
    exact this)
  have e : (List.range va.toArray.size).all (fun _ => true) = true := by simp
  rw [e] at this
  exact this
end

section
open PySem.SeqAt
variable {w : World} {A : Around} {s : Shared} {g : Heap} {L : Addr} {ml cl : List (Str × Value)} {mg mb : Str → Option Value} {mean : ExcName → Option Value} {Q : Flow → Shared → Prop}
theorem st_judge {ra rb : Addr} {va vb : List Value} {na nb : Nat} {ns : List Int} (C : Ctx w A g mg mb mean) (Y : LawAt g s.heap L ml cl) (hj : ml.lookup (Str.ofString "judged") = some (.ref ra)) (hr : ml.lookup (Str.ofString "run") = some (.ref rb))
    (ea : s.heap.get? ra = some (lstO va na)) (eb : s.heap.get? rb = some (lstO vb nb)) (ia : IntsAre va ns) (ib : IntsAre vb ns)
    (hQ : ∀ tk, Q .next { s with toks := tk }) :
    wpAny (model PG w) A (exec (forBody.getD 4 default) (LE L)) Q NoE s := by
  have r1 := Y.rdL hj
  have r2 := Y.rdL hr
  have k0 : Keeps s.heap s.heap := Keeps.rfl'
  have hu : A.units + 2 < cLine := by have := C.hu; rw [cLine_is]; omega
  show wpAny _ _ (exec (Stmt.If _ _ _ _) _) _ _ _
  generalize hE : LE L = env at r1 r2 ⊢
  repeat' ((fail_if_success (with_reducible show wpAny _ _ (compareOp _ _ _) _ _ _)); first | walk1 | (dsimp only; walk1))
  refine rc_ints (A := A) (s := s) hu ea eb ia ib _ _ _ _ ?_
  repeat' ((fail_if_success (with_reducible show Q _ _)); first | walk1 | (dsimp only; walk1))
  exact hQ s.toks
theorem st_yesno {rs rr ry rn : Addr} {sr : Value} {vs vr : List Value} {nn nr na nb : Nat} {gp ks : List Int} {of : List Str} {W : Str} {t1 : Tok} {sh lv b0 tc n d lo' hi' : Nat} (C : Ctx w A g mg mb mean) (Y : LawAt g s.heap L ml cl) (hsl : ml.lookup (Str.ofString "sealed") = some (.ref rs)) (hru : ml.lookup (Str.ofString "run") = some (.ref rr))
    (hy : ml.lookup (Str.ofString "yes") = some (.ref ry)) (hno : ml.lookup (Str.ofString "no") = some (.ref rn)) (hw : cl.lookup (Str.ofString "word") = some (.str W t1)) (hsr : cl.lookup (Str.ofString "seal") = some sr)
    (es : s.heap.get? rs = some (lstO vs nn)) (er : s.heap.get? rr = some (lstO vr nr)) (ir : IntsAre vr ks) (S : SealedAt s.heap vs gp of sh lv b0 tc n) (hse : SealAt s.heap sr d sh lv lo' hi' tc)
    (ey : s.heap.get? ry = some (lstO (pickTo (fun j => decide (hueN (of.getD j default) = d)) vs n) na)) (en : s.heap.get? rn = some (lstO (pickTo (fun j => !decide (hueN (of.getD j default) = d)) vs n) nb))
    (hn : n ≤ 14) (hd : d < 8) (hs : sh < 4) (hl : lv < 4) (h0 : 0 < tc) (h1 : tc < lo') (h2 : lo' ≤ hi') (h3 : hi' ≤ b0)
    (hA : ((List.range n).filter fun j => decide (hueN (of.getD j default) = d)).map (fun j => gp.getD j 0) = ks) (hB : ∀ j, j < n → (hueN (of.getD j default) = d ↔ of.getD j default = W))
    (hQ : ∀ h' tk, LawAt g h' L ml cl → Pres s.heap h' → Q .next { s with heap := h', toks := tk }) :
    wpAny (model PG w) A (exec (forBody.getD 3 default) (LE L)) Q NoE s := by
  have X := inKp C.X Y.keep
  have T := topKp C.T Y.keep
  have r1 := Y.rdL hy
  have r2 := Y.rdL hru
  have r3 := Y.rdL hno
  have r4 := Y.rdL hsl
  have k0 : Keeps s.heap s.heap := Keeps.rfl'
  have hu : A.units + 20 < cLine := by have := C.hu; rw [cLine_is]; omega
  have hkl : ks.length ≤ 14 := by rw [← hA, List.length_map]; exact Nat.le_trans (List.length_filter_le _ _) (by simpa using hn)
  have hrl := ir.length
  show wpAny _ _ (exec (Stmt.If _ _ _ _) _) _ _ _
  repeat' ((fail_if_success (with_reducible show wpAny _ _ (eval (Expr.ListComp _ _ _ _) _) _ _ _)); first | walk1 | (dsimp only; walk1))
  refine compK (n := ks.length) (P := fun i v => vr[i]? = some v) (fun i ys h => RowAt h ys ks W sr i) (by omega) ?hit (fun _ _ _ _ h k => h.tup k) (fun _ => ⟨rfl, fun j v e => by simp at e⟩) rfl (by decide) rfl (by decide) rfl ?step ?hQ
  case hit =>
    generalize LE L = env at r2 ⊢
    refine rd_name r2 k0 ?_
    have := list_iterK (prog := PG) (w := w) (A := A) (s := s) (s0 := s) (isList_of er) Same.rfl' Keeps.rfl' (Nat.le_refl _) C.hh
    rw [List.size_toArray, hrl] at this
    simpa using this
  case step =>
    rintro C1 cenv i v ys s₃ m₃ hce hC hi hv hsm hns hmx hk hle hg
    obtain ⟨ti, rfl⟩ := IntsAre.int_at ir i v hv
    have rk := Rd.of_eq hce (rd_local hns hmx)
    have rw' := Rd.of_eq hce (rd_cell (x := Str.ofString "word") (c := L + 2) ((Y.cellC hw).keeps hk))
    have rse := Rd.of_eq hce (rd_cell (x := Str.ofString "seal") (c := L + 10) ((Y.cellC hsr).keeps hk))
    clear hce
    have k3 : Keeps s₃.heap s₃.heap := Keeps.rfl'
    refine turn_plain ?_
    repeat' ((fail_if_success (with_reducible show Same _ _ ∧ _)); first | walk1 | (dsimp only; walk1))
    rename_i D4 h4 k4 kk4 l4 e4
    exact ⟨⟨_, _, rfl⟩, k4, (hg.tup k4.tup).snoc e4⟩
  case hQ =>
    intro D h' tk ys n' hD hD' hk hg
    refine rc_rows (A := A) (s := { s with heap := h', toks := tk }) (noBook (inKp X hk) (topKp T hk)) hu hs hl hd h0 h1 h2 h3 (hk _ _ ey) hD' (S.tup hk.tup) hg (hse.tup hk.tup) hA hB _ _ _ _ ?_
    repeat' ((fail_if_success (with_reducible show wpAny _ _ (eval (Expr.ListComp _ _ _ _) _) _ _ _)); first | walk1 | (dsimp only; walk1))
    have hvl := S.1
    refine compK (s := { s with heap := h', toks := tk }) (n := n) (P := fun i v => vs[i]? = some v) (fun i zs _ => zs = pickTo (fun j => !decide (of.getD j default = W)) vs i) (by omega) ?hit2 (fun _ _ _ _ h _ => h) (fun _ => rfl) rfl (by decide) rfl (by decide) rfl ?step2 ?hQ2
    case hit2 =>
      generalize LE L = env at r4 ⊢
      refine rd_name r4 hk ?_
      have := list_iterK (prog := PG) (w := w) (A := A) (s := { s with heap := h', toks := tk }) (s0 := { s with heap := h', toks := tk }) (isList_of (hk _ _ es)) Same.rfl' Keeps.rfl' (Nat.le_refl _) C.hh
      rw [List.size_toArray, hvl] at this
      simpa using this
    case step2 =>
      rintro C1 cenv i v zs s₃ m₃ hce hC hi hv hsm hns hmx hk2 hle hg2
      obtain ⟨lo, hi2, hb2, tr⟩ := S.2 i v hv
      have kk : Keeps s.heap s₃.heap := hk.trans hk2
      have rk := Rd.of_eq hce (rd_local hns hmx)
      have rw' := Rd.of_eq hce (rd_cell (x := Str.ofString "word") (c := L + 2) ((Y.cellC hw).keeps kk))
      clear hce
      have k3 : Keeps s₃.heap s₃.heap := Keeps.rfl'
      obtain ⟨r, t5, t6, sv, rfl, eo, _⟩ := tr
      have hsucc : pickTo (fun j => !decide (of.getD j default = W)) vs (i + 1) = if (!decide (of.getD i default = W)) = true then zs ++ [.ref r] else zs := by
        rw [hg2]
        show (if _ then _ else _) = _
        rw [List.getD_eq_getElem?_getD, hv]; rfl
      refine turn_test ?_
      repeat' ((fail_if_success (with_reducible show wpAny _ _ (subscriptTail _ _ _ _) _ _ _)); first | walk1 | (dsimp only; walk1))
      refine kitem_tup (j := 1) k3 (kk _ _ eo) (by decide) (by decide) rfl rfl ?_
      repeat' ((fail_if_success (with_reducible show Same _ _ ∧ _)); first | walk1 | (dsimp only; walk1))
      cases hne : (of.getD i default != W) with
      | true =>
        have hq : (!decide (of.getD i default = W)) = true := by simpa using hne
        refine ⟨⟨_, _, rfl⟩, k3, ?_⟩
        rw [if_pos rfl]
        refine rd_name rk k3 ⟨⟨_, _, rfl⟩, k3, ?_⟩
        rw [hsucc, if_pos hq]
      | false =>
        have hq : (!decide (of.getD i default = W)) = false := by simpa using hne
        refine ⟨⟨_, _, rfl⟩, k3, ?_⟩
        rw [if_neg Bool.false_ne_true]
        rw [hsucc, if_neg (by rw [hq]; exact Bool.false_ne_true)]
    case hQ2 =>
      intro D2 h2 tk2 zs n2 hD2 hD2' hk2 hg2
      have hkk : Keeps s.heap h2 := hk.trans hk2
      have hsame : pickTo (fun j => !decide (hueN (of.getD j default) = d)) vs n = pickTo (fun j => !decide (of.getD j default = W)) vs n := pickTo_congr vs n fun j hj => by
        rw [decide_eq_decide.mpr (hB j hj)]
      rw [hsame] at en
      subst hg2
      refine rc_same (A := A) (s := { s with heap := h2, toks := tk2 }) (by omega) (hkk _ _ en) hD2' _ _ _ _ ?_
      repeat' ((fail_if_success (with_reducible show Q _ _)); first | walk1 | (dsimp only; walk1))
      exact hQ _ _ (Y.keeps hkk) hkk.pres
end

/-- the pairs that the told row is made of -/
def PairsAt (h : Heap) (vs : List Value) (of : List Str) (n : Nat) : Prop := vs.length = n ∧ ∀ (j : Nat) (v : Value), vs[j]? = some v → PairAt h v ((hueN (of.getD j default) : Nat), of.getD j default)
theorem PairsAt.tup {h h' : Heap} {vs : List Value} {of : List Str} {n : Nat} (x : PairsAt h vs of n) (k : TupKeep h h') : PairsAt h' vs of n := ⟨x.1, fun j v e => (x.2 j v e).tup k⟩
theorem PairsAt.snoc {h : Heap} {vs : List Value} {of : List Str} {n : Nat} {v : Value} (x : PairsAt h vs of n) (hv : PairAt h v ((hueN (of.getD n default) : Nat), of.getD n default)) : PairsAt h (vs ++ [v]) of (n + 1) := by
  refine ⟨by simp [x.1], fun j u e => ?_⟩
  by_cases hj : j < vs.length
  · rw [List.getElem?_append_left hj] at e; exact x.2 j u e
  · rw [List.getElem?_append_right (Nat.not_lt.mp hj)] at e
    have hj2 : j = n := by
      cases hq : j - vs.length with
      | zero => have := x.1; omega
      | succ q => rw [hq] at e; simp at e
    subst hj2
    rw [← x.1, Nat.sub_self] at e
    simp at e
    subst e
    exact hv
section
variable {w : World} {A : Around} {s : Shared} {g : Heap} {L : Addr} {ml cl : List (Str × Value)} {mg mb : Str → Option Value} {mean : ExcName → Option Value} {Q : Flow → Shared → Prop}
theorem st_told {rs : Addr} {vs : List Value} {nn : Nat} {gp : List Int} {of : List Str} {sh lv b0 tc n : Nat} {ds : List (Int × Str)} (C : Ctx w A g mg mb mean) (Y : LawAt g s.heap L ml cl) (hsl : ml.lookup (Str.ofString "sealed") = some (.ref rs))
    (es : s.heap.get? rs = some (lstO vs nn)) (S : SealedAt s.heap vs gp of sh lv b0 tc n) (hn : n ≤ 14) (hn0 : 0 < n) (hs : sh < 4) (hl : lv < 4)
    (hds : ds.Nodup) (hd8 : ds.length ≤ 8) (hmem : ∀ p, p ∈ ds ↔ ∃ j, j < n ∧ (((hueN (of.getD j default) : Nat) : Int), of.getD j default) = p) (hfst : (ds.map (·.1)).Nodup)
    (hQ : ∀ h' tk d' r us c (ps : List (Int × Str)), LawAt g h' L ((Str.ofString "told", .ref r) :: ml) cl → Pres s.heap h' → h'.get? r = some (lstO us c) → us.length = ps.length → (∀ (i : Nat) v, us[i]? = some v → PairAt h' v (ps.getD i (0, default))) → ps.Perm ds → (ps.map (·.1)).Pairwise (· < ·) →
      Q .next { s with heap := h', toks := tk, drawn := d' }) :
    wpAny (model PG w) A (exec (forBody.getD 5 default) (LE L)) Q NoE s := by
  have X := inKp C.X Y.keep
  have T := topKp C.T Y.keep
  have r1 : Rd (LE L) s.heap (Str.ofString "sorted") (.builtin "sorted") := rd_built X T g_sorted b_sorted
  have r2 : Rd (LE L) s.heap (Str.ofString "set") (.type "set") := rd_built X T g_set b_set
  have r4 := Y.rdL hsl
  have k0 : Keeps s.heap s.heap := Keeps.rfl'
  have hvl := S.1
  show wpAny _ _ (exec (Stmt.Assign _ _ _) _) _ _ _
  refine wpAny_Assign_Name ?_
  repeat' ((fail_if_success (with_reducible show wpAny _ _ (eval (Expr.ListComp _ _ _ _) _) _ _ _)); first | walk1 | (dsimp only; walk1))
  refine compK (n := n) (P := fun i v => vs[i]? = some v) (fun i ys h => PairsAt h ys of i) (by omega) ?hit (fun _ _ _ _ h k => h.tup k) (fun _ => ⟨rfl, fun j v e => by simp at e⟩) rfl (by decide) rfl (by decide) rfl ?step ?hQ
  case hit =>
    generalize LE L = env at r4 ⊢
    refine rd_name r4 k0 ?_
    have := list_iterK (prog := PG) (w := w) (A := A) (s := s) (s0 := s) (isList_of es) Same.rfl' Keeps.rfl' (Nat.le_refl _) C.hh
    rw [List.size_toArray, hvl] at this
    simpa using this
  case step =>
    rintro C1 cenv i v ys s₃ m₃ hce hC hi hv hsm hns hmx hk hle hg
    obtain ⟨lo, hi2, hb2, tr⟩ := S.2 i v hv
    have X3 := inKp X hk
    have T3 := topKp T hk
    have rk := Rd.of_eq hce (rd_local hns hmx)
    have re := Rd.of_eq hce (rd_own X3 T3 g_eighths)
    clear hce
    have k3 : Keeps s₃.heap s₃.heap := Keeps.rfl'
    obtain ⟨r, t5, t6, sv, rfl, eo, Sv⟩ := tr
    obtain ⟨r', u1, u2, u3, a, b, d, rfl, ho, hok⟩ := hue_at (hueN_lt _) hs hl Sv
    refine turn_plain ?_
    repeat' ((fail_if_success (with_reducible show wpAny _ _ (subscriptTail _ _ _ _) _ _ _)); first | walk1 | (dsimp only; walk1))
    refine kitem_tup (j := 2) k3 (hk _ _ eo) (by decide) (by decide) rfl rfl ?_
    repeat' ((fail_if_success (with_reducible show wpAny _ _ (call (Value.ref _) _) _ _ _)); first | walk1 | (dsimp only; walk1))
    refine wpAny_call (eighths_call (by exact X3) (by exact T3) (Nat.lt_trans C.hd (by decide)) C.hh r' a b d u1 u2 u3 _ (by exact hk _ _ ho) hok fun t7 h4 tk4 k4 => ?_)
    repeat' ((fail_if_success (with_reducible show wpAny _ _ (subscriptTail _ _ _ _) _ _ _)); first | walk1 | (dsimp only; walk1))
    refine kitem_tup (j := 1) k4 (hk _ _ eo) (by decide) (by decide) rfl rfl ?_
    repeat' ((fail_if_success (with_reducible show Same _ _ ∧ _)); first | walk1 | (dsimp only; walk1))
    rename_i D5 h5 k5 kk5 l5 e5
    exact ⟨⟨_, _, rfl⟩, k5, (hg.tup k5.tup).snoc ⟨_, _, _, rfl, e5⟩⟩
  case hQ =>
    intro D h' tk ys n' hD hD' hk hg
    repeat' ((fail_if_success (with_reducible show wpAny _ _ (call (Value.type "set") _) _ _ _)); first | walk1 | (dsimp only; walk1))
    refine call_set_pairs (items := ys.toArray) (ps := fun j => (((hueN (of.getD j default) : Nat) : Int), of.getD j default)) (ds := ds) C.hh (by have := C.hu; rw [cLine_is]; omega) (by exact isList_of hD') (fun i v hv => hg.2 i v (by simpa using hv)) hd8 (fun i hi => (hmem _).mpr ⟨i, by rw [List.size_toArray, hg.1] at hi; exact hi, rfl⟩) fun SS h2 tk2 LL hSz hSet hLL hk2 => ?_
    repeat' ((fail_if_success (with_reducible show wpAny _ _ (call (Value.builtin "sorted") _) _ _ _)); first | walk1 | (dsimp only; walk1))
    have hLm : ∀ p, p ∈ LL.map (·.2) ↔ p ∈ ds := fun p => by rw [hLL p, hmem p, List.size_toArray, hg.1]
    have hLn : (LL.map (·.2)).Nodup := by obtain ⟨es2, ep, t, ho, R, _⟩ := hSet; exact R.nd
    have hperm : (LL.map (·.2)).Perm ds := (List.perm_ext_iff_of_nodup hLn hds).mpr hLm
    have hLlen : LL.length = ds.length := by rw [← List.length_map (f := (·.2)), hperm.length_eq]
    refine sorted_set C.hh hSet (by omega) (fun q => ?_) ?_ fun D3 us ps h3 tk3 d3 c3 hul hup hpp hpw hD3 hD3n hk3 => ?_
    · subst q
      have := (hmem (((hueN (of.getD 0 default) : Nat) : Int), of.getD 0 default)).mpr ⟨0, hn0, rfl⟩
      have := (hLm _).mpr this
      simp at this
    · have e := (hperm.map (·.1)).nodup_iff.mpr hfst
      rw [List.map_map] at e
      exact e
    · have kk : Keeps s.heap h3 := (hk.trans hk2).trans hk3
      refine stL (Y.keeps kk) fun h4 Y4 P4 => ?_
      exact hQ _ _ _ _ _ _ ps Y4 (kk.pres.trans P4) (P4 _ _ hD3 (.lst _ _)) hul (fun i v hv => (hup i v hv).tup P4.tupKeep) (hpp.trans hperm) hpw
end

def inTo (ns : List Int) : Nat → List Int
  | 0 => []
  | k + 1 => if (ns.any (· == (k : Int))) = true then inTo ns k ++ [(k : Int)] else inTo ns k
theorem inTo_len (ns : List Int) : ∀ k, (inTo ns k).length ≤ k
  | 0 => Nat.le_refl _
  | k + 1 => by have := inTo_len ns k; unfold inTo; split <;> simp <;> omega
theorem inTo_mem (ns : List Int) : ∀ k (x : Int), x ∈ inTo ns k ↔ x ∈ ns ∧ 0 ≤ x ∧ x < k
  | 0, x => by simp only [inTo, List.not_mem_nil, false_iff]; omega
  | k + 1, x => by
    have ih := inTo_mem ns k x
    unfold inTo
    split
    · rename_i h
      have h' : (k : Int) ∈ ns := by
        obtain ⟨y, hy, e⟩ := List.any_eq_true.mp h
        rw [← eq_of_beq e]; exact hy
      rw [List.mem_append, ih, List.mem_singleton]
      constructor
      · rintro (⟨a, b, c⟩ | rfl)
        · exact ⟨a, b, by push_cast; omega⟩
        · exact ⟨h', by omega, by push_cast; omega⟩
      · rintro ⟨a, b, c⟩
        by_cases e : x = k
        · exact .inr e
        · exact .inl ⟨a, b, by push_cast at c; omega⟩
    · rename_i h
      have h' : (k : Int) ∉ ns := fun hm => h (List.any_eq_true.mpr ⟨_, hm, by simp⟩)
      rw [ih]
      constructor
      · rintro ⟨a, b, c⟩; exact ⟨a, b, by push_cast; omega⟩
      · rintro ⟨a, b, c⟩
        refine ⟨a, b, ?_⟩
        have : x ≠ k := fun e => h' (e ▸ a)
        push_cast at c; omega
theorem inTo_asc (ns : List Int) : ∀ k, (inTo ns k).Pairwise (· < ·)
  | 0 => List.Pairwise.nil
  | k + 1 => by
    have ih := inTo_asc ns k
    unfold inTo
    split
    · rw [List.pairwise_append]
      refine ⟨ih, List.pairwise_singleton _ _, fun a ha b hb => ?_⟩
      rw [List.mem_singleton] at hb
      have := (inTo_mem ns k a).mp ha
      omega
    · exact ih
/-- ints that rise, all from 0 up to k: filtering the range gives them back -/
theorem inTo_self {ns : List Int} {k : Nat} (h : ns.Pairwise (· < ·)) (hb : ∀ x ∈ ns, 0 ≤ x ∧ x < k) : inTo ns k = ns := by
  have n1 : (inTo ns k).Nodup := (inTo_asc ns k).imp fun h e => by omega
  have n2 : ns.Nodup := h.imp fun h e => by omega
  refine List.Perm.eq_of_pairwise (le := (· < ·)) (fun a b _ _ h1 h2 => by omega) (inTo_asc ns k) h ((List.perm_ext_iff_of_nodup n1 n2).mpr fun x => ?_)
  rw [inTo_mem]
  exact ⟨fun q => q.1, fun q => ⟨q, hb x q⟩⟩
section
open PySem.SeqAt
variable {w : World} {A : Around} {s : Shared} {g : Heap} {L : Addr} {ml cl : List (Str × Value)} {mg mb : Str → Option Value} {mean : ExcName → Option Value} {Q : Flow → Shared → Prop}
theorem st_hues {rt : Addr} {us : List Value} {c : Nat} {ps : List (Int × Str)} (C : Ctx w A g mg mb mean) (Y : LawAt g s.heap L ml cl) (hto : ml.lookup (Str.ofString "told") = some (.ref rt))
    (et : s.heap.get? rt = some (lstO us c)) (hul : us.length = ps.length) (hup : ∀ (i : Nat) v, us[i]? = some v → PairAt s.heap v (ps.getD i (0, default))) (hpl : ps.length ≤ 8)
    (hQ : ∀ h' tk r vs n, LawAt g h' L ml ((Str.ofString "hues", .ref r) :: cl) → Pres s.heap h' → h'.get? r = some (lstO vs n) → IntsAre vs (ps.map (·.1)) → Q .next { s with heap := h', toks := tk }) :
    wpAny (model PG w) A (exec (forBody.getD 6 default) (LE L)) Q NoE s := by
  have r4 := Y.rdL hto
  have k0 : Keeps s.heap s.heap := Keeps.rfl'
  show wpAny _ _ (exec (Stmt.Assign _ _ _) _) _ _ _
  refine wpAny_Assign_Name ?_
  refine compK (n := ps.length) (P := fun i v => us[i]? = some v) (fun i ys _ => IntsAre ys ((ps.take i).map (fun p : Int × Str => p.1))) (by omega) ?hit (fun _ _ _ _ h _ => h) (fun _ => by simpa using IntsAre.nil) rfl (by decide) rfl (by decide) rfl ?step ?hQ
  case hit =>
    generalize LE L = env at r4 ⊢
    refine rd_name r4 k0 ?_
    have := list_iterK (prog := PG) (w := w) (A := A) (s := s) (s0 := s) (isList_of et) Same.rfl' Keeps.rfl' (Nat.le_refl _) C.hh
    rw [List.size_toArray, hul] at this
    simpa using this
  case step =>
    rintro C1 cenv i v ys s₃ m₃ hce hC hi hv hsm hns hmx hk hle hg
    have rk := Rd.of_eq hce (rd_local hns hmx)
    clear hce
    have k3 : Keeps s₃.heap s₃.heap := Keeps.rfl'
    obtain ⟨r, t1, t2, rfl, eo⟩ := hup i v hv
    refine turn_plain ?_
    repeat' ((fail_if_success (with_reducible show wpAny _ _ (subscriptTail _ _ _ _) _ _ _)); first | walk1 | (dsimp only; walk1))
    refine kitem_tup (j := 0) k3 (hk _ _ eo) (by decide) (by decide) rfl rfl ?_
    repeat' ((fail_if_success (with_reducible show Same _ _ ∧ _)); first | walk1 | (dsimp only; walk1))
    refine ⟨⟨_, _, rfl⟩, k3, ?_⟩
    rw [List.take_add_one, List.map_append, List.getElem?_eq_getElem hi]
    have e : (ps.getD i (0, default)) = ps[i] := by rw [List.getD_eq_getElem?_getD, List.getElem?_eq_getElem hi]; rfl
    rw [e]
    exact ints_snoc hg
  case hQ =>
    intro D h' tk ys n' hD hD' hk hg
    refine stC (Y.keeps hk) fun h2 Y2 P2 => ?_
    rw [List.take_length] at hg
    exact hQ _ _ _ _ _ Y2 (hk.pres.trans P2) (P2 _ _ hD' (.lst _ _)) hg
theorem st_last {rt rh : Addr} {us vh : List Value} {c ch : Nat} {ns : List Int} {t1 : Tok} (C : Ctx w A g mg mb mean) (Y : LawAt g s.heap L ml cl) (hto : ml.lookup (Str.ofString "told") = some (.ref rt)) (hhu : cl.lookup (Str.ofString "hues") = some (.ref rh)) (hco : ml.lookup (Str.ofString "count") = some (.int (us.length : Nat) t1))
    (et : s.heap.get? rt = some (lstO us c)) (eh : s.heap.get? rh = some (lstO vh ch)) (ih : IntsAre vh ns) (hul : us.length ≤ 8) (hasc : ns.Pairwise (· < ·)) (hb : ∀ x ∈ ns, 0 ≤ x ∧ x < 8)
    (hQ : ∀ h' tk, LawAt g h' L ml cl → Pres s.heap h' → Q .next { s with heap := h', toks := tk }) :
    wpAny (model PG w) A (exec (forBody.getD 7 default) (LE L)) Q NoE s := by
  have X := inKp C.X Y.keep
  have T := topKp C.T Y.keep
  have r1 : Rd (LE L) s.heap (Str.ofString "range") (.type "range") := rd_built X T g_range b_range
  have r2 : Rd (LE L) s.heap (Str.ofString "len") (.builtin "len") := rd_built X T g_len b_len
  have r3 := Y.rdL hto
  have r4 := Y.rdC _ hhu
  have r5 := Y.rdL hco
  have k0 : Keeps s.heap s.heap := Keeps.rfl'
  show wpAny _ _ (exec (Stmt.If _ _ _ _) _) _ _ _
  repeat' ((fail_if_success (with_reducible show wpAny _ _ (call (Value.builtin "len") _) _ _ _)); first | walk1 | (dsimp only; walk1))
  refine len_list (items := us.toArray) (by exact isList_of et) (by rw [List.size_toArray]; omega) ?_
  have e0 : ((us.toArray.size : Nat) : Int) = ((us.length : Nat) : Int) := by rw [List.size_toArray]
  rw [e0]
  repeat' ((fail_if_success (with_reducible show wpAny _ _ (eval (Expr.ListComp _ _ _ _) _) _ _ _)); first | walk1 | (dsimp only; walk1))
  · exact absurd rfl (by assumption)
  refine compK (n := 8) (P := fun i v => ∃ t, v = .int (i : Nat) t) (fun i ys _ => IntsAre ys (inTo ns i)) (by decide) ?hit (fun _ _ _ _ h _ => h) (fun _ => .nil) rfl (by decide) rfl (by decide) rfl ?step ?hQ
  case hit =>
    generalize LE L = env at r1 ⊢
    repeat' ((fail_if_success (with_reducible show wpAny _ _ (call (Value.type "range") _) _ _ _)); first | walk1 | (dsimp only; walk1))
    exact range_iterK (by decide) (by decide) (Same.to _ _) Keeps.rfl' (Nat.le_refl _) C.hh
  case step =>
    rintro C1 cenv i v ys s₃ m₃ hce hC hi ⟨tv, rfl⟩ hsm hns hmx hk hle hg
    have rk := Rd.of_eq hce (rd_local hns hmx)
    have rh' := Rd.of_eq hce (rd_cell (x := Str.ofString "hues") (c := L + 9) ((Y.cellC hhu).keeps hk))
    clear hce
    have k3 : Keeps s₃.heap s₃.heap := Keeps.rfl'
    refine turn_test ?_
    repeat' ((fail_if_success (with_reducible show wpAny _ _ (compareOp _ _ _) _ _ _)); first | walk1 | (dsimp only; walk1))
    refine in_list_ints (isList_of (hk _ _ eh)) ih ?_
    repeat' ((fail_if_success (with_reducible show Same _ _ ∧ _)); first | walk1 | (dsimp only; walk1))
    refine ⟨Same.rfl', k3, ?_⟩
    cases hany : ns.any (· == (i : Int)) with
    | true =>
      rw [if_pos rfl]
      refine rd_name rk k3 ⟨Same.rfl', k3, ?_⟩
      show IntsAre _ (if ns.any (· == (i : Int)) = true then _ else _)
      rw [if_pos hany]; exact ints_snoc hg
    | false =>
      rw [if_neg Bool.false_ne_true]
      show IntsAre _ (if ns.any (· == (i : Int)) = true then _ else _)
      rw [if_neg (by rw [hany]; exact Bool.false_ne_true)]; exact hg
  case hQ =>
    intro D h' tk ys n' hD hD' hk hg
    have hu : A.units + 2 < cLine := by have := C.hu; rw [cLine_is]; omega
    rw [inTo_self hasc hb] at hg
    refine rc_ints (A := A) (s := { s with heap := h', toks := tk }) hu (hk _ _ eh) hD' ih hg _ _ _ _ ?_
    repeat' ((fail_if_success (with_reducible show Q _ _)); first | walk1 | (dsimp only; walk1))
    exact hQ _ _ (Y.keeps hk) hk.pres
end

/-! texts as lists of codes -/
def M (l : List Nat) : Str := ⟨l.toArray⟩
theorem M_inj {a b : List Nat} (h : M a = M b) : a = b := by
  have := congrArg (fun s : Str => s.cps.toList) h
  simpa [M] using this
theorem M_iff {a b : List Nat} : M a = M b ↔ a = b := ⟨M_inj, fun h => h ▸ rfl⟩
theorem M_len (l : List Nat) : (M l).length = l.length := by simp [M, Str.length]
theorem M_list (l : List Nat) : (M l).cps.toList = l := rfl
theorem M_app (a b : List Nat) : M a ++ M b = M (a ++ b) := by
  apply Str.ext'
  show (M a).cps ++ (M b).cps = _
  simp [M]
theorem M_take (l : List Nat) (k : Nat) (h : k ≤ l.length) : Txt.slice (M l) none (some (k : Nat)) = M (l.take k) := by
  have := eq_of_beq (slice_closes_toL (x := M l) (j := (k : Nat)) (by omega) (by rw [M_len]; omega))
  rw [this]
  simp [M]
theorem M_drop (l : List Nat) (k : Nat) (h : k ≤ l.length) : Txt.slice (M l) (some (k : Nat)) none = M (l.drop k) := by
  have := eq_of_beq (slice_closes_fromL (x := M l) (i := (k : Nat)) (b := (l.length : Nat)) (by omega) (by rw [M_len]; omega) (by rw [M_len]))
  rw [this]
  show (⟨_⟩ : Str) = ⟨_⟩
  congr 1
  rw [M_list]
  congr 1
  exact List.take_of_length_le (by simp)
theorem M_item (l : List Nat) (k : Nat) (h : k < l.length) : Txt.item (M l) (k : Nat) = M [l.getD k 0] := by
  rw [item_meets (x := M l) (n := l.getD k 0) (by omega) (by
    rw [← Array.getElem?_toList, M_list, List.getD_eq_getElem?_getD]
    simp [h])]
  rfl
theorem cnt_is (c : Nat) : ∀ l : List Nat, cnt c l = (l.count c : Nat)
  | [] => rfl
  | x :: l => by
    rw [cnt_cons, cnt_is c l, List.count_cons]
    by_cases h : x = c
    · simp [h]; omega
    · simp [h]
theorem M_count (l : List Nat) (c : Nat) : Txt.count (M l) (M [c]) = (l.count c : Nat) := by
  have := count_cnt (M l) c
  rw [show (M [c]) = (⟨#[c]⟩ : Str) from rfl, this, M_list, cnt_is]
section
open Builtin Builtin.Str
theorem M_sub (l y : List Nat) (i : Nat) : subAt (M l) (M y) i = ((l.drop i).take y.length == y) := by
  rw [StrLaws.subAt_eq, M_list, M_list, M_len]
theorem M_starts (l y : List Nat) : Txt.startswith (M l) (M y) = (decide (y.length ≤ l.length) && l.take y.length == y) := by
  unfold Txt.startswith
  rw [M_sub, M_len, M_len]
  simp
theorem M_ends (l y : List Nat) : Txt.endswith (M l) (M y) = (decide (y.length ≤ l.length) && l.drop (l.length - y.length) == y) := by
  unfold Txt.endswith
  rw [M_sub, M_len, M_len]
  by_cases h : y.length ≤ l.length
  · have : ((l.drop (l.length - y.length)).take y.length) = l.drop (l.length - y.length) := List.take_of_length_le (by simp; omega)
    rw [this]; simp
  · simp [h]
/-- the sole place of a separator of like signs -/
theorem sole {a b : List Nat} {c n : Nat} (hn : 0 < n) (ha : c ∉ a) (hb : c ∉ b) (i : Nat) : StrLaws.At (M (a ++ List.replicate n c ++ b)) (M (List.replicate n c)) (M (a ++ List.replicate n c ++ b)).length i ↔ i = a.length := by
  unfold StrLaws.At
  rw [M_sub, M_len, M_len, List.length_replicate]
  have get : ∀ j, (a ++ List.replicate n c ++ b)[j]? = some c → a.length ≤ j ∧ j < a.length + n := by
    intro j hj
    rw [List.append_assoc] at hj
    by_cases h1 : j < a.length
    · rw [List.getElem?_append_left h1] at hj
      exact absurd (List.mem_of_getElem? hj) ha
    · rw [List.getElem?_append_right (Nat.not_lt.mp h1)] at hj
      by_cases h2 : j - a.length < n
      · omega
      · rw [List.getElem?_append_right (by simp; omega)] at hj
        exact absurd (List.mem_of_getElem? hj) hb
  constructor
  · rintro ⟨h1, h2⟩
    have h2 := eq_of_beq h2
    have e : ∀ j, j < n → (a ++ List.replicate n c ++ b)[i + j]? = some c := by
      intro j hj
      have := congrArg (fun l : List Nat => l[j]?) h2
      simp only [List.getElem?_take_of_lt hj, List.getElem?_drop, List.getElem?_replicate, if_pos hj] at this
      exact this
    have p := get _ (e 0 hn)
    have q := get _ (e (n - 1) (by omega))
    omega
  · rintro rfl
    refine ⟨by simp, ?_⟩
    rw [List.append_assoc, List.drop_left]
    simp
theorem occ_sole {a b : List Nat} {c n : Nat} (hn : 0 < n) (ha : c ∉ a) (hb : c ∉ b) :
    occurrences (M (a ++ List.replicate n c ++ b)) (M (List.replicate n c)) 0 (M (a ++ List.replicate n c ++ b)).length ((M (a ++ List.replicate n c ++ b)).length + 1) = [a.length] := by
  obtain ⟨f, hG, hf⟩ := StrLaws.occ_tight (M (a ++ List.replicate n c ++ b)) (M (List.replicate n c)) (by rw [M_len, List.length_replicate]; exact hn)
  generalize occurrences (M (a ++ List.replicate n c ++ b)) (M (List.replicate n c)) 0 (M (a ++ List.replicate n c ++ b)).length ((M (a ++ List.replicate n c ++ b)).length + 1) = occ at hG
  match occ, hG with
  | [], hG =>
    have e : f = 0 := hG
    exact absurd ((sole hn ha hb a.length).mpr rfl) (hf _ (by omega))
  | [i], hG => rw [(sole hn ha hb i).mp hG.2.1]
  | i :: j :: r, hG =>
    have e1 := (sole hn ha hb i).mp hG.2.1
    have h2 := hG.2.2.2
    have e2 := (sole hn ha hb j).mp h2.2.1
    have h3 := h2.1
    rw [M_len, List.length_replicate] at h3
    omega
theorem split_sole {a b : List Nat} {c n : Nat} (hn : 0 < n) (hc : c < 256) (ha : c ∉ a) (hb : c ∉ b) : Txt.split (M (a ++ List.replicate n c ++ b)) (M (List.replicate n c)) = [M a, M b] := by
  unfold Txt.split
  have k1 : PySem.Builtin.Str.strKind (M (List.replicate n c)) = 1 := by
    unfold PySem.Builtin.Str.strKind
    rw [if_pos]
    rw [← Array.all_toList, M_list, List.all_eq_true]
    intro x hx
    rw [List.eq_of_mem_replicate hx]; simpa using hc
  have k2 : ∀ s : Str, 1 ≤ PySem.Builtin.Str.strKind s := fun s => by unfold PySem.Builtin.Str.strKind; split; omega; split <;> omega
  rw [if_neg (by
    have h2 := k2 (M (a ++ List.replicate n c ++ b))
    rw [k1, M_len, M_len, Bool.or_eq_true, decide_eq_true_eq, decide_eq_true_eq, List.length_append, List.length_append, List.length_replicate]
    omega)]
  rw [occ_sole hn ha hb, if_neg (by simp), StrLaws.partsBetween_eq]
  show [strSub _ 0 _, strSub _ _ _] = _
  have e1 : strSub (M (a ++ List.replicate n c ++ b)) 0 a.length = M a := by
    apply Str.ext'; apply Array.toList_inj.mp
    rw [StrLaws.strSub_toList, M_list, M_list]; simp
  have e2 : strSub (M (a ++ List.replicate n c ++ b)) (a.length + (M (List.replicate n c)).length) (M (a ++ List.replicate n c ++ b)).length = M b := by
    apply Str.ext'; apply Array.toList_inj.mp
    rw [StrLaws.strSub_toList, M_list, M_list, M_len, M_len]
    have : (a ++ List.replicate n c ++ b).drop (a.length + (List.replicate n c).length) = b := by
      rw [← List.length_append, List.drop_left]
    rw [this]
    exact List.take_of_length_le (by simp; omega)
  rw [e1, e2]
end
theorem join_two (v a b : List Nat) : Txt.join (M v) [M a, M b] = M (a ++ v ++ b) := by
  unfold Txt.join
  rw [StrLaws.glued_eq_join]
  show M a ++ M v ++ M b = _
  rw [M_app, M_app]

/-! the plain law, on lists of codes -/
def cd (b : Bool) : Nat := bif b then 98 else 97
def eqL : List Nat → List Nat → Bool
  | [], [] => true
  | x :: a, y :: b => bif Nat.beq x y then eqL a b else false
  | _, _ => false
def sumB : List Nat → Nat → Nat
  | [], _ => 0
  | x :: r, p => bif Nat.beq x 98 then p + sumB r (p + 1) else sumB r (p + 1)
def hueL (l : List Nat) : Nat := sumB l 1 % 8
def delL : List Nat → Nat → List Nat
  | [], _ => []
  | _ :: r, 0 => r
  | x :: r, p + 1 => x :: delL r p
def insL : List Nat → Nat → Nat → List Nat
  | l, 0, c => c :: l
  | [], _ + 1, c => [c]
  | x :: r, p + 1, c => x :: insL r p c
/-- the run of like signs at p: how many before, how many behind -/
def loL (l : List Nat) (c : Nat) : Nat → Nat
  | 0 => 0
  | k + 1 => bif Nat.beq (l.getD k 0) c then loL l c k else k + 1
def hiL (l : List Nat) (c : Nat) (i : Nat) : Nat → Nat
  | 0 => i
  | d + 1 => bif Nat.beq (l.getD (i + 1) 0) c then hiL l c (i + 1) d else i
def fromL (a : Nat) : Nat → List Nat
  | 0 => []
  | n + 1 => a :: fromL (a + 1) n
def runL (l : List Nat) (p : Nat) : List Nat := fromL (loL l (l.getD p 0) p) (hiL l (l.getD p 0) p (l.length - 1 - p) + 1 - loL l (l.getD p 0) p)
/-- the gaps at which the dots stand for what lacks -/
def gapBL (x y : List Nat) (k : Nat) : Bool := bif eqL (y.take k) (x.take k) then eqL (y.drop (y.length - (x.drop k).length)) (x.drop k) else false
def gapsL (x y : List Nat) : List Nat → List Nat
  | [] => []
  | k :: r => bif gapBL x y k then k :: gapsL x y r else gapsL x y r
def pickL (l : List Nat) : List (List Nat) → List Nat → List Nat
  | f :: fs, g :: gs => bif eqL f l then g :: pickL l fs gs else pickL l fs gs
  | _, _ => []
def cntL (c : Nat) : List Nat → Nat
  | [] => 0
  | x :: r => bif Nat.beq x c then cntL c r + 1 else cntL c r
def pbL (x : List Nat) (n i : Nat) : Option (List Nat) :=
  bif Nat.ble n (cntL 98 x) then (bif Nat.beq (cntL 98 (x.drop i)) n then some (insL x i 97) else none)
  else (bif Nat.beq (cntL 97 (x.take i) + cntL 98 x + 1) n then some (insL x i 98) else none)
def pbFL (x : List Nat) (n i : Nat) : Nat → List Nat
  | 0 => []
  | d + 1 => match pbL x n i with
    | some v => v
    | none => pbFL x n (i + 1) d
/-- how many runs -/
def runsL : List Nat → Nat
  | [] => 0
  | [_] => 1
  | x :: y :: r => bif Nat.beq x y then runsL (y :: r) else runsL (y :: r) + 1
/-- the first offer of a hue -/
def firstL (h : Nat) : List (List Nat) → Option (List Nat)
  | [] => none
  | f :: fs => bif Nat.beq (hueL f) h then some f else firstL h fs
def sameL (f : List Nat) : Option (List Nat) → Bool
  | none => false
  | some g => eqL f g
def distL (fs : List (List Nat)) : List (List Nat) → Bool
  | [] => true
  | f :: r => bif sameL f (firstL (hueL f) fs) then distL fs r else false
def hasL (fs : List (List Nat)) : Nat → Nat
  | 0 => 0
  | h + 1 => match firstL h fs with
    | none => hasL fs h
    | some _ => hasL fs h + 1
def offsL (x : List Nat) : List (List Nat) := [insL x 0 97, insL x 0 98, insL x 1 97, insL x 1 98, insL x 2 97, insL x 2 98, insL x 3 97, insL x 3 98, insL x 4 97, insL x 4 98, insL x 5 97, insL x 5 98, insL x 6 97, insL x 6 98]
def outsL (y : List Nat) : List (List Nat) := [delL y 0, delL y 1, delL y 2, delL y 3, delL y 4, delL y 5, delL y 6, delL y 7]
def lossAll (x : List Nat) : Bool := bif distL (offsL x) (offsL x) then Nat.beq (hasL (offsL x) 8) 8 else false
def gainAll (y : List Nat) : Bool := bif distL (outsL y) (outsL y) then Nat.beq (hasL (outsL y) 8) (runsL y) else false
def lossAt (l : List Nat) (p : Nat) : Bool :=
  eqL (pbFL (delL l p) ((hueL l + 8 - hueL (delL l p)) % 8) 0 7) l && eqL (gapsL (delL l p) l [0, 1, 2, 3, 4, 5, 6]) (runL l p) && eqL (pickL l (offsL (delL l p)) [0, 0, 1, 1, 2, 2, 3, 3, 4, 4, 5, 5, 6, 6]) (runL l p) && sameL l (firstL (hueL l) (offsL (delL l p)))
def gainAt (l y : List Nat) (p : Nat) : Bool :=
  eqL (gapsL l y [0, 1, 2, 3, 4, 5, 6, 7]) (runL y p) && eqL (pickL l (outsL y) [0, 1, 2, 3, 4, 5, 6, 7]) (runL y p) && sameL l (firstL (hueL l) (outsL y))
theorem loss_all : ∀ a b c d e f : Bool, lossAll [cd a, cd b, cd c, cd d, cd e, cd f] = true := by decide +kernel
theorem gain_all : ∀ a b c d e f g h : Bool, gainAll [cd a, cd b, cd c, cd d, cd e, cd f, cd g, cd h] = true := by decide +kernel
theorem loss_at_ff : ∀ c d e f g : Bool, ∀ p : Fin 7, lossAt [cd false, cd false, cd c, cd d, cd e, cd f, cd g] p.val = true := by decide +kernel
theorem loss_at_ft : ∀ c d e f g : Bool, ∀ p : Fin 7, lossAt [cd false, cd true, cd c, cd d, cd e, cd f, cd g] p.val = true := by decide +kernel
theorem loss_at_tf : ∀ c d e f g : Bool, ∀ p : Fin 7, lossAt [cd true, cd false, cd c, cd d, cd e, cd f, cd g] p.val = true := by decide +kernel
theorem loss_at_tt : ∀ c d e f g : Bool, ∀ p : Fin 7, lossAt [cd true, cd true, cd c, cd d, cd e, cd f, cd g] p.val = true := by decide +kernel
theorem loss_at : ∀ a b c d e f g : Bool, ∀ p : Fin 7, lossAt [cd a, cd b, cd c, cd d, cd e, cd f, cd g] p.val = true
  | false, false => loss_at_ff
  | false, true => loss_at_ft
  | true, false => loss_at_tf
  | true, true => loss_at_tt
theorem gain_at_ff : ∀ c d e f g z : Bool, ∀ p : Fin 8, gainAt [cd false, cd false, cd c, cd d, cd e, cd f, cd g] (insL [cd false, cd false, cd c, cd d, cd e, cd f, cd g] p.val (cd z)) p.val = true := by decide +kernel
theorem gain_at_ft : ∀ c d e f g z : Bool, ∀ p : Fin 8, gainAt [cd false, cd true, cd c, cd d, cd e, cd f, cd g] (insL [cd false, cd true, cd c, cd d, cd e, cd f, cd g] p.val (cd z)) p.val = true := by decide +kernel
theorem gain_at_tf : ∀ c d e f g z : Bool, ∀ p : Fin 8, gainAt [cd true, cd false, cd c, cd d, cd e, cd f, cd g] (insL [cd true, cd false, cd c, cd d, cd e, cd f, cd g] p.val (cd z)) p.val = true := by decide +kernel
theorem gain_at_tt : ∀ c d e f g z : Bool, ∀ p : Fin 8, gainAt [cd true, cd true, cd c, cd d, cd e, cd f, cd g] (insL [cd true, cd true, cd c, cd d, cd e, cd f, cd g] p.val (cd z)) p.val = true := by decide +kernel
theorem gain_at : ∀ a b c d e f g z : Bool, ∀ p : Fin 8, gainAt [cd a, cd b, cd c, cd d, cd e, cd f, cd g] (insL [cd a, cd b, cd c, cd d, cd e, cd f, cd g] p.val (cd z)) p.val = true
  | false, false => gain_at_ff
  | false, true => gain_at_ft
  | true, false => gain_at_tf
  | true, true => gain_at_tt

theorem eqL_iff : ∀ {a b : List Nat}, eqL a b = true ↔ a = b
  | [], [] => by simp [eqL]
  | [], _ :: _ => by simp [eqL]
  | _ :: _, [] => by simp [eqL]
  | x :: a, y :: b => by
    unfold eqL
    cases h : Nat.beq x y with
    | true => rw [Nat.eq_of_beq_eq_true h]; simp [eqL_iff]
    | false => simp; intro e; exact absurd e (Nat.ne_of_beq_eq_false h)
def AB (l : List Nat) : Prop := ∀ c ∈ l, c = 97 ∨ c = 98
theorem b_is : Str.ofString "b" = M [98] := by decide
theorem a_is : Str.ofString "a" = M [97] := by decide
theorem dash_is : Str.ofString "-" = M [45] := by decide
theorem dots_is : Str.ofString "..." = M [46, 46, 46] := by decide
theorem ab_is : Str.ofString "ab" = M [97, 98] := by decide
theorem empty_is : Str.ofString "" = M [] := by decide
theorem sign_is (j : Nat) : signS j = M [97 + j] := rfl
theorem M_beq (a b : List Nat) : (M a == M b) = (a == b) := by
  by_cases h : a = b
  · subst h; simp
  · rw [beq_false_of_ne h, beq_false_of_ne (fun e => h (M_inj e))]
theorem sumB_app : ∀ (a : List Nat) (x p : Nat), sumB (a ++ [x]) p = sumB a p + (bif Nat.beq x 98 then p + a.length else 0)
  | [], x, p => by simp only [List.nil_append, sumB]; cases Nat.beq x 98 <;> simp
  | y :: a, x, p => by
    simp only [List.cons_append, sumB, sumB_app a x (p + 1), List.length_cons]
    cases Nat.beq y 98 <;> cases Nat.beq x 98 <;> simp <;> omega
theorem turn_is (l : List Nat) : ∀ k, k ≤ l.length → turnTo (M l) k = (sumB (l.take k) 1 : Nat)
  | 0, _ => by simp [turnTo, sumB]
  | k + 1, h => by
    have ih := turn_is l k (by omega)
    unfold turnTo
    rw [M_item l k (by omega), b_is, M_beq, ih]
    have e : l.take (k + 1) = l.take k ++ [l.getD k 0] := by
      rw [List.take_add_one, List.getD_eq_getElem?_getD, List.getElem?_eq_getElem (by omega)]; rfl
    rw [e, sumB_app, List.length_take, Nat.min_eq_left (by omega)]
    have hb : ([l.getD k 0] == [98]) = Nat.beq (l.getD k 0) 98 := by
      cases hc : Nat.beq (l.getD k 0) 98 with
      | true => rw [Nat.eq_of_beq_eq_true hc]; rfl
      | false => exact beq_false_of_ne fun e => Nat.ne_of_beq_eq_false hc (List.cons.inj e).1
    rw [hb]
    cases Nat.beq (l.getD k 0) 98 <;> simp <;> omega
theorem hue_is (l : List Nat) : hueN (M l) = hueL l := by
  unfold hueN hueL
  rw [M_len, turn_is l _ (Nat.le_refl _), List.take_length]
  omega
theorem del_is : ∀ (l : List Nat) (p : Nat), delL l p = l.take p ++ l.drop (p + 1)
  | [], p => by simp [delL]
  | x :: r, 0 => by simp [delL]
  | x :: r, p + 1 => by simp [delL, del_is r p]
theorem ins_is : ∀ (l : List Nat) (p c : Nat), p ≤ l.length → insL l p c = l.take p ++ c :: l.drop p
  | l, 0, c, _ => by cases l <;> simp [insL]
  | [], p + 1, c, h => by simp at h
  | x :: r, p + 1, c, h => by simp [insL, ins_is r p c (by simpa using h)]
theorem del_len (l : List Nat) (p : Nat) (h : p < l.length) : (delL l p).length = l.length - 1 := by rw [del_is]; simp; omega
theorem ins_len (l : List Nat) (p c : Nat) (h : p ≤ l.length) : (insL l p c).length = l.length + 1 := by rw [ins_is _ _ _ h]; simp; omega
theorem AB.del {l : List Nat} (h : AB l) (p : Nat) : AB (delL l p) := fun c hc => by
  rw [del_is] at hc
  rcases List.mem_append.mp hc with q | q
  · exact h c (List.mem_of_mem_take q)
  · exact h c (List.mem_of_mem_drop q)
theorem AB.ins {l : List Nat} (h : AB l) {p x : Nat} (hp : p ≤ l.length) (hx : x = 97 ∨ x = 98) : AB (insL l p x) := fun c hc => by
  rw [ins_is _ _ _ hp] at hc
  rcases List.mem_append.mp hc with q | q
  · exact h c (List.mem_of_mem_take q)
  · rcases List.mem_cons.mp q with rfl | q
    · exact hx
    · exact h c (List.mem_of_mem_drop q)
theorem short_is (l : List Nat) (p : Nat) (h : p < l.length) : Txt.slice (M l) none (some (p : Nat)) ++ Txt.slice (M l) (some ((p : Nat) + 1)) none = M (delL l p) := by
  rw [M_take l p (by omega), show (((p : Nat) : Int) + 1) = ((p + 1 : Nat) : Int) by omega, M_drop l (p + 1) (by omega), M_app, del_is]
theorem came_is (l : List Nat) (p c : Nat) (h : p ≤ l.length) (hc : c < 2) : Txt.slice (M l) none (some (p : Nat)) ++ Txt.item (Str.ofString "ab") (c : Nat) ++ Txt.slice (M l) (some (p : Nat)) none = M (insL l p (97 + c)) := by
  rw [M_take l p h, M_drop l p h, ab_is, M_item _ c (by simpa using hc), M_app, M_app, ins_is _ _ _ h]
  have e : [97, 98].getD c 0 = 97 + c := by
    have : c = 0 ∨ c = 1 := by omega
    rcases this with rfl | rfl <;> rfl
  rw [e, List.append_assoc]; rfl
theorem out_is (y : List Nat) (n : Nat) (h : n ≤ y.length) : outL (M y) n = (List.range n).map fun k => M (delL y k) := by
  unfold outL
  refine List.map_congr_left fun k hk => ?_
  exact short_is y k (Nat.lt_of_lt_of_le (List.mem_range.mp hk) h)
theorem noSign {l : List Nat} (h : AB l) {c : Nat} (hc : c < 97) (k : Nat) : c ∉ l.take k ∧ c ∉ l.drop k := by
  constructor
  · intro q; rcases h c (List.mem_of_mem_take q) with e | e <;> omega
  · intro q; rcases h c (List.mem_of_mem_drop q) with e | e <;> omega
theorem cut_is (x : List Nat) (k : Nat) (h : k ≤ x.length) : cutAt (M x) k = M (x.take k ++ List.replicate 1 45 ++ x.drop k) := by
  unfold cutAt
  rw [M_take x k h, M_drop x k h, dash_is, M_app, M_app]; rfl
theorem repl_is {x : List Nat} (hx : AB x) (k : Nat) (h : k ≤ x.length) (v : List Nat) : replF (cutAt (M x) k) (M v) = M (x.take k ++ v ++ x.drop k) := by
  unfold replF
  rw [cut_is x k h, dash_is]
  obtain ⟨a, b⟩ := noSign hx (c := 45) (by decide) k
  rw [show (M [45]) = M (List.replicate 1 45) from rfl, split_sole (by decide) (by decide) a b, join_two]
theorem off_is {x : List Nat} (hx : AB x) (n : Nat) (h : n ≤ 2 * x.length + 2) : offF (M x) n = (List.range n).map fun k => M (insL x (k / 2) (97 + k % 2)) := by
  unfold offF
  refine List.map_congr_left fun k hk => ?_
  have hk' := List.mem_range.mp hk
  rw [sign_is, repl_is hx _ (by omega), ins_is _ _ _ (by omega), List.append_assoc]; rfl
theorem dot_is {x : List Nat} (hx : AB x) (k : Nat) (h : k ≤ x.length) : dotAt (M x) k = M (x.take k ++ List.replicate 3 46 ++ x.drop k) := by
  unfold dotAt
  rw [dots_is, repl_is hx k h]; rfl
theorem dotOk_is {x : List Nat} (hx : AB x) (k : Nat) (h : k ≤ x.length) (h1 : x.length ≤ 12) (h0 : 0 < x.length) : DotOk (M x) k := by
  unfold DotOk
  obtain ⟨a, b⟩ := noSign hx (c := 46) (by decide) k
  rw [dot_is hx k h, dots_is, show (M [46, 46, 46]) = M (List.replicate 3 46) from rfl, split_sole (by decide) (by decide) a b, M_take x k h, M_drop x k h]
  refine ⟨rfl, ?_, ?_, ?_⟩
  · have := (StrLaws.found_iff (M (x.take k ++ List.replicate 3 46 ++ x.drop k)) (M (List.replicate 3 46))).mpr ⟨_, (sole (by decide) a b _).mpr rfl⟩
    simpa using this
  · rw [M_len]; simp; omega
  · rw [M_len, M_len]; simp; omega
theorem gap_is (x y : List Nat) (k : Nat) (h : k ≤ x.length) (hxy : x.length ≤ y.length) : gapAt (M x) (M y) k = gapBL x y k := by
  unfold gapAt gapBL emF
  rw [M_take x k h, M_drop x k h, M_starts, M_ends, M_len, M_len, M_len]
  have l1 : (x.take k).length = k := by simp; omega
  have l2 : (x.drop k).length = x.length - k := by simp
  rw [l1, l2]
  have e1 : decide (k + (x.length - k) ≤ y.length) = true := decide_eq_true (by omega)
  have e2 : decide (k ≤ y.length) = true := decide_eq_true (by omega)
  have e3 : decide (x.length - k ≤ y.length) = true := decide_eq_true (by omega)
  rw [e1, e2, e3]
  have f1 : (k == 0 || (y.take k == x.take k)) = eqL (y.take k) (x.take k) := by
    by_cases hk : k = 0
    · subst hk; simp [eqL]
    · rw [show (k == 0) = false by simpa using hk, Bool.false_or]
      rw [Bool.eq_iff_iff, eqL_iff, beq_iff_eq]
  have f2 : (x.length - k == 0 || (y.drop (y.length - (x.length - k)) == x.drop k)) = eqL (y.drop (y.length - (x.length - k))) (x.drop k) := by
    by_cases hk : x.length - k = 0
    · rw [hk]
      rw [List.drop_of_length_le (by omega : x.length ≤ k)]
      simp [eqL]
    · rw [show (x.length - k == 0) = false by simpa using hk, Bool.false_or]
      rw [Bool.eq_iff_iff, eqL_iff, beq_iff_eq]
  simp only [Bool.true_and, Bool.and_true]
  rw [f1, f2]
  cases eqL (y.take k) (x.take k) <;> rfl
theorem gapsL_app (x y : List Nat) : ∀ (a b : List Nat), gapsL x y (a ++ b) = gapsL x y a ++ gapsL x y b
  | [], b => rfl
  | k :: a, b => by
    simp only [List.cons_append, gapsL, gapsL_app x y a b]
    cases gapBL x y k <;> rfl
theorem gaps_is (x y : List Nat) (hxy : x.length ≤ y.length) : ∀ n, n ≤ x.length + 1 → gapsTo (M x) (M y) n = (gapsL x y (List.range n)).map fun k : Nat => (k : Int)
  | 0, _ => rfl
  | n + 1, h => by
    rw [List.range_succ, gapsL_app, List.map_append, ← gaps_is x y hxy n (by omega)]
    show (if gapAt (M x) (M y) n = true then _ else _) = _
    rw [gap_is x y n (by omega) hxy]
    simp only [gapsL]
    cases gapBL x y n <;> simp
theorem upFrom_is : ∀ (n a : Nat), upFrom (a : Nat) n = (fromL a n).map fun k : Nat => (k : Int)
  | 0, _ => rfl
  | n + 1, a => by
    show (a : Int) :: upFrom ((a : Int) + 1) n = _
    rw [show ((a : Int) + 1) = ((a + 1 : Nat) : Int) by omega, upFrom_is n (a + 1)]; rfl
theorem sgn_beq (a b : Nat) : (M [a] == M [b]) = Nat.beq a b := by
  rw [M_beq]
  cases hc : Nat.beq a b with
  | true => rw [Nat.eq_of_beq_eq_true hc]; simp
  | false => exact beq_false_of_ne fun e => Nat.ne_of_beq_eq_false hc (List.cons.inj e).1
theorem lo_is (l : List Nat) (p : Nat) (hp : p < l.length) : ∀ k, k ≤ l.length → runLo (M l) p k = loL l (l.getD p 0) k
  | 0, _ => rfl
  | k + 1, h => by
    unfold runLo loL
    rw [M_item l k (by omega), M_item l p hp, sgn_beq, lo_is l p hp k (by omega)]
    cases Nat.beq (l.getD k 0) (l.getD p 0) <;> rfl
theorem hi_is (l : List Nat) (p : Nat) (hp : p < l.length) : ∀ d i, i + d < l.length → runHi (M l) p i d = hiL l (l.getD p 0) i d
  | 0, _, _ => rfl
  | d + 1, i, h => by
    unfold runHi hiL
    rw [show ((i : Int) + 1) = ((i + 1 : Nat) : Int) by omega, M_item l (i + 1) (by omega), M_item l p hp, sgn_beq, hi_is l p hp d (i + 1) (by omega)]
    cases Nat.beq (l.getD (i + 1) 0) (l.getD p 0) <;> rfl
theorem run_is (l : List Nat) (p : Nat) (hp : p < l.length) : runOf (M l) p = (runL l p).map fun k : Nat => (k : Int) := by
  unfold runOf runL
  rw [M_len, lo_is l p hp p (by omega), hi_is l p hp _ _ (by omega), upFrom_is]
theorem cntL_is (c : Nat) : ∀ l : List Nat, l.count c = cntL c l
  | [] => rfl
  | x :: r => by
    unfold cntL
    rw [List.count_cons, cntL_is c r]
    cases h : Nat.beq x c with
    | true => rw [Nat.eq_of_beq_eq_true h]; simp
    | false =>
      have := Nat.ne_of_beq_eq_false h
      simp [this]
theorem pb_at {x : List Nat} (n i : Nat) (hi : i ≤ x.length) : pbAt (M x) (n : Nat) i = (pbL x n i).map M := by
  unfold pbAt pbL
  rw [M_take x i hi, M_drop x i hi, b_is, a_is, M_count, M_count, M_count, cntL_is, cntL_is, cntL_is]
  have s1 : M (x.take i) ++ M [97] ++ M (x.drop i) = M (insL x i 97) := by rw [M_app, M_app, ins_is _ _ _ hi, List.append_assoc]; rfl
  have s2 : M (x.take i) ++ M [98] ++ M (x.drop i) = M (insL x i 98) := by rw [M_app, M_app, ins_is _ _ _ hi, List.append_assoc]; rfl
  rw [s1, s2]
  cases h1 : Nat.ble n (cntL 98 x) with
  | true =>
    have h1' := Nat.le_of_ble_eq_true h1
    rw [if_pos (by omega)]
    cases h2 : Nat.beq (cntL 98 (x.drop i)) n with
    | true => rw [if_pos (by have := Nat.eq_of_beq_eq_true h2; omega)]; rfl
    | false => rw [if_neg (by have := Nat.ne_of_beq_eq_false h2; omega)]; rfl
  | false =>
    have h1' : ¬ n ≤ cntL 98 x := fun q => by rw [Nat.ble_eq_true_of_le q] at h1; cases h1
    rw [if_neg (by omega)]
    cases h2 : Nat.beq (cntL 97 (x.take i) + cntL 98 x + 1) n with
    | true => rw [if_pos (by have := Nat.eq_of_beq_eq_true h2; omega)]; rfl
    | false => rw [if_neg (by have := Nat.ne_of_beq_eq_false h2; omega)]; rfl
theorem pb_is {x : List Nat} (n : Nat) : ∀ d i, i + d ≤ x.length + 1 → pbFrom (M x) (n : Nat) i d = M (pbFL x n i d)
  | 0, _, _ => empty_is
  | d + 1, i, h => by
    unfold pbFrom pbFL
    rw [pb_at n i (by omega)]
    cases pbL x n i with
    | some v => rfl
    | none => exact pb_is n d (i + 1) (by omega)
theorem ahead_is (a b : Nat) (hb : b < 8) : (((a : Nat) : Int) - (b : Nat)) % 8 = (((a + 8 - b) % 8 : Nat) : Int) := by omega
/-- how many runs begin before n -/
def runsTo (y : List Nat) : Nat → Nat
  | 0 => 0
  | 1 => 1
  | k + 2 => runsTo y (k + 1) + (bif Nat.beq (y.getD k 0) (y.getD (k + 1) 0) then 0 else 1)
theorem beg_step (W : Str) (k : Nat) : (begL W (k + 1)).length = (begL W k).length + (bif begAt W k then 1 else 0) := by
  show (if begAt W k = true then begL W k ++ [(k : Int)] else begL W k).length = _
  cases begAt W k <;> simp
theorem begL_is (y : List Nat) : ∀ n, n ≤ y.length → (begL (M y) n).length = runsTo y n
  | 0, _ => rfl
  | 1, _ => by rw [beg_step]; rfl
  | k + 2, h => by
    rw [beg_step, begL_is y (k + 1) (by omega)]
    show _ = runsTo y (k + 1) + (bif Nat.beq (y.getD k 0) (y.getD (k + 1) 0) then 0 else 1)
    unfold begAt
    rw [M_item y (k + 1) (by omega), show (((k + 1 : Nat) : Int) - 1) = ((k : Nat) : Int) by omega, M_item y k (by omega), sgn_beq]
    have e : Nat.beq (y.getD (k + 1) 0) (y.getD k 0) = Nat.beq (y.getD k 0) (y.getD (k + 1) 0) := by
      rw [Bool.eq_iff_iff, Nat.beq_eq, Nat.beq_eq]; exact eq_comm
    rw [e, show (k + 1 == 0) = false from rfl, Bool.false_or]
    cases Nat.beq (y.getD k 0) (y.getD (k + 1) 0) <;> rfl
theorem runs8 (y : List Nat) (h : y.length = 8) : runsTo y 8 = runsL y := by
  match y, h with
  | [a, b, c, d, e, f, g, i], _ =>
    simp only [runsTo, runsL, List.getD_cons_zero, List.getD_cons_succ]
    generalize Nat.beq a b = b1
    generalize Nat.beq b c = b2
    generalize Nat.beq c d = b3
    generalize Nat.beq d e = b4
    generalize Nat.beq e f = b5
    generalize Nat.beq f g = b6
    generalize Nat.beq g i = b7
    revert b1 b2 b3 b4 b5 b6 b7
    decide

/-- what the statements ask of the offers -/
structure Offers (W : Str) (of : List Str) (gp run : List Int) (cnt n : Nat) : Prop where
  lo : of.length = n
  lg : gp.length = n
  le : ∀ x ∈ of, x.length ≤ 8
  hA : ((List.range n).filter fun j => decide (hueN (of.getD j default) = hueN W)).map (fun j => gp.getD j 0) = run
  hB : ∀ j, j < n → (hueN (of.getD j default) = hueN W ↔ of.getD j default = W)
  ds : ∃ ds : List (Int × Str), ds.Nodup ∧ ds.length = cnt ∧ (∀ p, p ∈ ds ↔ ∃ j, j < n ∧ (((hueN (of.getD j default) : Nat) : Int), of.getD j default) = p) ∧ (ds.map (·.1)).Nodup
theorem first_mem : ∀ {fs : List (List Nat)} {h : Nat} {f : List Nat}, firstL h fs = some f → f ∈ fs ∧ hueL f = h
  | [], _, _, e => by cases e
  | x :: fs, h, f, e => by
    unfold firstL at e
    cases hb : Nat.beq (hueL x) h with
    | true => rw [hb] at e; cases e; exact ⟨.head _, Nat.eq_of_beq_eq_true hb⟩
    | false => rw [hb] at e; have := first_mem (fs := fs) e; exact ⟨.tail _ this.1, this.2⟩
theorem same_is {f : List Nat} {o : Option (List Nat)} (h : sameL f o = true) : o = some f := by
  cases o with
  | none => cases h
  | some g => rw [eqL_iff.mp h]
theorem dist_is (fs : List (List Nat)) : ∀ r, distL fs r = true → ∀ f ∈ r, firstL (hueL f) fs = some f
  | [], _, f, hf => absurd hf List.not_mem_nil
  | x :: r, h, f, hf => by
    unfold distL at h
    cases hs : sameL x (firstL (hueL x) fs) with
    | false => rw [hs] at h; cases h
    | true =>
      rw [hs] at h
      rcases List.mem_cons.mp hf with rfl | hf
      · exact same_is hs
      · exact dist_is fs r h f hf
theorem pick_is (l : List Nat) : ∀ (fs : List (List Nat)) (gs : List Nat), gs.length = fs.length → ((List.range fs.length).filter fun j => eqL (fs.getD j []) l).map (fun j => gs.getD j 0) = pickL l fs gs
  | [], gs, _ => by cases gs <;> rfl
  | f :: fs, [], h => by simp at h
  | f :: fs, g :: gs, h => by
    have ih := pick_is l fs gs (by simpa using h)
    rw [List.length_cons, List.range_succ_eq_map, List.filter_cons, List.filter_map]
    unfold pickL
    rw [← ih]
    simp only [List.getD_cons_zero]
    cases eqL f l with
    | true => simp [Function.comp_def]
    | false => simp [Function.comp_def]
def dsL (fs : List (List Nat)) : Nat → List (Int × Str)
  | 0 => []
  | h + 1 => match firstL h fs with
    | none => dsL fs h
    | some f => (((h : Nat) : Int), M f) :: dsL fs h
theorem ds_len (fs : List (List Nat)) : ∀ h, (dsL fs h).length = hasL fs h
  | 0 => rfl
  | h + 1 => by
    unfold dsL hasL
    cases firstL h fs with
    | none => exact ds_len fs h
    | some f => simp [ds_len fs h]
theorem ds_mem (fs : List (List Nat)) : ∀ H (p : Int × Str), p ∈ dsL fs H ↔ ∃ h f, h < H ∧ firstL h fs = some f ∧ p = (((h : Nat) : Int), M f)
  | 0, p => by simp [dsL]
  | H + 1, p => by
    have ih := ds_mem fs H p
    unfold dsL
    cases hf : firstL H fs with
    | none =>
      rw [ih]
      constructor
      · rintro ⟨h, f, a, b, c⟩; exact ⟨h, f, by omega, b, c⟩
      · rintro ⟨h, f, a, b, c⟩
        have : h ≠ H := fun e => by rw [e, hf] at b; cases b
        exact ⟨h, f, by omega, b, c⟩
    | some f0 =>
      rw [List.mem_cons, ih]
      constructor
      · rintro (rfl | ⟨h, f, a, b, c⟩)
        · exact ⟨H, f0, by omega, hf, rfl⟩
        · exact ⟨h, f, by omega, b, c⟩
      · rintro ⟨h, f, a, b, c⟩
        by_cases e : h = H
        · subst e; rw [hf] at b; cases b; exact .inl c
        · exact .inr ⟨h, f, by omega, b, c⟩
theorem ds_fst (fs : List (List Nat)) : ∀ H, ((dsL fs H).map (·.1)).Nodup
  | 0 => List.nodup_nil
  | H + 1 => by
    have ih := ds_fst fs H
    unfold dsL
    cases hf : firstL H fs with
    | none => exact ih
    | some f0 =>
      rw [List.map_cons, List.nodup_cons]
      refine ⟨fun hm => ?_, ih⟩
      obtain ⟨p, hp, e⟩ := List.mem_map.mp hm
      obtain ⟨h, f, a, _, c⟩ := (ds_mem fs H p).mp hp
      rw [c] at e
      have : ((h : Nat) : Int) = (H : Nat) := e
      omega
theorem hueL_lt (l : List Nat) : hueL l < 8 := Nat.mod_lt _ (by decide)
theorem offers_of {l : List Nat} {fs : List (List Nat)} {gs run : List Nat} {cnt : Nat} (hl : gs.length = fs.length) (hd : distL fs fs = true) (hc : hasL fs 8 = cnt) (hp : pickL l fs gs = run) (hs : sameL l (firstL (hueL l) fs) = true) (hlen : ∀ f ∈ fs, f.length ≤ 8) :
    Offers (M l) (fs.map M) (gs.map fun k : Nat => (k : Int)) (run.map fun k : Nat => (k : Int)) cnt fs.length := by
  have get : ∀ j, j < fs.length → (fs.map M).getD j default = M (fs.getD j []) := fun j hj => by
    rw [List.getD_eq_getElem?_getD, List.getElem?_map, List.getD_eq_getElem?_getD, List.getElem?_eq_getElem hj]; rfl
  have mem : ∀ j, j < fs.length → fs.getD j [] ∈ fs := fun j hj => by
    rw [List.getD_eq_getElem?_getD, List.getElem?_eq_getElem hj]; exact List.getElem_mem hj
  have hB : ∀ f ∈ fs, (hueL f = hueL l ↔ f = l) := fun f hf => by
    constructor
    · intro e
      have a := dist_is fs fs hd f hf
      rw [e, same_is hs] at a
      exact (Option.some.inj a).symm
    · rintro rfl; rfl
  refine ⟨by simp, by simpa using hl, fun x hx => ?_, ?_, fun j hj => ?_, dsL fs 8, ?_, (ds_len fs 8).trans hc, fun p => ?_, ds_fst fs 8⟩
  · obtain ⟨f, hf, rfl⟩ := List.mem_map.mp hx
    rw [M_len]; exact hlen f hf
  · rw [← hp, ← pick_is l fs gs hl, List.map_map]
    have e1 : (List.range fs.length).filter (fun j => decide (hueN ((fs.map M).getD j default) = hueN (M l))) = (List.range fs.length).filter fun j => eqL (fs.getD j []) l := by
      refine List.filter_congr fun j hj => ?_
      have hj' := List.mem_range.mp hj
      rw [get j hj', hue_is, hue_is, Bool.eq_iff_iff, decide_eq_true_eq, eqL_iff]
      exact hB _ (mem j hj')
    rw [e1]
    refine List.map_congr_left fun j hj => ?_
    have hj' := List.mem_range.mp (List.mem_filter.mp hj).1
    simp only [Function.comp_def]
    rw [List.getD_eq_getElem?_getD, List.getElem?_map, List.getD_eq_getElem?_getD, List.getElem?_eq_getElem (by omega)]; rfl
  · rw [get j hj, hue_is, hue_is, M_iff]
    exact hB _ (mem j hj)
  · exact (List.pairwise_map.mp (ds_fst fs 8)).imp fun h e => h (by rw [e])
  · rw [ds_mem]
    constructor
    · rintro ⟨h, f, a, b, c⟩
      obtain ⟨m, e⟩ := first_mem b
      obtain ⟨j, hj⟩ := List.mem_iff_getElem?.mp m
      have hj' := (List.getElem?_eq_some_iff.mp hj).1
      refine ⟨j, hj', ?_⟩
      rw [get j hj', hue_is, List.getD_eq_getElem?_getD, hj, c]
      simp [e]
    · rintro ⟨j, hj, rfl⟩
      refine ⟨hueL (fs.getD j []), fs.getD j [], hueL_lt _, dist_is fs fs hd _ (mem j hj), ?_⟩
      rw [get j hj, hue_is]

theorem code_cd {c : Nat} (h : c = 97 ∨ c = 98) : ∃ b, c = cd b := by
  rcases h with rfl | rfl
  · exact ⟨false, rfl⟩
  · exact ⟨true, rfl⟩
theorem bits6 {l : List Nat} (h : l.length = 6) (ab : AB l) : ∃ a b c d e f : Bool, l = [cd a, cd b, cd c, cd d, cd e, cd f] := by
  match l, h with
  | [a, b, c, d, e, f], _ =>
    obtain ⟨a, rfl⟩ := code_cd (ab a (by simp))
    obtain ⟨b, rfl⟩ := code_cd (ab b (by simp))
    obtain ⟨c, rfl⟩ := code_cd (ab c (by simp))
    obtain ⟨d, rfl⟩ := code_cd (ab d (by simp))
    obtain ⟨e, rfl⟩ := code_cd (ab e (by simp))
    obtain ⟨f, rfl⟩ := code_cd (ab f (by simp))
    exact ⟨a, b, c, d, e, f, rfl⟩
theorem bits7 {l : List Nat} (h : l.length = 7) (ab : AB l) : ∃ a b c d e f g : Bool, l = [cd a, cd b, cd c, cd d, cd e, cd f, cd g] := by
  match l, h with
  | x :: r, h =>
    obtain ⟨a, rfl⟩ := code_cd (ab x (by simp))
    obtain ⟨b, c, d, e, f, g, rfl⟩ := bits6 (l := r) (by simpa using h) fun c hc => ab c (.tail _ hc)
    exact ⟨a, b, c, d, e, f, g, rfl⟩
theorem bits8 {l : List Nat} (h : l.length = 8) (ab : AB l) : ∃ a b c d e f g i : Bool, l = [cd a, cd b, cd c, cd d, cd e, cd f, cd g, cd i] := by
  match l, h with
  | x :: r, h =>
    obtain ⟨a, rfl⟩ := code_cd (ab x (by simp))
    obtain ⟨b, c, d, e, f, g, i, rfl⟩ := bits7 (l := r) (by simpa using h) fun c hc => ab c (.tail _ hc)
    exact ⟨a, b, c, d, e, f, g, i, rfl⟩
theorem offs_is {x : List Nat} (hx : AB x) (h : x.length = 6) : offF (M x) 14 = (offsL x).map M := by
  rw [off_is hx 14 (by omega)]; rfl
theorem outs_is {y : List Nat} (h : y.length = 8) : outL (M y) 8 = (outsL y).map M := by
  rw [out_is y 8 (by omega)]; rfl
structure LossFacts (l : List Nat) (p : Nat) : Prop where
  len : (M (delL l p)).length = 6
  off : Offers (M l) (offF (M (delL l p)) 14) (gapF 14) (runOf (M l) p) 8 14
  gaps : gapsTo (M (delL l p)) (M l) 7 = runOf (M l) p
  pb : pbFrom (M (delL l p)) (((hueN (M l) : Nat) - (hueN (M (delL l p)) : Nat) : Int) % 8) 0 7 = M l
  dot : ∀ k, k < 7 → DotOk (M (delL l p)) k
theorem loss_facts {l : List Nat} (h : l.length = 7) (ab : AB l) {p : Nat} (hp : p < 7) : LossFacts l p := by
  have hx : (delL l p).length = 6 := by rw [del_len _ _ (by omega), h]
  have abx := ab.del p
  have A : lossAll (delL l p) = true := by
    obtain ⟨a, b, c, d, e, f, e1⟩ := bits6 hx abx
    have := loss_all a b c d e f
    rw [← e1] at this
    exact this
  have B : lossAt l p = true := by
    obtain ⟨a, b, c, d, e, f, g, e1⟩ := bits7 h ab
    have := loss_at a b c d e f g ⟨p, hp⟩
    rw [← e1] at this
    exact this
  unfold lossAll at A
  cases hd : distL (offsL (delL l p)) (offsL (delL l p)) with
  | false => rw [hd] at A; cases A
  | true =>
    rw [hd] at A
    have hc := Nat.eq_of_beq_eq_true A
    unfold lossAt at B
    rw [Bool.and_eq_true, Bool.and_eq_true, Bool.and_eq_true, eqL_iff, eqL_iff, eqL_iff] at B
    obtain ⟨⟨⟨b1, b2⟩, b3⟩, b4⟩ := B
    refine ⟨by rw [M_len, hx], ?_, ?_, ?_, fun k hk => dotOk_is abx k (by omega) (by omega) (by omega)⟩
    · have := offers_of (l := l) (fs := offsL (delL l p)) (gs := [0, 0, 1, 1, 2, 2, 3, 3, 4, 4, 5, 5, 6, 6]) rfl hd hc b3 b4 (fun f hf => by
        unfold offsL at hf
        simp only [List.mem_cons, List.not_mem_nil, or_false] at hf
        rcases hf with rfl | rfl | rfl | rfl | rfl | rfl | rfl | rfl | rfl | rfl | rfl | rfl | rfl | rfl <;> (rw [ins_len _ _ _ (by omega)]; omega))
      rw [run_is l p (by omega), offs_is abx hx]
      exact this
    · rw [gaps_is _ _ (by omega) 7 (by omega), run_is l p (by omega), ← b2]; rfl
    · rw [hue_is, hue_is, ahead_is _ _ (hueL_lt _), pb_is _ 7 0 (by omega), b1]
structure GainFacts (l : List Nat) (p c : Nat) : Prop where
  len : (M (insL l p (97 + c))).length = 8
  off : Offers (M l) (outL (M (insL l p (97 + c))) 8) [0, 1, 2, 3, 4, 5, 6, 7] (runOf (M (insL l p (97 + c))) p) (begL (M (insL l p (97 + c))) 8).length 8
  gaps : gapsTo (M l) (M (insL l p (97 + c))) 8 = runOf (M (insL l p (97 + c))) p
  dot : ∀ k, k < 8 → DotOk (M l) k
theorem gain_facts {l : List Nat} (h : l.length = 7) (ab : AB l) {p c : Nat} (hp : p < 8) (hc2 : c < 2) : GainFacts l p c := by
  have hy : (insL l p (97 + c)).length = 8 := by rw [ins_len _ _ _ (by omega), h]
  have aby : AB (insL l p (97 + c)) := ab.ins (by omega) (by omega)
  have A : gainAll (insL l p (97 + c)) = true := by
    obtain ⟨a, b, c', d, e, f, g, i, e1⟩ := bits8 hy aby
    have := gain_all a b c' d e f g i
    rw [← e1] at this
    exact this
  have B : gainAt l (insL l p (97 + c)) p = true := by
    obtain ⟨a, b, c', d, e, f, g, e1⟩ := bits7 h ab
    obtain ⟨z, e2⟩ := code_cd (c := 97 + c) (by omega)
    have := gain_at a b c' d e f g z ⟨p, hp⟩
    rw [← e1, ← e2] at this
    exact this
  unfold gainAll at A
  cases hd : distL (outsL (insL l p (97 + c))) (outsL (insL l p (97 + c))) with
  | false => rw [hd] at A; cases A
  | true =>
    rw [hd] at A
    have hc := Nat.eq_of_beq_eq_true A
    unfold gainAt at B
    rw [Bool.and_eq_true, Bool.and_eq_true, eqL_iff, eqL_iff] at B
    obtain ⟨⟨b2, b3⟩, b4⟩ := B
    refine ⟨by rw [M_len, hy], ?_, ?_, fun k hk => dotOk_is ab k (by omega) (by omega) (by omega)⟩
    · have := offers_of (l := l) (fs := outsL (insL l p (97 + c))) (gs := [0, 1, 2, 3, 4, 5, 6, 7]) rfl hd hc b3 b4 (fun f hf => by
        unfold outsL at hf
        simp only [List.mem_cons, List.not_mem_nil, or_false] at hf
        rcases hf with rfl | rfl | rfl | rfl | rfl | rfl | rfl | rfl <;> (rw [del_len _ _ (by omega)]; omega))
      rw [run_is _ p (by omega), outs_is hy, begL_is _ 8 (by omega), runs8 _ hy]
      exact this
    · rw [gaps_is _ _ (by omega) 8 (by omega), run_is _ p (by omega), ← b2]; rfl

theorem forBody_eq : forBody = [forBody.getD 0 default, forBody.getD 1 default, forBody.getD 2 default, forBody.getD 3 default, forBody.getD 4 default, forBody.getD 5 default, forBody.getD 6 default, forBody.getD 7 default] := rfl
theorem ifA_eq : ifA = [ifA.getD 0 default, ifA.getD 1 default, ifA.getD 2 default, ifA.getD 3 default, ifA.getD 4 default, ifA.getD 5 default, ifA.getD 6 default, ifA.getD 7 default, ifA.getD 8 default] := rfl
theorem ifB_eq : ifB = [ifB.getD 0 default, ifB.getD 1 default, ifB.getD 2 default, ifB.getD 3 default, ifB.getD 4 default, ifB.getD 5 default, ifB.getD 6 default] := rfl
noncomputable abbrev restSt : List Stmt := [forBody.getD 1 default, forBody.getD 2 default, forBody.getD 3 default, forBody.getD 4 default, forBody.getD 5 default, forBody.getD 6 default, forBody.getD 7 default]
theorem IsInts.pres {h h' : Heap} {v : Value} {ns : List Int} (x : IsInts h v ns) (k : Pres h h') : IsInts h' v ns := let ⟨r, vs, n, e, ho, hi⟩ := x; ⟨r, vs, n, e, k _ _ ho (.lst _ _), hi⟩
section
variable {w : World} {A : Around} {s : Shared} {g : Heap} {L : Addr} {ml cl : List (Str × Value)} {mg mb : Str → Option Value} {mean : ExcName → Option Value} {Q : Flow → Shared → Prop}
theorem turn_rest {W : Str} {of : List Str} {gp run : List Int} {cnt n : Nat} {va vb : List Value} {ra rb : Addr} {na nb : Nat} {sr vj vr : Value} {sh lv lo' hi' : Nat} {t1 t2 t3 t4 : Tok} (O : Offers W of gp run cnt n) (C : Ctx w A g mg mb mean) (Y : LawAt g s.heap L ml cl)
    (hru : ml.lookup (Str.ofString "run") = some vr) (iru : IsInts s.heap vr run) (hju : ml.lookup (Str.ofString "judged") = some vj) (iju : IsInts s.heap vj run) (hco : ml.lookup (Str.ofString "count") = some (.int (cnt : Nat) t4))
    (hga : cl.lookup (Str.ofString "gaps") = some (.ref ra)) (hof : cl.lookup (Str.ofString "offers") = some (.ref rb)) (hsh : cl.lookup (Str.ofString "share") = some (.float (q4 sh) t2)) (hlv : cl.lookup (Str.ofString "level") = some (.float (q4 lv) t3))
    (hw : cl.lookup (Str.ofString "word") = some (.str W t1)) (hsr : cl.lookup (Str.ofString "seal") = some sr) (hs : sh < 4) (hl : lv < 4) (hn0 : 0 < n) (hn : n ≤ 14) (hcnt : cnt ≤ 8)
    (ea : s.heap.get? ra = some (lstO va na)) (eb : s.heap.get? rb = some (lstO vb nb)) (ia : IntsAre va gp) (ib : StrsAre vb of)
    (S : SealAt s.heap sr (hueN W) sh lv lo' hi' t3) (h0 : 0 < t3) (h1 : t3 < lo') (h2 : lo' ≤ hi') (h3 : hi' ≤ s.toks)
    (hQ : ∀ h' tk d' v1 v2 v3 v4 v5, LawAt g h' L ((Str.ofString "told", v1) :: (Str.ofString "no", v2) :: (Str.ofString "yes", v3) :: (Str.ofString "sealed", v4) :: ml) ((Str.ofString "hues", v5) :: cl) → Pres s.heap h' → s.toks ≤ tk → Q .next { s with heap := h', toks := tk, drawn := d' }) :
    wpAny (model PG w) A (execs restSt (LE L)) Q NoE s := by
  obtain ⟨ds, hds, hdl, hdm, hdf⟩ := O.ds
  unfold restSt
  refine execs_le (st_sealed C Y hga hof hsh hlv hs hl ea eb ia ib (by rw [O.lg, O.lo]) (by rw [O.lo]; exact hn) O.le fun s1h s1t r1 vs1 n1 Y1 P1 e1 S1 hle1 => ?_)
  dsimp only at hle1 ⊢
  rw [O.lo] at S1
  have S' := S.tup P1.tupKeep
  refine execs_le (st_split (s := { s with heap := s1h, toks := s1t }) C Y1 rfl hsr e1 S1 S' hn (hueN_lt W) hs hl h0 h1 h2 h3 fun s2h s2t ry rn a2 b2 Y2 P2 ey en hle2 => ?_)
  dsimp only at hle2 ⊢
  rw [S1.1] at ey en
  obtain ⟨rr, vr', nr, rfl, er, ir⟩ := (iru.pres P1).pres P2
  obtain ⟨rj, vj', nj, rfl, ej, ij⟩ := (iju.pres P1).pres P2
  have hru2 : List.lookup (Str.ofString "run") ((Str.ofString "no", Value.ref rn) :: (Str.ofString "yes", Value.ref ry) :: (Str.ofString "sealed", Value.ref r1) :: ml) = some (.ref rr) := hru
  have hju2 : List.lookup (Str.ofString "judged") ((Str.ofString "no", Value.ref rn) :: (Str.ofString "yes", Value.ref ry) :: (Str.ofString "sealed", Value.ref r1) :: ml) = some (.ref rj) := hju
  refine execs_le (st_yesno (s := { s with heap := s2h, toks := s2t }) C Y2 rfl hru2 rfl rfl hw hsr (P2 _ _ e1 (.lst _ _)) er ir (S1.tup P2.tupKeep) (S'.tup P2.tupKeep) ey en hn (hueN_lt W) hs hl h0 h1 h2 h3 O.hA O.hB fun s3h s3t Y3 P3 hle3 => ?_)
  dsimp only at hle3 ⊢
  refine execs_le (st_judge (s := { s with heap := s3h, toks := s3t }) C Y3 hju2 hru2 (P3 _ _ ej (.lst _ _)) (P3 _ _ er (.lst _ _)) ij ir fun s4t hle4 => ?_)
  dsimp only at hle4 ⊢
  have P13 := P2.trans P3
  refine execs_le (st_told (s := { s with heap := s3h, toks := s4t }) (ds := ds) C Y3 rfl (P13 _ _ e1 (.lst _ _)) (S1.tup P13.tupKeep) hn hn0 hs hl hds (by omega) hdm hdf fun s5h s5t s5d rt us c5 ps Y5 P5 et hul hup hpp hpw hle5 => ?_)
  dsimp only at hle5 ⊢
  have hpl : ps.length = cnt := by rw [hpp.length_eq, hdl]
  refine execs_le (st_hues (s := { s with heap := s5h, toks := s5t, drawn := s5d }) C Y5 rfl et hul hup (by omega) fun s6h s6t rh vh n6 Y6 P6 eh ih hle6 => ?_)
  dsimp only at hle6 ⊢
  have hb : ∀ x ∈ ps.map (·.1), 0 ≤ x ∧ x < 8 := fun x hx => by
    have hx2 : x ∈ ds.map (·.1) := (hpp.map (·.1)).mem_iff.mp hx
    obtain ⟨p, hp, rfl⟩ := List.mem_map.mp hx2
    obtain ⟨j, _, e⟩ := (hdm p).mp hp
    have := hueN_lt (of.getD j default)
    rw [← e]
    show 0 ≤ ((hueN (of.getD j default) : Nat) : Int) ∧ ((hueN (of.getD j default) : Nat) : Int) < 8
    omega
  have hco2 : List.lookup (Str.ofString "count") ((Str.ofString "told", Value.ref rt) :: (Str.ofString "no", Value.ref rn) :: (Str.ofString "yes", Value.ref ry) :: (Str.ofString "sealed", Value.ref r1) :: ml) = some (.int (us.length : Nat) t4) := by
    rw [hul, hpl]; exact hco
  refine execs_le (st_last (s := { s with heap := s6h, toks := s6t, drawn := s5d }) C Y6 rfl rfl hco2 (P6 _ _ et (.lst _ _)) eh ih (by omega) hpw hb fun s7h s7t Y7 P7 hle7 => ?_)
  dsimp only at hle7 ⊢
  refine wpAny_execs_nil ?_
  exact hQ _ _ _ _ _ _ _ _ Y7 (P1.trans (P13.trans (P5.trans (P6.trans P7)))) (by omega)
end

section
variable {w : World} {A : Around} {s : Shared} {g : Heap} {L : Addr} {ml cl : List (Str × Value)} {mg mb : Str → Option Value} {mean : ExcName → Option Value} {Q : Flow → Shared → Prop}
/-- the loss: what the branch leaves -/
theorem turn_A {d sh lv lo' hi' : Nat} {l : List Nat} {rs : Addr} {t1 t2 t3 t4 : Tok} (C : Ctx w A g mg mb mean) (Y : LawAt g s.heap L ml cl) (h7 : l.length = 7) (ab : AB l)
    (hmd : ml.lookup (Str.ofString "d") = some (.int (d : Nat) t4)) (hw : cl.lookup (Str.ofString "word") = some (.str (M l) t1)) (hsh : cl.lookup (Str.ofString "share") = some (.float (q4 sh) t2)) (hlv : cl.lookup (Str.ofString "level") = some (.float (q4 lv) t3))
    (hse : cl.lookup (Str.ofString "seal") = some (.ref rs)) (S : SealAt s.heap (.ref rs) (hueN (M l)) sh lv lo' hi' t3) (hs : sh < 4) (hl : lv < 4)
    (hQ : ∀ h' tk vp vc va vs' vr vj ra rb us us' na nb t5, LawAt g h' L ((Str.ofString "ahead", va) :: (Str.ofString "judged", vj) :: (Str.ofString "count", .int (8 : Nat) t5) :: (Str.ofString "run", vr) :: (Str.ofString "place", vp) :: ml) ((Str.ofString "gaps", .ref ra) :: (Str.ofString "offers", .ref rb) :: (vc, vs') :: cl) → vc = Str.ofString "short" →
      Pres s.heap h' → s.toks ≤ tk → IsInts h' vr (runOf (M l) (d / 2 % 7)) → IsInts h' vj (runOf (M l) (d / 2 % 7)) → h'.get? ra = some (lstO us na) → h'.get? rb = some (lstO us' nb) → IntsAre us (gapF 14) → StrsAre us' (offF (M (delL l (d / 2 % 7))) 14) → Q .next { s with heap := h', toks := tk }) :
    wpAny (model PG w) A (execs ifA (LE L)) Q NoE s := by
  have hp : d / 2 % 7 < 7 := Nat.mod_lt _ (by decide)
  have LF := loss_facts h7 ab hp
  have hx6 : (delL l (d / 2 % 7)).length = 6 := by rw [del_len _ _ (by omega), h7]
  rw [ifA_eq]
  refine execs_le (st_placeA Y hmd fun h1 tk1 tp Y1 P1 hle1 => ?_)
  dsimp only at hle1 ⊢
  refine execs_le (st_short (s := { s with heap := h1, toks := tk1 }) (W := M l) (p := d / 2 % 7) Y1 rfl hw (by rw [M_len]; omega) (by omega) fun h2 tk2 tx Y2 P2 hle2 => ?_)
  dsimp only at hle2 ⊢
  rw [short_is l _ (by omega)] at Y2
  refine execs_le (st_offersA (s := { s with heap := h2, toks := tk2 }) C Y2 rfl (by rw [M_len]; omega) fun h3 tk3 rb us' nb Y3 P3 eb ib hle3 => ?_)
  dsimp only at hle3 ⊢
  refine execs_le (st_gapsA (s := { s with heap := h3, toks := tk3 }) C Y3 fun h4 tk4 ra us na Y4 P4 ea ia hle4 => ?_)
  dsimp only at hle4 ⊢
  refine execs_le (st_runA (s := { s with heap := h4, toks := tk4 }) (W := M l) (p := d / 2 % 7) C Y4 rfl hw (by rw [M_len]; omega) (by rw [M_len]; omega) fun h5 tk5 vr Y5 P5 iru hle5 => ?_)
  dsimp only at hle5 ⊢
  refine execs_le (st_count8 (s := { s with heap := h5, toks := tk5 }) Y5 fun h6 tk6 tc Y6 P6 hle6 => ?_)
  dsimp only at hle6 ⊢
  refine execs_le (st_judgedA (s := { s with heap := h6, toks := tk6 }) (x := M (delL l (d / 2 % 7))) (y := M l) C Y6 rfl hw (by rw [M_len]; omega) (by rw [M_len]; omega) (fun k hk => LF.dot k (by rw [M_len] at hk; omega)) fun h7' tk7 vj Y7 P7 iju hle7 => ?_)
  dsimp only at hle7 ⊢
  have P17 := P1.trans (P2.trans (P3.trans (P4.trans (P5.trans (P6.trans P7)))))
  refine execs_le (st_ahead (s := { s with heap := h7', toks := tk7 }) (x := M (delL l (d / 2 % 7))) (c := hueN (M l)) C Y7 rfl hsh hlv hse (S.tup P17.tupKeep) (hueN_lt _) hs hl (by rw [M_len]; omega) fun h8 tk8 ta Y8 P8 hle8 => ?_)
  dsimp only at hle8 ⊢
  refine execs_le (st_putback (s := { s with heap := h8, toks := tk8 }) (x := M (delL l (d / 2 % 7))) (W := M l) C Y8 rfl hw rfl (by rw [M_len]; omega) LF.pb fun h9 tk9 Y9 P9 hle9 => ?_)
  dsimp only at hle9 ⊢
  refine wpAny_execs_nil ?_
  rw [M_len, h7, LF.gaps] at iju
  exact hQ _ _ _ _ _ _ _ _ _ _ _ _ _ _ _ Y9 rfl (P17.trans (P8.trans P9)) (by omega) ((((iru.pres P6).pres P7).pres P8).pres P9) ((iju.pres P8).pres P9)
    ((P5.trans (P6.trans (P7.trans (P8.trans P9)))) _ _ ea (.lst _ _)) ((P4.trans (P5.trans (P6.trans (P7.trans (P8.trans P9))))) _ _ eb (.lst _ _)) ia ib
/-- the gain: what the branch leaves -/
theorem turn_B {d : Nat} {l : List Nat} {t1 t4 : Tok} (C : Ctx w A g mg mb mean) (Y : LawAt g s.heap L ml cl) (h7 : l.length = 7) (ab : AB l)
    (hmd : ml.lookup (Str.ofString "d") = some (.int (d : Nat) t4)) (hw : cl.lookup (Str.ofString "word") = some (.str (M l) t1))
    (hQ : ∀ h' tk vp vs' vr vj ra rb us us' na nb t5, LawAt g h' L ((Str.ofString "judged", vj) :: (Str.ofString "count", .int (begL (M (insL l (d / 2 % 8) (97 + d / 16 % 2))) 8).length t5) :: (Str.ofString "run", vr) :: (Str.ofString "place", vp) :: ml) ((Str.ofString "gaps", .ref ra) :: (Str.ofString "offers", .ref rb) :: (Str.ofString "came", vs') :: cl) →
      Pres s.heap h' → s.toks ≤ tk → IsInts h' vr (runOf (M (insL l (d / 2 % 8) (97 + d / 16 % 2))) (d / 2 % 8)) → IsInts h' vj (runOf (M (insL l (d / 2 % 8) (97 + d / 16 % 2))) (d / 2 % 8)) → h'.get? ra = some (lstO us na) → h'.get? rb = some (lstO us' nb) → IntsAre us [0, 1, 2, 3, 4, 5, 6, 7] → StrsAre us' (outL (M (insL l (d / 2 % 8) (97 + d / 16 % 2))) 8) → Q .next { s with heap := h', toks := tk }) :
    wpAny (model PG w) A (execs ifB (LE L)) Q NoE s := by
  have hp : d / 2 % 8 < 8 := Nat.mod_lt _ (by decide)
  have hc2 : d / 16 % 2 < 2 := Nat.mod_lt _ (by decide)
  have GF := gain_facts h7 ab hp hc2
  have hy8 : (insL l (d / 2 % 8) (97 + d / 16 % 2)).length = 8 := by rw [ins_len _ _ _ (by omega), h7]
  rw [ifB_eq]
  refine execs_le (st_placeB Y hmd fun h1 tk1 tp Y1 P1 hle1 => ?_)
  dsimp only at hle1 ⊢
  refine execs_le (st_came (s := { s with heap := h1, toks := tk1 }) (W := M l) (p := d / 2 % 8) (d := d) Y1 rfl hmd hw (by rw [M_len]; omega) (by omega) fun h2 tk2 tx Y2 P2 hle2 => ?_)
  dsimp only at hle2 ⊢
  rw [came_is l _ _ (by omega) hc2] at Y2
  refine execs_le (st_offersB (s := { s with heap := h2, toks := tk2 }) C Y2 rfl (by rw [M_len]; omega) fun h3 tk3 rb us' nb Y3 P3 eb ib hle3 => ?_)
  dsimp only at hle3 ⊢
  refine execs_le (st_gapsB (s := { s with heap := h3, toks := tk3 }) C Y3 fun h4 tk4 ra us na Y4 P4 ea ia hle4 => ?_)
  dsimp only at hle4 ⊢
  refine execs_le (st_runB (s := { s with heap := h4, toks := tk4 }) (W := M (insL l (d / 2 % 8) (97 + d / 16 % 2))) (p := d / 2 % 8) C Y4 rfl rfl (by rw [M_len]; omega) (by rw [M_len]; omega) fun h5 tk5 vr Y5 P5 iru hle5 => ?_)
  dsimp only at hle5 ⊢
  refine execs_le (st_countB (s := { s with heap := h5, toks := tk5 }) (W := M (insL l (d / 2 % 8) (97 + d / 16 % 2))) C Y5 rfl (by rw [M_len]; exact hy8) fun h6 tk6 tc Y6 P6 hle6 => ?_)
  dsimp only at hle6 ⊢
  refine execs_le (st_judgedB (s := { s with heap := h6, toks := tk6 }) (x := M l) (y := M (insL l (d / 2 % 8) (97 + d / 16 % 2))) C Y6 hw rfl (by rw [M_len]; omega) (by rw [M_len]; omega) (fun k hk => GF.dot k (by rw [M_len] at hk; omega)) fun h7' tk7 vj Y7 P7 iju hle7 => ?_)
  dsimp only at hle7 ⊢
  have P17 := P1.trans (P2.trans (P3.trans (P4.trans (P5.trans (P6.trans P7)))))
  refine wpAny_execs_nil ?_
  rw [M_len, hy8, GF.gaps] at iju
  exact hQ _ _ _ _ _ _ _ _ _ _ _ _ _ Y7 P17 (by omega) ((iru.pres P6).pres P7) iju
    ((P5.trans (P6.trans P7)) _ _ ea (.lst _ _)) ((P4.trans (P5.trans (P6.trans P7))) _ _ eb (.lst _ _)) ia ib
end

abbrev clBase (rs rd : Addr) (l : List Nat) (sh lv : Nat) (t1 t2 t3 : Tok) : List (Str × Value) :=
  [(Str.ofString "seal", .ref rs), (Str.ofString "level", .float (q4 lv) t3), (Str.ofString "share", .float (q4 sh) t2), (Str.ofString "word", .str (M l) t1), (Str.ofString "draws", .ref rd)]
section
variable {w : World} {A : Around} {s : Shared} {g : Heap} {L : Addr} {mg mb : Str → Option Value} {mean : ExcName → Option Value} {Q : Flow → Shared → Prop}
theorem turn {d sh lv lo' hi' : Nat} {l : List Nat} {rs rd : Addr} {t1 t2 t3 t4 : Tok} (C : Ctx w A g mg mb mean) (Y : LawAt g s.heap L [(Str.ofString "d", .int (d : Nat) t4)] (clBase rs rd l sh lv t1 t2 t3)) (h7 : l.length = 7) (ab : AB l)
    (S : SealAt s.heap (.ref rs) (hueN (M l)) sh lv lo' hi' t3) (hs : sh < 4) (hl : lv < 4) (h0 : 0 < t3) (h1 : t3 < lo') (h2 : lo' ≤ hi') (h3 : hi' ≤ s.toks)
    (hQ : ∀ h' tk d', LawAt g h' L [] (clBase rs rd l sh lv t1 t2 t3) → Pres s.heap h' → s.toks ≤ tk → Q .next { s with heap := h', toks := tk, drawn := d' }) :
    wpAny (model PG w) A (execs forBody (LE L)) Q NoE s := by
  have r1 : Rd (LE L) s.heap (Str.ofString "d") (.int (d : Nat) t4) := Y.rdL rfl
  have k0 : Keeps s.heap s.heap := Keeps.rfl'
  rw [forBody_eq]
  refine execs_le ?_
  have emod : ((d : Int).fmod 2) = ((d % 2 : Nat) : Int) := by
    rw [Int.fmod_eq_emod_of_nonneg _ (by decide)]; push_cast; rfl
  show wpAny _ _ (exec (Stmt.If _ ifA ifB _) _) _ _ _
  repeat' ((fail_if_success (with_reducible show wpAny _ _ (execs _ _) _ _ _)); first | walk1 | (dsimp only; walk1))
  · show wpAny _ _ (execs ifA _) _ _ { s with toks := _ }
    refine turn_A (d := d) (s := { s with toks := _ }) (rs := rs) C Y h7 ab rfl rfl rfl rfl rfl S hs hl fun h' tk vp vc va vs' vr vj ra rb us us' na nb t5 Y1 hvc P1 hle1 iru iju ea eb ia ib hle => ?_
    subst hvc
    dsimp only at hle ⊢
    refine turn_rest (s := { s with heap := h', toks := tk }) (loss_facts h7 ab (p := d / 2 % 7) (Nat.mod_lt _ (by decide))).off C Y1 rfl iru rfl iju rfl rfl rfl rfl rfl rfl rfl hs hl (by decide) (by decide) (by decide) ea eb ia ib (S.tup P1.tupKeep) h0 h1 h2 (Nat.le_trans h3 hle) fun h2 tk2 d2 v1 v2 v3 v4 v5 Y2 P2 hle2 => ?_
    exact hQ _ _ _ (Y2.weaken (fun p hp => absurd hp List.not_mem_nil) (by
      intro p hp
      simp only [clBase, List.mem_cons, List.not_mem_nil, or_false] at hp
      rcases hp with rfl | rfl | rfl | rfl | rfl <;> rfl)) (P1.trans P2) (Nat.le_trans hle hle2)
  · show wpAny _ _ (execs ifB _) _ _ { s with toks := _ }
    refine turn_B (d := d) (s := { s with toks := _ }) C Y h7 ab rfl rfl fun h' tk vp vs' vr vj ra rb us us' na nb t5 Y1 P1 hle1 iru iju ea eb ia ib hle => ?_
    dsimp only at hle ⊢
    refine turn_rest (s := { s with heap := h', toks := tk }) (gain_facts h7 ab (p := d / 2 % 8) (c := d / 16 % 2) (Nat.mod_lt _ (by decide)) (Nat.mod_lt _ (by decide))).off C Y1 rfl iru rfl iju rfl rfl rfl rfl rfl rfl rfl hs hl (by decide) (by decide) (begL_len _ 8) ea eb ia ib (S.tup P1.tupKeep) h0 h1 h2 (Nat.le_trans h3 hle) fun h2 tk2 d2 v1 v2 v3 v4 v5 Y2 P2 hle2 => ?_
    exact hQ _ _ _ (Y2.weaken (fun p hp => absurd hp List.not_mem_nil) (by
      intro p hp
      simp only [clBase, List.mem_cons, List.not_mem_nil, or_false] at hp
      rcases hp with rfl | rfl | rfl | rfl | rfl <;> rfl)) (P1.trans P2) (Nat.le_trans hle hle2)
end

theorem forLoop_D {prog : Program} {w : World} {A : Around} {R : Result → Shared → Prop} {s : Shared} {env : Env} {x : Str} {px : Pos} {body : List Stmt} {I : Addr} {fp wr : List Addr} {n : Nat}
    {P : Nat → Value → Prop} {St : Nat → Heap → Prop} (W : Walks prog w A I fp wr n P St) (J : Nat → Heap → Prop)
    (hst : St 0 s.heap) (h0 : J 0 s.heap)
    (hstab : ∀ i h h', J i h → St i h → (∀ b o, b ∉ wr → h.get? b = some o → h'.get? b = some o) → J i h')
    (step : ∀ i v h tk d, i < n → P i v → J i h → St (i + 1) h → s.toks ≤ tk → wpAny (model prog w) A (storeName env x v) (fun _ s₂ => wpAny (model prog w) A (execs body env) (fun f s₃ => match f with
        | .next | .cont => ∃ h' tk' d', s₃ = { s with heap := h', toks := tk', drawn := d' } ∧ s.toks ≤ tk' ∧ J (i + 1) h' ∧ St (i + 1) h'
        | .brk => R (.ok .next) s₃
        | .ret v => R (.ok (.ret v)) s₃) NoE s₂) NoE { s with heap := h, toks := tk, drawn := d })
    (hR : ∀ h tk d, J n h → R (.ok .next) { s with heap := h, toks := tk, drawn := d }) :
    codeAny (model prog w) A (.forLoop (.Name x px) (.ref I) body [] env) R s := by
  refine codeAny_forLoop (fun k s' => ∃ h' tk d i, s' = { s with heap := h', toks := tk, drawn := d } ∧ s.toks ≤ tk ∧ St i h' ∧ J i h' ∧ i ≤ n ∧ k = n + 1 - i) ?_ (n + 1) ⟨s.heap, s.toks, s.drawn, 0, rfl, Nat.le_refl _, hst, h0, Nat.zero_le _, rfl⟩
  rintro k s' ⟨h', tk, d, i, rfl, hle, hst', hJ, hi, rfl⟩
  by_cases hlt : i < n
  · refine wpAny_le_toks (W.item i _ _ _ hlt hst' fun v h₁ tk₁ hP hst₁ hk₁ hle1 => ?_)
    have hle1' : tk ≤ tk₁ := hle1
    refine wpAny_assign_Name (wpAny_mono (step i v h₁ tk₁ d hlt hP (hstab i h' h₁ hJ hst' hk₁) hst₁ (Nat.le_trans hle hle1')) (fun _ s₂ h₂ => ?_) fun _ _ e => e.elim)
    refine wpAny_mono h₂ (fun f s₃ h₃ => ?_) fun _ _ e => e.elim
    cases f with
    | next => obtain ⟨h₄, tk₄, d₄, rfl, hle4, hJ', hst₄⟩ := h₃; exact ⟨n + 1 - (i + 1), by omega, h₄, tk₄, d₄, i + 1, rfl, hle4, hst₄, hJ', hlt, rfl⟩
    | cont => obtain ⟨h₄, tk₄, d₄, rfl, hle4, hJ', hst₄⟩ := h₃; exact ⟨n + 1 - (i + 1), by omega, h₄, tk₄, d₄, i + 1, rfl, hle4, hst₄, hJ', hlt, rfl⟩
    | brk => exact h₃
    | ret v => exact h₃
  · have hin : i = n := by omega
    subst hin
    refine W.done _ _ _ hst' fun h₁ tk₁ hk₁ => wpAny_execs_nil ?_
    exact hR h₁ tk₁ d (hstab _ h' h₁ hJ hst' hk₁)
/-- the law's frame stands where an iterator moves -/
theorem LawAt.butI {g h h' : Heap} {L I ax : Addr} {i : Nat} {ml cl : List (Str × Value)} (Y : LawAt g h L ml cl) (hI : g.get? I = none) (hIL : I ≠ L) (hI86 : I ≠ 86) (hIc : ∀ x c, (cellsL L).lookup x = some c → c ≠ I) (hit : h.IsListIter I ax i) (sub : KeepsBut [I] h h') : LawAt g h' L ml cl := by
  have sb : ∀ b o, b ≠ I → h.get? b = some o → h'.get? b = some o := fun b o hb e => sub b o (fun hm => hb (List.mem_singleton.mp hm)) e
  obtain ⟨⟨m, F, em⟩, ⟨cv, hcv, ecv⟩, ⟨ps, et, rt⟩, hf⟩ := Y
  refine ⟨⟨m, ⟨F.ns.at' fun o e => sb _ o (Ne.symm hIL) e, fun b o e => sb b o (fun q => by rw [q, hI] at e; cases e) (F.keep b o e), F.above⟩, em⟩, ⟨cv, fun y c hc => ?_, ecv⟩, ⟨ps, sb _ _ (Ne.symm hI86) et, rt.imp id ?_⟩, hf⟩
  · obtain ⟨o, e, d⟩ := hcv y c hc
    exact ⟨o, sb _ _ (hIc y c hc) e, d⟩
  · rintro ⟨c', e', c2, oc2, vs, t, e1, e2, e3, e4⟩
    refine ⟨c', e', c2, oc2, vs, t, e1, sb _ _ (fun q => ?_) e2, e3, e4⟩
    obtain ⟨o, ho, _, hod⟩ := hit
    rw [q, ho] at e2
    cases e2
    rw [hod] at e3
    cases e3
    simp at e4
theorem Pres.iter {h h' : Heap} {I ax : Addr} {i : Nat} {items : Array Value} (p : Pres h h') (x : h.IsListIter I ax i ∧ h.IsList ax items) : h'.IsListIter I ax i ∧ h'.IsList ax items := by
  obtain ⟨⟨o, ho, hc, hd⟩, ⟨o2, ho2, hc2, n2, hd2⟩⟩ := x
  exact ⟨⟨o, p _ _ ho ⟨fun _ _ q => (by rw [hd] at q; cases q), fun _ q => (by rw [hd] at q; cases q), fun q => (by rw [hc] at q; cases q)⟩, hc, hd⟩, ⟨o2, p _ _ ho2 ⟨fun _ _ q => (by rw [hd2] at q; cases q), fun _ q => (by rw [hd2] at q; cases q), fun q => (by rw [hc2] at q; cases q)⟩, hc2, n2, hd2⟩⟩
section
variable {w : World} {A : Around} {s : Shared} {g : Heap} {L : Addr} {mg mb : Str → Option Value} {mean : ExcName → Option Value} {Q : Flow → Shared → Prop}
theorem st_for {sh lv lo' hi' : Nat} {l : List Nat} {rs rd : Addr} {vd : List Value} {nd : Nat} {ns : List Int} {t1 t2 t3 : Tok} (C : Ctx w A g mg mb mean) (Y : LawAt g s.heap L [] (clBase rs rd l sh lv t1 t2 t3)) (h7 : l.length = 7) (ab : AB l)
    (ed : s.heap.get? rd = some (lstO vd nd)) (id' : IntsAre vd ns) (hns : ∀ x ∈ ns, 0 ≤ x) (hn8 : ns.length ≤ 8)
    (S : SealAt s.heap (.ref rs) (hueN (M l)) sh lv lo' hi' t3) (hs : sh < 4) (hl : lv < 4) (h0 : 0 < t3) (g1 : t3 < lo') (g2 : lo' ≤ hi') (h3 : hi' ≤ s.toks)
    (hQ : ∀ h' tk d', LawAt g h' L [] (clBase rs rd l sh lv t1 t2 t3) → Q .next { s with heap := h', toks := tk, drawn := d' }) :
    wpAny (model PG w) A (exec (lawBody.getD 6 default) (LE L)) Q NoE s := by
  have r1 : Rd (LE L) s.heap (Str.ofString "draws") (.ref rd) := Y.rdC (L + 1) rfl
  have k0 : Keeps s.heap s.heap := Keeps.rfl'
  show wpAny _ _ (exec (Stmt.For _ _ forBody _ _) _) _ _ _
  refine wpAny_For ?_
  repeat' ((fail_if_success (with_reducible show wpAny _ _ (subscriptTail _ _ _ _) _ _ _)); first | walk1 | (dsimp only; walk1))
  refine kslice_list (s := { s with toks := _ }) k0 (isList_of ed) (.int 1 _) .none (fun D h1 k1 hD e1 => ?_) (by rw [List.size_toArray, id'.length, sizeLine_eq]; omega)
  refine list_iterG (s := { s with heap := h1, toks := _ }) (isList_of e1) fun I h2 hDI k2 hI hit0 hit hl2 => ?_
  have id2 : IntsAre (slicePick vd.toArray (some 1) none none).toList (ns.drop 1) := by
    by_cases hz : ns = []
    · subst hz
      have : vd = [] := by cases id'; rfl
      subst this
      exact .nil
    · exact slice_ints_from id' (by decide) (by have := List.length_pos_iff.mpr hz; omega)
  generalize (slicePick vd.toArray (some 1) none none).toList = items at e1 hl2 id2
  have kk := k1.trans k2
  have Y2 := Y.keeps kk
  have old : ∀ {b : Addr} {o : Obj}, h1.get? b = some o → b ≠ I := fun e => Nat.ne_of_lt (Nat.lt_of_lt_of_le (Heap.lt_size e) hI)
  have Y1 := Y.keeps k1
  have hIg : g.get? I = none := by
    cases e : g.get? I with
    | none => rfl
    | some o => exact absurd rfl (old (Y1.keep _ _ e))
  have hIL : I ≠ L := by
    obtain ⟨m, F, _⟩ := Y1.fr
    obtain ⟨o, e, _⟩ := ns_obj F.ns
    exact Ne.symm (old e)
  have hI86 : I ≠ 86 := by
    obtain ⟨ps, e, _⟩ := Y1.tab
    exact Ne.symm (old e)
  have hIc : ∀ x c, (cellsL L).lookup x = some c → c ≠ I := fun x c hc => by
    obtain ⟨cv, q, _⟩ := Y1.cells
    obtain ⟨o, e, _⟩ := q x c hc
    exact old e
  refine forLoop_D (s := { s with heap := h2, toks := _ }) (Walks.list C.hh I D hDI items.toArray) (fun i h => LawAt g h L [] (clBase rs rd l sh lv t1 t2 t3) ∧ SealAt h (.ref rs) (hueN (M l)) sh lv lo' hi' t3) (by exact ⟨hit, hl2⟩) ⟨Y2, S.tup kk.tup⟩ ?hstab ?step ?hR
  case hstab =>
    rintro i h h' ⟨Yh, Sh⟩ ⟨hit2, _⟩ kb
    refine ⟨Yh.butI hIg hIL hI86 hIc hit2 kb, Sh.tup (TupKeep.but (fun b hb => ?_) kb)⟩
    rw [List.mem_singleton.mp hb]
    obtain ⟨o, e, _, hd⟩ := hit2
    exact ⟨o, e, NotTup.fields hd⟩
  case step =>
    rintro i v h tk d hi hv ⟨Yh, Sh⟩ hst hle
    have hv' : items[i]? = some v := by simpa using hv
    obtain ⟨n, t, rfl, hn⟩ := IntsAre.at id2 i v hv'
    have hn0 : 0 ≤ n := hns n (List.mem_of_mem_drop (List.mem_of_getElem? hn))
    refine stL (s := { s with heap := h, toks := tk, drawn := d }) Yh fun h5 Y5 P5 => ?_
    have e0 : n = ((n.toNat : Nat) : Int) := by omega
    rw [e0] at Y5
    have hle' : s.toks ≤ tk := Nat.le_trans (by dsimp only; omega) hle
    refine turn (d := n.toNat) (s := { s with heap := h5, toks := tk + 1, drawn := d }) C Y5 h7 ab (Sh.tup P5.tupKeep) hs hl h0 g1 g2 (Nat.le_succ_of_le (Nat.le_trans h3 hle')) fun h6 tk6 d6 Y6 P6 hle6 => ?_
    exact ⟨h6, tk6, d6, rfl, Nat.le_trans hle (Nat.le_trans (Nat.le_succ _) hle6), ⟨Y6, (Sh.tup P5.tupKeep).tup P6.tupKeep⟩, (P5.trans P6).iter hst⟩
  case hR =>
    rintro h tk d ⟨Yh, Sh⟩
    exact hQ _ _ _ Yh
end

section
variable {prog : Program} {w : World} {A : Around} {E : Value → Shared → Prop} {s : Shared}
/-- an item of a temporary, which is let go behind it -/
theorem tail_temp {value slice : Expr} {o i : Value} {T id : String} {ops : List Value} {Q : Value → Shared → Prop} (hT : s.TypeIs o T)
    (hl : typeLookup (.type T) "__getitem__" = pure (some (.builtin id))) (h : wpAny (model prog w) A (getItem o i) Q E s)
    (hs : subscripted slice false o i = operate ops (getItem o i)) :
    wpAny (model prog w) A (subscriptTail value slice o i) Q E s := by
  unfold subscriptTail
  refine wpAny_bind ?_
  rw [getitemInPython_of_ne hT.not_modules]
  refine wpAny_bind (wpAny_specialOf hT hl ?_)
  have fin : wpAny (model prog w) A (subscripted slice false o i) (fun r s₃ => wpAny (model prog w) A (letTemporaryGo value o r >>= fun _ => pure r) Q E s₃) E s := by
    rw [hs]
    exact wpAny_operating (wpAny_mono h (fun r s₃ h₃ => wpAny_bind (wpAny_letTemporaryGo (wpAny_pure h₃))) fun _ _ x => x)
  first
    | exact wpAny_pure (wpAny_bind fin)
    | exact wpAny_bind (wpAny_pure (wpAny_bind fin))
    | exact wpAny_bind fin
theorem kslice_listT {value slice : Expr} {h₀ : Heap} {Q : Value → Shared → Prop} {l : Addr} {items : Array Value} {vl vu : Value} {lo hi : Option Int} (k : Keeps h₀ s.heap) (hl : h₀.IsList l items) (pl : IsPart vl lo) (pu : IsPart vu hi)
    (h : ∀ D h', Keeps h₀ h' → s.heap.objs.size ≤ D → h'.get? D = some (lstO (slicePick items lo hi none).toList 0) → Q (.ref D) { s with heap := h' })
    (hsz : items.size ≤ sizeLine)
    (hs : subscripted slice false (.ref l) (.ref s.heap.objs.size) = operate [.ref s.heap.objs.size, .ref l] (getItem (.ref l) (.ref s.heap.objs.size)) := by with_unfolding_all rfl) :
    wpAny (model prog w) A (subscriptTail value slice (.ref l) (.ref s.heap.objs.size)) Q E { s with heap := s.heap.push { cls := .type "slice", data := .fields #[vl, vu, .none] } } := by
  have hl' := isList_kp hl k
  refine tail_temp (Heap.IsList.typeIs (s := { s with heap := s.heap.push { cls := .type "slice", data := .fields #[vl, vu, .none] } }) (hl'.push _)) list_getitem_lookup
    (wpAny_getItem_list_slice (hl'.push _) (Heap.IsSliceOf.new ..) pl pu .none (by simp) ?_ hsz) hs
  refine h _ _ (fun b o e => Heap.get?_push_of_some _ (Heap.get?_push_of_some _ (k b o e))) ?_ (Heap.get?_push_size _ rfl)
  dsimp only; rw [Heap.size_push]; exact Nat.le_succ _
end
/-- ints from 0 up to a million -/
def Small (ms : List Int) : Prop := ∀ x ∈ ms, 0 ≤ x ∧ x < 1000000
section
variable {w : World} {A : Around} {s : Shared} {g : Heap} {L : Addr} {ml cl : List (Str × Value)} {mg mb : Str → Option Value} {mean : ExcName → Option Value} {Q : Flow → Shared → Prop}
theorem st_draws {rs : Addr} {vs : List Value} {ns : List Int} (C : Ctx w A g mg mb mean) (Y : LawAt g s.heap L ml cl) (hsc : ml.lookup (Str.ofString "script") = some (.ref rs)) (hl : s.heap.IsList rs vs.toArray) (hi : IntsAre vs ns) (hn : ns.length ≤ 63)
    (hQ : ∀ h' tk r us n ms, LawAt g h' L ml ((Str.ofString "draws", .ref r) :: cl) → Pres s.heap h' → h'.get? r = some (lstO us n) → IntsAre us ms → Small ms → ms.length ≤ 4 → Q .next { s with heap := h', toks := tk }) :
    wpAny (model PG w) A (exec (lawBody.getD 0 default) (LE L)) Q NoE s := by
  have r1 := Y.rdL hsc
  have k0 : Keeps s.heap s.heap := Keeps.rfl'
  have hvl := hi.length
  show wpAny _ _ (exec (Stmt.Assign _ _ _) _) _ _ _
  refine wpAny_Assign_Name ?_
  refine compK (n := (ns.take 4).length) (P := fun i v => ∃ x t, v = .int x t) (fun i ys _ => ∃ ms : List Int, ms.length = i ∧ IntsAre ys ms ∧ Small ms) (by simp; omega) ?hit (fun _ _ _ _ h _ => h) (fun _ => ⟨[], rfl, .nil, fun x hx => absurd hx List.not_mem_nil⟩) rfl (by decide) rfl (by decide) rfl ?step ?hQ
  case hit =>
    generalize LE L = env at r1 ⊢
    repeat' ((fail_if_success (with_reducible show wpAny _ _ (subscriptTail _ _ _ _) _ _ _)); first | walk1 | (dsimp only; walk1))
    refine kslice_list (s := { s with toks := _ }) k0 hl .none (.int 4 _) (fun D h1 k1 hD e1 => ?_) (by rw [List.size_toArray, hvl, sizeLine_eq]; omega)
    have id2 : IntsAre (slicePick vs.toArray none (some 4) none).toList (ns.take 4) := slice_ints_uptoW hi (by decide)
    generalize (slicePick vs.toArray none (some 4) none).toList = items at e1 id2
    have hsz : s.heap.objs.size ≤ h1.objs.size := Nat.le_of_lt (Nat.lt_of_le_of_lt hD (Heap.lt_size e1))
    have it := list_iterK (prog := PG) (w := w) (A := A) (s := { s with heap := h1, toks := s.toks + 1 }) (s0 := s) (isList_of e1) ⟨h1, _, rfl⟩ k1 hsz C.hh
    rw [List.size_toArray, id2.length] at it
    refine wpAny_mono it (fun v s2 hv => ?_) fun _ _ e => e
    obtain ⟨I, fp, St, e, W, r⟩ := hv
    exact ⟨I, fp, St, e, ⟨W.sub, W.frame, fun i s' Q' E' hlt hst hq => W.item i s' Q' E' hlt hst fun v h' tk hP a b => hq v h' tk (by
      obtain ⟨n, t, e, _⟩ := IntsAre.at id2 i v (by simpa using hP)
      exact ⟨n, t, e⟩) a b, W.done, W.self⟩, r⟩
  case step =>
    rintro C1 cenv i v ys s₃ m₃ hce hC hi' ⟨x, t, rfl⟩ hsm hns hmx hk hle ⟨ms, h1, h2, h3⟩
    have rk := Rd.of_eq hce (rd_local hns hmx)
    clear hce
    have k3 : Keeps s₃.heap s₃.heap := Keeps.rfl'
    refine turn_plain ?_
    repeat' ((fail_if_success (with_reducible show Same _ _ ∧ _)); first | walk1 | (dsimp only; walk1))
    refine ⟨⟨_, _, rfl⟩, k3, ms ++ [x.fmod 1000000], by simp [h1], ints_snoc h2, fun y hy => ?_⟩
    rcases List.mem_append.mp hy with hy | hy
    · exact h3 y hy
    · rw [List.mem_singleton.mp hy, Int.fmod_eq_emod_of_nonneg _ (by decide)]; omega
  case hQ =>
    rintro D h' tk ys n' hD hD' hk ⟨ms, h1, h2, h3⟩
    refine stC (Y.keeps hk) fun h2' Y2 P2 => ?_
    exact hQ _ _ _ _ _ _ Y2 (hk.pres.trans P2) (P2 _ _ hD' (.lst _ _)) h2 h3 (by rw [h1]; simp; omega)
theorem st_draws2 {rd : Addr} {us : List Value} {n : Nat} {ms : List Int} (C : Ctx w A g mg mb mean) (Y : LawAt g s.heap L ml cl) (hd : cl.lookup (Str.ofString "draws") = some (.ref rd)) (ed : s.heap.get? rd = some (lstO us n)) (hi : IntsAre us ms) (hs : Small ms) (h4 : ms.length ≤ 4)
    (hQ : ∀ h' tk r us n ms, LawAt g h' L ml ((Str.ofString "draws", .ref r) :: cl) → Pres s.heap h' → h'.get? r = some (lstO us n) → IntsAre us ms → Small ms → ms.length ≤ 7 → 0 < ms.length → Q .next { s with heap := h', toks := tk }) :
    wpAny (model PG w) A (exec (lawBody.getD 1 default) (LE L)) Q NoE s := by
  have X := inKp C.X Y.keep
  have T := topKp C.T Y.keep
  have r1 := Y.rdC (L + 1) hd
  have r2 : Rd (LE L) s.heap (Str.ofString "len") (.builtin "len") := rd_built X T g_len b_len
  have k0 : Keeps s.heap s.heap := Keeps.rfl'
  have hul := hi.length
  show wpAny _ _ (exec (Stmt.Assign _ _ _) _) _ _ _
  refine wpAny_Assign_Name ?_
  generalize hE : LE L = env at r1 r2 ⊢
  repeat' ((fail_if_success (with_reducible show wpAny _ _ (call (Value.builtin "len") _) _ _ _)); first | walk1 | (dsimp only; walk1))
  rename_i D4 h4' k4 l4 e4
  refine len_list (items := us.toArray) (by exact isList_of (k4 _ _ ed)) (by rw [List.size_toArray, hul]; omega) ?_
  repeat' ((fail_if_success (with_reducible show wpAny _ _ (subscriptTail _ _ _ _) _ _ _)); first | walk1 | (dsimp only; walk1))
  refine kslice_listT (s := { s with heap := h4', toks := _ }) (h₀ := h4') Keeps.rfl' (isList_of e4) (.int _ _) .none (fun D5 h5 k5 hD5 e5 => ?_) (by rw [sizeLine_eq]; show 3 ≤ _; omega)
  have id5 := slice_ints_fromW (vs := [Value.int 218 _, Value.int 12 _, Value.int 37 _]) (ns := [218, 12, 37]) (.cons _ s.toks (.cons _ (s.toks + 1) (.cons _ (s.toks + 1 + 1) .nil))) (x := ((us.toArray.size : Nat) : Int)) (by omega)
  generalize hsp : (slicePick _ _ _ _).toList = items at e5
  have id6 : IntsAre items ([218, 12, 37].drop ms.length) := by
    rw [← hsp]
    rw [List.size_toArray, hul] at id5 ⊢
    exact id5
  have hil := id6.length
  have hdl : ([218, 12, 37].drop ms.length : List Int).length = 3 - ms.length := by simp
  refine kadd_lists (s := { s with heap := h5, toks := _ }) (k4.trans k5) (isList_of ed) (by exact isList_of e5) (fun D6 h6 k6 e6 => ?_) (by rw [sizeLine_eq]; omega)
  subst hE
  refine stC (Y.keeps k6) fun h2' Y2 P2 => ?_
  refine hQ _ _ _ _ _ _ Y2 (k6.pres.trans P2) (P2 _ _ e6 (.lst _ _)) (hi.append id6) (fun x hx => ?_) (by rw [List.length_append, hdl]; omega) (by rw [List.length_append, hdl]; omega)
  rcases List.mem_append.mp hx with hx | hx
  · exact hs x hx
  · have := List.mem_of_mem_drop hx
    simp only [List.mem_cons, List.not_mem_nil, or_false] at this
    rcases this with rfl | rfl | rfl <;> decide
end

theorem join_signs : ∀ l : List Nat, Txt.join (M []) (l.map fun c => M [c]) = M l := by
  intro l
  unfold Txt.join
  rw [StrLaws.glued_eq_join]
  induction l with
  | nil => rfl
  | cons a l ih =>
    cases l with
    | nil => rfl
    | cons b l =>
      show M [a] ++ M [] ++ Str.join (M []) ((b :: l).map fun c => M [c]) = _
      rw [ih, M_app, M_app]; rfl
theorem lens_signs : ∀ l : List Nat, ((l.map fun c => M [c]).map (·.length)).sum = l.length
  | [] => rfl
  | a :: l => by
    have ih := lens_signs l
    simp only [List.map_cons, List.sum_cons, List.length_cons]
    rw [ih, M_len]; simp; omega
section
variable {w : World} {A : Around} {s : Shared} {g : Heap} {L : Addr} {ml cl : List (Str × Value)} {mg mb : Str → Option Value} {mean : ExcName → Option Value} {Q : Flow → Shared → Prop}
theorem st_word {rd : Addr} {us : List Value} {n : Nat} {ms : List Int} (C : Ctx w A g mg mb mean) (Y : LawAt g s.heap L ml cl) (hd : cl.lookup (Str.ofString "draws") = some (.ref rd)) (ed : s.heap.get? rd = some (lstO us n)) (hi : IntsAre us ms) (hs : Small ms) (h0 : 0 < ms.length)
    (hQ : ∀ h' tk l t', LawAt g h' L ml ((Str.ofString "word", .str (M l) t') :: cl) → Pres s.heap h' → l.length = 7 → AB l → Q .next { s with heap := h', toks := tk }) :
    wpAny (model PG w) A (exec (lawBody.getD 2 default) (LE L)) Q NoE s := by
  have X := inKp C.X Y.keep
  have T := topKp C.T Y.keep
  have r1 : Rd (LE L) s.heap (Str.ofString "range") (.type "range") := rd_built X T g_range b_range
  have k0 : Keeps s.heap s.heap := Keeps.rfl'
  obtain ⟨x, ms', rfl⟩ : ∃ x ms', ms = x :: ms' := by
    cases ms with
    | nil => simp at h0
    | cons x ms' => exact ⟨x, ms', rfl⟩
  obtain ⟨tx, us', rfl, _⟩ := IntsAre.cons_inv hi
  have hx := hs x (.head _)
  show wpAny _ _ (exec (Stmt.Assign _ _ _) _) _ _ _
  refine wpAny_Assign_Name ?_
  repeat' ((fail_if_success (with_reducible show wpAny _ _ (eval (Expr.ListComp _ _ _ _) _) _ _ _)); first | walk1 | (dsimp only; walk1))
  refine compK (s := { s with toks := _ }) (n := 7) (P := fun i v => ∃ t, v = .int (i : Nat) t) (fun i ys _ => ∃ l : List Nat, l.length = i ∧ AB l ∧ StrsAre ys (l.map fun c => M [c])) (by decide) ?hit (fun _ _ _ _ h _ => h) (fun _ => ⟨[], rfl, fun c hc => absurd hc List.not_mem_nil, .nil⟩) rfl (by decide) rfl (by decide) rfl ?step ?hQ
  case hit =>
    generalize LE L = env at r1 ⊢
    repeat' ((fail_if_success (with_reducible show wpAny _ _ (call (Value.type "range") _) _ _ _)); first | walk1 | (dsimp only; walk1))
    exact range_iterK (by decide) (by decide) (Same.to _ _) Keeps.rfl' (Nat.le_refl _) C.hh
  case step =>
    rintro C1 cenv i v ys s₃ m₃ hce hC hi' ⟨tv, rfl⟩ hsm hns hmx hk hle ⟨l, h1, h2, h3⟩
    have rk := Rd.of_eq hce (rd_local hns hmx)
    have rd' := Rd.of_eq hce (rd_cell (x := Str.ofString "draws") (c := L + 1) ((Y.cellC hd).keeps hk))
    clear hce
    have k3 : Keeps s₃.heap s₃.heap := Keeps.rfl'
    refine turn_plain ?_
    repeat' ((fail_if_success (with_reducible show wpAny _ _ (subscriptTail _ _ _ _) _ _ _)); first | walk1 | (dsimp only; walk1))
    refine kitem_list (h₀ := s₃.heap) k3 (isList_of (hk _ _ ed)) (by decide) (by decide) rfl ?_
    repeat' ((fail_if_success (with_reducible show wpAny _ _ (subscriptTail _ _ _ _) _ _ _)); first | walk1 | (dsimp only; walk1))
    generalize he : Int.fmod (Int.fdiv x _) 2 = e
    have e0 : 0 ≤ e ∧ e < 2 := by rw [← he, Int.fmod_eq_emod_of_nonneg _ (by decide)]; omega
    clear he
    obtain ⟨c, rfl⟩ : ∃ c : Nat, e = c := ⟨e.toNat, by omega⟩
    have hc2 : c < 2 := by omega
    have e2 : (Str.ofString "ab").length = 2 := by decide
    refine kitem_str (by omega) (by omega) (by omega) ?_
    have e3 : Txt.item (Str.ofString "ab") ((c : Nat) : Int) = M [97 + c] := by
      rw [ab_is, M_item _ c (by simpa using hc2)]
      have : c = 0 ∨ c = 1 := by omega
      rcases this with rfl | rfl <;> rfl
    rw [e3]
    refine ⟨⟨_, _, rfl⟩, k3, l ++ [97 + c], by simp [h1], fun y hy => ?_, ?_⟩
    · rcases List.mem_append.mp hy with hy | hy
      · exact h2 y hy
      · rw [List.mem_singleton.mp hy]; omega
    · rw [List.map_append]; exact strs_snoc h3
  case hQ =>
    rintro D h' tk ys n' hD hD' hk ⟨l, h1, h2, h3⟩
    repeat' ((fail_if_success (with_reducible show wpAny _ _ (call (Value.builtin "str.join") _) _ _ _)); first | walk1 | (dsimp only; walk1))
    have h4 := lens_signs l
    refine join_listW (items := ys.toArray) (by exact isList_of hD') h3 (by decide) (by rw [h4, List.length_map]; omega) fun t' tk' => ?_
    rw [empty_is, join_signs]
    refine stC (Y.keeps hk) fun h2' Y2 P2 => ?_
    exact hQ _ _ _ _ Y2 (hk.pres.trans P2) h1 h2
theorem st_share {rd : Addr} {us : List Value} {n : Nat} {ms : List Int} (C : Ctx w A g mg mb mean) (Y : LawAt g s.heap L ml cl) (hd : cl.lookup (Str.ofString "draws") = some (.ref rd)) (ed : s.heap.get? rd = some (lstO us n)) (hi : IntsAre us ms) (hs : Small ms) (h0 : 0 < ms.length)
    (hQ : ∀ h' tk sh t', LawAt g h' L ml ((Str.ofString "share", .float (q4 sh) t') :: cl) → Pres s.heap h' → sh < 4 → Q .next { s with heap := h', toks := tk }) :
    wpAny (model PG w) A (exec (lawBody.getD 3 default) (LE L)) Q NoE s := by
  have r1 := Y.rdC (L + 1) hd
  have k0 : Keeps s.heap s.heap := Keeps.rfl'
  obtain ⟨x, ms', rfl⟩ : ∃ x ms', ms = x :: ms' := by
    cases ms with
    | nil => simp at h0
    | cons x ms' => exact ⟨x, ms', rfl⟩
  obtain ⟨tx, us', rfl, _⟩ := IntsAre.cons_inv hi
  have hx := hs x (.head _)
  show wpAny _ _ (exec (Stmt.Assign _ _ _) _) _ _ _
  refine wpAny_Assign_Name ?_
  generalize hE : LE L = env at r1 ⊢
  repeat' ((fail_if_success (with_reducible show wpAny _ _ (subscriptTail _ _ _ _) _ _ _)); first | walk1 | (dsimp only; walk1))
  refine kitem_list (h₀ := s.heap) (by exact k0) (isList_of ed) (by decide) (by decide) rfl ?_
  repeat' ((fail_if_success (with_reducible show wpAny _ _ (binaryOp Operator.Div _ _) _ _ _)); first | walk1 | (dsimp only; walk1))
  generalize he : Int.fmod (Int.fdiv x _) 4 = e
  have e0 : 0 ≤ e ∧ e < 4 := by rw [← he, Int.fmod_eq_emod_of_nonneg _ (by decide)]; omega
  clear he
  obtain ⟨c, rfl⟩ : ∃ c : Nat, e = c := ⟨e.toNat, by omega⟩
  have hc4 : c < 4 := by omega
  refine truediv_ok (by decide) (q4_facts ⟨c, hc4⟩).2 ?_
  subst hE
  refine stC (Y.keeps k0) fun h2' Y2 P2 => ?_
  exact hQ _ _ c _ Y2 P2 hc4
theorem st_level {rd : Addr} {us : List Value} {n : Nat} {ms : List Int} (C : Ctx w A g mg mb mean) (Y : LawAt g s.heap L ml cl) (hd : cl.lookup (Str.ofString "draws") = some (.ref rd)) (ed : s.heap.get? rd = some (lstO us n)) (hi : IntsAre us ms) (hs : Small ms) (h0 : 0 < ms.length)
    (hQ : ∀ h' tk lv t', LawAt g h' L ml ((Str.ofString "level", .float (q4 lv) t') :: cl) → Pres s.heap h' → lv < 4 → 0 < t' → t' < tk → Q .next { s with heap := h', toks := tk }) :
    wpAny (model PG w) A (exec (lawBody.getD 4 default) (LE L)) Q NoE s := by
  have r1 := Y.rdC (L + 1) hd
  have k0 : Keeps s.heap s.heap := Keeps.rfl'
  obtain ⟨x, ms', rfl⟩ : ∃ x ms', ms = x :: ms' := by
    cases ms with
    | nil => simp at h0
    | cons x ms' => exact ⟨x, ms', rfl⟩
  obtain ⟨tx, us', rfl, _⟩ := IntsAre.cons_inv hi
  have hx := hs x (.head _)
  show wpAny _ _ (exec (Stmt.Assign _ _ _) _) _ _ _
  refine wpAny_Assign_Name ?_
  generalize hE : LE L = env at r1 ⊢
  repeat' ((fail_if_success (with_reducible show wpAny _ _ (subscriptTail _ _ _ _) _ _ _)); first | walk1 | (dsimp only; walk1))
  refine kitem_list (h₀ := s.heap) (by exact k0) (isList_of ed) (by decide) (by decide) rfl ?_
  repeat' ((fail_if_success (with_reducible show wpAny _ _ (binaryOp Operator.Div _ _) _ _ _)); first | walk1 | (dsimp only; walk1))
  generalize he : Int.fmod (Int.fdiv x _) 4 = e
  have e0 : 0 ≤ e ∧ e < 4 := by rw [← he, Int.fmod_eq_emod_of_nonneg _ (by decide)]; omega
  clear he
  obtain ⟨c, rfl⟩ : ∃ c : Nat, e = c := ⟨e.toNat, by omega⟩
  have hc4 : c < 4 := by omega
  refine truediv_ok (by decide) (q4_facts ⟨c, hc4⟩).2 ?_
  subst hE
  refine stC (Y.keeps k0) fun h2' Y2 P2 => ?_
  exact hQ _ _ c _ Y2 P2 hc4 (by exact Nat.succ_pos _) (by exact Nat.lt_succ_self _)
theorem st_seal {l : List Nat} {sh lv : Nat} {t1 t2 t3 : Tok} (C : Ctx w A g mg mb mean) (Y : LawAt g s.heap L ml cl) (hw : cl.lookup (Str.ofString "word") = some (.str (M l) t1)) (hsh : cl.lookup (Str.ofString "share") = some (.float (q4 sh) t2)) (hlv : cl.lookup (Str.ofString "level") = some (.float (q4 lv) t3)) (h7 : l.length = 7) (hs : sh < 4) (hl : lv < 4)
    (hQ : ∀ h' tk rs hi, LawAt g h' L ml ((Str.ofString "seal", .ref rs) :: cl) → Pres s.heap h' → SealAt h' (.ref rs) (hueN (M l)) sh lv s.toks hi t3 → s.toks ≤ hi → hi ≤ tk → Q .next { s with heap := h', toks := tk }) :
    wpAny (model PG w) A (exec (lawBody.getD 5 default) (LE L)) Q NoE s := by
  have X := inKp C.X Y.keep
  have T := topKp C.T Y.keep
  have r1 := Y.rdC _ hw
  have r2 := Y.rdC _ hsh
  have r3 := Y.rdC _ hlv
  have r6 : Rd (LE L) s.heap (Str.ofString "_law_seal") (.ref 56) := rd_own X T g_seal
  have k0 : Keeps s.heap s.heap := Keeps.rfl'
  show wpAny _ _ (exec (Stmt.Assign _ _ _) _) _ _ _
  refine wpAny_Assign_Name ?_
  generalize hE : LE L = env at r1 r2 r3 r6 ⊢
  repeat' ((fail_if_success (with_reducible show wpAny _ _ (call (Value.ref _) _) _ _ _)); first | walk1 | (dsimp only; walk1))
  refine wpAny_call (codeAny_le_toks (seal_call X T (Nat.lt_trans C.hd (by decide)) C.hh (M l) sh lv _ _ _ (by rw [M_len]; omega) hs fun v2 h2 tk2 a2 b2 d2 k2 S2 e2 hle => ?_))
  have S3 := seal_at (by rw [M_len]; omega) hs hl S2 e2
  subst hE
  obtain ⟨r, u1, u2, u3, rfl, q⟩ := id S3
  refine stC (Y.keeps k2) fun h2' Y2 P2 => ?_
  exact hQ _ _ _ _ Y2 (k2.pres.trans P2) (S3.tup P2.tupKeep) hle (Nat.le_refl _)
end

theorem lawBody_eq : lawBody = [lawBody.getD 0 default, lawBody.getD 1 default, lawBody.getD 2 default, lawBody.getD 3 default, lawBody.getD 4 default, lawBody.getD 5 default, lawBody.getD 6 default, lawBody.getD 7 default] := rfl
section
variable {w : World} {A : Around} {s : Shared} {g : Heap} {L : Addr} {mg mb : Str → Option Value} {mean : ExcName → Option Value} {Q : Flow → Shared → Prop}
theorem law_body {rc : Addr} {vs : List Value} {ns : List Int} (C : Ctx w A g mg mb mean) (Y : LawAt g s.heap L [(Str.ofString "script", .ref rc)] []) (hl : s.heap.IsList rc vs.toArray) (hi : IntsAre vs ns) (hn : ns.length ≤ 63)
    (hQ : ∀ h' tk d' cl, LawAt g h' L [] cl → Q (.ret (.bool true)) { s with heap := h', toks := tk, drawn := d' }) :
    wpAny (model PG w) A (execs lawBody (LE L)) Q NoE s := by
  rw [lawBody_eq]
  refine execs_le (st_draws C Y rfl hl hi hn fun h1 k1 r1 u1 n1 m1 Y1 P1 e1 i1 s1 l1 hle1 => ?_)
  dsimp only at hle1 ⊢
  refine execs_le (st_draws2 (s := { s with heap := h1, toks := k1 }) C Y1 rfl e1 i1 s1 l1 fun h2 k2 r2 u2 n2 m2 Y2 P2 e2 i2 s2 l2 p2 hle2 => ?_)
  dsimp only at hle2 ⊢
  refine execs_le (st_word (s := { s with heap := h2, toks := k2 }) C Y2 rfl e2 i2 s2 p2 fun h3 k3 l t1 Y3 P3 h7 ab hle3 => ?_)
  dsimp only at hle3 ⊢
  refine execs_le (st_share (s := { s with heap := h3, toks := k3 }) C Y3 rfl (P3 _ _ e2 (.lst _ _)) i2 s2 p2 fun h4 k4 sh t2 Y4 P4 hs hle4 => ?_)
  dsimp only at hle4 ⊢
  have P34 := P3.trans P4
  refine execs_le (st_level (s := { s with heap := h4, toks := k4 }) C Y4 rfl (P34 _ _ e2 (.lst _ _)) i2 s2 p2 fun h5 k5 lv t3 Y5 P5 hlv p3 q3 hle5 => ?_)
  dsimp only at hle5 ⊢
  refine execs_le (st_seal (s := { s with heap := h5, toks := k5 }) C Y5 rfl rfl rfl h7 hs hlv fun h6 k6 rs hi6 Y6 P6 S6 g6 g7 hle6 => ?_)
  dsimp only at hle6 g6 S6 ⊢
  have P36 := P34.trans (P5.trans P6)
  have Y7 : LawAt g h6 L [] (clBase rs r2 l sh lv t1 t2 t3) := Y6.weaken (fun p hp => absurd hp List.not_mem_nil) (by
    intro p hp
    simp only [clBase, List.mem_cons, List.not_mem_nil, or_false] at hp
    rcases hp with rfl | rfl | rfl | rfl | rfl <;> rfl)
  refine execs_le (st_for (s := { s with heap := h6, toks := k6 }) C Y7 h7 ab (P36 _ _ e2 (.lst _ _)) i2 (fun x hx => (s2 x hx).1) (by omega) S6 hs hlv p3 q3 g6 g7 fun h8 k8 d8 Y8 hle8 => ?_)
  dsimp only at hle8 ⊢
  refine wpAny_execs_cons ?_
  show wpAny _ _ (exec (Stmt.Return _ _) _) _ _ _
  generalize LE L = env
  repeat' ((fail_if_success (with_reducible show Q _ _)); first | walk1 | (dsimp only; walk1))
  trace_state
  exact hQ _ _ _ _ Y8
end

theorem cells_mem {cm : Str → Option Value} : ∀ {cs : List (Str × Addr)} {cells : List (Addr × Obj)}, CellsAre cm cs cells → ∀ x c, (x, c) ∈ cs → ∃ o, (c, o) ∈ cells ∧ o.data = .cell (cm x)
  | _, _, .nil, x, c, h => absurd h List.not_mem_nil
  | _, _, .cons hd r, x, c, h => by
    rcases List.mem_cons.mp h with e | h
    · cases e; exact ⟨_, .head _, hd⟩
    · obtain ⟨o, a, b⟩ := cells_mem r x c h
      exact ⟨o, .tail _ a, b⟩
theorem lookup_mem {x : Str} {c : Addr} : ∀ {l : List (Str × Addr)}, l.lookup x = some c → (x, c) ∈ l
  | [], h => by cases h
  | (y, d) :: l, h => by
    rw [List.lookup_cons] at h
    by_cases e : x = y
    · subst e; simp at h; subst h; exact .head _
    · rw [beq_false_of_ne e] at h; exact .tail _ (lookup_mem h)
theorem g_law (w : World) : nsIn (KH w) mainGlobals (Str.ofString "law") = some (some (.ref 89)) := by kernel_rfl!
/-- the call's start, as the walk wants it -/
theorem law_start {s₁ : Shared} {h₁ : Heap} {m cv : Str → Option Value} {cells : List (Addr × Obj)} {v : Value} (hT : TabsAt [(88, 86)] s₁.heap) (F : Fr s₁.heap s₁.heap.objs.size h₁ m) (N : News s₁.heap s₁.heap.objs.size h₁ cells)
    (X : CellsAre cv (cellsL s₁.heap.objs.size) cells) (hm : m (Str.ofString "script") = some v) : LawAt (ghostOf s₁.heap [(88, 86)]) h₁ s₁.heap.objs.size [(Str.ofString "script", v)] [] := by
  refine ⟨⟨m, ghost_fr hT F, fun x u e => ?_⟩, ⟨cv, fun x c e => ?_, fun x u e => by cases e⟩, ⟨#[], F.keep _ _ (hT (88, 86) (.head _)).2, .inl rfl⟩, hideAll_none _ (by simp)⟩
  · rw [List.lookup_cons] at e
    by_cases hx : x = Str.ofString "script"
    · subst hx; simp at e; subst e; exact hm
    · rw [beq_false_of_ne hx] at e; cases e
  · obtain ⟨o, a, b⟩ := cells_mem X x c (lookup_mem e)
    exact ⟨o, N.get a, b⟩
set_option maxHeartbeats 8000000 in
theorem law_holds : PySem.Challenge.rw_pe0104_01.Holds := hd (by
  k_fill
  intro w s₀ s₁ mg mb G Y fa o pm cd doc dV kV ho hd hcd hD hmg hg args vals as hpre hlay hrd hwl hlo
  have KX := km_in_of Y
  km_tabs Y
  have X := (Ground.X G).1
  have V := (Ground.X G).2
  refine Ground.open G ?_
  intro T B D TE TW
  try (refine guard_noD D (by decide +kernel) ?_; clear D)
  km_lay T hmg ho hd cd
  have hfa : fa = 89 := by
    have h1 : mg (Str.ofString "law") = some (.ref fa) := hmg
    have h2 := mg_of KX T.g (g_law w)
    rw [h1] at h2
    injection h2 with h3
    injection h3
  subst hfa
  clear hmg
  wrow_args hpre hlay hrd hwl hlo
  first | refine callC_kw (enter_call ?_) | refine enter_call ?_
  kn_posts
  have he := Dflts.none hD rfl; subst he; have he := Dflts.noKw hD; subst he
  refine call_cellsN_ret (by decide) ho (fd_plain hd) (Top.nolimit T) hcd rfl ?hkind (by decide) fun h₁ tk₁ cells F N0 X0 => ?_
  case hkind => exact (kinds_of (by kinds_ok))
  rename Heap.IsList _ _ _ => hL
  rename IntsAre _ _ => hI
  rename ¬ _ => hcond
  have XK := ghost_K hT9 KX (by kernel_rfl!)
  have TK := ghost_top hT9 T
  have Y1 := law_start hT9 F N0 X0 rfl
  refine law_body (s := { heap := h₁, gens := s₁.gens, drawn := s₁.drawn, toks := tk₁, os := s₁.os }) ⟨XK, TK, rfl, (by show callerA.depth + 1 < 400; decide), (by show callerA.units + 3 < 100; decide)⟩ Y1 (hL.at fun o e => F.keep _ _ e) hI (by omega) fun h' tk d' cl Yf => ?_
  refine ⟨⟨.inl ⟨.bool true, .bool true, [], rfl, fun _ => rfl, .bool true, ?_, unshared_nil⟩, Yf.keep, rfl, hg⟩, ?_⟩
  · first | rfl | exact (postW_of (by wrow_shape) (by wtm_val) (by str_meet; first | done | w_fin))
  · obtain ⟨ps, e, _⟩ := Yf.tab
    exact ⟨⟨ps, e⟩, trivial⟩)

end Mine
set_option maxRecDepth 100000 in
set_option maxHeartbeats 8000000 in
theorem PySem.Challenge.cw_pe0104_01_holds : PySem.Challenge.rw_pe0104_01.Holds := by
  exact Mine.law_holds
