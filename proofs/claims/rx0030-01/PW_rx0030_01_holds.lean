import PyProof.Rows.All
import Wide.All
import OpenK.AllK
import Wide.FinOn
import PySem.Challenge.RW_rx0030_01
open PySem PySem.W PyProof.Rows
set_option Elab.async false
namespace Mine
set_option maxRecDepth 100000 in
set_option maxHeartbeats 8000000 in
open_top hd for PySem.Challenge.rw_rx0030_01
end Mine
namespace Mine
/-- what a call of the def at f gives back: room for r frames -/
abbrev Clm (w : World) (p : Program) (loose : List Str) (mean : ExcName → Option Value) (mg mb : Str → Option Value) (f : Addr) (r : Nat) (news : List (Addr × Obj)) (pre : Prop) (vs : List Value) (R : Tok → Value) : Prop :=
  ∀ (dp un : Nat) (gd : Option (List Code)) (cn : Str) (cs : Scope) (a : Addr) (ccd : Value) (cl : List (Str × Addr)) (outer : List Env) (A₀ : Around) (base h₀ : Heap) (L : Addr) (m : Str → Option Value) (s : Shared) (Q E : Value → Shared → Prop),
    Below A₀ base outer h₀ → Fr h₀ L s.heap m → (hd.heap_39 w.params).In h₀ → News h₀ L s.heap news → Top p loose mean mg mb h₀ → cs.kind = .function →
    pre → dp + r < recursionLimit → un + 100 * r < cLine → CbRet h₀ L m news s Q R →
      wpAny (model Challenge.rw_rx0030_01.row.prog w) (ktrTop dp un gd cn cs L a ccd cl outer) (call (.ref f) vs) Q E s

theorem Clm.use {w : World} {p : Program} {loose : List Str} {mean : ExcName → Option Value} {mg mb : Str → Option Value} {f : Addr} {r : Nat} {news : List (Addr × Obj)} {pre : Prop} {vs : List Value} {R : Tok → Value} (C : Clm w p loose mean mg mb f r news pre vs R)
    {dp un : Nat} {gd : Option (List Code)} {cn : Str} {cs : Scope} {a : Addr} {ccd : Value} {cl : List (Str × Addr)} {outer : List Env} {A₀ : Around} {base h₀ : Heap} {L : Addr} {m : Str → Option Value} {s : Shared} {Q E : Value → Shared → Prop}
    (B : Below A₀ base outer h₀) (F : Fr h₀ L s.heap m) (X : (hd.heap_39 w.params).In h₀) (N : News h₀ L s.heap news) (T : Top p loose mean mg mb h₀) (hk : cs.kind = .function)
    (hp : pre) (hd : dp + r < recursionLimit) (hu : un + 100 * r < cLine) (h : ∀ (t : Tok) (h' : Heap) (tk' : Nat), Fr h₀ L h' m → News h₀ L h' news → Q (R t) { s with heap := h', toks := tk' }) :
    wpAny (model Challenge.rw_rx0030_01.row.prog w) (ktrTop dp un gd cn cs L a ccd cl outer) (call (.ref f) vs) Q E s := C dp un gd cn cs a ccd cl outer A₀ base h₀ L m s Q E B F X N T hk hp hd hu h
end Mine
namespace Mine

def cutStep (m : Int) (st : List Int × Int) (c : Int) : List Int × Int :=
  if c = 10 then (st.1 ++ [c], 0) else if m ≤ st.2 then (st.1 ++ [c], st.2 + 1) else (st.1, st.2 + 1)
def cutF (text : Str) (m : Int) : Str := KStt.txt ((KStt.codes text).foldl (cutStep m) ([], 0)).1

theorem codes_snoc (x : Str) (n : Nat) : KStt.codes (x ++ ⟨#[n]⟩) = KStt.codes x ++ [(n : Int)] := by
  unfold KStt.codes
  rw [Str.cps_append, Array.toList_append, List.map_append]; rfl
theorem nl_true {n : Nat} (e : ((⟨#[n]⟩ : Str) == Str.ofString "\n") = true) : (n : Int) = 10 := by
  have h := eq_of_beq e
  rw [show Str.ofString "\n" = (⟨#[10]⟩ : Str) from by decide +kernel] at h
  injection h with h
  have h' := congrArg (fun a : Array Nat => a[0]?) h
  simp at h'
  omega
theorem nl_false {n : Nat} (e : ((⟨#[n]⟩ : Str) == Str.ofString "\n") = false) : ¬ (n : Int) = 10 := by
  intro h
  have hn : n = 10 := by omega
  subst hn
  rw [show Str.ofString "\n" = (⟨#[10]⟩ : Str) from by decide +kernel] at e
  simp at e
theorem len_snoc {x : Str} {n : Nat} : (x ++ ⟨#[n]⟩ : Str).length = x.length + 1 := by
  rw [Str.length_append]; rfl
theorem cut_s1 {m place : Int} {kept : Str} {pre : List Int} {n : Nat} (h : (KStt.codes kept, place) = pre.foldl (cutStep m) ([], 0)) (hl : kept.length ≤ pre.length) (e : ((⟨#[n]⟩ : Str) == Str.ofString "\n") = true) :
    (KStt.codes (kept ++ ⟨#[n]⟩), (0 : Int)) = (pre ++ [(n : Int)]).foldl (cutStep m) ([], 0) ∧ (kept ++ ⟨#[n]⟩ : Str).length ≤ (pre ++ [(n : Int)]).length := by
  refine ⟨?_, by rw [len_snoc]; simpa using hl⟩
  rw [List.foldl_append, ← h]
  simp only [List.foldl_cons, List.foldl_nil, cutStep, if_pos (nl_true e), codes_snoc]
theorem cut_s2 {m place : Int} {kept : Str} {pre : List Int} {n : Nat} (h : (KStt.codes kept, place) = pre.foldl (cutStep m) ([], 0)) (hl : kept.length ≤ pre.length) (e : ((⟨#[n]⟩ : Str) == Str.ofString "\n") = false) (hm : m ≤ place) :
    (KStt.codes (kept ++ ⟨#[n]⟩), place + 1) = (pre ++ [(n : Int)]).foldl (cutStep m) ([], 0) ∧ (kept ++ ⟨#[n]⟩ : Str).length ≤ (pre ++ [(n : Int)]).length := by
  refine ⟨?_, by rw [len_snoc]; simpa using hl⟩
  rw [List.foldl_append, ← h]
  simp only [List.foldl_cons, List.foldl_nil, cutStep, if_neg (nl_false e), if_pos hm, codes_snoc]
theorem cut_s3 {m place : Int} {kept : Str} {pre : List Int} {n : Nat} (h : (KStt.codes kept, place) = pre.foldl (cutStep m) ([], 0)) (hl : kept.length ≤ pre.length) (e : ((⟨#[n]⟩ : Str) == Str.ofString "\n") = false) (hm : ¬ m ≤ place) :
    (KStt.codes kept, place + 1) = (pre ++ [(n : Int)]).foldl (cutStep m) ([], 0) ∧ kept.length ≤ (pre ++ [(n : Int)]).length := by
  refine ⟨?_, by rw [List.length_append]; omega⟩
  rw [List.foldl_append, ← h]
  simp only [List.foldl_cons, List.foldl_nil, cutStep, if_neg (nl_false e), if_neg hm]
theorem cut_eq {m place : Int} {kept text : Str} (h : (KStt.codes kept, place) = (KStt.codes text).foldl (cutStep m) ([], 0)) : kept = cutF text m := by
  unfold cutF
  rw [← h, KStt.txt_codes]

set_option pp.deepTerms false in
set_option pp.deepTerms.threshold 10 in
set_option maxRecDepth 100000 in
set_option maxHeartbeats 8000000 in
theorem cut_call {w : World} {p : Program} {loose : List Str} {mean : ExcName → Option Value} {mg mb : Str → Option Value} (news : List (Addr × Obj)) (text : Str) (tk : Tok) (margin : Int) (tm : Tok) :
    Clm w p loose mean mg mb 81 1 news (text.length ≤ 100) [.str text tk, .int margin tm] (fun t => .str (cutF text margin) t) := by
  unfold Clm
  (k_with "pyIter str" => k_state (fun pre kept place => ((KStt.codes kept, place) : List Int × Int) = pre.foldl (cutStep margin) ([], 0) ∧ kept.length ≤ pre.length) "kept" "place")
  (k_with "state" => first | exact ⟨rfl, Nat.le_refl _⟩ | exact cut_s1 (by assumption) (by assumption) (by assumption) | exact cut_s2 (by assumption) (by assumption) (by assumption) (by assumption) | exact cut_s3 (by assumption) (by assumption) (by assumption) (by assumption))
  w_strict (
  k_fill
  dsimp only [CbRet]
  intros
  rename_i hret
  refine wpAny_call ?_
  k_dflt cell_enter
  k_steps
  all_goals exact cb_retS hret (cut_eq (by assumption)) (by k_asm) (by k_asm))
end Mine
namespace Mine

section
variable {prog : Program} {w : World} {A : Around} {E : Value → Shared → Prop} {s : Shared} {env : Env} {h₀ : Heap} {m : Str → Option Value} {news : List (Addr × Obj)} {xi xc : Str} {Q : Flow → Shared → Prop}

/-- a for over enumerate of a list that stands on the ledger and that the turn may change -/
theorem forLoop_enumLed {R : Result → Shared → Prop} {pk pv pt : Pos} {x1 : Nat} {body : List Stmt} {e it l : Addr} {n : Nat} (hh : A.handled = none)
    (hxi : env.kindOf xi = some .local) (hxc : env.kindOf xc = some .local)
    (hp : (env.scope.kind == .class || (env.scope.kind == .module && env.locals != env.globals)) = false)
    (he : IsEnum s.heap e it 0 .none) (hit : s.heap.IsListIter it l 0) (hei : e ≠ it) (heL : env.locals ≠ e) (hiL : env.locals ≠ it) (he0 : h₀.get? e = none) (hi0 : h₀.get? it = none)
    (hne : ∀ p ∈ news, p.1 ≠ e ∧ p.1 ≠ it) (F : Fr h₀ env.locals s.heap m) (N : News h₀ env.locals s.heap news)
    (J : Nat → (Str → Option Value) → List (Addr × Obj) → Prop) (h0 : J 0 m news)
    (hJ : ∀ i m' n', J i m' n' → ∃ vs k, (l, ({ cls := .type "list", data := .seq vs k } : Obj)) ∈ n' ∧ vs.size = n)
    (step : ∀ (i : Nat) t v m₁ news₁ s₁ own, (∃ h tk, s₁ = { s with heap := h, toks := tk }) → i < n → J i m₁ news₁ → (∃ vs k, (l, ({ cls := .type "list", data := .seq vs k } : Obj)) ∈ news₁ ∧ vs[i]? = some v) → news₁.map (·.1) = news.map (·.1) →
      (∀ p ∈ own, ∀ q ∈ news, p.1 ≠ q.1) →
      Fr h₀ env.locals s₁.heap (fun y => if y = xc then some v else if y = xi then some (.int i t) else m₁ y) → News h₀ env.locals s₁.heap (own ++ news₁) →
      wpAny (model prog w) A (execs body env) (LoopStep3 h₀ env.locals own news₁ (J (i + 1)) s₁ (fun v s' => R (.ok (.ret v)) s') fun s' => R (.ok .next) s') (notedBy (model prog w) A env fun e s' => R (.error e) s') s₁)
    (hR : ∀ h' tk m' news', Fr h₀ env.locals h' m' → News h₀ env.locals h' news' → news'.map (·.1) = news.map (·.1) → J n m' news' → R (.ok .next) { s with heap := h', toks := tk }) :
    codeAny (model prog w) A (.forLoop (.Tuple [.Name xi pk, .Name xc pv] x1 pt) (.ref e) body [] env) R s := by
  have off : ∀ news' : List (Addr × Obj), news'.map (·.1) = news.map (·.1) → ∀ p ∈ news', p.1 ≠ e ∧ p.1 ≠ it := fun news' ha p hp => by
    have : p.1 ∈ news.map (·.1) := ha ▸ List.mem_map.mpr ⟨p, hp, rfl⟩
    obtain ⟨q, hq, eq⟩ := List.mem_map.mp this
    exact eq ▸ hne q hq
  have old : ∀ b o, h₀.get? b = some o → b ≠ e ∧ b ≠ it := fun b o x => ⟨fun q => (by rw [q, he0] at x; cases x), fun q => (by rw [q, hi0] at x; cases x)⟩
  refine codeAny_forLoop_any
    (fun k s' => ∃ h' tk m' news' i old, s' = { s with heap := h', toks := tk } ∧ IsEnum h' e it (i : Nat) old ∧ h'.IsListIter it l i ∧ Fr h₀ env.locals h' m' ∧ News h₀ env.locals h' news' ∧ news'.map (·.1) = news.map (·.1) ∧ J i m' news' ∧ i ≤ n ∧ k = n + 1 - i) ?_ (n + 1)
    ⟨s.heap, s.toks, m, news, 0, .none, rfl, he, hit, F, N, rfl, h0, Nat.zero_le _, rfl⟩
  rintro k s' ⟨H, tk, m', news', i, oldv, rfl, he', hit', F', N', ha', hJ', hi, rfl⟩
  have next : ∀ h₁ : Heap, (∀ b o, b ≠ e → b ≠ it → H.get? b = some o → h₁.get? b = some o) → Fr h₀ env.locals h₁ m' ∧ News h₀ env.locals h₁ news' := fun h₁ hk₁ =>
    ⟨⟨F'.ns.at' fun o x => hk₁ _ o heL hiL x, fun b o x => hk₁ b o (old b o x).1 (old b o x).2 (F'.keep b o x), F'.above⟩, fun p hp => ⟨hk₁ _ _ (off news' ha' p hp).1 (off news' ha' p hp).2 (N' p hp).1, (N' p hp).2⟩⟩
  obtain ⟨vs, kk, hm, hvs⟩ := hJ i m' news' hJ'
  have hl : H.IsList l vs := ⟨_, (N' _ hm).1, rfl, kk, rfl⟩
  by_cases hlt : i < n
  · have hx : vs[i]? = some vs[i] := Array.getElem?_eq_getElem (by omega)
    refine wpAny_pyNext_enum_item he' hit' hl hx hei fun h₁ hout hit₁ hT hsz hk₁ => ?_
    have helt : e < H.objs.size := Heap.lt_size he'
    have hilt : it < H.objs.size := by obtain ⟨_, x, _⟩ := hit'; exact Heap.lt_size x
    refine wpAny_letOwnedTupleGo_enum hout fun h₂ he₂ hs₂ => ?_
    replace hs₂ : Heap.SameBut e h₁ h₂ := hs₂
    have hTe : H.objs.size ≠ e := Nat.ne_of_gt helt
    have hTi : H.objs.size ≠ it := Nat.ne_of_gt hilt
    have ht₂ : h₂.IsTuple H.objs.size #[.int i tk, vs[i]] := ⟨_, (hs₂.2 _ hTe).trans hT, rfl, 0, rfl⟩
    refine wpAny_assign_Tuple hh ht₂ rfl rfl fun h₃ hx₃ => ?_
    replace hx₃ : Heap.ExtBut h₂.objs.size h₂ h₃ := hx₃
    have up₃ : ∀ b o, h₂.get? b = some o → h₃.get? b = some o := fun b o x => hx₃ b o (Nat.ne_of_lt (Heap.lt_size x)) x
    obtain ⟨F₃, N₃⟩ := next h₃ fun b o hb hb' x => up₃ b o ((hs₂.2 b hb).trans (hk₁ b o hb hb' x))
    have hit₃ : h₃.IsListIter it l (i + 1) := by obtain ⟨o, x, r⟩ := hit₁; exact ⟨o, up₃ _ _ ((hs₂.2 it (Ne.symm hei)).trans x), r⟩
    have he₃ : IsEnum h₃ e it ((i : Int) + 1) vs[i] := up₃ _ _ he₂
    show wpAny _ A (do holding [vs[i]] (assign (.Name xi pk) env (.int i tk)); do holding [] (assign (.Name xc pv) env vs[i]); pure ()) _ _ _
    refine wpAny_bind (wpAny_holding (wpAny_assign_Name (wpAny_storeName_local hxi F₃.ns (fun h₄ hn₄ hs₄ => ?_) hp)))
    replace hs₄ : Heap.SameBut env.locals h₃ h₄ := hs₄
    have F₄ := F₃.set hn₄ hs₄
    refine wpAny_bind (wpAny_holding (wpAny_assign_Name (wpAny_storeName_local hxc F₄.ns (fun h₅ hn₅ hs₅ => wpAny_pure ?_) hp)))
    replace hs₅ : Heap.SameBut env.locals h₄ h₅ := hs₅
    have F₅ := F₄.set hn₅ hs₅
    have N₅ : News h₀ env.locals h₅ news' := (N₃.set hs₄).set hs₅
    have he₅ : IsEnum h₅ e it ((i : Int) + 1) vs[i] := hs₅.extBut _ _ (Ne.symm heL) (hs₄.extBut _ _ (Ne.symm heL) he₃)
    obtain ⟨oi, hoi, ri⟩ := hit₃
    have hoi₅ : h₅.get? it = some oi := hs₅.extBut _ _ (Ne.symm hiL) (hs₄.extBut _ _ (Ne.symm hiL) hoi)
    have Nown : News h₀ env.locals h₅ [(e, { cls := .type "enumerate", data := .fields #[.none, .bool false, .ref it, rawInt ((i : Int) + 1), .none, vs[i]] }), (it, oi)] := fun p hp => by
      rcases List.mem_cons.mp hp with rfl | hp
      · exact ⟨he₅, Ne.symm heL, he0⟩
      · rw [List.mem_singleton.mp hp]; exact ⟨hoi₅, Ne.symm hiL, hi0⟩
    refine wpAny_mono (step i tk vs[i] m' news' _ _ ⟨_, _, rfl⟩ hlt hJ' ⟨vs, kk, hm, hx⟩ ha' (fun p hp q hq => ?_) F₅ (Nown.append N₅)) (fun f s₃ h₆ => ?_) fun _ _ x => x
    · rcases List.mem_cons.mp hp with rfl | hp
      · exact Ne.symm (hne q hq).1
      · rw [List.mem_singleton.mp hp]; exact Ne.symm (hne q hq).2
    have fin : LoopStep2 h₀ env.locals [(e, { cls := .type "enumerate", data := .fields #[.none, .bool false, .ref it, rawInt ((i : Int) + 1), .none, vs[i]] }), (it, oi)] news' (J (i + 1)) { s with heap := h₅, toks := tk + 1 + 1 + 1 } .next s₃ →
        ∃ m_1, m_1 < n + 1 - i ∧ ∃ h' tk m' news' i old, s₃ = { s with heap := h', toks := tk } ∧ IsEnum h' e it (i : Nat) old ∧ h'.IsListIter it l i ∧ Fr h₀ env.locals h' m' ∧ News h₀ env.locals h' news' ∧ news'.map (·.1) = news.map (·.1) ∧ J i m' news' ∧ i ≤ n ∧ m_1 = n + 1 - i := by
      rintro ⟨_, h₆', tk₆, m₂, news₂, rfl, F₆, N₆, ha₆, hJ₆⟩
      exact ⟨n + 1 - (i + 1), by omega, h₆', tk₆, m₂, news₂, i + 1, _, rfl, (N₆ _ (List.mem_append_left _ (List.mem_cons_self ..))).1, ⟨oi, (N₆ (it, oi) (List.mem_append_left _ (List.mem_cons_of_mem _ (List.mem_cons_self ..)))).1, ri⟩, F₆, N₆.right, ha₆.trans ha', hJ₆, hlt, rfl⟩
    cases f with
    | ret v => exact h₆
    | brk => exact h₆
    | cont => exact fin h₆
    | next => exact fin h₆
  · have hin : i = n := by omega
    subst hin
    refine wpAny_pyNext_enum_end hh he' hit' hl (Array.getElem?_eq_none (by omega)) fun h₁ hx₁ => wpAny_execs_nil ?_
    obtain ⟨F₁, N₁⟩ := next h₁ fun b o _ hb x => hx₁ b o hb x
    exact hR h₁ tk m' news' F₁ N₁ ha' hJ'

def EnumLed (prog : Program) (w : World) (A : Around) (h₀ : Heap) (env : Env) (xi xc : Str) (body : List Stmt) (Q : Flow → Shared → Prop) (E : Value → Shared → Prop) (xv : Value) (s₁ : Shared) : Prop :=
  ∃ (e it l : Addr) (n : Nat) (m : Str → Option Value) (news : List (Addr × Obj)) (J : Nat → (Str → Option Value) → List (Addr × Obj) → Prop), xv = .ref e ∧ IsEnum s₁.heap e it 0 .none ∧ s₁.heap.IsListIter it l 0 ∧ e ≠ it ∧ env.locals ≠ e ∧ env.locals ≠ it ∧ h₀.get? e = none ∧ h₀.get? it = none ∧
    (∀ p ∈ news, p.1 ≠ e ∧ p.1 ≠ it) ∧ Fr h₀ env.locals s₁.heap m ∧ News h₀ env.locals s₁.heap news ∧ J 0 m news ∧
    (∀ i m' n', J i m' n' → ∃ vs k, (l, ({ cls := .type "list", data := .seq vs k } : Obj)) ∈ n' ∧ vs.size = n) ∧
    (∀ (i : Nat) t v m₁ news₁ s₂ own, (∃ h tk, s₂ = { s₁ with heap := h, toks := tk }) → i < n → J i m₁ news₁ → (∃ vs k, (l, ({ cls := .type "list", data := .seq vs k } : Obj)) ∈ news₁ ∧ vs[i]? = some v) → news₁.map (·.1) = news.map (·.1) →
      (∀ p ∈ own, ∀ q ∈ news, p.1 ≠ q.1) →
      Fr h₀ env.locals s₂.heap (fun y => if y = xc then some v else if y = xi then some (.int i t) else m₁ y) → News h₀ env.locals s₂.heap (own ++ news₁) →
      wpAny (model prog w) A (execs body env) (LoopStep3 h₀ env.locals own news₁ (J (i + 1)) s₂ (fun v s' => Q (.ret v) s') fun s' => Q .next s') E s₂) ∧
    (∀ h' tk m' news', Fr h₀ env.locals h' m' → News h₀ env.locals h' news' → news'.map (·.1) = news.map (·.1) → J n m' news' → Q .next { s₁ with heap := h', toks := tk })

theorem For_enumLed {pk pv pt pos : Pos} {x1 : Nat} {iter : Expr} {body : List Stmt} (_F : Fr h₀ env.locals s.heap m) (hh : A.handled = none)
    (hxi : env.kindOf xi = some .local) (hxc : env.kindOf xc = some .local)
    (hp : (env.scope.kind == .class || (env.scope.kind == .module && env.locals != env.globals)) = false)
    (h : wpAny (model prog w) A (eval iter env) (EnumLed prog w A h₀ env xi xc body Q E) E s)
    (hs : ∀ x, foldedSetIterable iter env x = pure x)
    (hE : PassesOwn (model prog w) A env E := by passes_own) :
    wpAny (model prog w) A (exec (.For (.Tuple [.Name xi pk, .Name xc pv] x1 pt) iter body [] pos) env) Q E s := by
  refine wpAny_For (wpAny_mono h (fun xv s₁ h₁ => ?_) fun _ _ e => e) hs
  obtain ⟨e, it, l, n, m, news, J, rfl, he, hit, hei, heL, hiL, he0, hi0, hne, F, N, h0, hJ, step, hQ⟩ := h₁
  exact wpAny_pyIter_enum he (forLoop_enumLed (R := fun r s' => match r with | .ok f => Q f s' | .error e => cameBackBy (model prog w) A env E e s') hh hxi hxc hp he hit hei heL hiL he0 hi0 hne F N J h0 hJ (by intros; exact wpAny_passesOwn hE (by apply step <;> assumption)) hQ)

/-- enumerate of a list of the ledger -/
theorem call_enum_led {l : Addr} {vs : Array Value} {k n : Nat} {body : List Stmt} (J : Nat → (Str → Option Value) → List (Addr × Obj) → Prop)
    (F : Fr h₀ env.locals s.heap m) (N : News h₀ env.locals s.heap news) (hm : (l, ({ cls := .type "list", data := .seq vs k } : Obj)) ∈ news) (h0 : J 0 m news)
    (hJ : ∀ i m' n', J i m' n' → ∃ vs k, (l, ({ cls := .type "list", data := .seq vs k } : Obj)) ∈ n' ∧ vs.size = n)
    (step : ∀ (i : Nat) t v m₁ news₁ h tk own, i < n → J i m₁ news₁ → (∃ vs k, (l, ({ cls := .type "list", data := .seq vs k } : Obj)) ∈ news₁ ∧ vs[i]? = some v) → news₁.map (·.1) = news.map (·.1) →
      (∀ p ∈ own, ∀ q ∈ news, p.1 ≠ q.1) →
      Fr h₀ env.locals h (fun y => if y = xc then some v else if y = xi then some (.int i t) else m₁ y) → News h₀ env.locals h (own ++ news₁) →
      wpAny (model prog w) A (execs body env) (LoopStep3 h₀ env.locals own news₁ (J (i + 1)) { s with heap := h, toks := tk } (fun v s' => Q (.ret v) s') fun s' => Q .next s') E { s with heap := h, toks := tk })
    (done : ∀ h' tk m' news', Fr h₀ env.locals h' m' → News h₀ env.locals h' news' → news'.map (·.1) = news.map (·.1) → J n m' news' → Q .next { s with heap := h', toks := tk }) :
    wpAny (model prog w) A (call (.type "enumerate") [.ref l]) (EnumLed prog w A h₀ env xi xc body Q E) E s := by
  have hls : s.heap.IsList l vs := ⟨_, (N _ hm).1, rfl, k, rfl⟩
  have hLs : env.locals < s.heap.objs.size := F.ns.lt
  have hab : h₀.objs.size ≤ env.locals := F.above
  refine call_enumerate_list hls fun h' he hit hsz hk => ?_
  have F' : Fr h₀ env.locals h' m := ⟨F.ns.keeps hk, fun b o e => hk b o (F.keep b o e), F.above⟩
  have N' : News h₀ env.locals h' news := fun p hp => ⟨hk _ _ (N p hp).1, (N p hp).2⟩
  refine ⟨s.heap.objs.size + 1, s.heap.objs.size, l, n, m, news, J, rfl, he, hit, Nat.succ_ne_self _, Nat.ne_of_lt (Nat.lt_succ_of_lt hLs), Nat.ne_of_lt hLs,
    Heap.get?_none_of_le (Nat.le_trans hab (Nat.le_of_lt (Nat.lt_succ_of_lt hLs))), Heap.get?_none_of_le (Nat.le_trans hab (Nat.le_of_lt hLs)), fun p hp => ?_, F', N', h0, hJ, ?_, done⟩
  · have := Heap.lt_size (N p hp).1
    exact ⟨Nat.ne_of_lt (Nat.lt_succ_of_lt this), Nat.ne_of_lt this⟩
  · rintro i t v m₁ news₁ s₂ own ⟨h, tk, rfl⟩ a b c d e f g
    exact step i t v m₁ news₁ h tk own a b c d e f g

/-- a search with a break over pairs: the number at the end -/
theorem Pair_brk {α : Type} {K : ItemKind α} {as : List α} {pz : α → Bool} {test : Expr} {ipos bpos : Pos} {xv : Value} (S : PairSrc prog w A E h₀ env K as xv s m news) (hne : as ≠ [])
    (g1 : ∀ (i : Nat) a t v s₁ own, as[i]? = some a → K.is a v → Fr h₀ env.locals s₁.heap (bindM (bindM m xi (some (.int i t))) xc (some v)) → News h₀ env.locals s₁.heap (own ++ news) →
      wpAny (model prog w) A (isTrue test env (eval test env)) (fun b s₄ => b = pz a ∧ Keeps s₁ s₄) E s₁)
    (g3 : ∀ h' tk (k : Nat) t vl, k < as.length → (∀ b ∈ as.take k, pz b = false) → ((∃ a, as[k]? = some a ∧ pz a = true) ∨ k + 1 = as.length) → Fr h₀ env.locals h' (bindM (bindM m xi (some (.int k t))) xc vl) → News h₀ env.locals h' news → Q .next { s with heap := h', toks := tk }) :
    wpAny (model prog w) A (pyIter xv) (fun it s₂ => PairAt3 prog w A h₀ env xi xc [.If test [.Break bpos] [] ipos] Q E it s₂) E s := by
  refine S xi xc _ Q (fun i m₁ n₁ => n₁ = news ∧ (∀ b ∈ as.take i, pz b = false) ∧ ∃ vi vl, m₁ = bindM (bindM m xi vi) xc vl ∧ (i = 0 ∨ ∃ t, vi = some (.int ((i - 1 : Nat) : Int) t))) ⟨rfl, by simp, m xi, m xc, ?_, .inl rfl⟩ (fun i a t v m₁ news₁ s₁ own hs₁ ha hk hJ _ _ F₁ N₁ => ?_) (fun h' tk m' news' F' N' _ hJ => ?_)
  · rw [← bindM_start m xi]; exact bindM_start m xc
  · obtain ⟨rfl, hn, vi, vl, rfl, _⟩ := hJ
    obtain ⟨hh₁, tk₁, rfl⟩ := hs₁
    rw [bind2_find] at F₁
    refine wpAny_execs_cons (wpAny_If (wpAny_mono (g1 i a t v _ own ha hk F₁ N₁) (fun b s₄ h₄ => ?_) fun _ _ e => e))
    obtain ⟨rfl, h', tk, rfl, hk'⟩ := h₄
    have F₄ : Fr h₀ env.locals h' (bindM (bindM m xi (some (.int i t))) xc (some v)) := ⟨F₁.ns.keeps hk', fun b o e => hk' b o (F₁.keep b o e), F₁.above⟩
    have N₄ : News h₀ env.locals h' (own ++ news₁) := fun p hp => ⟨hk' _ _ (N₁ p hp).1, (N₁ p hp).2⟩
    have hi : i < as.length := (List.getElem?_eq_some_iff.mp ha).1
    cases hp : pz a with
    | true =>
      show wpAny _ A (execs [.Break bpos] env) _ E _
      refine wpAny_execs_cons (wpAny_Break ?_)
      exact g3 h' tk i t (some v) hi hn (.inl ⟨a, ha, hp⟩) F₄ N₄.right
    | false =>
      show wpAny _ A (execs [] env) _ E _
      refine wpAny_execs_nil (wpAny_execs_nil ⟨rfl, h', tk, _, news₁, rfl, F₄, N₄, rfl, rfl, ?_, _, _, rfl, .inr ⟨t, by simp⟩⟩)
      intro b hb
      rw [List.take_add_one, ha] at hb
      rcases List.mem_append.mp hb with hb | hb
      · exact hn b hb
      · simp at hb; rw [hb]; exact hp
  · obtain ⟨rfl, hn, vi, vl, rfl, h0 | ⟨t, rfl⟩⟩ := hJ
    · exact absurd (List.length_eq_zero_iff.mp h0) hne
    · have hpos : 0 < as.length := List.length_pos_iff.mpr hne
      refine g3 h' tk (as.length - 1) t vl (by omega) (fun b hb => hn b (by rw [List.take_length]; exact List.mem_of_mem_take hb)) (.inr (by omega)) F' N'

theorem strs_set {x : Str} {u : Tok} : ∀ {vs : List Value} {ns : List Str}, StrsAre vs ns → ∀ j : Nat, StrsAre (vs.set j (.str x u)) (ns.set j x)
  | _, _, .nil, _ => .nil
  | _, _, .cons _ _ h, 0 => .cons x u h
  | _, _, .cons i t h, j + 1 => .cons i t (strs_set h j)

theorem str_setL {L : Addr} {D : Addr} {pre post : List (Addr × Obj)} {vs : List Value} {n : Nat} {k : Int} {t u : Tok} {x : Str} {Q : Unit → Shared → Prop} (F : Fr h₀ L s.heap m) (N : News h₀ L s.heap (pre ++ (D, listOf vs.toArray n) :: post)) (a : ∀ p ∈ pre, p.1 ≠ D) (b : ∀ p ∈ post, p.1 ≠ D)
    (h0 : 0 ≤ k) (h1 : k < vs.length) (hfit : k < 2 ^ 63)
    (h : ∀ h', Fr h₀ L h' m → News h₀ L h' (pre ++ (D, listOf (vs.set k.toNat (.str x u)).toArray n) :: post) → Q () { s with heap := h' }) :
    wpAny (model prog w) A (setItem (.ref D) (.int k t) (.str x u)) Q E s := by
  have z := N (D, listOf vs.toArray n) (List.mem_append.mpr (.inr (.head _)))
  refine ki_setAt z.1 h0 hfit (by rw [List.size_toArray]; exact h1) (h _ (F.change (Heap.SameBut.update ..) z.2.1 z.2.2) (ki_turn _ N a b ?_ ?_))
  · show vs.toArray.setIfInBounds k.toNat (.str x u) = (vs.set k.toNat (.str x u)).toArray
    apply Array.toList_inj.mp
    simp
  · simp

theorem news_lt {h : Heap} {L : Addr} (N : News h₀ L h news) : ∀ p ∈ news, p.1 < h.objs.size := fun p hp => Heap.lt_size (N p hp).1

def CutStep (h₀ : Heap) (L : Addr) (own : List (Addr × Obj)) (l : Addr) (vs₁ : List Value) (k₁ : Nat) (rest : List (Addr × Obj)) (m₂ : Str → Option Value) (i : Nat) (y : Str) (s₁ : Shared) (f : Flow) (s₂ : Shared) : Prop :=
  f = .next ∧ ∃ h' tk u, s₂ = { s₁ with heap := h', toks := tk } ∧ Fr h₀ L h' m₂ ∧ News h₀ L h' (own ++ (l, listOf (vs₁.set i (.str y u)).toArray k₁) :: rest)

theorem take_map_set {xs : List Str} {cut : Str → Str} {i : Nat} {x : Str} (hx : xs[i]? = some x) : ((xs.take i).map cut ++ xs.drop i).set i (cut x) = (xs.take (i + 1)).map cut ++ xs.drop (i + 1) := by
  have hi : i < xs.length := (List.getElem?_eq_some_iff.mp hx).1
  have e : xs.drop i = x :: xs.drop (i + 1) := by
    rw [List.drop_eq_getElem_cons hi]; rw [(List.getElem?_eq_some_iff.mp hx).2]
  rw [e, List.take_add_one, hx, List.map_append, List.append_assoc]
  have hl : ((xs.take i).map cut).length = i := by simp; omega
  rw [List.set_append_right _ _ (by omega), hl, Nat.sub_self]; rfl

theorem enum_cut {l : Addr} {vs : List Value} {k : Nat} {rest : List (Addr × Obj)} {xs : List Str} {body : List Stmt} (cut : Str → Str)
    (F : Fr h₀ env.locals s.heap m) (N : News h₀ env.locals s.heap ((l, listOf vs.toArray k) :: rest)) (hap : ∀ p ∈ rest, p.1 < l) (hi : StrsAre vs xs)
    (step : ∀ (i : Nat) x t tx vs₁ k₁ h tk own, i < xs.length → xs[i]? = some x → StrsAre vs₁ ((xs.take i).map cut ++ xs.drop i) → vs₁.length = xs.length → (∀ p ∈ own, p.1 ≠ l) → (∀ p ∈ rest, p.1 ≠ l) →
      Fr h₀ env.locals h (bindM (bindM m xi (some (.int i t))) xc (some (.str x tx))) → News h₀ env.locals h (own ++ (l, listOf vs₁.toArray k₁) :: rest) →
      wpAny (model prog w) A (execs body env) (CutStep h₀ env.locals own l vs₁ k₁ rest (bindM (bindM m xi (some (.int i t))) xc (some (.str x tx))) i (cut x) { s with heap := h, toks := tk }) E { s with heap := h, toks := tk })
    (done : ∀ h' tk vs' k' vj vl, StrsAre vs' (xs.map cut) → Fr h₀ env.locals h' (bindM (bindM m xi vj) xc vl) → News h₀ env.locals h' ((l, listOf vs'.toArray k') :: rest) → Q .next { s with heap := h', toks := tk }) :
    wpAny (model prog w) A (call (.type "enumerate") [.ref l]) (EnumLed prog w A h₀ env xi xc body Q E) E s := by
  have hb : ∀ p ∈ rest, p.1 ≠ l := fun p hp => Nat.ne_of_lt (hap p hp)
  refine call_enum_led (n := xs.length) (fun i m₁ n₁ => ∃ vs' k' vj vl, n₁ = (l, listOf vs'.toArray k') :: rest ∧ StrsAre vs' ((xs.take i).map cut ++ xs.drop i) ∧ vs'.length = xs.length ∧ m₁ = bindM (bindM m xi vj) xc vl) F N (.head _) ⟨vs, k, m xi, m xc, rfl, by simpa using hi, hi.length, ?_⟩ ?_ ?_ ?_
  · rw [← bindM_start m xi]; exact bindM_start m xc
  · rintro i m' n' ⟨vs', k', _, _, rfl, _, hl, _⟩
    exact ⟨_, k', .head _, by rw [List.size_toArray]; exact hl⟩
  · rintro i t v m₁ news₁ h tk own hin ⟨vs', k', vj, vl, rfl, hS, hl, rfl⟩ ⟨vs₂, k₂, hm₂, hv⟩ _ hoff F₁ N₁
    rw [bind2_find] at F₁
    have hq : vs₂ = vs'.toArray := by
      have a1 := (N₁ (l, { cls := .type "list", data := .seq vs₂ k₂ }) (List.mem_append_right _ hm₂)).1
      have a2 := (N₁ (l, listOf vs'.toArray k') (List.mem_append_right _ (.head _))).1
      rw [a1] at a2
      injection a2 with a2
      injection a2 with _ _ a2 _
      injection a2
    subst hq
    have hx : xs[i]? = some xs[i] := List.getElem?_eq_getElem hin
    have hx' : ((xs.take i).map cut ++ xs.drop i)[i]? = some xs[i] := by
      have hl : ((xs.take i).map cut).length = i := by simp; omega
      rw [List.getElem?_append_right (by omega), hl, Nat.sub_self, List.getElem?_drop, Nat.add_zero, hx]
    obtain ⟨tx, htx⟩ := hS.get i _ hx'
    have hvv : v = .str xs[i] tx := by
      have : vs'[i]? = some v := by simpa using hv
      rw [htx] at this; exact (Option.some.inj this).symm
    subst hvv
    refine wpAny_mono (step i xs[i] t tx vs' k' h tk own hin hx hS hl (fun p hp => hoff p hp _ (.head _)) hb F₁ N₁) (fun f s₃ hf => ?_) fun _ _ e => e
    obtain ⟨rfl, h', tk', u, rfl, F₂, N₂⟩ := hf
    refine ⟨rfl, h', tk', _, _, rfl, F₂, N₂, rfl, _, k', _, _, rfl, ?_, by rw [List.length_set]; exact hl, rfl⟩
    rw [← take_map_set hx]
    exact strs_set hS i
  · rintro h' tk m' news' F' N' _ ⟨vs', k', vj, vl, rfl, hS, _, rfl⟩
    exact done h' tk vs' k' vj vl (by simpa using hS) F' N'
end
end Mine
namespace Mine

def stopK : List Str → Nat
  | [] => 0
  | [_] => 0
  | a :: b :: r => if (a != Str.ofString " ") = true then 0 else stopK (b :: r) + 1
theorem stopK_of : ∀ {as : List Str} {k : Nat}, k < as.length → (∀ b ∈ as.take k, (b != Str.ofString " ") = false) → ((∃ a, as[k]? = some a ∧ (a != Str.ofString " ") = true) ∨ k + 1 = as.length) → k = stopK as
  | [], k, h, _, _ => absurd h (Nat.not_lt_zero _)
  | [a], k, h, _, _ => by
    have : k < 1 := h
    show k = 0
    omega
  | a :: b :: r, 0, _, _, h3 => by
    rcases h3 with ⟨x, hx, hp⟩ | h3
    · have : a = x := by simpa using hx
      subst this
      simp only [stopK, hp, if_true]
    · simp at h3
  | a :: b :: r, k + 1, h1, h2, h3 => by
    have ha : (a != Str.ofString " ") = false := h2 a (by simp)
    have ih : k = stopK (b :: r) := stopK_of (as := b :: r) (by simpa using h1) (fun x hx => h2 x (by simp only [List.take_succ_cons, List.mem_cons]; exact .inr hx)) (by
      rcases h3 with ⟨x, hx, hp⟩ | h3
      · exact .inl ⟨x, by simpa using hx, hp⟩
      · exact .inr (by simpa using h3))
    simp only [stopK, ha, Bool.false_eq_true, if_false]
    rw [← ih]
def cutK (k : Nat) (x : Str) : Str := Txt.slice x (some (k : Int)) none
def dedentF (text : Str) : Str := Txt.join (Str.ofString "\n") ((Txt.split text (Str.ofString "\n")).map (cutK (stopK (signs ((Txt.split text (Str.ofString "\n")).headD Str.empty)))))
def Row1 (text : Str) : Prop := ∃ y, (Txt.split text (Str.ofString "\n"))[0]? = some y ∧ 0 < y.length
theorem signs_ne {l : List Str} {y text : Str} (hl : l = Txt.split text (Str.ofString "\n")) (h : l[Int.toNat 0]? = some y) (hp : Row1 text) : signs y ≠ [] := by
  obtain ⟨z, hz, hpos⟩ := hp
  have h' : l[0]? = some y := h
  rw [hl, hz] at h'
  have hzy := Option.some.inj h'
  subst hzy
  intro e
  have := signs_length z
  rw [e] at this
  simp at this
  omega
theorem line_short9 {l : List Str} {n i : Nat} {x : Str} (h : ∀ a ∈ l, a.length ≤ n) (hx : l[i]? = some x) : x.length ≤ n := h x (List.mem_of_getElem? hx)
theorem lines_few {l : List Str} {text : Str} (hl : l = Txt.split text (Str.ofString "\n")) (hp : text.length ≤ 100) : (l.map (·.length)).sum + l.length ≤ 101 := by
  have h := split_weight text (Str.ofString "\n") (by decide +kernel)
  rw [← hl] at h
  omega
theorem cut_few {k : Nat} : ∀ {l : List Str}, ((l.map (cutK k)).map (·.length)).sum ≤ (l.map (·.length)).sum
  | [] => Nat.le_refl _
  | x :: r => by
    have h1 : (cutK k x).length ≤ x.length := Txt.slice_le x _ _
    have h2 := cut_few (k := k) (l := r)
    simp only [List.map_cons, List.sum_cons]
    omega
theorem dedent_eq {l : List Str} {text y : Str} {k : Nat} (hl : l = Txt.split text (Str.ofString "\n")) (h : l[Int.toNat 0]? = some y) (h1 : k < (signs y).length) (h2 : ∀ b ∈ (signs y).take k, (b != Str.ofString " ") = false)
    (h3 : (∃ a, (signs y)[k]? = some a ∧ (a != Str.ofString " ") = true) ∨ k + 1 = (signs y).length) : Txt.join (Str.ofString "\n") (l.map (cutK k)) = dedentF text := by
  have e : (Txt.split text (Str.ofString "\n")).headD Str.empty = y := by
    rw [← hl]
    have h' : l[0]? = some y := h
    cases l with
    | nil => simp at h'
    | cons a r => simpa using h'
  unfold dedentF
  rw [e, ← hl, ← stopK_of h1 h2 h3]
section
variable {prog : Program} {w : World} {A : Around} {E : Value → Shared → Prop} {s : Shared} {env : Env} {h₀ : Heap} {m : Str → Option Value} {news : List (Addr × Obj)} {xi xc : Str} {Q : Flow → Shared → Prop}
theorem enum_cutK {l : Addr} {vs : List Value} {k₀ : Nat} {rest : List (Addr × Obj)} {xs : List Str} {body : List Stmt} {y : Str} {k : Nat} (_hk : k < (signs y).length)
    (F : Fr h₀ env.locals s.heap m) (N : News h₀ env.locals s.heap ((l, listOf vs.toArray k₀) :: rest)) (hap : ∀ p ∈ rest, p.1 < l) (hi : StrsAre vs xs)
    (step : ∀ (i : Nat) x t tx vs₁ k₁ h tk own, i < xs.length → xs[i]? = some x → StrsAre vs₁ ((xs.take i).map (cutK k) ++ xs.drop i) → vs₁.length = xs.length → (∀ p ∈ own, p.1 ≠ l) → (∀ p ∈ rest, p.1 ≠ l) →
      Fr h₀ env.locals h (bindM (bindM m xi (some (.int i t))) xc (some (.str x tx))) → News h₀ env.locals h (own ++ (l, listOf vs₁.toArray k₁) :: rest) →
      wpAny (model prog w) A (execs body env) (CutStep h₀ env.locals own l vs₁ k₁ rest (bindM (bindM m xi (some (.int i t))) xc (some (.str x tx))) i (cutK k x) { s with heap := h, toks := tk }) E { s with heap := h, toks := tk })
    (done : ∀ h' tk vs' k' vj vl, StrsAre vs' (xs.map (cutK k)) → Fr h₀ env.locals h' (bindM (bindM m xi vj) xc vl) → News h₀ env.locals h' ((l, listOf vs'.toArray k') :: rest) → Q .next { s with heap := h', toks := tk }) :
    wpAny (model prog w) A (call (.type "enumerate") [.ref l]) (EnumLed prog w A h₀ env xi xc body Q E) E s := enum_cut (cutK k) F N hap hi step done
theorem join_led {L D : Addr} {vs : List Value} {k : Nat} {rest : List (Addr × Obj)} {x : Str} {t : Tok} {ys : List Str} {Q : Value → Shared → Prop} (N : News h₀ L s.heap ((D, listOf vs.toArray k) :: rest)) (hi : StrsAre vs ys) (hsep : x.length ≤ 16) (hw : (ys.map (·.length)).sum + ys.length ≤ 1048576)
    (h : ∀ t' k, Q (.str (Txt.join x ys) t') { s with toks := k }) : wpAny (model prog w) A (call (.builtin "str.join") [.str x t, .ref D]) Q E s :=
  join_listW (items := vs.toArray) ⟨_, (N _ (.head _)).1, rfl, k, rfl⟩ hi hsep hw h
end





local macro_rules | `(tactic| walk_at "pyIter ref") => `(tactic| k_extra "brk9")
local macro_rules | `(tactic| walk_at "CutStep") => `(tactic| exact ⟨rfl, _, _, _, rfl, by k_asm, by k_asm⟩)
local macro_rules | `(tactic| walk_at $s:str) => `(tactic| k_extra $s)
set_option pp.deepTerms false in
set_option pp.deepTerms.threshold 10 in
set_option maxRecDepth 100000 in
set_option maxHeartbeats 8000000 in
theorem dedent_call {w : World} {p : Program} {loose : List Str} {mean : ExcName → Option Value} {mg mb : Str → Option Value} (news : List (Addr × Obj)) (text : Str) (tk : Tok) :
    Clm w p loose mean mg mb 38 1 news (text.length ≤ 100 ∧ Row1 text) [.str text tk] (fun t => .str (dedentF text) t) := by
  unfold Clm
  k_with_none
  k_with "setItem ref int" => (k_here; (with_reducible show wpAny _ _ (setItem (Value.ref _) (Value.int _ _) (Value.str _ _)) _ _ _); (rename Fr _ _ _ _ => F'); (rename News _ _ _ _ => N'); (with_unfolding_all refine' str_setL F' N' ?qsa ?qsb ?qsc ?qsd ?qse ?_); (case qsa => assumption); (case qsb => assumption); (case qsc => exact Int.natCast_nonneg _); (case qsd => omega); (case qse => ((have hn9 := lines_few (by assumption) (by assumption)); omega)); intro h' F' N')
  k_with "call builtin:str.join" => (k_here; (rename News _ _ _ _ => N'); (rename StrsAre _ (List.map (cutK _) _) => hsB); (with_unfolding_all refine' join_led N' hsB ?qja ?qjb ?_); (case qja => decide +kernel); (case qjb => ((have hn9 := lines_few (by assumption) (by assumption)); rw [List.length_map]; exact Nat.le_trans (Nat.add_le_add_right cut_few _) (Nat.le_trans hn9 (by decide)))); intro t' k')
  k_with "brk9" => ((with_reducible show wpAny _ _ _ (fun it s₂ => PairAt3 _ _ _ _ _ _ _ [Stmt.If _ [Stmt.Break _] [] _] _ _ it s₂) _ _); (with_reducible apply Pair_brk); (case S => exact PairSrcL.at (by assumption) _ rfl); (case hne => exact signs_ne (by assumption) (by assumption) (by assumption)); (case' g3 => intros); (case' g1 => (intros; (rename ItemKind.is _ _ _ => i'); (first | (obtain ⟨_, e'⟩ := ItemKind.int_is i'; subst e') | (obtain ⟨_, e'⟩ := ItemKind.str_is i'; subst e')); ((with_reducible refine wpAny_leafK ?_); (try (first | ((with_reducible refine markB ?_); intro _) | ((with_reducible refine markD ?_); intro _)))))))
  k_with "exec For Tuple Call" => ((with_reducible show wpAny _ _ (exec (Stmt.For (Expr.Tuple _ _ _) (Expr.Call (Expr.Name (Str.ofString "enumerate") _) [Expr.Name _ _] _ _) _ _ _) _) _ _ _); (rename Fr _ _ _ _ => F'); (with_reducible apply For_enumLed); (case _F => with_unfolding_all exact F'); (case hh => with_unfolding_all rfl); (case hxi => with_unfolding_all rfl); (case hxc => with_unfolding_all rfl); (case hp => with_unfolding_all rfl); (case hs => (intro _; with_unfolding_all rfl)))
  k_with "call type:enumerate" => ((with_reducible show wpAny _ _ (call (Value.type _) [Value.ref _]) (EnumLed _ _ _ _ _ _ _ _ _ _) _ _); k_here; (rename Fr _ _ _ _ => F'); (rename News _ _ _ _ => N'); (rename StrsAre _ _ => hsA); (rename (_ < (signs _).length) => hkk); (with_unfolding_all refine' enum_cutK hkk F' N' ?qnhap hsA ?qnstep ?qndone); (case qnhap => assumption); (case' qnstep => (intros; (have hx9 := line_short9 (by assumption) (by assumption)))); (case' qndone => intros))
  w_strict (
  k_fill
  dsimp only [CbRet]
  intros
  rename_i hret
  (rename (_ ∧ Row1 _) => hpre)
  obtain ⟨hp1, hp2⟩ := hpre
  refine wpAny_call ?_
  k_dflt cell_enter
  (rename News _ _ _ _ => nw0)
  have hap := news_lt nw0
  k_steps
  all_goals exact cb_retS hret (dedent_eq (by assumption) (by assumption) (by assumption) (by assumption) (by assumption)) (by k_asm) (by first | k_asm | exact cb_drop (by assumption) (fun p hp => List.mem_cons_of_mem _ hp)))
end Mine
namespace Mine
section
variable {prog : Program} {w : World} {A : Around} {E : Value → Shared → Prop} {s : Shared} {h₀ : Heap} {L : Addr} {m : Str → Option Value} {news : List (Addr × Obj)}
open Builtin Builtin.Str
theorem forIn_one {α β : Type} (a : α) (b : β) (f : α → β → Sem (ForInStep β)) : forIn #[a] b f = f a b >>= fun r => match r with | .done b => pure b | .yield b => pure b := by
  rw [← Array.forIn_toList]
  simp only [List.forIn_cons, List.forIn_nil]
  refine congrArg (f a b >>= ·) (funext fun r => ?_)
  cases r <;> rfl
theorem tableLookup_sp (d : Addr) {Q : Mapped → Shared → Prop}
   (hg : ∀ (A : Around) (E : Value → Shared → Prop) (s' : Shared) (Q : Value → Shared → Prop) (k : Tok), s'.heap = s.heap → (∀ u tk, Q (.str (Str.ofString "\\ ") u) { s' with toks := tk }) → wpAny (model prog w) A (getItem (.ref d) (.int 32 k)) Q E s')
   (h : ∀ k, Q (.text (Str.ofString "\\ ")) { s with toks := k }) : wpAny (model prog w) A (tableLookup (.ref d) 32) Q E s := by
  unfold tableLookup
  refine wpAny_bind (wpAny_attempt ?_)
  refine wpAny_bind (wpAny_mkInt ?_)
  refine hg _ _ _ _ _ rfl fun u tk => ?_
  dsimp only
  refine wpAny_bind ?_
  show wpAny _ A (pure none) _ _ _
  refine wpAny_pure ?_
  refine wpAny_bind ?_
  show wpAny _ A (pure (some (Str.ofString "\\ "))) _ _ _
  exact wpAny_pure (wpAny_pure (h tk))
theorem translate_sp {t : Tok} {Q : Value → Shared → Prop} (d : Addr)
   (hg : ∀ (A : Around) (E : Value → Shared → Prop) (s' : Shared) (Q : Value → Shared → Prop) (k : Tok), s'.heap = s.heap → (∀ u tk, Q (.str (Str.ofString "\\ ") u) { s' with toks := tk }) → wpAny (model prog w) A (getItem (.ref d) (.int 32 k)) Q E s')
   (h : ∀ t' k, Q (.str (Str.ofString "\\ ") t') { s with toks := k }) :
    wpAny (model prog w) A (call (.builtin "str.translate") [.str ⟨#[32]⟩ t, .ref d]) Q E s := by
  refine wpAny_call_entry F.slot_str_translate (typeIs_str _ _ _) F.entry_str_translate ?_ (F.args_str_translate_2 _ _)
  unfold Builtin.«str.translate»
  simp only [strOneArg, selfAndOne, noKeywords, textOf, asStr?, List.isEmpty_nil, if_true, pure_bind, bind_assoc, forIn_one, show (({ cps := #[32] } : Str).length == 0) = false from rfl, show tooLong 0 = false from by decide, Bool.false_eq_true, if_false,
    show (#[32].all fun x => decide (x < 128)) = true from by decide +kernel, List.lookup_nil]
  refine wpAny_bind (tableLookup_sp d hg fun k => ?_)
  have e1 : ((Str.ofString "\\ ").length == 1) = false := by decide +kernel
  simp only [e1, Bool.false_and, Bool.false_eq_true, if_false]
  refine wpAny_bind ?_
  refine wpAny_bind (wpAny_rule ?_)
  refine wpAny_bind (tableLookup_sp (s := { s with toks := k }) d (fun A E s' Q k' e h => hg A E s' Q k' e h) fun k => ?_)
  refine wpAny_pure ?_
  refine wpAny_bind (wpAny_pure ?_)
  have e2 : tooLong (0 + (Str.ofString "\\ ").length) = false := by decide +kernel
  simp only [e2, Bool.false_eq_true, if_false]
  have e3 : (⟨List.foldl (fun acc p => acc ++ p.cps) #[] [Str.ofString "\\ "].reverse⟩ : Str) = Str.ofString "\\ " := by decide +kernel
  rw [e3]
  exact wpAny_bind (wpAny_mkStr (wpAny_pure ⟨_, rfl, h _ _⟩) (by decide +kernel))

def keyOk (e : DictEntry) : Bool := match e.key with
  | .int k _ => e.hash == hashInt k
  | _ => false
theorem map_facts (P : Params) : ∃ es n u, (hd.heap_39 P).lookup 45 = some ⟨.type "dict", none, .dict es n, #[]⟩ ∧ (es.toList.all keyOk) = true ∧ findBy Value.isInt es 32 = some (.str (Str.ofString "\\ ") u) :=
  ⟨_, _, _, rfl, by decide +kernel, by rfl⟩
theorem map_at {h : Heap} (X : (hd.heap_39 w.params).In h) : ∃ f u, h.MapOf (intKind prog w) 45 f ∧ f 32 = some (.str (Str.ofString "\\ ") u) := by
  obtain ⟨es, n, u, hl, hk, hf⟩ := map_facts w.params
  refine ⟨_, u, ⟨_, es, n, X _ _ hl, ⟨rfl, rfl, rfl⟩, rfl, fun e he => ?_, fun _ => rfl⟩, hf⟩
  have q := List.all_eq_true.mp hk e (Array.mem_toList_iff.mpr he)
  unfold keyOk at q
  split at q
  · rename_i k t hkey
    exact ⟨k, by rw [hkey]; exact intKind_is prog w k t, eq_of_beq q⟩
  · cases q
theorem translate_K {t : Tok} {Q : Value → Shared → Prop} (X : (hd.heap_39 w.params).In s.heap) (h : ∀ t' k, Q (.str (Str.ofString "\\ ") t') { s with toks := k }) :
    wpAny (model prog w) A (call (.builtin "str.translate") [.str ⟨#[32]⟩ t, .ref 45]) Q E s := by
  obtain ⟨f, u, hm, hf⟩ := map_at (prog := prog) X
  exact translate_sp 45 (fun A E s' Q k e h => wpAny_getItem_of (intKind_is prog w 32 k) (by rw [e]; exact hm) hf (h _ _)) h
end
end Mine
namespace Mine
theorem gm_translate {M : Model} {A : Around} {E : Value → Shared → Prop} {s : Shared} {x : Str} {t : Tok} {pl : Sem Bool} {Q : Value × List Value → Shared → Prop} (h : Q (.builtin "str.translate", [.str x t]) s) : wpAny M A (getMethod (.str x t) "translate" pl) Q E s := by
  with_reducible exact GM.of (.str x t) (typeIs_str _ _ _) F.slot_str_translate F.type_str_translate GM.noRef h
local macro_rules | `(tactic| walk_at "getMethod str") => `(tactic| with_reducible refine gm_translate ?_)
local macro_rules | `(tactic| walk_at "call builtin:str.translate") => `(tactic| (k_here; (with_unfolding_all refine' translate_K ?X ?_); (case X => k_in); intro t' k'))
set_option pp.deepTerms false in
set_option pp.deepTerms.threshold 10 in
set_option maxRecDepth 100000 in
set_option maxHeartbeats 8000000 in
theorem escape_call {w : World} {p : Program} {loose : List Str} {mean : ExcName → Option Value} {mg mb : Str → Option Value} (news : List (Addr × Obj)) (tk : Tok) :
    Clm w p loose mean mg mb 55 1 news True [.str ⟨#[32]⟩ tk] (fun t => .str (Str.ofString "\\ ") t) := by
  unfold Clm
  w_strict (
  k_fill
  dsimp only [CbRet]
  intros
  rename_i hret
  refine wpAny_call ?_
  k_dflt cell_enter
  k_steps
  all_goals exact hret _ _ _ (by k_asm) (by k_asm))
end Mine
set_option maxRecDepth 100000
namespace Mine
abbrev bfm (l : Addr) : Obj := { cls := .type "builtin_function_or_method", data := .fields #[.builtin "list.append", .ref l] }
theorem slot_md_get : Slot "method_descriptor" "__get__" "method_descriptor.__get__" :=
  .of (owner := "method_descriptor") (n := "__get__") (by rw [typeLookup_type, builtinLookup_eq_fast]; kernel_rfl) (by decide +kernel) (by decide +kernel) (by decide +kernel)
    (by first | exact .inl (by decide +kernel) | exact .inr (by decide +kernel)) (by rw [isSubtype_type]; kernel_rfl)
theorem entry_md_get : entryFor table "method_descriptor.__get__" = some Builtin.«method_descriptor.__get__» := entryFor_of_tree (by kernel_rfl)
theorem args_md_get (a b c : Value) : argsOk "method_descriptor.__get__" ⟨[a, b, c], []⟩ := by unfold argsOk; kernel_rfl
theorem md_no_set : typeLookup (.type "method_descriptor") "__set__" = pure none := by rw [typeLookup_type, builtinLookup_eq_fast]; kernel_rfl
theorem md_no_delete : typeLookup (.type "method_descriptor") "__delete__" = pure none := by rw [typeLookup_type, builtinLookup_eq_fast]; kernel_rfl
theorem owner_append : (".".intercalate ("list.append".cutAt '.').dropLast) = "list" := by
  have e0 : "list.append".cutAt '.' = ["list", "append"] := by first | rfl | decide +kernel
  rw [e0]; rfl
theorem sub_append : isSubtype (.type "list") (.type (".".intercalate ("list.append".cutAt '.').dropLast)) = pure true := by
  rw [owner_append, isSubtype_type]; kernel_rfl
section
variable {prog : Program} {w : World} {A : Around} {E : Value → Shared → Prop} {s : Shared}
theorem md_get_append {h : Heap} {g : Array GenState} {d : Drawn} {t : Nat} {os : OsState} {l : Addr} {its : Array Value} {n : Nat} {R : Result → Shared → Prop} (hx : h.get? l = some (listOf its n)) (hq : R (.ok (.ret (.ref h.objs.size))) ⟨h.push (bfm l), g, d, t, os⟩) :
    codeAny (model prog w) A (.call (.builtin "method_descriptor.__get__") ⟨[.builtin "list.append", .ref l, .type "list"], []⟩) R ⟨h, g, d, t, os⟩ := by
  have hT : (⟨h, g, d, t, os⟩ : Shared).TypeIs (.ref l) "list" := ⟨_, hx, rfl⟩
  have hT5 : (⟨h, g, d, t, os⟩ : Shared).TypeIs (.builtin "list.append") "method_descriptor" := F.type_list_append
  have f8 := sub_append
  refine codeAny_call_builtin slot_md_get.plain entry_md_get (slot_md_get.check _ _ _ _ _ _ _ _ hT5 (args_md_get _ _ _) ?_)
  repeat (any_goals (first | assumption | wp_step))
theorem ga_append {h : Heap} {g : Array GenState} {d : Drawn} {t : Nat} {os : OsState} {l : Addr} {its : Array Value} {n : Nat} {tk : Tok} {Q : Fin → Shared → Prop} (hx : h.get? l = some (listOf its n)) (hq : Q (.done (.ret (.ref h.objs.size))) ⟨h.push (bfm l), g, d, t, os⟩) :
    wpAny (model prog w) A (Builtin.«object.__getattribute__» ⟨[.ref l, .str "append" tk], []⟩) Q E ⟨h, g, d, t, os⟩ := by
  have hT : (⟨h, g, d, t, os⟩ : Shared).TypeIs (.ref l) "list" := ⟨_, hx, rfl⟩
  have f1 := F.slot_list_append.lookup
  have f2 := F.type_list_append
  have f3 := slot_md_get.lookup
  have f4 := md_no_set
  have f5 := md_no_delete
  unfold Builtin.«object.__getattribute__»
  repeat (any_goals (first | assumption | wp_step))
  refine md_get_append hx ?_
  repeat (any_goals (first | assumption | wp_step))
theorem getAttr_append {l : Addr} {its : Array Value} {n : Nat} {ex : Bool} {Q : Value → Shared → Prop} (hx : s.heap.get? l = some (listOf its n)) (hq : Q (.ref s.heap.objs.size) { s with heap := s.heap.push (bfm l), toks := s.toks + 1 }) :
    wpAny (model prog w) A (getAttr (.ref l) "append" ex) Q E s := by
  obtain ⟨h, g, d, t, os⟩ := s
  have hT : ∀ tk', (⟨h, g, d, tk', os⟩ : Shared).TypeIs (.ref l) "list" := fun _ => ⟨_, hx, rfl⟩
  have f3 := F.slot_list_getattribute.lookup
  have f4 := F.slot_list_getattribute.bind (.ref l)
  unfold getAttr getAttrBy
  repeat (any_goals (first | assumption | exact hT _ | ((with_reducible show wpAny _ _ (if _ then _ else _) _ _ _); rw [if_neg (by rw [show onTheHeap (Value.builtin "list.__getattribute__") = false from rfl, Bool.and_false]; decide)]) | ((with_reducible show wpAny _ _ (call (Value.builtin "list.__getattribute__") _ _) _ _ _); refine wpAny_call_entry F.slot_list_getattribute (hT _) am_entry_list_getattribute ?_ (F.args_list_getattribute_2 _ _); refine ga_append hx ⟨_, rfl, ?_⟩) | wp_step))
end
end Mine
set_option maxRecDepth 100000
namespace Mine
section
variable {prog : Program} {w : World} {A : Around} {E : Value → Shared → Prop} {s : Shared}
theorem call_bfm {q l : Addr} {its : Array Value} {n : Nat} {v : Value} {Q : Value → Shared → Prop} (hq : s.heap.get? q = some (bfm l)) (hl : s.heap.get? l = some (listOf its n)) (hsz : its.size ≤ sizeLine)
    (h : ∀ h', Heap.SameBut l s.heap h' → h'.get? l = some (listOf (its.push v) (n + 1)) → Q .none { s with heap := h' }) : wpAny (model prog w) A (call (.ref q) [v]) Q E s := by
  obtain ⟨hp, g, d, t, os⟩ := s
  have hT : (⟨hp, g, d, t, os⟩ : Shared).TypeIs (.ref l) "list" := ⟨_, hl, rfl⟩
  dsimp only at hq hl
  refine wpAny_call (codeAny_of_tree ?_)
  show wpAny _ _ (callAny (.ref q) _) _ _ _
  unfold callAny
  refine wpAny_bind (wpAny_load hq ?_)
  dsimp only
  simp only [show (Value.type "builtin_function_or_method" == Value.type "method") = false from by decide, show (Value.type "builtin_function_or_method" == Value.type "builtin_function_or_method") = true from by decide, Bool.false_or, Bool.true_or, if_true,
    show (Value.type "builtin_function_or_method" != Value.type "method") = true from by decide]
  have f1 : isSubtype (listOf its n).cls (.type "module") = pure false := by
    show isSubtype (.type "list") (.type "module") = pure false
    rw [isSubtype_type]; kernel_rfl
  unfold checkBoundCall
  repeat (any_goals (first | assumption | wp_step))
  refine ⟨Code.quiet_builtin _ (by decide +kernel), codeAny_builtin entry_list_append ?_⟩
  show wpAny _ _ (updateSeq l (·.push v) >>= fun _ => ret .none) _ _ _
  refine wpAny_bind ?_
  refine wpAny_updateSeq hl rfl (wpAny_pure (h _ (Heap.SameBut.update ..) ?_))
  show (hp.update l _).get? l = _
  rw [Heap.get?_update_self _ hl (by rw [mapSeq_push]; rfl), mapSeq_push]

variable {h₀ : Heap} {L : Addr} {m : Str → Option Value} {news : List (Addr × Obj)}
/-- a list's append, kept as a value -/
theorem getAttr_appendK {l : Addr} {its : Array Value} {n : Nat} {Q : Value → Shared → Prop} (F : Fr h₀ L s.heap m) (N : News h₀ L s.heap news) (hm : (l, listOf its n) ∈ news)
    (h : ∀ q h', Fr h₀ L h' m → News h₀ L h' ((q, bfm l) :: news) → (∀ p ∈ news, p.1 < q) → Q (.ref q) { s with heap := h', toks := s.toks + 1 }) :
    wpAny (model prog w) A (getAttr (.ref l) "append" true) Q E s :=
  getAttr_append (N _ hm).1 (h _ _ (F.push _) (N.push F _) fun p hp => Heap.lt_size (N p hp).1)
theorem call_bfmK {q l : Addr} {pre post : List (Addr × Obj)} {vs : List Value} {n : Nat} {v : Value} {Q : Value → Shared → Prop} (F : Fr h₀ L s.heap m) (N : News h₀ L s.heap (pre ++ (l, listOf vs.toArray n) :: post)) (hq : (q, bfm l) ∈ pre ++ (l, listOf vs.toArray n) :: post)
    (a : ∀ p ∈ pre, p.1 ≠ l) (b : ∀ p ∈ post, p.1 ≠ l) (hsz : vs.length ≤ sizeLine)
    (h : ∀ h', Fr h₀ L h' m → News h₀ L h' (pre ++ (l, listOf (vs ++ [v]).toArray (n + 1)) :: post) → Q .none { s with heap := h' }) : wpAny (model prog w) A (call (.ref q) [v]) Q E s := by
  have z := N (l, listOf vs.toArray n) (List.mem_append.mpr (.inr (.head _)))
  refine call_bfm (N _ hq).1 z.1 (by rw [List.size_toArray]; exact hsz) fun h' hs ho' => h h' (F.change hs z.2.1 z.2.2) (news_set N a b hs ?_)
  rw [ho', List.push_toArray]
theorem keeps_bfm {M : Model} {h : Heap} {q l : Addr} (hq : h.get? q = some (bfm l)) : ∃ k, (k = Keeper.frame ∨ k = Keeper.machine ∨ k = Keeper.boundFrame) ∧ Looks M h (keeperOf (.ref q)) k :=
  ⟨.machine, .inr (.inl rfl), (Looks.ld (part := none) hq).andThen .now⟩
/-- the call of a kept append: its argument -/
theorem callWith_bfm {M : Model} {A : Around} {E : Value → Shared → Prop} {s : Shared} {env : Env} {pos : Pos} {first : List Value} {q l : Addr} {e : Expr} {rest : List Expr} {Q : Value → Shared → Prop}
    (h : wpAny M A (spliced (backTo pos (starEach (e :: rest) env))) (fun vs s₁ => s₁.heap.get? q = some (bfm l) ∧ wpAny M A (call (.ref q) (first ++ vs)) Q E s₁) E s)
    (he : starEach (e :: rest) env = (false, eval e env) :: starEach rest env := by rfl) (hplain : (backTo pos (starEach rest env)).any (·.1) = false := by rfl) :
    wpAny M A (callWith pos (.ref q) first (backTo pos (starEach (e :: rest) env)) []) Q E s := by
  rw [he] at h ⊢
  exact callWith_of (P := fun h => h.get? q = some (bfm l)) (by show ((false || (backTo pos (starEach rest env)).any (·.1)) || false) = false; rw [hplain]; rfl) (fun h x => keeps_bfm x) (Calls.evalArgs_plain h)
end
end Mine
namespace Mine
def TrItems (k : Nat) (star : Addr) (vs : List Value) : Prop := ∃ (ts : List Tok) (tq : Tok), ts.length = k ∧ vs = ts.map (fun t => Value.str (Str.ofString "\\ ") t) ++ [.str (Str.ofString ".") tq, .ref star]
abbrev ClmT (w : World) (p : Program) (loose : List Str) (mean : ExcName → Option Value) (mg mb : Str → Option Value) (r : Nat) (news : List (Addr × Obj)) (k : Nat) (pat : Str) (tp tq : Tok) (star : Addr) : Prop :=
  ∀ (dp un : Nat) (gd : Option (List Code)) (cn : Str) (cs : Scope) (a : Addr) (ccd : Value) (cl : List (Str × Addr)) (outer : List Env) (A₀ : Around) (base h₀ : Heap) (L : Addr) (m : Str → Option Value) (s : Shared) (Q E : Value → Shared → Prop),
    Below A₀ base outer h₀ → Fr h₀ L s.heap m → (hd.heap_39 w.params).In h₀ → News h₀ L s.heap news → Top p loose mean mg mb h₀ → cs.kind = .function →
    dp + r < recursionLimit → un + 100 * r < cLine → k ≤ 100 → pat.cps.toList = List.replicate k 32 ++ [63, 42] →
    (∀ (D : Addr) (vs : List Value) (n : Nat) (h' : Heap) (tk' : Nat), Fr h₀ L h' m → News h₀ L h' ((D, listOf vs.toArray n) :: news) → (∀ p ∈ news, p.1 < D) → TrItems k star vs → Q (.ref D) { s with heap := h', toks := tk' }) →
      wpAny (model Challenge.rw_rx0030_01.row.prog w) (ktrTop dp un gd cn cs L a ccd cl outer) (call (.ref 62) [.str pat tp, .ref star, .str (Str.ofString ".") tq]) Q E s

theorem pat_len {pat : Str} {k : Nat} (h : pat.cps.toList = List.replicate k 32 ++ [63, 42]) : pat.length = k + 2 := by
  have := congrArg List.length h
  simpa [Str.length] using this
section
variable {prog : Program} {w : World} {A : Around} {E : Value → Shared → Prop} {s : Shared} {env : Env} {h₀ : Heap} {Q : Flow → Shared → Prop}
theorem item_code {value slice : PySem.Expr} {x : Str} {t u : Tok} {c j : Nat} {Q : Value → Shared → Prop} (hc : x.cps.toList[j]? = some c) (hb : x.length ≤ 1000) (h : ∀ t' tk', Q (.str ⟨#[c]⟩ t') { s with toks := tk' })
    (hs : subscripted slice false (.str x t) (.int (j : Int) u) = operate [.str x t, .int (j : Int) u] (getItem (.str x t) (.int (j : Int) u)) := by with_unfolding_all rfl)
    (ht : ∀ r, letTemporaryGo value (.str x t) r = pure () := by intro _; with_unfolding_all rfl) :
    wpAny (model prog w) A (subscriptTail value slice (.str x t) (.int (j : Int) u)) Q E s := by
  have hj : j < x.length := by have := (List.getElem?_eq_some_iff.mp hc).1; simpa [Str.length] using this
  refine KXi.item (n := x.length) rfl (by omega) (by omega) (by omega) (fun _ => ?_) hs ht
  have e : Txt.item x (j : Int) = ⟨#[c]⟩ := by
    have hc' : x.cps[j]? = some c := by rw [← Array.getElem?_toList]; exact hc
    have hq : seqIndex? (j : Int) x.length = some j := by unfold seqIndex?; rw [if_neg (show ¬ ((j : Int) < 0) by omega)]; simp [hj]
    show (⟨#[((seqIndex? (j : Int) x.length).bind (x.cps[·]?)).getD 0]⟩ : Str) = ⟨#[c]⟩
    rw [hq, Option.bind_some, hc']; rfl
  rw [e]; exact h _ _

def TrM (m₀ : Str → Option Value) (cv : Option Value) (j : Nat) (t : Tok) : Str → Option Value := fun y => if y = Str.ofString "c" then cv else if y = Str.ofString "i" then some (.int (j : Int) t) else m₀ y
def TrEnd (h₀ : Heap) (L : Addr) (q l : Addr) (rest : List (Addr × Obj)) (m₀ : Str → Option Value) (j : Nat) (vs : List Value) (kk : Nat) (v : Tok → Value) (s₁ : Shared) (f : Flow) (s₂ : Shared) : Prop :=
  f = .next ∧ ∃ h' tk m' u, s₂ = { s₁ with heap := h', toks := tk } ∧ Fr h₀ L h' m' ∧ News h₀ L h' ((q, bfm l) :: (l, listOf (vs ++ [v u]).toArray (kk + 1)) :: rest) ∧ (∃ t, m' (Str.ofString "i") = some (.int ((j : Int) + 1) t)) ∧ ∀ z, z ≠ Str.ofString "c" → z ≠ Str.ofString "i" → m' z = m₀ z
theorem TrM_of {m₀ m' : Str → Option Value} {j : Nat} {t : Tok} (h1 : m' (Str.ofString "i") = some (.int (j : Int) t)) (h2 : ∀ z, z ≠ Str.ofString "c" → z ≠ Str.ofString "i" → m' z = m₀ z) : m' = TrM m₀ (m' (Str.ofString "c")) j t := by
  funext y
  unfold TrM
  by_cases hc : y = Str.ofString "c"
  · rw [if_pos hc, hc]
  · rw [if_neg hc]
    by_cases hi : y = Str.ofString "i"
    · rw [if_pos hi, hi, h1]
    · rw [if_neg hi]; exact h2 y hc hi
def TrPre (k : Nat) (star : Addr) (j : Nat) (vs : List Value) : Prop :=
  (j ≤ k ∧ ∃ ts : List Tok, ts.length = j ∧ vs = ts.map (fun t => Value.str (Str.ofString "\\ ") t)) ∨
  (j = k + 1 ∧ ∃ (ts : List Tok) (tq : Tok), ts.length = k ∧ vs = ts.map (fun t => Value.str (Str.ofString "\\ ") t) ++ [.str (Str.ofString ".") tq]) ∨
  (j = k + 2 ∧ TrItems k star vs)

theorem tr_while {test : Expr} {body : List Stmt} {pos : Pos} {m₀ : Str → Option Value} {q l star : Addr} {rest : List (Addr × Obj)} {k : Nat} {ti tq : Tok} {pat : Str} (hpat : pat.cps.toList = List.replicate k 32 ++ [63, 42])
    (F : Fr h₀ env.locals s.heap m₀) (N : News h₀ env.locals s.heap ((q, bfm l) :: (l, listOf #[] 0) :: rest)) (hi : m₀ (Str.ofString "i") = some (.int 0 ti)) (hql : l < q) (hrl : ∀ p ∈ rest, p.1 < l)
    (turnA : ∀ (j : Nat) vs kk cv t h tk, j < k → vs.length = j → pat.cps.toList[j]? = some 32 → (∀ p ∈ [(q, bfm l)], p.1 ≠ l) → (∀ p ∈ rest, p.1 ≠ l) → Fr h₀ env.locals h (TrM m₀ cv j t) → News h₀ env.locals h ((q, bfm l) :: (l, listOf vs.toArray kk) :: rest) →
      wpAny (model prog w) A (isTrue test env (eval test env)) (fun b s₂ => b = true ∧ wpAny (model prog w) A (execs body env) (TrEnd h₀ env.locals q l rest m₀ j vs kk (fun u => .str (Str.ofString "\\ ") u) { s with heap := h, toks := tk }) E s₂) E { s with heap := h, toks := tk })
    (turnB : ∀ vs kk cv t h tk, vs.length = k → pat.cps.toList[k]? = some 63 → (∀ p ∈ [(q, bfm l)], p.1 ≠ l) → (∀ p ∈ rest, p.1 ≠ l) → Fr h₀ env.locals h (TrM m₀ cv k t) → News h₀ env.locals h ((q, bfm l) :: (l, listOf vs.toArray kk) :: rest) →
      wpAny (model prog w) A (isTrue test env (eval test env)) (fun b s₂ => b = true ∧ wpAny (model prog w) A (execs body env) (TrEnd h₀ env.locals q l rest m₀ k vs kk (fun _ => .str (Str.ofString ".") tq) { s with heap := h, toks := tk }) E s₂) E { s with heap := h, toks := tk })
    (turnC : ∀ (vs : List Value) (u : Tok) kk cv t h tk, vs.length = k → pat.cps.toList[k + 1]? = some 42 → (∀ p ∈ [(q, bfm l)], p.1 ≠ l) → (∀ p ∈ rest, p.1 ≠ l) → Fr h₀ env.locals h (TrM m₀ cv (k + 1) t) → News h₀ env.locals h ((q, bfm l) :: (l, listOf (vs ++ [Value.str (Str.ofString ".") u]).toArray kk) :: rest) →
      wpAny (model prog w) A (isTrue test env (eval test env)) (fun b s₂ => b = true ∧ wpAny (model prog w) A (execs body env) (TrEnd h₀ env.locals q l rest m₀ (k + 1) (vs ++ [Value.str (Str.ofString ".") u]) kk (fun _ => .ref star) { s with heap := h, toks := tk }) E s₂) E { s with heap := h, toks := tk })
    (turnD : ∀ vs kk cv t h tk, TrItems k star vs → Fr h₀ env.locals h (TrM m₀ cv (k + 2) t) → News h₀ env.locals h ((q, bfm l) :: (l, listOf vs.toArray kk) :: rest) →
      wpAny (model prog w) A (isTrue test env (eval test env)) (fun b s₂ => b = false ∧ Q .next s₂) E { s with heap := h, toks := tk })
    (hE : PassesOwn (model prog w) A env E := by passes_own) :
    wpAny (model prog w) A (exec (.While test body [] pos) env) Q E s := by
  have a1 : ∀ p ∈ [(q, bfm l)], p.1 ≠ l := fun p hp => by rw [List.mem_singleton.mp hp]; exact Nat.ne_of_gt hql
  have a2 : ∀ p ∈ rest, p.1 ≠ l := fun p hp => Nat.ne_of_lt (hrl p hp)
  refine While_inv2 (fun n m nx => ∃ j vs kk cv t, n = k + 2 - j ∧ j ≤ k + 2 ∧ TrPre k star j vs ∧ m = TrM m₀ cv j t ∧ nx = (q, bfm l) :: (l, listOf vs.toArray kk) :: rest) F N
    ⟨0, [], 0, _, _, rfl, Nat.zero_le _, .inl ⟨Nat.zero_le _, [], rfl, rfl⟩, TrM_of hi fun _ _ _ => rfl, rfl⟩ ?_ hE
  rintro n m₁ nx h tk F₁ N₁ ⟨j, vs, kk, cv, t, rfl, hj, hpre, rfl, rfl⟩
  have fin : ∀ {v : Tok → Value} {vs : List Value} {kk j : Nat} {f : Flow} {s₃ : Shared}, j + 1 ≤ k + 2 → (∀ u, TrPre k star (j + 1) (vs ++ [v u])) → TrEnd h₀ env.locals q l rest m₀ j vs kk v { s with heap := h, toks := tk } f s₃ →
      WhileStep2 h₀ env.locals s (fun n m nx => ∃ j vs kk cv t, n = k + 2 - j ∧ j ≤ k + 2 ∧ TrPre k star j vs ∧ m = TrM m₀ cv j t ∧ nx = (q, bfm l) :: (l, listOf vs.toArray kk) :: rest) Q (k + 2 - j) f s₃ := by
    rintro v vs kk j f s₃ hj hp ⟨rfl, h', tk', m', u, rfl, F', N', ⟨t', hi'⟩, hm'⟩
    exact ⟨h', tk', m', _, k + 2 - (j + 1), rfl, F', N', by omega, j + 1, _, _, _, t', rfl, hj, hp u, TrM_of (by rw [hi']; rfl) hm', rfl⟩
  rcases hpre with ⟨hjk, ts, hts, rfl⟩ | ⟨rfl, ts, tq', hts, rfl⟩ | ⟨rfl, hT⟩
  · rcases Nat.lt_or_eq_of_le hjk with hlt | rfl
    · refine wpAny_mono (turnA j _ kk cv t h tk hlt (by simp [hts]) ?_ a1 a2 F₁ N₁) (fun b s₂ hb => ?_) fun _ _ e => e
      · rw [hpat, List.getElem?_append_left (by simpa using hlt)]
        simp [hlt]
      · obtain ⟨rfl, hb⟩ := hb
        rw [if_pos rfl]
        refine wpAny_mono hb (fun f s₃ => fin (by omega) fun u => .inl ⟨hlt, ts ++ [u], by simp [hts], by simp⟩) fun _ _ e => e
    · refine wpAny_mono (turnB _ kk cv t h tk (by simp [hts]) ?_ a1 a2 F₁ N₁) (fun b s₂ hb => ?_) fun _ _ e => e
      · rw [hpat, List.getElem?_append_right (by simp)]
        simp
      · obtain ⟨rfl, hb⟩ := hb
        rw [if_pos rfl]
        refine wpAny_mono hb (fun f s₃ => fin (by omega) fun u => .inr (.inl ⟨rfl, ts, tq, hts, rfl⟩)) fun _ _ e => e
  · refine wpAny_mono (turnC _ tq' kk cv t h tk (by simp [hts]) ?_ a1 a2 F₁ N₁) (fun b s₂ hb => ?_) fun _ _ e => e
    · rw [hpat, List.getElem?_append_right (by simp)]
      simp
    · obtain ⟨rfl, hb⟩ := hb
      rw [if_pos rfl]
      refine wpAny_mono hb (fun f s₃ => fin (by omega) fun u => .inr (.inr ⟨rfl, ts, tq', hts, by simp⟩)) fun _ _ e => e
  · refine wpAny_mono (turnD vs kk cv t h tk hT F₁ N₁) (fun b s₂ hb => ?_) fun _ _ e => e
    obtain ⟨rfl, hb⟩ := hb
    rw [if_neg Bool.false_ne_true]; exact hb
end
end Mine
namespace Mine
theorem callWith_bfmN {M : Model} {A : Around} {E : Value → Shared → Prop} {s : Shared} {env : Env} {pos : Pos} {first : List Value} {q l : Addr} {e : Expr} {rest : List Expr} {Q : Value → Shared → Prop} {h₀ : Heap} {L : Addr} {news : List (Addr × Obj)} (_N : News h₀ L s.heap ((q, bfm l) :: news))
    (h : wpAny M A (spliced (backTo pos (starEach (e :: rest) env))) (fun vs s₁ => s₁.heap.get? q = some (bfm l) ∧ wpAny M A (call (.ref q) (first ++ vs)) Q E s₁) E s)
    (he : starEach (e :: rest) env = (false, eval e env) :: starEach rest env := by rfl) (hplain : (backTo pos (starEach rest env)).any (·.1) = false := by rfl) :
    wpAny M A (callWith pos (.ref q) first (backTo pos (starEach (e :: rest) env)) []) Q E s := callWith_bfm h he hplain
theorem and_get {h₀ h : Heap} {L q l : Addr} {news : List (Addr × Obj)} {P : Prop} (N : News h₀ L h ((q, bfm l) :: news)) (x : P) : h.get? q = some (bfm l) ∧ P := ⟨(N _ (.head _)).1, x⟩
theorem and_true_of {c : Prop} [Decidable c] {p : Prop} (hc : c) (h : p) : decide c = true ∧ p := ⟨decide_eq_true hc, h⟩
theorem and_false_of {c : Prop} [Decidable c] {p : Prop} (hc : ¬ c) (h : p) : decide c = false ∧ p := ⟨decide_eq_false hc, h⟩
section
variable {prog : Program} {w : World} {A : Around} {E : Value → Shared → Prop} {s : Shared} {h₀ : Heap} {L l : Addr} {news : List (Addr × Obj)}
theorem eq_strF {x y : Str} {t u : Tok} {Q : Value → Shared → Prop} (e : (x == y) = false) (h : Q (.bool false) s) : wpAny (model prog w) A (compareOp .Eq (.str x t) (.str y u)) Q E s := PyProof.Rows.eq_str (by rw [e]; exact h)
theorem eq_strT {x y : Str} {t u : Tok} {Q : Value → Shared → Prop} (e : (x == y) = true) (h : Q (.bool true) s) : wpAny (model prog w) A (compareOp .Eq (.str x t) (.str y u)) Q E s := PyProof.Rows.eq_str (by rw [e]; exact h)
theorem item_last {value slice : PySem.Expr} {vs : List Value} {v : Value} {n : Nat} {u : Tok} {Q : Value → Shared → Prop} (N : News h₀ L s.heap news) (hm : (l, listOf (vs ++ [v]).toArray n) ∈ news) (h : Q v s)
    (hs : subscripted slice false (.ref l) (.int (-1) u) = operate [.ref l, .int (-1) u] (getItem (.ref l) (.int (-1) u)) := by with_unfolding_all rfl) :
    wpAny (model prog w) A (subscriptTail value slice (.ref l) (.int (-1) u)) Q E s := by
  have hL : s.heap.IsList l (vs ++ [v]).toArray := ⟨_, (N _ hm).1, rfl, n, rfl⟩
  refine tail_any hL.typeIs slot_list_getitem.lookup (wpAny_getItem_list_neg hL (by omega) (by simp; omega) (by omega) ?_ h) hs
  simp
  have e : (-1 + ((vs.length : Int) + 1)).toNat = vs.length := by omega
  rw [e]; simp
theorem truthy_last {vs : List Value} {v : Value} {n : Nat} {Q : Bool → Shared → Prop} (N : News h₀ L s.heap news) (hm : (l, listOf (vs ++ [v]).toArray n) ∈ news) (hz : vs.length ≤ 1000) (h : ∀ k, Q true { s with toks := k }) :
    wpAny (model prog w) A (truthy (.ref l)) Q E s := by
  have hL : s.heap.IsList l (vs ++ [v]).toArray := ⟨_, (N _ hm).1, rfl, n, rfl⟩
  refine wpAny_truthy_list hL ?_ (by have e : (!(vs ++ [v]).toArray.isEmpty) = true := by simp
                                     rw [e]; exact h _)
  simp; omega
end
theorem head_lt {l q : Addr} {o : Obj} {r : List (Addr × Obj)} (h : ∀ p ∈ (l, o) :: r, p.1 < q) : l < q := h _ (.head _)
structure Stop (p : Prop) : Prop where
  out : p
local macro_rules | `(tactic| walk_at $s:str) => `(tactic| k_extra $s)
set_option pp.deepTerms false in
set_option pp.deepTerms.threshold 10 in
set_option maxRecDepth 100000 in
set_option maxHeartbeats 2000000 in
theorem translate_call {w : World} {p : Program} {loose : List Str} {mean : ExcName → Option Value} {mg mb : Str → Option Value} (news : List (Addr × Obj)) (k : Nat) (pat : Str) (tp tq : Tok) (star : Addr) :
    ClmT w p loose mean mg mb 2 news k pat tp tq star := by
  unfold ClmT
  k_with_none
  k_with "getAttr ref" => (k_here; (with_reducible show wpAny _ _ (getAttr (Value.ref _) (PySem.Str.ofString "append") true) _ _ _); (with_unfolding_all refine' getAttr_appendK ?q1F ?q1N ?q1m ?_); (case q1F => k_asm); (case q1N => k_asm); (case q1m => k_mem); intro q' h' F' N' l1)
  k_with "getAttr ref" => (k_here; (with_reducible show wpAny _ _ (getAttr (Value.ref _) (PySem.Str.ofString "append") true) _ _ _); (with_unfolding_all refine' getAttr_appendK ?q2F ?q2N ?q2m ?_); (case q2F => k_asm); (case q2N => k_asm); (case q2m => k_mem); intro q' h' F' N' l1)
  k_with "callWith ref" => (k_here; k_dflt (refine' callWith_bfmN ?q3N ?_; (case q3N => k_asm); k_whole))
  k_with "callWith ref" => (k_here; k_dflt (refine' callWith_bfmN ?q4N ?_; (case q4N => k_asm); k_whole))
  k_with "callWith ref" => (k_here; k_dflt (refine' callWith_bfmN ?q5N ?_; (case q5N => k_asm); k_whole))
  k_with "callWith ref" => (k_here; k_dflt (refine' callWith_bfmN ?q6N ?_; (case q6N => k_asm); k_whole))
  k_with "callWith ref" => (k_here; k_dflt (refine' callWith_bfmN ?q7N ?_; (case q7N => k_asm); k_whole))
  k_with "And" => (k_here; k_dflt (refine' and_get ?q8N ?_; (case q8N => k_asm)); (try dsimp only [List.nil_append, List.cons_append]))
  k_with "And" => (k_here; k_dflt (refine' and_get ?q9N ?_; (case q9N => k_asm)); (try dsimp only [List.nil_append, List.cons_append]))
  k_with "And" => (k_here; k_dflt (refine' and_get ?q10N ?_; (case q10N => k_asm)); (try dsimp only [List.nil_append, List.cons_append]))
  k_with "And" => (k_here; k_dflt (refine' and_get ?q11N ?_; (case q11N => k_asm)); (try dsimp only [List.nil_append, List.cons_append]))
  k_with "And" => (k_here; k_dflt (refine' and_get ?q12N ?_; (case q12N => k_asm)); (try dsimp only [List.nil_append, List.cons_append]))
  k_with "And" => (k_here; k_dflt (refine' and_get ?q13N ?_; (case q13N => k_asm)); (try dsimp only [List.nil_append, List.cons_append]))
  k_with "And" => (k_here; k_dflt (refine' and_get ?q14N ?_; (case q14N => k_asm)); (try dsimp only [List.nil_append, List.cons_append]))
  k_with "And" => (k_here; k_dflt (refine' and_get ?q15N ?_; (case q15N => k_asm)); (try dsimp only [List.nil_append, List.cons_append]))
  k_with "And" => (k_here; k_dflt (refine' and_get ?q16N ?_; (case q16N => k_asm)); (try dsimp only [List.nil_append, List.cons_append]))
  k_with "And" => first | ((with_reducible show decide _ = true ∧ _); refine and_true_of (by omega) ?_) | ((with_reducible show decide _ = false ∧ _); refine and_false_of (by omega) ?_)
  k_with "compareOp Eq str str" => ((with_reducible show wpAny _ _ (compareOp CmpOp.Eq (Value.str (PySem.Str.mk _) _) (Value.str (PySem.Str.ofString _) _)) _ _ _); first | refine eq_strF (by decide +kernel) ?_ | refine eq_strT (by decide +kernel) ?_)
  k_with "subscriptTail Name Name str int" => (k_here; (with_reducible show wpAny _ _ (subscriptTail _ _ (Value.str _ _) (Value.int _ _)) _ _ _); (with_unfolding_all refine' item_code (by assumption) ?q19hb ?_); (case q19hb => omega); intro t' tk')
  k_with "subscriptTail Name Name str int" => (k_here; (with_reducible show wpAny _ _ (subscriptTail _ _ (Value.str _ _) (Value.int _ _)) _ _ _); (with_unfolding_all refine' item_code (by assumption) ?q20hb ?_); (case q20hb => omega); intro t' tk')
  k_with "subscriptTail Name Name str int" => (k_here; (with_reducible show wpAny _ _ (subscriptTail _ _ (Value.str _ _) (Value.int _ _)) _ _ _); (with_unfolding_all refine' item_code (by assumption) ?q21hb ?_); (case q21hb => omega); intro t' tk')
  k_with "subscriptTail Name Name str int" => (k_here; (with_reducible show wpAny _ _ (subscriptTail _ _ (Value.str _ _) (Value.int _ _)) _ _ _); (with_unfolding_all refine' item_code (by assumption) ?q22hb ?_); (case q22hb => omega); intro t' tk')
  k_with "subscriptTail Name Name str int" => (k_here; (with_reducible show wpAny _ _ (subscriptTail _ _ (Value.str _ _) (Value.int _ _)) _ _ _); (with_unfolding_all refine' item_code (by assumption) ?q23hb ?_); (case q23hb => omega); intro t' tk')
  k_with "subscriptTail" => (k_here; (with_reducible show wpAny _ _ (subscriptTail _ _ (Value.ref _) (Value.int _ _)) _ _ _); (with_unfolding_all refine' item_last (by k_asm) ?q24hm ?_); (case q24hm => k_mem))
  k_with "subscriptTail" => (k_here; (with_reducible show wpAny _ _ (subscriptTail _ _ (Value.ref _) (Value.int _ _)) _ _ _); (with_unfolding_all refine' item_last (by k_asm) ?q25hm ?_); (case q25hm => k_mem))
  k_with "truthy ref" => (k_here; (with_unfolding_all refine' truthy_last (by k_asm) ?q26hm ?q26hz ?_); (case q26hm => k_mem); (case q26hz => omega); intro k')
  k_with "truthy ref" => (k_here; (with_unfolding_all refine' truthy_last (by k_asm) ?q27hm ?q27hz ?_); (case q27hm => k_mem); (case q27hz => omega); intro k')
  k_with "compareOp IsNot" => (k_here; (with_reducible show wpAny _ _ (compareOp CmpOp.IsNot (Value.str _ _) (Value.ref _)) _ _ _); (refine wpAny_isNot_other (by rfl) (by intro x; cases x) ?_))
  k_with "call ref" => (k_here; k_dflt (refine' Clm.use (escape_call _ _) ?q29B ?q29F ?q29X ?q29N ?q29T ?q29k trivial ?q29d ?q29u ?_); (case q29B => k_asm); (case q29F => k_asm); (case q29X => k_asm); (case q29N => k_asm); (case q29T => k_asm); (case q29k => first | exact rfl | assumption); (case q29d => ktr_room); (case q29u => ktr_units); intro t' h' tk' F' N')
  k_with "call ref" => (k_here; k_dflt (refine' Clm.use (escape_call _ _) ?q30B ?q30F ?q30X ?q30N ?q30T ?q30k trivial ?q30d ?q30u ?_); (case q30B => k_asm); (case q30F => k_asm); (case q30X => k_asm); (case q30N => k_asm); (case q30T => k_asm); (case q30k => first | exact rfl | assumption); (case q30d => ktr_room); (case q30u => ktr_units); intro t' h' tk' F' N')
  k_with "call ref" => (k_here; (rename Fr _ _ _ _ => F'); (rename News _ _ _ _ => N'); (with_unfolding_all refine' call_bfmK (pre := [(_, bfm _)]) F' N' ?q31hq ?q31a ?q31b ?q31z ?_); (case q31hq => exact List.Mem.head _); (case q31a => assumption); (case q31b => assumption); (case q31z => (rw [sizeLine_eq]; (try simp only [List.length_append, List.length_cons, List.length_nil]); omega)); intro h' F' N')
  k_with "call ref" => (k_here; (rename Fr _ _ _ _ => F'); (rename News _ _ _ _ => N'); (with_unfolding_all refine' call_bfmK (pre := [(_, bfm _)]) F' N' ?q32hq ?q32a ?q32b ?q32z ?_); (case q32hq => exact List.Mem.head _); (case q32a => assumption); (case q32b => assumption); (case q32z => (rw [sizeLine_eq]; (try simp only [List.length_append, List.length_cons, List.length_nil]); omega)); intro h' F' N')
  k_with "call ref" => (k_here; (rename Fr _ _ _ _ => F'); (rename News _ _ _ _ => N'); (with_unfolding_all refine' call_bfmK (pre := [(_, bfm _)]) F' N' ?q33hq ?q33a ?q33b ?q33z ?_); (case q33hq => exact List.Mem.head _); (case q33a => assumption); (case q33b => assumption); (case q33z => (rw [sizeLine_eq]; (try simp only [List.length_append, List.length_cons, List.length_nil]); omega)); intro h' F' N')
  k_with "call ref" => (k_here; (rename Fr _ _ _ _ => F'); (rename News _ _ _ _ => N'); (with_unfolding_all refine' call_bfmK (pre := [(_, bfm _)]) F' N' ?q34hq ?q34a ?q34b ?q34z ?_); (case q34hq => exact List.Mem.head _); (case q34a => assumption); (case q34b => assumption); (case q34z => (rw [sizeLine_eq]; (try simp only [List.length_append, List.length_cons, List.length_nil]); omega)); intro h' F' N')
  k_with "call ref" => (k_here; (rename Fr _ _ _ _ => F'); (rename News _ _ _ _ => N'); (with_unfolding_all refine' call_bfmK (pre := [(_, bfm _)]) F' N' ?q35hq ?q35a ?q35b ?q35z ?_); (case q35hq => exact List.Mem.head _); (case q35a => assumption); (case q35b => assumption); (case q35z => (rw [sizeLine_eq]; (try simp only [List.length_append, List.length_cons, List.length_nil]); omega)); intro h' F' N')
  k_with "call ref" => (k_here; (rename Fr _ _ _ _ => F'); (rename News _ _ _ _ => N'); (with_unfolding_all refine' call_bfmK (pre := [(_, bfm _)]) F' N' ?q36hq ?q36a ?q36b ?q36z ?_); (case q36hq => exact List.Mem.head _); (case q36a => assumption); (case q36b => assumption); (case q36z => (rw [sizeLine_eq]; (try simp only [List.length_append, List.length_cons, List.length_nil]); omega)); intro h' F' N')
  k_with "TrEnd" => first | exact ⟨rfl, _, _, _, _, rfl, by k_asm, by k_asm, ⟨_, rfl⟩, fun z h1 h2 => by simp [TrM, h1, h2]⟩ | exact ⟨rfl, _, _, _, 0, rfl, by k_asm, by k_asm, ⟨_, rfl⟩, fun z h1 h2 => by simp [TrM, h1, h2]⟩
  k_with "exec While Compare cons nil" => refine Stop.out ?_
  w_strict (
  k_fill
  intros
  rename_i hret
  refine wpAny_call ?_
  k_dflt cell_enter
  (rename News _ _ _ _ => nw0)
  have hap := news_lt nw0
  have hlen := pat_len (by assumption)
  k_steps
  constructor
  (rename Fr _ _ _ _ => F'); (rename News _ _ _ _ => N'); (with_unfolding_all refine' tr_while (star := star) (tq := tq) (by assumption) F' (cb_drop N' (fun p hp => List.mem_cons_of_mem _ hp)) ?hi ?hql ?hrl ?tA ?tB ?tC ?tD)
  (case hi => with_unfolding_all rfl); (case hql => exact head_lt (by assumption)); (case hrl => assumption); (case' tA => intros); (case' tB => intros); (case' tC => intros); (case' tD => intros)
  all_goals k_steps
  all_goals exact hret _ _ _ _ _ (by k_asm) (cb_drop (by assumption) (fun p hp => List.mem_cons_of_mem _ hp)) (by assumption) (by assumption))
end Mine
namespace Mine
section
variable {prog : Program} {w : World} {A : Around} {E : Value → Shared → Prop} {s : Shared} {env : Env} {h₀ : Heap} {Q : Flow → Shared → Prop}

def CellEnd (h₀ : Heap) (L : Addr) (m : Str → Option Value) (I : Addr) (oI : Obj) (D : Addr) (oD : Obj) (Jn : List (Addr × Obj) → Prop) (s₁ : Shared) (f : Flow) (s₂ : Shared) : Prop :=
  f = .next ∧ ∃ h' tk n', s₂ = { s₁ with heap := h', toks := tk } ∧ Fr h₀ L h' m ∧ News h₀ L h' ((I, oI) :: (D, oD) :: n') ∧ (∀ p ∈ n', p.1 ≠ I) ∧ Jn n'

def CellFor (prog : Program) (w : World) (A : Around) (h₀ : Heap) (env : Env) (x : Str) (px : Pos) (body : List Stmt) (Q : Flow → Shared → Prop) (E : Value → Shared → Prop) (xv : Value) (s₁ : Shared) : Prop :=
  ∃ (D : Addr) (its : List Value) (kk : Nat) (m : Str → Option Value) (news : List (Addr × Obj)) (J : Nat → List (Addr × Obj) → Prop),
    xv = .ref D ∧ A.handled = none ∧ Fr h₀ env.locals s₁.heap m ∧ News h₀ env.locals s₁.heap ((D, listOf its.toArray kk) :: news) ∧ J 0 news ∧
    (∀ (i : Nat) v n I oI (st : Shared), its[i]? = some v → J i n → (∀ p ∈ n, p.1 ≠ I) → D < I → (∀ p ∈ news, p.1 < I) → Fr h₀ env.locals st.heap m → News h₀ env.locals st.heap ((I, oI) :: (D, listOf its.toArray kk) :: n) →
      wpAny (model prog w) A (assign (.Name x px) env v) (fun _ s₂ => wpAny (model prog w) A (execs body env) (CellEnd h₀ env.locals m I oI D (listOf its.toArray kk) (J (i + 1)) st) E s₂) E st) ∧
    (∀ h tk n, J its.length n → Fr h₀ env.locals h m → News h₀ env.locals h n → Q .next { s₁ with heap := h, toks := tk })

theorem For_cell {x : Str} {px pos : Pos} {iter : Expr} {body : List Stmt}
    (h : wpAny (model prog w) A (eval iter env) (CellFor prog w A h₀ env x px body Q E) E s)
    (hs : ∀ x, foldedSetIterable iter env x = pure x)
    (hE : PassesOwn (model prog w) A env E := by passes_own) :
    wpAny (model prog w) A (exec (.For (.Name x px) iter body [] pos) env) Q E s := by
  refine wpAny_For (wpAny_mono h (fun xv s₁ h₁ => ?_) fun _ _ e => e) hs
  obtain ⟨D, its, kk, m, news, J, rfl, hh, F, N, h0, step, done⟩ := h₁
  have zD := N (D, listOf its.toArray kk) (.head _)
  have hl : s₁.heap.IsList D its.toArray := ⟨_, zD.1, rfl, kk, rfl⟩
  have hDlt : D < s₁.heap.objs.size := Heap.lt_size zD.1
  have hLlt : env.locals < s₁.heap.objs.size := F.ns.lt
  have hlt : ∀ p ∈ news, p.1 < s₁.heap.objs.size := fun p hp => Heap.lt_size (N p (.tail _ hp)).1
  have hI0 : h₀.get? s₁.heap.objs.size = none := next_is_new F
  have hne : D ≠ s₁.heap.objs.size := Nat.ne_of_lt hDlt
  refine wpAny_pyIter_list hl ?_
  have W := Walks.list (prog := prog) (w := w) hh s₁.heap.objs.size D hne its.toArray
  have up : ∀ b o, s₁.heap.get? b = some o → (s₁.heap.push { cls := .type "list_iterator", data := .fields #[.ref D, .int 0 0] }).get? b = some o := fun b o e => Heap.get?_push_of_some _ e
  refine codeAny_forLoop_anyU (R := fun r s' => match r with | .ok f => Q f s' | .error e => cameBackBy (model prog w) A env E e s') (s := { s₁ with heap := s₁.heap.push { cls := .type "list_iterator", data := .fields #[.ref D, .int 0 0] } }) W ?_ ?_ ?_ ⟨⟨_, Heap.get?_push_size _ rfl, rfl, rfl⟩, hl.push _⟩ (F.keeps up) (news := (D, listOf its.toArray kk) :: news) (fun p hp => ⟨up _ _ (N p hp).1, (N p hp).2⟩)
    (fun _ _ _ _ _ hq => wpAny_pure hq) (fun i m₁ n₁ => m₁ = m ∧ ∃ n', n₁ = (D, listOf its.toArray kk) :: n' ∧ J i n') ⟨rfl, news, rfl, h0⟩ ?_ ?_
  · intro hm
    rcases List.mem_cons.mp hm with e | hm
    · exact Nat.ne_of_lt hLlt e
    · exact zD.2.1 (List.mem_singleton.mp hm).symm
  · intro b hb
    rw [List.mem_singleton.mp hb]; exact hI0
  · intro p hp hb
    have hp1 : p.1 < s₁.heap.objs.size := Heap.lt_size (N p hp).1
    exact Nat.ne_of_lt hp1 (List.mem_singleton.mp hb)
  · rintro i v m₁ n₁ s₂ own hi hP ⟨rfl, n', rfl, hJ⟩ hnw hof hgo hown hst F₁ N₁
    obtain ⟨⟨oI, hoI, _⟩, _⟩ := hst
    have mI : (s₁.heap.objs.size, oI) ∈ own := hown _ (List.mem_cons_self ..) hI0 _ hoI
    have hP' : its[i]? = some v := by simpa using hP
    have N₂ : News h₀ env.locals s₂.heap ((s₁.heap.objs.size, oI) :: (D, listOf its.toArray kk) :: n') := fun p hp => by
      rcases List.mem_cons.mp hp with rfl | hp
      · exact N₁ _ (List.mem_append_left _ mI)
      · exact N₁ _ (List.mem_append_right _ hp)
    refine wpAny_mono (wpAny_passesOwn hE (step i v n' s₁.heap.objs.size oI s₂ hP' hJ (fun p hp e => hnw p (.tail _ hp) (List.mem_singleton.mpr e)) hDlt hlt F₁ N₂)) (fun _ s₃ h₃ => wpAny_mono (wpAny_passesOwn hE h₃) (fun f s₄ h₄ => ?_) fun _ _ e => e) fun _ _ e => e
    obtain ⟨rfl, h', tk', n₂, rfl, F', N', hn₂, hJ'⟩ := h₄
    refine ⟨rfl, h', tk', _, (D, listOf its.toArray kk) :: n₂, rfl, F', fun p hp => ?_, fun p hp hb => ?_, rfl, n₂, rfl, hJ'⟩
    · rcases List.mem_append.mp hp with hp | hp
      · refine ⟨?_, (N₁ p (List.mem_append_left _ hp)).2⟩
        rcases List.mem_cons.mp (hof p hp) with e | e
        · have q := hgo p hp
          rw [e, hoI] at q
          have := (N' (s₁.heap.objs.size, oI) (.head _)).1
          rw [e, this]; exact q
        · have e' := List.mem_singleton.mp e
          have q := hgo p hp
          rw [e', (N₂ (D, listOf its.toArray kk) (.tail _ (.head _))).1] at q
          have := (N' (D, listOf its.toArray kk) (.tail _ (.head _))).1
          rw [e', this]; exact q
      · exact N' p (.tail _ hp)
    · have e := List.mem_singleton.mp hb
      rcases List.mem_cons.mp hp with rfl | hp
      · exact hne e
      · exact hn₂ p hp e
  · rintro h' tk m' n' F' N' _ ⟨rfl, n₂, rfl, hJ⟩
    rw [List.size_toArray] at hJ
    exact done h' tk n₂ hJ F' fun p hp => N' p (.tail _ hp)

/-- a comprehension over range(n) that keeps the numbers which pass -/
theorem compRange_all {L : Addr} {m : Str → Option Value} {ct : Expr} {x : Str} {px : Pos} {scope : Scope} {cl : List (Str × Addr)} {s : Shared} {n : Nat} {news : List (Addr × Obj)} {Fin : List Value → List (Addr × Obj) → Prop} (test : Nat → Bool)
    (hk : (compEnvC scope cl 0 env).scope.kind = .function) (hx : (compEnvC scope cl 0 env).kindOf x = some .local) (hb : (x == ("__debug__" : Str)) = false)
    (turn : ∀ (i : Nat) t ys I oI C oC D m₂ h tk (E' : Value → Shared → Prop), i < n → LCg.NsObj oC m₂ → m₂ x = some (.int (i : Int) t) → Fr h₀ L h m → News h₀ L h ((I, oI) :: (C, oC) :: (D, LCg.lst ys) :: news) → LCg.Off3 I C D news → ((@Ne Nat I C) ∧ (@Ne Nat I D) ∧ (@Ne Nat C D)) →
      wpAny (model prog w) A (isTrue ct (compEnvC scope cl C env) (eval ct (compEnvC scope cl C env))) (fun ok s' => ok = test i ∧ ∃ h' tk', s' = { s with heap := h', toks := tk' } ∧ Fr h₀ L h' m ∧ News h₀ L h' ((I, oI) :: (C, oC) :: (D, LCg.lst ys) :: news)) E' { s with heap := h, toks := tk })
    (fin : ∀ ys, IntsAre ys (((List.range n).filter test).map (fun i : Nat => (i : Int))) → Fin ys news) :
    LCt.CompRestT prog w A h₀ L m env ct (.Name x px) x scope cl s (fun _ => True) (fun i v => ∃ t, v = .int (0 + (i : Int)) t) Fin n 0 [] news := by
  suffices H : ∀ k i ys, k + i = n → IntsAre ys (((List.range i).filter test).map (fun i : Nat => (i : Int))) → LCt.CompRestT prog w A h₀ L m env ct (.Name x px) x scope cl s (fun _ => True) (fun i v => ∃ t, v = .int (0 + (i : Int)) t) Fin k i ys news from
    H n 0 [] (by omega) .nil
  intro k
  induction k with
  | zero =>
    intro i ys e hy
    have : i = n := by omega
    subst this
    exact fin ys hy
  | succ k ih =>
    intro i ys e hy
    refine LCt.CompRestT.succ ?_
    rintro v I oI C oC D m₂ h tk E' ⟨t, rfl⟩ hC hx₂ F N off ne
    rw [Int.zero_add] at hx₂
    refine wpAny_mono (turn i t ys I oI C oC D m₂ h tk E' (by omega) hC hx₂ F N off ne) (fun ok s' hok => ?_) fun _ _ e => e
    obtain ⟨rfl, h', tk', rfl, F', N'⟩ := hok
    have er : List.range (i + 1) = List.range i ++ [i] := List.range_succ
    cases ht : test i with
    | true =>
      rw [if_pos rfl]
      have hn : h'.Ns C m₂ := hC.ns (N' (C, oC) (.tail _ (.head _))).1
      refine wpAny_Name (wpAny_loadName_local (env := compEnvC scope cl C env) hk hx hn hx₂ ?_) hb
      refine LCg.CompEnd.intro F' N' news (fun p hp => hp) off trivial (ih (i + 1) _ (by omega) ?_)
      rw [er, List.filter_append, List.map_append]
      have e1 : (List.filter test [i]).map (fun i : Nat => (i : Int)) = [(i : Int)] := by simp [ht]
      rw [e1]
      exact hy.append (.cons _ t .nil)
    | false =>
      rw [if_neg Bool.false_ne_true]
      refine LCg.CompEnd.intro F' N' news (fun p hp => hp) off trivial (ih (i + 1) _ (by omega) ?_)
      rw [er, List.filter_append, List.map_append]
      have e1 : (List.filter test [i]).map (fun i : Nat => (i : Int)) = [] := by simp [ht]
      rw [e1, List.append_nil]
      exact hy
end
end Mine
namespace Mine
def fitsF (k : Nat) (name : Str) : Bool := decide (k < name.length) && (name.cps.toList.take k).all (· == 32)
def preB (name : Str) (i : Nat) : Bool := decide (i ≤ name.length) && (name.cps.toList.take i).all (· == 32)
def hit (name : Str) (i : Nat) : Bool := decide (i < name.length) && (name.cps.toList.getD i 0 == 32)
theorem preB_zero (name : Str) : preB name 0 = true := by simp [preB]
theorem preB_succ (name : Str) (i : Nat) : preB name (i + 1) = (preB name i && hit name i) := by
  unfold preB hit
  by_cases h : i < name.length
  · have h' : i < name.cps.toList.length := by simpa [Str.length] using h
    have e : name.cps.toList.take (i + 1) = name.cps.toList.take i ++ [name.cps.toList.getD i 0] := by
      rw [List.take_add_one, List.getElem?_eq_getElem h', List.getD_eq_getElem?_getD, List.getElem?_eq_getElem h']; rfl
    rw [e, List.all_append]
    have h1 : decide (i + 1 ≤ name.length) = true := decide_eq_true h
    have h2 : decide (i ≤ name.length) = true := decide_eq_true (by omega)
    have h3 : decide (i < name.length) = true := decide_eq_true h
    simp [h1, h2, h3]
  · have h1 : decide (i + 1 ≤ name.length) = false := decide_eq_false (by omega)
    have h3 : decide (i < name.length) = false := decide_eq_false h
    simp [h1, h3]
theorem fitsF_eq (k : Nat) (name : Str) : fitsF k name = (preB name k && decide (k < name.length)) := by
  unfold fitsF preB
  by_cases h : k < name.length
  · have h2 : decide (k ≤ name.length) = true := decide_eq_true (by omega)
    simp [h, h2]
  · have h3 : decide (k < name.length) = false := decide_eq_false h
    simp [h3]
def starEnds (k : Nat) (name : Str) : List Int := ((List.range (name.length + 1)).filter (fun e => fitsF k name && decide (k + 1 ≤ e))).map (fun i : Nat => (i : Int))
def EndsAt (name : Str) (k i : Nat) (vs : List Value) : Prop :=
  (i ≤ k ∧ ((preB name i = true ∧ ∃ t, vs = [.int (i : Int) t]) ∨ (preB name i = false ∧ vs = []))) ∨
  (i = k + 1 ∧ ((fitsF k name = true ∧ ∃ t, vs = [.int ((k : Int) + 1) t]) ∨ (fitsF k name = false ∧ vs = []))) ∨
  (i = k + 2 ∧ IntsAre vs (starEnds k name))

section
variable {prog : Program} {w : World} {A : Around} {E : Value → Shared → Prop} {s : Shared} {env : Env} {h₀ : Heap} {Q : Flow → Shared → Prop} {m : Str → Option Value}

def FitEnd (h₀ : Heap) (L : Addr) (m : Str → Option Value) (I : Addr) (oI : Obj) (D : Addr) (oD : Obj) (S : Addr) (so : Obj) (P : Addr) (op : Obj) (C2 C1 : Addr) (on : Obj) (news : List (Addr × Obj)) (R : List Value → Prop) (s₁ : Shared) (f : Flow) (s₂ : Shared) : Prop :=
  f = .next ∧ ∃ h' tk' E' vs' ke' oe', s₂ = { s₁ with heap := h', toks := tk' } ∧ Fr h₀ L h' m ∧ News h₀ L h' ((E', listOf vs'.toArray ke') :: (I, oI) :: (D, oD) :: (S, so) :: (P, op) :: (C2, oe') :: (C1, on) :: news) ∧ oe'.data = .cell (some (.ref E')) ∧
    ((@Ne Nat E' I) ∧ (@Ne Nat E' P) ∧ (@Ne Nat E' C2)) ∧ R vs'

/-- one turn of the loop, from the ends vs and the part v -/
abbrev FitTurn (prog : Program) (w : World) (A : Around) (E : Value → Shared → Prop) (env : Env) (h₀ : Heap) (m : Str → Option Value) (body : List Stmt) (D : Addr) (oD : Obj) (S : Addr) (so : Obj) (P C2 C1 : Addr) (on : Obj) (news : List (Addr × Obj)) (v : Value) (vs : List Value) (R : List Value → Prop) : Prop :=
  ∀ (E₀ : Addr) (ke : Nat) (op oe oI : Obj) (I : Addr) (st : Shared), op.data = .cell (some v) → oe.data = .cell (some (.ref E₀)) → @Ne Nat E₀ C2 → @Ne Nat E₀ P → @Ne Nat I C2 → @Ne Nat I P → @Ne Nat D C2 → @Ne Nat S C2 → @Ne Nat P C2 → @Ne Nat C1 C2 → (∀ p ∈ news, p.1 ≠ C2) →
    Fr h₀ env.locals st.heap m → News h₀ env.locals st.heap ((E₀, listOf vs.toArray ke) :: (I, oI) :: (D, oD) :: (S, so) :: (P, op) :: (C2, oe) :: (C1, on) :: news) →
    wpAny (model prog w) A (execs body env) (FitEnd h₀ env.locals m I oI D oD S so P op C2 C1 on news R st) E st

theorem fits_for {px : Pos} {body : List Stmt} {D S P C2 C1 E0 : Addr} {vs : List Value} {kk k : Nat} {name : Str} {so on op oe : Obj} {t0 : Tok} {v₀ : Option Value} {news : List (Addr × Obj)}
    (hh : A.handled = none) (hx : env.kindOf (Str.ofString "part") = some .cell) (hkf : env.scope.kind = .function) (hc : env.cells.lookup (Str.ofString "part") = some P)
    (F : Fr h₀ env.locals s.heap m) (N : News h₀ env.locals s.heap ((D, listOf vs.toArray kk) :: (E0, listOf #[.int 0 t0] 0) :: (S, so) :: (P, op) :: (C2, oe) :: (C1, on) :: news))
    (hT : TrItems k S vs) (hop : op.data = .cell v₀) (hoe : oe.data = .cell (some (.ref E0)))
    (e1 : @Ne Nat E0 C2) (e2 : @Ne Nat E0 P) (e3 : @Ne Nat S C2) (e4 : @Ne Nat S P) (e5 : @Ne Nat P C2) (e6 : @Ne Nat C1 P) (e7 : @Ne Nat C1 C2) (e8 : @Ne Nat D C2) (e9 : @Ne Nat D P) (hnP : ∀ p ∈ news, p.1 ≠ P) (hnC : ∀ p ∈ news, p.1 ≠ C2)
    (turnA : ∀ (i : Nat) t tp, i ≤ name.length → FitTurn prog w A E env h₀ m body D (listOf vs.toArray kk) S so P C2 C1 on news (.str (Str.ofString "\\ ") tp) [.int (i : Int) t] (fun vs' => (hit name i = true ∧ ∃ t', vs' = [.int ((i : Int) + 1) t']) ∨ (hit name i = false ∧ vs' = [])))
    (turnB : ∀ t tp, k ≤ name.length → FitTurn prog w A E env h₀ m body D (listOf vs.toArray kk) S so P C2 C1 on news (.str (Str.ofString ".") tp) [.int (k : Int) t] (fun vs' => (k < name.length ∧ ∃ t', vs' = [.int ((k : Int) + 1) t']) ∨ (¬ k < name.length ∧ vs' = [])))
    (turnO : ∀ (c : Str) tp, FitTurn prog w A E env h₀ m body D (listOf vs.toArray kk) S so P C2 C1 on news (.str c tp) [] (fun vs' => vs' = []))
    (turnC : ∀ t, FitTurn prog w A E env h₀ m body D (listOf vs.toArray kk) S so P C2 C1 on news (.ref S) [.int ((k : Int) + 1) t] (fun vs' => IntsAre vs' (((List.range (name.length + 1)).filter (fun e => decide (k + 1 ≤ e))).map (fun i : Nat => (i : Int)))))
    (turnD : FitTurn prog w A E env h₀ m body D (listOf vs.toArray kk) S so P C2 C1 on news (.ref S) [] (fun vs' => vs' = []))
    (done : ∀ (E₀ : Addr) (ke : Nat) (vsE : List Value) (op oe : Obj) (h : Heap) (tk : Nat), oe.data = .cell (some (.ref E₀)) → IntsAre vsE (starEnds k name) → Fr h₀ env.locals h m → News h₀ env.locals h ((E₀, listOf vsE.toArray ke) :: (S, so) :: (P, op) :: (C2, oe) :: (C1, on) :: news) → Q .next { s with heap := h, toks := tk }) :
    CellFor prog w A h₀ env (Str.ofString "part") px body Q E (.ref D) s := by
  refine ⟨D, vs, kk, m, _, (fun i n => ∃ E₀ ke vsE op oe, n = (E₀, listOf vsE.toArray ke) :: (S, so) :: (P, op) :: (C2, oe) :: (C1, on) :: news ∧ (∃ v, op.data = .cell v) ∧ oe.data = .cell (some (.ref E₀)) ∧ @Ne Nat E₀ C2 ∧ @Ne Nat E₀ P ∧ EndsAt name k i vsE),
    rfl, hh, F, N, ⟨E0, 0, [.int 0 t0], op, oe, rfl, ⟨_, hop⟩, hoe, e1, e2, .inl ⟨Nat.zero_le _, .inl ⟨preB_zero _, t0, rfl⟩⟩⟩, ?_, ?_⟩
  · rintro i v n I oI st hv ⟨E₀, ke, vsE, op₁, oe₁, rfl, ⟨v₁, hop₁⟩, hoe₁, n1, n2, hE⟩ hnI hDI hltI F₁ N₁
    have nI : ∀ p ∈ [(E₀, listOf vsE.toArray ke), (S, so), (P, op₁), (C2, oe₁), (C1, on)], p.1 ≠ I := fun p hp => hnI p (List.mem_append_left news hp)
    have iP : @Ne Nat I P := fun e => nI (P, op₁) (.tail _ (.tail _ (.head _))) e.symm
    have iC : @Ne Nat I C2 := fun e => nI (C2, oe₁) (.tail _ (.tail _ (.tail _ (.head _)))) e.symm
    -- the part is stored
    have zP := N₁ (P, op₁) (.tail _ (.tail _ (.tail _ (.tail _ (.head _)))))
    refine wpAny_assign_Name (wpAny_storeName_cell hkf hx hc ⟨op₁, zP.1, hop₁⟩ fun h' hcell hs => ?_)
    obtain ⟨op₂, ho₂, hd₂⟩ := hcell
    have F₂ : Fr h₀ env.locals h' m := ⟨F₁.ns.sameBut hs (Ne.symm zP.2.1), fun b ob e => (hs.2 b (fun q => by rw [q, zP.2.2] at e; cases e)).trans (F₁.keep b ob e), F₁.above⟩
    have N₂ : News h₀ env.locals h' ((E₀, listOf vsE.toArray ke) :: (I, oI) :: (D, listOf vs.toArray kk) :: (S, so) :: (P, op₂) :: (C2, oe₁) :: (C1, on) :: news) := by
      have N₁' : News h₀ env.locals st.heap ([(E₀, listOf vsE.toArray ke), (I, oI), (D, listOf vs.toArray kk), (S, so)] ++ (P, op₁) :: ((C2, oe₁) :: (C1, on) :: news)) := fun p hp => N₁ p (by simp only [List.mem_append, List.mem_cons, List.not_mem_nil, or_false] at hp ⊢; grind)
      refine N₁'.setAt (fun p hp => ?_) (fun p hp => ?_) hs ho₂
      · simp only [List.mem_cons, List.not_mem_nil, or_false] at hp
        rcases hp with rfl | rfl | rfl | rfl
        · exact n2
        · exact iP
        · exact e9
        · exact e4
      · simp only [List.mem_cons] at hp
        rcases hp with rfl | rfl | hp
        · exact Ne.symm e5
        · exact e6
        · exact hnP p hp
    -- an end of a turn
    have fin : ∀ {R : List Value → Prop} {i' : Nat} {f : Flow} {s₃ : Shared}, (∀ vs', R vs' → EndsAt name k i' vs') → FitEnd h₀ env.locals m I oI D (listOf vs.toArray kk) S so P op₂ C2 C1 on news R { st with heap := h' } f s₃ →
        CellEnd h₀ env.locals m I oI D (listOf vs.toArray kk) (fun n => ∃ E₀ ke vsE op oe, n = (E₀, listOf vsE.toArray ke) :: (S, so) :: (P, op) :: (C2, oe) :: (C1, on) :: news ∧ (∃ v, op.data = .cell v) ∧ oe.data = .cell (some (.ref E₀)) ∧ @Ne Nat E₀ C2 ∧ @Ne Nat E₀ P ∧ EndsAt name k i' vsE) st f s₃ := by
      rintro R i' f s₃ hR ⟨rfl, h₃, tk₃, E₃, vs₃, ke₃, oe₃, rfl, F₃, N₃, hd₃, ⟨q1, q2, q3⟩, hr⟩
      refine ⟨rfl, h₃, tk₃, (E₃, listOf vs₃.toArray ke₃) :: (S, so) :: (P, op₂) :: (C2, oe₃) :: (C1, on) :: news, rfl, F₃, fun p hp => N₃ p (by simp only [List.mem_cons] at hp ⊢; grind), fun p hp => ?_, E₃, ke₃, vs₃, op₂, oe₃, rfl, ⟨_, hd₂⟩, hd₃, q3, q2, hR _ hr⟩
      simp only [List.mem_cons] at hp
      rcases hp with rfl | rfl | rfl | rfl | rfl | hp
      · exact q1
      · exact nI (S, so) (.tail _ (.head _))
      · exact Ne.symm iP
      · exact Ne.symm iC
      · exact nI (C1, on) (.tail _ (.tail _ (.tail _ (.tail _ (.head _)))))
      · exact hnI p (by simp [hp])
    have run : ∀ {v' : Value} {vs' : List Value} {R : List Value → Prop} {i' : Nat}, v = v' → vsE = vs' → FitTurn prog w A E env h₀ m body D (listOf vs.toArray kk) S so P C2 C1 on news v' vs' R → (∀ vs', R vs' → EndsAt name k i' vs') →
        wpAny (model prog w) A (execs body env) (CellEnd h₀ env.locals m I oI D (listOf vs.toArray kk) (fun n => ∃ E₀ ke vsE op oe, n = (E₀, listOf vsE.toArray ke) :: (S, so) :: (P, op) :: (C2, oe) :: (C1, on) :: news ∧ (∃ v, op.data = .cell v) ∧ oe.data = .cell (some (.ref E₀)) ∧ @Ne Nat E₀ C2 ∧ @Ne Nat E₀ P ∧ EndsAt name k i' vsE) st) E { st with heap := h' } := by
      rintro v' vs' R i' rfl rfl T hR
      exact wpAny_mono (T E₀ ke op₂ oe₁ oI I { st with heap := h' } hd₂ hoe₁ n1 n2 iC iP e8 e3 e5 e7 hnC F₂ N₂) (fun f s₃ => fin hR) fun _ _ e => e
    obtain ⟨ts, tq, hts, rfl⟩ := hT
    have hlen : (ts.map (fun t => Value.str (Str.ofString "\\ ") t)).length = k := by simp [hts]
    rcases hE with ⟨hik, hE⟩ | ⟨rfl, hE⟩ | ⟨rfl, hE⟩
    · rcases Nat.lt_or_eq_of_le hik with hlt | rfl
      · obtain ⟨tp, hvt⟩ : ∃ tp, v = .str (Str.ofString "\\ ") tp := by
          rw [List.getElem?_append_left (by omega), List.getElem?_map] at hv
          cases hq : ts[i]? with
          | none => rw [hq] at hv; cases hv
          | some tp => rw [hq] at hv; exact ⟨tp, (Option.some.inj hv).symm⟩
        rcases hE with ⟨hp, t, hvE⟩ | ⟨hp, hvE⟩
        · have hil : i ≤ name.length := by
            unfold preB at hp
            exact of_decide_eq_true (Bool.and_eq_true_iff.mp hp).1
          refine run hvt hvE (turnA i t tp hil) fun vs' hr => .inl ⟨hlt, ?_⟩
          rw [preB_succ, hp, Bool.true_and]
          rcases hr with ⟨h1, t', rfl⟩ | ⟨h1, rfl⟩
          · exact .inl ⟨h1, t', rfl⟩
          · exact .inr ⟨h1, rfl⟩
        · refine run hvt hvE (turnO _ tp) fun vs' hr => .inl ⟨hlt, .inr ⟨?_, hr⟩⟩
          rw [preB_succ, hp, Bool.false_and]
      · have hvt : v = .str (Str.ofString ".") tq := by
          rw [List.getElem?_append_right (by omega), hlen, Nat.sub_self] at hv
          exact (Option.some.inj hv).symm
        rcases hE with ⟨hp, t, hvE⟩ | ⟨hp, hvE⟩
        · have hil : i ≤ name.length := by
            unfold preB at hp
            exact of_decide_eq_true (Bool.and_eq_true_iff.mp hp).1
          refine run hvt hvE (turnB t tq hil) fun vs' hr => .inr (.inl ⟨rfl, ?_⟩)
          rw [fitsF_eq, hp, Bool.true_and]
          rcases hr with ⟨h1, t', rfl⟩ | ⟨h1, rfl⟩
          · exact .inl ⟨decide_eq_true h1, t', rfl⟩
          · exact .inr ⟨decide_eq_false h1, rfl⟩
        · refine run hvt hvE (turnO _ tq) fun vs' hr => .inr (.inl ⟨rfl, .inr ⟨?_, hr⟩⟩)
          rw [fitsF_eq, hp, Bool.false_and]
    · have hvt : v = .ref S := by
        rw [List.getElem?_append_right (by omega), hlen, show k + 1 - k = 1 by omega] at hv
        exact (Option.some.inj hv).symm
      rcases hE with ⟨hp, t, hvE⟩ | ⟨hp, hvE⟩
      · refine run hvt hvE (turnC t) fun vs' hr => .inr (.inr ⟨rfl, ?_⟩)
        unfold starEnds
        rw [hp]; simpa using hr
      · refine run hvt hvE turnD fun vs' hr => .inr (.inr ⟨rfl, ?_⟩)
        unfold starEnds
        have e : (List.range (name.length + 1)).filter (fun e => fitsF k name && decide (k + 1 ≤ e)) = [] := by
          rw [hp]; exact List.filter_eq_nil_iff.mpr (fun _ _ => by simp)
        rw [hr, e]; exact .nil
    · rw [List.getElem?_append_right (by omega), hlen, show k + 2 - k = 2 by omega] at hv
      cases hv
  · rintro h tk n ⟨E₀, ke, vsE, op₁, oe₁, rfl, _, hoe₁, _, _, hE⟩ F₁ N₁
    obtain ⟨ts, tq, hts, rfl⟩ := hT
    have hlen : (ts.map (fun t => Value.str (Str.ofString "\\ ") t) ++ [Value.str (Str.ofString ".") tq, Value.ref S]).length = k + 2 := by simp [hts]
    rw [hlen] at hE
    rcases hE with ⟨h1, _⟩ | ⟨h1, _⟩ | ⟨_, hE⟩
    · omega
    · omega
    · exact done E₀ ke vsE op₁ oe₁ h tk hoe₁ hE F₁ N₁
end
end Mine
namespace Mine
theorem ClmT.use {w : World} {p : Program} {loose : List Str} {mean : ExcName → Option Value} {mg mb : Str → Option Value} {r : Nat} {news : List (Addr × Obj)} {k : Nat} {pat : Str} {tp tq : Tok} {star : Addr} (C : ClmT w p loose mean mg mb r news k pat tp tq star)
    {dp un : Nat} {gd : Option (List Code)} {cn : Str} {cs : Scope} {a : Addr} {ccd : Value} {cl : List (Str × Addr)} {outer : List Env} {A₀ : Around} {base h₀ : Heap} {L : Addr} {m : Str → Option Value} {s : Shared} {Q E : Value → Shared → Prop}
    (B : Below A₀ base outer h₀) (F : Fr h₀ L s.heap m) (X : (hd.heap_39 w.params).In h₀) (N : News h₀ L s.heap news) (T : Top p loose mean mg mb h₀) (hk : cs.kind = .function)
    (hd : dp + r < recursionLimit) (hu : un + 100 * r < cLine) (h1 : k ≤ 100) (h2 : pat.cps.toList = List.replicate k 32 ++ [63, 42])
    (h : ∀ (D : Addr) (vs : List Value) (n : Nat) (h' : Heap) (tk' : Nat), Fr h₀ L h' m → News h₀ L h' ((D, listOf vs.toArray n) :: news) → (∀ p ∈ news, p.1 < D) → TrItems k star vs → Q (.ref D) { s with heap := h', toks := tk' }) :
    wpAny (model Challenge.rw_rx0030_01.row.prog w) (ktrTop dp un gd cn cs L a ccd cl outer) (call (.ref 62) [.str pat tp, .ref star, .str (Str.ofString ".") tq]) Q E s := C dp un gd cn cs a ccd cl outer A₀ base h₀ L m s Q E B F X N T hk hd hu h1 h2 h
theorem leN {a b : Nat} (h : a ≤ b) : a ≤ b := h
theorem ne_all {news : List (Addr × Obj)} {b d : Addr} (h : ∀ p ∈ news, p.1 < b) (hb : b ≤ d) : ∀ p ∈ news, p.1 ≠ d := fun p hp => Nat.ne_of_lt (Nat.lt_of_lt_of_le (h p hp) hb)
local macro_rules | `(tactic| k_all) => `(tactic| exact ne_all (by assumption) (by (refine leN ?_; (try dsimp only); omega)))
theorem For_cellF {prog : Program} {w : World} {A : Around} {E : Value → Shared → Prop} {s : Shared} {env : Env} {h₀ : Heap} {Q : Flow → Shared → Prop} {m : Str → Option Value} {x : Str} {px pos : Pos} {iter : Expr} {body : List Stmt} (_F : Fr h₀ env.locals s.heap m)
    (h : wpAny (model prog w) A (eval iter env) (CellFor prog w A h₀ env x px body Q E) E s)
    (hs : ∀ x, foldedSetIterable iter env x = pure x)
    (hE : PassesOwn (model prog w) A env E := by passes_own) :
    wpAny (model prog w) A (exec (.For (.Name x px) iter body [] pos) env) Q E s := For_cell h hs hE

theorem item_eq {x : Str} {i : Nat} (h : i < x.length) : Txt.item x (i : Int) = ⟨#[x.cps.toList.getD i 0]⟩ := by
  have hc' : x.cps[i]? = some (x.cps.toList.getD i 0) := by
    have h' : i < x.cps.size := h
    have h2 : i < x.cps.toList.length := by simpa using h'
    rw [← Array.getElem?_toList, List.getD_eq_getElem?_getD, List.getElem?_eq_getElem h2]; rfl
  have hq : seqIndex? (i : Int) x.length = some i := by unfold seqIndex?; rw [if_neg (show ¬ ((i : Int) < 0) by omega)]; simp [h]
  show (⟨#[((seqIndex? (i : Int) x.length).bind (x.cps[·]?)).getD 0]⟩ : Str) = _
  rw [hq, Option.bind_some, hc']; rfl
theorem slice_sp : Txt.slice (Str.ofString "\\ ") (some (-1)) none = ⟨#[32]⟩ := by decide +kernel
theorem hit_T {name : Str} {i : Nat} (h1 : (i : Int) < (name.length : Int)) (h2 : (Txt.slice (Str.ofString "\\ ") (some (-1)) none == Txt.item name (i : Int)) = true) : hit name i = true := by
  have hi : i < name.length := by omega
  rw [slice_sp, item_eq hi] at h2
  have h3 := eq_of_beq h2
  have h4 : 32 = name.cps.toList.getD i 0 := by
    injection h3 with h3
    have h5 := congrArg (fun a : Array Nat => a[0]?.getD 7) h3
    exact h5
  unfold hit
  rw [← h4, decide_eq_true hi]; rfl
theorem hit_F1 {name : Str} {i : Nat} (h1 : ¬ (i : Int) < (name.length : Int)) : hit name i = false := by
  unfold hit
  rw [decide_eq_false (by omega), Bool.false_and]
theorem hit_F2 {name : Str} {i : Nat} (h1 : (i : Int) < (name.length : Int)) (h2 : (Txt.slice (Str.ofString "\\ ") (some (-1)) none == Txt.item name (i : Int)) = false) : hit name i = false := by
  have hi : i < name.length := by omega
  rw [slice_sp, item_eq hi] at h2
  unfold hit
  rw [decide_eq_true hi, Bool.true_and]
  cases hb : name.cps.toList.getD i 0 == 32 with
  | false => rfl
  | true =>
    rw [eq_of_beq hb] at h2
    simp at h2
theorem fitEnd_intro {h₀ : Heap} {L : Addr} {m : Str → Option Value} {I D S P C2 C1 E' E₀ : Addr} {oI oD so op on oe' o₀ : Obj} {news : List (Addr × Obj)} {R : List Value → Prop} {st : Shared} {h' : Heap} {tk : Nat} {vs' : List Value}
    (F : Fr h₀ L h' m) (N : News h₀ L h' ((E', LCg.lst vs') :: (E₀, o₀) :: (I, oI) :: (D, oD) :: (S, so) :: (P, op) :: (C2, oe') :: (C1, on) :: news)) (hd : oe'.data = .cell (some (.ref E')))
    (o1 : E₀ ≠ E' ∧ I ≠ E' ∧ D ≠ E' ∧ S ≠ E' ∧ P ≠ E' ∧ C2 ≠ E' ∧ C1 ≠ E' ∧ LCg.Off1 E' news) (hR : R vs') :
    FitEnd h₀ L m I oI D oD S so P op C2 C1 on news R st .next { st with heap := h', toks := tk } :=
  ⟨rfl, h', tk, E', vs', vs'.length, oe', rfl, F, fun p hp => N p (by simp only [List.mem_cons] at hp ⊢; grind), hd, ⟨fun e => o1.2.1 e.symm, fun e => o1.2.2.2.2.1 e.symm, fun e => o1.2.2.2.2.2.1 e.symm⟩, hR⟩
theorem none_in {n : Nat} {vs : List Value} (h : IntsAre vs (((List.range n).filter (fun _ => false)).map (fun i : Nat => (i : Int)))) : vs = [] := by
  have e : (List.range n).filter (fun _ => false) = [] := List.filter_eq_nil_iff.mpr (fun _ _ => by simp)
  rw [e] at h
  cases h; rfl
local macro_rules | `(tactic| walk_at "FitEnd") => `(tactic| (k_here; k_dflt (refine' fitEnd_intro ?F ?N ?d ?o ?R); (case F => k_asm); (case N => k_asm); (case d => k_asm); (case o => assumption); (case R => first
  | exact none_in (by assumption)
  | exact .inl ⟨hit_T (by assumption) (by assumption), _, rfl⟩
  | exact .inr ⟨hit_F2 (by assumption) (by assumption), rfl⟩
  | exact .inr ⟨hit_F1 (by assumption), rfl⟩
  | exact .inl ⟨by omega, _, rfl⟩
  | exact .inr ⟨by omega, rfl⟩
  | exact rfl
  | assumption)))
local macro_rules | `(tactic| walk_at "CompEnd") => `(tactic| (k_dflt (refine' LCg.CompEnd.intro ?F ?N _ (fun p hp => hp) ?off ?S ?_); (case F => k_asm); (case N => k_asm); (case off => first | assumption | (simp only [LCg.Off3, and_true]; assumption)); (case S => lcg_src)))
def MkT (_ : Nat → Bool) : Prop := True
def TurnEnd (h₀ : Heap) (L : Addr) (m : Str → Option Value) (news : List (Addr × Obj)) (s : Shared) (b : Bool) (ok : Bool) (s' : Shared) : Prop := ok = b ∧ ∃ h' tk', s' = { s with heap := h', toks := tk' } ∧ Fr h₀ L h' m ∧ News h₀ L h' news
theorem compRange_mk {prog : Program} {w : World} {A : Around} {env : Env} {h₀ : Heap} {L : Addr} {m : Str → Option Value} {ct : Expr} {x : Str} {px : Pos} {scope : Scope} {cl : List (Str × Addr)} {s : Shared} {n : Nat} {news : List (Addr × Obj)} {Fin : List Value → List (Addr × Obj) → Prop} {test : Nat → Bool} (_mk : MkT test)
    (hk : (compEnvC scope cl 0 env).scope.kind = .function) (hx : (compEnvC scope cl 0 env).kindOf x = some .local) (hb : (x == ("__debug__" : Str)) = false)
    (turn : ∀ (i : Nat) t ys I oI C oC D m₂ h tk (E' : Value → Shared → Prop), i < n → LCg.NsObj oC m₂ → m₂ x = some (.int (i : Int) t) → Fr h₀ L h m → News h₀ L h ((I, oI) :: (C, oC) :: (D, LCg.lst ys) :: news) → LCg.Off3 I C D news → ((@Ne Nat I C) ∧ (@Ne Nat I D) ∧ (@Ne Nat C D)) →
      wpAny (model prog w) A (isTrue ct (compEnvC scope cl C env) (eval ct (compEnvC scope cl C env))) (TurnEnd h₀ L m ((I, oI) :: (C, oC) :: (D, LCg.lst ys) :: news) s (test i)) E' { s with heap := h, toks := tk })
    (fin : ∀ ys, IntsAre ys (((List.range n).filter test).map (fun i : Nat => (i : Int))) → Fin ys news) :
    LCt.CompRestT prog w A h₀ L m env ct (.Name x px) x scope cl s (fun _ => True) (fun i v => ∃ t, v = .int (0 + (i : Int)) t) Fin n 0 [] news := compRange_all test hk hx hb turn fin
theorem ge_T {k i : Nat} (h : [(k : Int) + 1].getD (Int.toNat 0) 0 ≤ (i : Int)) : true = decide (k + 1 ≤ i) := by
  have h' : (k : Int) + 1 ≤ (i : Int) := h
  exact (decide_eq_true (by omega)).symm
theorem ge_F {k i : Nat} (h : ¬ [(k : Int) + 1].getD (Int.toNat 0) 0 ≤ (i : Int)) : false = decide (k + 1 ≤ i) := by
  have h' : ¬ (k : Int) + 1 ≤ (i : Int) := h
  exact (decide_eq_false (by omega)).symm
theorem ne_F {b c : Bool} {a : Int} (h : decide ([a] = []) = true) : b = c := absurd (of_decide_eq_true h) (List.cons_ne_nil _ _)
theorem turnEnd_intro {h₀ : Heap} {L : Addr} {m : Str → Option Value} {news n' : List (Addr × Obj)} {s : Shared} {b ok : Bool} {h' : Heap} {tk : Nat} (e : ok = b) (F : Fr h₀ L h' m) (N : News h₀ L h' n') (hs : ∀ p ∈ news, p ∈ n') : TurnEnd h₀ L m news s b ok { s with heap := h', toks := tk } := ⟨e, h', tk, rfl, F, fun p hp => N p (hs p hp)⟩
local macro_rules | `(tactic| walk_at "TurnEnd") => `(tactic| (k_here; k_dflt (refine' turnEnd_intro ?e ?F ?N ?s); (case F => k_asm); (case N => k_asm); (case s => first | exact fun p hp => hp | exact fun p hp => List.mem_cons_of_mem _ hp); (case e => first | exact ge_T (by assumption) | exact ge_F (by assumption) | exact ne_F (by assumption) | exact rfl)))
theorem any_fits (k : Nat) (name : Str) : ((starEnds k name).any fun x => x == (name.length : Int)) = fitsF k name := by
  have hk : fitsF k name = true → k + 1 ≤ name.length := fun h => by
    unfold fitsF at h
    exact of_decide_eq_true (Bool.and_eq_true_iff.mp h).1
  cases h : fitsF k name with
  | true =>
    have hk' := hk h
    refine List.any_eq_true.mpr ⟨(name.length : Int), ?_, by simp⟩
    unfold starEnds
    refine List.mem_map.mpr ⟨name.length, List.mem_filter.mpr ⟨List.mem_range.mpr (by omega), ?_⟩, rfl⟩
    rw [h, decide_eq_true hk']; rfl
  | false =>
    refine List.any_eq_false.mpr fun x hx => ?_
    unfold starEnds at hx
    obtain ⟨i, hi, rfl⟩ := List.mem_map.mp hx
    have h2 := (List.mem_filter.mp hi).2
    rw [h, Bool.false_and] at h2
    cases h2
local macro_rules | `(tactic| walk_at $s:str) => `(tactic| k_extra $s)
set_option pp.deepTerms false in
set_option pp.deepTerms.threshold 10 in
set_option maxRecDepth 100000 in
set_option maxHeartbeats 2000000 in
theorem fits_call {w : World} {p : Program} {loose : List Str} {mean : ExcName → Option Value} {mg mb : Str → Option Value} (news : List (Addr × Obj)) (k : Nat) (glob name : Str) (tg tn : Tok) :
    Clm w p loose mean mg mb 74 3 news (k ≤ 100 ∧ name.length ≤ 100 ∧ glob.cps.toList = List.replicate k 32 ++ [63, 42]) [.str glob tg, .str name tn] (fun _ => .bool (fitsF k name)) := by
  unfold Clm
  k_with_none
  k_with "enterC" => (refine' code_defC ?qek1 ?qek2 ?qek3 ?qek4 ?qek5 ?qekA ?qekF ?qekK ?qek6 ?qek7 ?qek8 ?qek9 ?qekB ?qekD ?_ ?qec2 ?qec3 ?qec4; (case qekA => exact rfl); (case qekF => exact rfl); (case qekK => assumption); (case qek1 => k_asm); (case qek2 => k_asm); (case qek3 => k_asm); (case qek4 => k_asm); (case qek5 => k_asm); (case qek6 => k_is); (case qek7 => k_is); (case qek8 => ktr_room); (case qek9 => exact BindsTo.of_eq rfl); (case qekB => exact rfl); (case qekD => decide +kernel); (case qec2 => exact rfl); (case qec3 => exact rfl); (case qec4 => exact rfl); k_whole; intro g' L' h' tk' cells' FG' F' N' Y' B' X' T' l1; (try k_lt l1); k_cells Y'; (try simp only [List.cons_append, List.nil_append] at N'); (try dsimp only); (try k_lift B'); (try k_fold))
  k_with "exec For Name Call cons nil" => (k_here; (rename Fr _ _ _ _ => F'); (with_unfolding_all refine' For_cellF F' ?qfh ?qfhs); (case qfhs => (intro _; with_unfolding_all rfl)))
  k_with "CellFor" => refine Stop.out ?_
  k_with "call ref" => (k_here; k_dflt (refine' ClmT.use (translate_call _ _ _ _ _ _) ?qrB ?qrF ?qrX ?qrN ?qrT ?qrk ?qrd ?qru ?qrh1 ?qrh2 ?_); (case qrB => k_asm); (case qrF => k_asm); (case qrX => k_asm); (case qrN => k_asm); (case qrT => k_asm); (case qrk => first | exact rfl | assumption); (case qrd => ktr_room); (case qru => ktr_units); (case qrh2 => assumption); (case qrh1 => assumption); intro D' vs' n' h' tk' F' N' l1 hT'; (try k_lt l1))
  k_with "compareOp Is" => (k_here; (with_reducible show wpAny _ _ (compareOp CmpOp.Is (Value.str _ _) (Value.ref _)) _ _ _); (refine wpAny_is_other (by rfl) (by intro x; cases x) ?_))
  k_with "compareOp Is" => (k_here; (with_reducible show wpAny _ _ (compareOp CmpOp.Is (Value.ref _) (Value.ref _)) _ _ _); (refine wpAny_is_self (by rfl) ?_))
  k_with "compareOp Eq str str" => ((with_reducible show wpAny _ _ (compareOp CmpOp.Eq (Value.str (PySem.Str.ofString _) _) (Value.str (PySem.Str.ofString _) _)) _ _ _); first | refine eq_strF (by decide +kernel) ?_ | refine eq_strT (by decide +kernel) ?_)
  k_with "eval ListComp" => (k_here; (with_reducible show wpAny _ _ (eval (Expr.ListComp (Expr.Name _ _) [Comprehension.mk _ (Expr.Call _ _ _ _) _ _] _ _) _) _ _ _); k_dflt (refine LCt.ListComp_T (F₀ := by k_asm) (by with_unfolding_all rfl) (by decide) (by rfl) (by decide) (by rfl) ?_); k_dflt lct_toSrc)
  k_with "CompSrcT" => (k_here; (rename MkT _ => hmk'); (rename IsRange _ _ _ _ _ _ _ _ => rgX); k_dflt (refine LCt.CompSrcT.range (n := _ + 1) (by rfl) (by k_asm) (by k_asm) (by first | exact rgX | assumption) (by exact small_one (by omega) (by omega) (by omega) (by omega)) (by exact rangeSize_nat _ _) (by rw [PySem.sizeLine_eq]; omega) ?_); intro g'; (refine compRange_mk hmk' rfl rfl rfl ?_ ?_); (case' refine_1 => intro k' t' ys' I' oI' C' oC' D' m' h' tk' E' hhi' hC' hx' F' N' off' ne'; simp only [LCg.Off3, and_true] at off'); (case' refine_2 => intro ys' hI'))
  w_strict (
  k_fill
  dsimp only [CbRet]
  intros
  rename_i hret
  (rename (_ ∧ _ ∧ _) => hpre)
  obtain ⟨hk1, hk2, hk3⟩ := hpre
  refine wpAny_call ?_
  k_dflt (walk_at "enterC")
  k_steps
  constructor
  (rename TrItems _ _ _ => hT9); (rename News _ _ _ _ => N9); (rename Fr _ _ _ _ => F9)
  (with_unfolding_all refine' fits_for (name := name) (k := k) ?hh ?hx ?hkf ?hc F9 N9 hT9 ?hop ?hoe ?e1 ?e2 ?e3 ?e4 ?e5 ?e6 ?e7 ?e8 ?e9 ?hnP ?hnC ?tA ?tB ?tO ?tC ?tD ?done)
  (case hh => rfl); (case hx => with_unfolding_all rfl); (case hkf => with_unfolding_all rfl); (case hc => with_unfolding_all rfl); (case hop => assumption); (case hoe => assumption)
  (case e1 => omega); (case e2 => omega); (case e3 => omega); (case e4 => omega); (case e5 => omega); (case e6 => omega); (case e7 => omega); (case e8 => omega); (case e9 => omega); (case hnP => k_all); (case hnC => k_all)
  (case' tA => unfold FitTurn; intros); (case' tB => unfold FitTurn; intros); (case' tO => unfold FitTurn; intros); (case' tC => have hmk : MkT (fun e => decide (k + 1 ≤ e)) := trivial; unfold FitTurn; intros); (case' tD => have hmk : MkT (fun _ => false) := trivial; unfold FitTurn; intros); (case' done => intros)
  all_goals k_steps
  exact cb_retB hret (any_fits k name) (by k_asm) (by exact cb_drop (by assumption) (fun p hp => List.mem_cons_of_mem _ (List.mem_cons_of_mem _ (List.mem_cons_of_mem _ (List.mem_cons_of_mem _ (List.mem_cons_of_mem _ hp))))))
  all_goals w_report)
end Mine
namespace Mine
def J : List (List Nat) → List Nat
  | [] => []
  | [a] => a
  | a :: b :: r => a ++ 10 :: J (b :: r)
theorem nl_eq : Str.ofString "\n" = (⟨#[10]⟩ : Str) := by decide +kernel
theorem cps_join : ∀ l : List Str, (Str.join ⟨#[10]⟩ l).cps.toList = J (l.map (·.cps.toList))
  | [] => rfl
  | [a] => rfl
  | a :: b :: r => by
    have ih := cps_join (b :: r)
    show (a ++ ⟨#[10]⟩ ++ Str.join ⟨#[10]⟩ (b :: r)).cps.toList = _
    rw [Str.cps_append, Str.cps_append, Array.toList_append, Array.toList_append, ih]
    show a.cps.toList ++ [10] ++ J ((b :: r).map (·.cps.toList)) = a.cps.toList ++ 10 :: J ((b :: r).map (·.cps.toList))
    rw [List.append_assoc]; rfl
theorem cps_joinT (l : List Str) : (Txt.join (Str.ofString "\n") l).cps.toList = J (l.map (·.cps.toList)) := by
  show (Builtin.Str.glued (Str.ofString "\n") l).cps.toList = _
  rw [StrLaws.glued_eq_join, nl_eq, cps_join]
theorem lines_J (x : Str) : J ((Txt.split x (Str.ofString "\n")).map (·.cps.toList)) = x.cps.toList := by
  rw [← cps_join, nl_eq, StrLaws.join_split]
theorem lines_free (x : Str) : ∀ a ∈ (Txt.split x (Str.ofString "\n")).map (·.cps.toList), 10 ∉ a := by
  intro a ha
  obtain ⟨p, hp, rfl⟩ := List.mem_map.mp ha
  rw [nl_eq] at hp
  exact StrLaws.split_free x 10 p hp
theorem lines_ne (x : Str) : Txt.split x (Str.ofString "\n") ≠ [] := by
  intro e
  have := split_pos x (Str.ofString "\n")
  rw [e] at this
  exact Nat.not_succ_le_zero 0 this
theorem tw_free {a : List Nat} (h : 10 ∉ a) (r : List Nat) : (a ++ 10 :: r).takeWhile (· != 10) = a := by
  induction a with
  | nil => rfl
  | cons c a ih =>
    have hc : (c != 10) = true := by
      have : c ≠ 10 := fun e => h (e ▸ List.mem_cons_self ..)
      simpa using this
    rw [List.cons_append, List.takeWhile_cons, if_pos hc, ih (fun hm => h (List.mem_cons_of_mem _ hm))]
theorem tw_all {a : List Nat} (h : 10 ∉ a) : a.takeWhile (· != 10) = a := by
  induction a with
  | nil => rfl
  | cons c a ih =>
    have hc : (c != 10) = true := by
      have : c ≠ 10 := fun e => h (e ▸ List.mem_cons_self ..)
      simpa using this
    rw [List.takeWhile_cons, if_pos hc, ih (fun hm => h (List.mem_cons_of_mem _ hm))]
theorem tw_J : ∀ {a : List Nat} {r : List (List Nat)}, 10 ∉ a → (J (a :: r)).takeWhile (· != 10) = a
  | _, [], h => tw_all h
  | _, _ :: _, h => tw_free h _
theorem head_line (x : Str) : ∃ y r, Txt.split x (Str.ofString "\n") = y :: r ∧ y.cps.toList = x.cps.toList.takeWhile (· != 10) := by
  have hne := lines_ne x
  have hJ := lines_J x
  have hfr := lines_free x
  generalize Txt.split x (Str.ofString "\n") = l at hne hJ hfr
  cases l with
  | nil => exact absurd rfl hne
  | cons y r =>
    refine ⟨y, r, rfl, ?_⟩
    rw [← hJ]
    exact (tw_J (hfr _ (by simp))).symm
abbrev castN : Nat → Int := fun c => (c : Int)
theorem cut_line (m : Nat) : ∀ (a : List Nat) (acc : List Int) (p : Nat), 10 ∉ a → (a.map castN).foldl (cutStep m) (acc, (p : Int)) = (acc ++ (a.drop (m - p)).map castN, ((p + a.length : Nat) : Int))
  | [], acc, p, _ => by simp
  | c :: a, acc, p, h => by
    have hc : ¬ (c : Int) = 10 := fun e => h (by have : c = 10 := by omega
                                                 exact this ▸ List.mem_cons_self ..)
    have ha : 10 ∉ a := fun hm => h (List.mem_cons_of_mem _ hm)
    by_cases hm : m ≤ p
    · have e1 : cutStep m (acc, (p : Int)) (castN c) = (acc ++ [(c : Int)], ((p + 1 : Nat) : Int)) := by
        unfold cutStep
        rw [if_neg hc, if_pos (show (m : Int) ≤ (p : Int) by omega)]
        simp
      have ih := cut_line m a (acc ++ [(c : Int)]) (p + 1) ha
      rw [List.map_cons, List.foldl_cons, e1, ih, show m - (p + 1) = 0 by omega, show m - p = 0 by omega]
      simp; omega
    · have e1 : cutStep m (acc, (p : Int)) (castN c) = (acc, ((p + 1 : Nat) : Int)) := by
        unfold cutStep
        rw [if_neg hc, if_neg (show ¬ (m : Int) ≤ (p : Int) by omega)]
        simp
      have ih := cut_line m a acc (p + 1) ha
      rw [List.map_cons, List.foldl_cons, e1, ih, show m - p = (m - (p + 1)) + 1 by omega, List.drop_succ_cons]
      simp; omega
theorem cut_J (m : Nat) : ∀ (ls : List (List Nat)) (acc : List Int), (∀ a ∈ ls, 10 ∉ a) → ∃ q, ((J ls).map castN).foldl (cutStep m) (acc, 0) = (acc ++ (J (ls.map (·.drop m))).map castN, q)
  | [], acc, _ => ⟨0, by simp [J]⟩
  | [a], acc, h => ⟨_, cut_line m a acc 0 (h a (by simp))⟩
  | a :: b :: r, acc, h => by
    obtain ⟨q, ih⟩ := cut_J m (b :: r) (acc ++ (a.drop m).map castN ++ [10]) (fun x hx => h x (List.mem_cons_of_mem _ hx))
    refine ⟨q, ?_⟩
    have e1 : cutStep m (acc ++ (a.drop m).map castN, ((0 + a.length : Nat) : Int)) (castN 10) = (acc ++ (a.drop m).map castN ++ [10], 0) := by
      unfold cutStep
      rw [if_pos (show castN 10 = 10 from rfl)]; rfl
    have e2 := cut_line m a acc 0 (h a (by simp))
    have ih' : ((J (b :: r)).map castN).foldl (cutStep m) (acc ++ (a.drop m).map castN ++ [10], 0) = _ := ih
    show ((a ++ 10 :: J (b :: r)).map castN).foldl (cutStep m) (acc, 0) = (acc ++ (a.drop m ++ 10 :: J ((b :: r).map (·.drop m))).map castN, q)
    rw [List.map_append, List.foldl_append, show (0 : Int) = ((0 : Nat) : Int) from rfl, e2, Nat.sub_zero, List.map_cons, List.foldl_cons, e1, ih']
    simp
theorem cast_back (l : List Nat) : (l.map castN).map Int.toNat = l := by
  rw [List.map_map]
  conv => rhs; rw [← List.map_id l]
  apply List.map_congr_left
  intro a _
  simp
theorem cutF_cps (x : Str) (m : Nat) : (cutF x m).cps.toList = J ((Txt.split x (Str.ofString "\n")).map (fun p => p.cps.toList.drop m)) := by
  obtain ⟨q, h⟩ := cut_J m ((Txt.split x (Str.ofString "\n")).map (·.cps.toList)) [] (lines_free x)
  rw [lines_J, List.map_map] at h
  unfold cutF
  have h' : (KStt.codes x).foldl (cutStep m) ([], 0) = _ := h
  rw [h', List.nil_append]
  show (((J _).map castN).map Int.toNat).toArray.toList = _
  rw [cast_back]; rfl
theorem slice_drop (x : Str) (k : Nat) : (Txt.slice x (some (k : Int)) none).cps.toList = x.cps.toList.drop k := by
  by_cases h : (k : Int) ≤ x.length
  · rw [slice_from_eq (b := (x.length : Int)) (by omega) h rfl]
    show List.take _ (List.drop _ _) = _
    rw [Int.toNat_natCast]
    apply List.take_of_length_le
    rw [List.length_drop]
    have : x.cps.toList.length = x.length := by simp [Str.length]
    omega
  · rw [slice_beyond (by omega)]
    have : x.cps.toList.length = x.length := by simp [Str.length]
    rw [List.drop_eq_nil_of_le (by omega)]; rfl
theorem str_ext {x y : Str} (h : x.cps.toList = y.cps.toList) : x = y := by
  cases x; cases y
  have := Array.toList_inj.mp h
  simpa using this
theorem dedentF_cps (x : Str) : (dedentF x).cps.toList = J ((Txt.split x (Str.ofString "\n")).map (fun p => p.cps.toList.drop (stopK (signs ((Txt.split x (Str.ofString "\n")).headD Str.empty))))) := by
  unfold dedentF
  rw [cps_joinT, List.map_map]
  congr 1
  apply List.map_congr_left
  intro p _
  exact slice_drop p _
def bl : List Nat → Nat
  | [] => 0
  | [_] => 0
  | a :: b :: r => if a = 32 then bl (b :: r) + 1 else 0
theorem sp_ne (n : Nat) : (((⟨#[n]⟩ : Str) != Str.ofString " ") = true) ↔ n ≠ 32 := by
  rw [show Str.ofString " " = (⟨#[32]⟩ : Str) from by decide +kernel]
  simp
theorem stopK_bl : ∀ l : List Nat, stopK (l.map (fun n => (⟨#[n]⟩ : Str))) = bl l
  | [] => rfl
  | [_] => rfl
  | a :: b :: r => by
    have ih := stopK_bl (b :: r)
    show (if ((⟨#[a]⟩ : Str) != Str.ofString " ") = true then 0 else stopK ((b :: r).map (fun n => (⟨#[n]⟩ : Str))) + 1) = if a = 32 then bl (b :: r) + 1 else 0
    rw [ih]
    by_cases h : a = 32
    · rw [if_neg (fun e => (sp_ne a).mp e h), if_pos h]
    · rw [if_pos ((sp_ne a).mpr h), if_neg h]
theorem bl_lt : ∀ l : List Nat, l ≠ [] → bl l < l.length
  | [], h => absurd rfl h
  | [_], _ => Nat.zero_lt_one
  | a :: b :: r, _ => by
    have ih := bl_lt (b :: r) (List.cons_ne_nil _ _)
    simp only [bl]
    split
    · simp only [List.length_cons] at ih ⊢; omega
    · simp
theorem bl_all : ∀ l : List Nat, (l.take (bl l)).all (· == 32) = true
  | [] => rfl
  | [_] => rfl
  | a :: b :: r => by
    have ih := bl_all (b :: r)
    simp only [bl]
    split
    · rename_i h
      rw [List.take_succ_cons, List.all_cons, ih]; simp [h]
    · rfl
theorem bl_max : ∀ (l : List Nat) (k : Nat), k < l.length → (l.take k).all (· == 32) = true → k ≤ bl l
  | _, 0, _, _ => Nat.zero_le _
  | [], k + 1, h, _ => absurd h (Nat.not_lt_zero _)
  | [_], k + 1, h, _ => absurd h (by simp)
  | a :: b :: r, k + 1, h, ha => by
    rw [List.take_succ_cons, List.all_cons, Bool.and_eq_true] at ha
    have ih := bl_max (b :: r) k (by simpa using h) ha.2
    have e : a = 32 := by simpa using ha.1
    simp only [bl, if_pos e]
    omega
theorem bl_drop : ∀ l : List Nat, bl (l.drop (bl l)) = 0
  | [] => rfl
  | [_] => rfl
  | a :: b :: r => by
    have ih := bl_drop (b :: r)
    by_cases h : a = 32
    · simp only [bl, if_pos h, List.drop_succ_cons]; exact ih
    · simp only [bl, if_neg h, List.drop_zero]
theorem tw_drop : ∀ (m : Nat) (l : List Nat), m < (l.takeWhile (· != 10)).length → (l.drop m).takeWhile (· != 10) = (l.takeWhile (· != 10)).drop m
  | 0, _, _ => rfl
  | m + 1, [], h => absurd h (Nat.not_lt_zero _)
  | m + 1, c :: l, h => by
    rw [List.takeWhile_cons] at h ⊢
    split at h
    · rename_i hc
      rw [if_pos hc, List.drop_succ_cons, List.drop_succ_cons]
      exact tw_drop m l (by simpa using h)
    · exact absurd h (Nat.not_lt_zero _)
/-- the greatest size that fits is the width of the head's blanks -/
theorem max_is {f : Str} {M : Int} (hpos : 0 < f.length) (hM : M ∈ ((List.range f.length).filter (fun k => fitsF k f)).map (fun i : Nat => (i : Int)))
    (hmax : ∀ a ∈ ((List.range f.length).filter (fun k => fitsF k f)).map (fun i : Nat => (i : Int)), a ≤ M) : M = ((bl f.cps.toList : Nat) : Int) := by
  have hl : f.cps.toList.length = f.length := by simp [Str.length]
  have hne : f.cps.toList ≠ [] := by
    intro e
    rw [e] at hl
    simp at hl
    omega
  obtain ⟨k, hk, rfl⟩ := List.mem_map.mp hM
  have hfit := (List.mem_filter.mp hk).2
  unfold fitsF at hfit
  have h1 := of_decide_eq_true (Bool.and_eq_true_iff.mp hfit).1
  have h2 := (Bool.and_eq_true_iff.mp hfit).2
  have hle := bl_max f.cps.toList k (by omega) h2
  have hlt := bl_lt _ hne
  have hge : ((bl f.cps.toList : Nat) : Int) ≤ (k : Int) := hmax _ (List.mem_map.mpr ⟨bl f.cps.toList, List.mem_filter.mpr ⟨List.mem_range.mpr (by omega), by
    unfold fitsF
    rw [bl_all, decide_eq_true (by omega)]; rfl⟩, rfl⟩)
  omega
theorem row1_of {x : Str} (h : 0 < (x.cps.toList.takeWhile (· != 10)).length) : Row1 x := by
  obtain ⟨y, r, e, hy⟩ := head_line x
  refine ⟨y, by rw [e]; rfl, ?_⟩
  have hl : y.cps.toList.length = y.length := by simp [Str.length]
  rw [hy] at hl
  omega
theorem stop_of (x : Str) : stopK (signs ((Txt.split x (Str.ofString "\n")).headD Str.empty)) = bl (x.cps.toList.takeWhile (· != 10)) := by
  obtain ⟨y, r, e, hy⟩ := head_line x
  rw [e, ← hy]
  exact stopK_bl _
theorem dedent_self {x : Str} (h : bl (x.cps.toList.takeWhile (· != 10)) = 0) : dedentF x = x := by
  apply str_ext
  rw [dedentF_cps, stop_of, h]
  show J (List.map (fun p : Str => p.cps.toList) _) = _
  exact lines_J x
theorem plain {x f : Str} {M : Int} (hf : f.cps.toList = x.cps.toList.takeWhile (· != 10)) (hpos : 0 < f.length)
    (hM : M ∈ ((List.range f.length).filter (fun k => fitsF k f)).map (fun i : Nat => (i : Int)))
    (hmax : ∀ a ∈ ((List.range f.length).filter (fun k => fitsF k f)).map (fun i : Nat => (i : Int)), a ≤ M) :
    dedentF x = cutF x M ∧ dedentF (Txt.slice x (some M) none) = Txt.slice x (some M) none ∧ Row1 x ∧ Row1 (Txt.slice x (some M) none) := by
  have hl : f.cps.toList.length = f.length := by simp [Str.length]
  have hne : f.cps.toList ≠ [] := by
    intro e
    rw [e] at hl
    simp at hl
    omega
  have e := max_is hpos hM hmax
  have hlt := bl_lt _ hne
  subst e
  rw [hf] at hlt ⊢
  have hd : ((x.cps.toList.drop (bl (x.cps.toList.takeWhile (· != 10)))).takeWhile (· != 10)) = (x.cps.toList.takeWhile (· != 10)).drop (bl (x.cps.toList.takeWhile (· != 10))) := tw_drop _ _ hlt
  refine ⟨?_, ?_, ?_, ?_⟩
  · apply str_ext
    rw [dedentF_cps, stop_of, cutF_cps]
  · apply dedent_self
    rw [slice_drop, hd]
    exact bl_drop _
  · exact row1_of (by omega)
  · apply row1_of
    rw [slice_drop, hd, List.length_drop]
    omega
def Shape (x : Str) : Prop := ∃ mid : Str, mid.length ≤ 12 ∧ x = Str.ofString "  " ++ mid ++ Str.ofString "b\n   c"
theorem Shape.cps {x : Str} (h : Shape x) : ∃ l : List Nat, l.length ≤ 12 ∧ x.cps.toList = 32 :: 32 :: (l ++ [98, 10, 32, 32, 32, 99]) := by
  obtain ⟨mid, hm, rfl⟩ := h
  refine ⟨mid.cps.toList, by simpa [Str.length] using hm, ?_⟩
  rw [Str.cps_append, Str.cps_append, Array.toList_append, Array.toList_append, show (Str.ofString "  ").cps.toList = [32, 32] from by decide +kernel, show (Str.ofString "b\n   c").cps.toList = [98, 10, 32, 32, 32, 99] from by decide +kernel]
  simp
theorem Shape.len {x : Str} (h : Shape x) : x.length ≤ 20 ∧ 8 ≤ x.length := by
  obtain ⟨l, hl, e⟩ := h.cps
  have hx : x.cps.toList.length = x.length := by simp [Str.length]
  rw [e] at hx
  simp at hx
  omega
/-- the first row's end -/
theorem Shape.find {x : Str} (h : Shape x) : ∃ i : Nat, Txt.find x (Str.ofString "\n") = (i : Int) ∧ 2 ≤ i ∧ i < x.length ∧ x.cps.toList.take i = x.cps.toList.takeWhile (· != 10) := by
  have hlen := h.len
  obtain ⟨l, hl, e⟩ := h.cps
  have hx : x.cps.toList.length = x.length := by simp [Str.length]
  rw [nl_eq]
  have key : ∀ i, StrLaws.At x ⟨#[10]⟩ x.length i ↔ x.cps.toList[i]? = some 10 := fun i => StrLaws.subAt_one x 10 i
  rcases find_whole x ⟨#[10]⟩ with ⟨_, hno⟩ | ⟨i, hi, hat, hbefore⟩
  · exfalso
    refine hno (l.length + 3) ((key _).mpr ?_)
    rw [e, show (32 :: 32 :: (l ++ [98, 10, 32, 32, 32, 99])) = (32 :: 32 :: l) ++ [98, 10, 32, 32, 32, 99] from rfl, List.getElem?_append_right (by simp)]
    simp
  · have hi' := (key i).mp hat
    have hlt : i < x.cps.toList.length := (List.getElem?_eq_some_iff.mp hi').1
    refine ⟨i, hi, ?_, by omega, ?_⟩
    · rcases i with _ | _ | i
      · rw [e] at hi'; cases hi'
      · rw [e] at hi'; cases hi'
      · omega
    · have e2 : x.cps.toList = x.cps.toList.take i ++ 10 :: x.cps.toList.drop (i + 1) := by
        have e3 : x.cps.toList[i] = 10 := (List.getElem?_eq_some_iff.mp hi').2
        conv => lhs; rw [← List.take_append_drop i x.cps.toList, List.drop_eq_getElem_cons hlt, e3]
      have hfree : 10 ∉ x.cps.toList.take i := by
        intro hm
        obtain ⟨k, hk⟩ := List.getElem?_of_mem hm
        have hki : k < i := by
          have := (List.getElem?_eq_some_iff.mp hk).1
          simp at this
          omega
        rw [List.getElem?_take_of_lt hki] at hk
        exact hbefore k hki ((key k).mpr hk)
      conv => rhs; rw [e2]
      exact (tw_free hfree _).symm
theorem slice_take {x : Str} {i : Nat} (h : i < x.length) : (Txt.slice x none (some (i : Int))).cps.toList = x.cps.toList.take i := by
  rw [eq_of_beq (slice_closes_toL (x := x) (j := (i : Int)) (by omega) (by omega))]
  simp
/-- the first row -/
def First (x f : Str) : Prop := f.cps.toList = x.cps.toList.takeWhile (· != 10) ∧ 2 ≤ f.length ∧ f.length ≤ 20
theorem Shape.first {x : Str} (h : Shape x) : ∃ i : Nat, Txt.find x (Str.ofString "\n") = (i : Int) ∧ i ≤ 20 ∧ First x (Txt.slice x none (some (i : Int))) := by
  obtain ⟨i, hi, h2, hlt, ht⟩ := h.find
  have hlen := h.len
  refine ⟨i, hi, by omega, ?_⟩
  have hc := slice_take hlt
  have hl : (Txt.slice x none (some (i : Int))).cps.toList.length = (Txt.slice x none (some (i : Int))).length := by simp [Str.length]
  have hx : x.cps.toList.length = x.length := by simp [Str.length]
  rw [hc, List.length_take] at hl
  exact ⟨by rw [hc, ht], by omega, by omega⟩
end Mine
namespace Mine
def Ones (pre : List Int) (l : List Str) : Prop := l.length = pre.length ∧ ∀ x ∈ l, x.length = 1
theorem st_first : Ones [] [] := ⟨rfl, by simp⟩
theorem st_step {pre : List Int} {l : List Str} {n : Int} {x : Str} (h : Ones pre l) (hx : x.length = 1) : Ones (pre ++ [n]) (l ++ [x]) := by
  refine ⟨?_, ?_⟩
  · have := h.1
    simp only [List.length_append, List.length_cons, List.length_nil]; omega
  · intro y hy
    rcases List.mem_append.mp hy with hy | hy
    · exact h.2 y hy
    · rw [List.mem_singleton.mp hy]; exact hx
theorem join_mid {prog : Program} {w : World} {A : Around} {E : Value → Shared → Prop} {h₀ : Heap} {L D : Addr} {vs : List Value} {k : Nat} {rest : List (Addr × Obj)} {t : Tok} {s : Shared} {ys : List Str} {is : List Int} {Q : Value → Shared → Prop} (N : News h₀ L s.heap ((D, listOf vs.toArray k) :: rest)) (hi : StrsAre vs ys) (h1 : Ones (is.take 12) ys)
    (h : ∀ mid t' k, mid.length ≤ 12 → Q (.str mid t') { s with toks := k }) : wpAny (model prog w) A (call (.builtin "str.join") [.str (Str.ofString "") t, .ref D]) Q E s := by
  have hl : (Txt.join (Str.ofString "") ys).length ≤ 12 := by
    rw [KT.join_ones ys h1.2, h1.1, List.length_take]; omega
  have hsum : (ys.map (·.length)).sum = ys.length := by
    have : ∀ l : List Str, (∀ x ∈ l, x.length = 1) → (l.map (·.length)).sum = l.length := by
      intro l
      induction l with
      | nil => intro _; rfl
      | cons a r ih =>
        intro hh
        simp only [List.map_cons, List.sum_cons, List.length_cons]
        rw [ih (fun x hx => hh x (List.mem_cons_of_mem _ hx)), hh a (List.mem_cons_self ..)]; omega
    exact this ys h1.2
  have hn : ys.length ≤ 12 := by rw [h1.1, List.length_take]; omega
  exact join_led N hi (by decide +kernel) (by omega) fun t' k => h _ t' k hl
variable {prog : Program} {w : World} {A : Around} {E : Value → Shared → Prop} {s : Shared} {Q : Value → Shared → Prop} {h₀ : Heap} {L : Addr} {m : Str → Option Value} {news : List (Addr × Obj)}
theorem add_shape {mid : Str} {t u : Tok} (hm : mid.length ≤ 12) (h : ∀ x t' k, Shape x → x.length ≤ 20 → 8 ≤ x.length → Q (.str x t') { s with toks := k }) :
    wpAny (model prog w) A (binaryOp .Add (.str (Str.ofString "  " ++ mid) t) (.str (Str.ofString "b\n   c") u)) Q E s := by
  have hs : Shape (Str.ofString "  " ++ mid ++ Str.ofString "b\n   c") := ⟨mid, hm, rfl⟩
  refine SBL.add (fun t' k _ => h _ t' k hs hs.len.1 hs.len.2) ?_
  rw [Str.length_append, sizeLine_eq, show (Str.ofString "  ").length = 2 from by decide +kernel, show (Str.ofString "b\n   c").length = 6 from by decide +kernel]
  omega
theorem index_shape {x : Str} {t u : Tok} (hA : A.handled = none) (hs : Shape x) (h : ∀ i : Nat, i ≤ 20 → First x (Txt.slice x none (some (i : Int))) → Q (.int (i : Int) s.toks) { s with toks := s.toks + 1 }) :
    wpAny (model prog w) A (call (.builtin "str.index") [.str x t, .str (Str.ofString "\n") u]) Q E s := by
  obtain ⟨i, hi, h20, hf⟩ := hs.first
  refine index_or hA (fun e => ?_) (fun _ _ => ?_)
  · rw [hi] at e
    exact absurd e (by omega)
  · rw [hi]
    exact h i h20 hf
theorem slice_first {value slice : Expr} {x : Str} {t uj : Tok} {i : Nat} (hF : Fr h₀ L s.heap m) (hN : News h₀ L s.heap news) (hf : First x (Txt.slice x none (some (i : Int)))) (hsz : x.length ≤ 20)
    (h : ∀ f h' t' k, First x f → 2 ≤ f.length → f.length ≤ 20 → Fr h₀ L h' m → News h₀ L h' news → Q (.str f t') { s with heap := h', toks := k })
    (hs : subscripted slice false (.str x t) (.ref s.heap.objs.size) = operate [.ref s.heap.objs.size, .str x t] (getItem (.str x t) (.ref s.heap.objs.size)) := by with_unfolding_all rfl)
    (ht : ∀ r, letTemporaryGo value (.str x t) r = pure () := by intro _; with_unfolding_all rfl) :
    wpAny (model prog w) A (subscriptTail value slice (.str x t) (.ref s.heap.objs.size)) Q E { s with heap := s.heap.push { cls := .type "slice", data := .fields #[.none, .int (i : Int) uj, .none] } } :=
  slice_strN_ns hF hN (fun h' t' k F' N' => h _ h' t' k hf hf.2.1 hf.2.2 F' N') hs ht (by rw [sizeLine_eq]; omega)
theorem max_first {x f : Str} {D : Addr} {vs : List Value} {rest : List (Addr × Obj)} (hA : A.handled = none) (F : Fr h₀ L s.heap m) (N : News h₀ L s.heap ((D, LCg.lst vs) :: rest)) (hf : First x f)
    (hi : IntsAre vs (((List.range f.length).filter (fun k => fitsF k f)).map (fun i : Nat => (i : Int))))
    (h : ∀ (k : Nat) h' t tk, k ≤ 20 → (dedentF x == cutF x (k : Int)) = true → (dedentF (Txt.slice x (some (k : Int)) none) == Txt.slice x (some (k : Int)) none) = true → Row1 x → Row1 (Txt.slice x (some (k : Int)) none) → Fr h₀ L h' m → News h₀ L h' ((D, LCg.lst vs) :: rest) → Q (.int (k : Int) t) { s with heap := h', toks := tk }) :
    wpAny (model prog w) A (call (.builtin "max") [.ref D]) Q E s := by
  obtain ⟨hf1, hf2, hf3⟩ := hf
  have hpos : 0 < f.length := by omega
  have h0 : (0 : Int) ∈ ((List.range f.length).filter (fun k => fitsF k f)).map (fun i : Nat => (i : Int)) :=
    List.mem_map.mpr ⟨0, List.mem_filter.mpr ⟨List.mem_range.mpr hpos, by unfold fitsF; rw [decide_eq_true hpos]; rfl⟩, rfl⟩
  refine kso_max F N (vs := vs) ⟨_, (N _ (.head _)).1, rfl, _, rfl⟩ hi (List.length_pos_of_mem h0) hA fun h' M t tk F' N' hM hmax => ?_
  have hb := max_is hpos hM hmax
  obtain ⟨p1, p2, p3, p4⟩ := plain hf1 hpos hM hmax
  have hl : f.cps.toList.length = f.length := by simp [Str.length]
  have hlt := bl_lt f.cps.toList (by intro e; rw [e] at hl; simp at hl; omega)
  rw [hb] at p1 p2 p4 ⊢
  exact h (bl f.cps.toList) h' t tk (by omega) (by rw [p1]; exact beq_self_eq_true _) (by rw [p2]; exact beq_self_eq_true _) p3 p4 F' N'
theorem rangeSize_len (k : Nat) : Builtin.Range.rangeSize 0 (k : Int) 1 = ((k : Nat) : Int) := by
  rw [rangeSize_nat]; omega
theorem compRange_first {prog : Program} {w : World} {A : Around} {env : Env} {h₀ : Heap} {L : Addr} {m : Str → Option Value} {ct : Expr} {x : Str} {px : Pos} {scope : Scope} {cl : List (Str × Addr)} {s : Shared} {n : Nat} {news : List (Addr × Obj)} {Fin : List Value → List (Addr × Obj) → Prop} {x0 f0 : Str} (_hf : First x0 f0)
    (hk : (compEnvC scope cl 0 env).scope.kind = .function) (hx : (compEnvC scope cl 0 env).kindOf x = some .local) (hb : (x == ("__debug__" : Str)) = false)
    (turn : ∀ (i : Nat) t ys I oI C oC D m₂ h tk (E' : Value → Shared → Prop), i < n → LCg.NsObj oC m₂ → m₂ x = some (.int (i : Int) t) → Fr h₀ L h m → News h₀ L h ((I, oI) :: (C, oC) :: (D, LCg.lst ys) :: news) → LCg.Off3 I C D news → ((@Ne Nat I C) ∧ (@Ne Nat I D) ∧ (@Ne Nat C D)) →
      wpAny (model prog w) A (isTrue ct (compEnvC scope cl C env) (eval ct (compEnvC scope cl C env))) (TurnEnd h₀ L m ((I, oI) :: (C, oC) :: (D, LCg.lst ys) :: news) s (fitsF i f0)) E' { s with heap := h, toks := tk })
    (fin : ∀ ys, IntsAre ys (((List.range n).filter (fun k => fitsF k f0)).map (fun i : Nat => (i : Int))) → Fin ys news) :
    LCt.CompRestT prog w A h₀ L m env ct (.Name x px) x scope cl s (fun _ => True) (fun i v => ∃ t, v = .int (0 + (i : Int)) t) Fin n 0 [] news := compRange_all (fun k => fitsF k f0) hk hx hb turn fin
theorem glob_cps (k : Nat) : (Txt.mul (Str.ofString " ") (k : Int) ++ Str.ofString "?*").cps.toList = List.replicate k 32 ++ [63, 42] := by
  rw [Str.cps_append, Array.toList_append, show Str.ofString " " = (⟨#[32]⟩ : Str) from by decide +kernel, mul_one_list, Int.toNat_natCast, show (Str.ofString "?*").cps.toList = [63, 42] from by decide +kernel]
theorem fits_callG {w : World} {p : Program} {loose : List Str} {mean : ExcName → Option Value} {mg mb : Str → Option Value} (news : List (Addr × Obj)) (k : Nat) (name : Str) (tg tn : Tok) :
    Clm w p loose mean mg mb 74 3 news (k ≤ 100 ∧ name.length ≤ 100) [.str (Txt.mul (Str.ofString " ") (k : Int) ++ Str.ofString "?*") tg, .str name tn] (fun _ => .bool (fitsF k name)) :=
  fun dp un gd cn cs a ccd cl outer A₀ base h₀ L m s Q E B F X N T hk hp hd hu hr => fits_call news k _ name tg tn dp un gd cn cs a ccd cl outer A₀ base h₀ L m s Q E B F X N T hk ⟨hp.1, hp.2, glob_cps k⟩ hd hu hr
theorem st_first' : ([] : List Str).length = ([] : List Int).length ∧ Ones [] [] := ⟨rfl, st_first⟩
theorem st_step' {pre : List Int} {l : List Str} {n : Int} {x : Str} (h : Ones pre l) (hx : x.length = 1) : (l ++ [x]).length = (pre ++ [n]).length ∧ Ones (pre ++ [n]) (l ++ [x]) := ⟨(st_step (n := n) h hx).1, st_step h hx⟩
local macro_rules | `(tactic| walk_at $s:str) => `(tactic| k_extra $s)
set_option pp.deepTerms false in
set_option pp.deepTerms.threshold 10 in
set_option maxRecDepth 100000 in
set_option maxHeartbeats 4000000 in
theorem law_walk : PySem.Challenge.rw_rx0030_01.Holds := hd (by w_strict (
  k_with_none
  k_with "call builtin:str.join" => (k_here; (rename News _ _ _ _ => N'); (with_unfolding_all refine' join_mid N' (by assumption) (by assumption) ?_); intro mid' t' k' hmid')
  k_with "binaryOp Add str str" => (k_here; (with_reducible refine' add_shape ?hm ?_); (case hm => assumption); intro x' t' k' hS' hS1' hS2')
  k_with "call builtin:str.index" => (k_here; (with_unfolding_all refine' index_shape ?hA ?hS ?_); (case hA => rfl); (case hS => assumption); intro i' hi' hf')
  k_with "subscriptTail Name Slice str ref" => ((with_reducible show wpAny _ _ (subscriptTail _ (Expr.Slice none (some _) none _) _ _) _ _ _); (with_reducible rename Fr _ _ _ _ => F'); (with_reducible rename News _ _ _ _ => N'); (refine slice_first (s := ⟨_, _, _, _, _⟩) F' N' (by assumption) (by assumption) ?_); intro f' h' t' k' hf' hf1' hf2' F' N')
  k_with "call builtin:max" => (k_here; (rename Fr _ _ _ _ => F'); (rename News _ _ _ _ => N'); (with_unfolding_all refine' max_first ?hA F' N' ?hf ?hi ?_); (case hA => rfl); (case hf => assumption); (case hi => assumption); intro k' h' t' tk' hk' hq1' hq2' hq3' hq4' F' N')
  k_with "compareOp Eq str str" => (k_here; (refine eq_strT (by assumption) ?_))
  k_with "TurnEnd" => (k_here; k_dflt (refine' turnEnd_intro ?qte ?qtF ?qtN ?qts); (case qtF => k_asm); (case qtN => k_asm); (case qts => first | exact fun p hp => hp | exact fun p hp => List.mem_cons_of_mem _ hp); (case qte => first | exact ge_T (by assumption) | exact ge_F (by assumption) | exact ne_F (by assumption) | exact rfl))
  k_with "eval ListComp" => (k_here; (with_reducible show wpAny _ _ (eval (Expr.ListComp (Expr.Name _ _) [Comprehension.mk _ (Expr.Call _ _ _ _) _ _] _ _) _) _ _ _); k_dflt (refine LCt.ListComp_T (F₀ := by k_asm) (by with_unfolding_all rfl) (by decide) (by rfl) (by decide) (by rfl) ?_); k_dflt lct_toSrc)
  k_with "CompSrcT" => (k_here; (rename First _ _ => hF1'); (rename IsRange _ _ _ _ _ _ _ _ => rgX); k_dflt (refine LCt.CompSrcT.range  (by rfl) (by k_asm) (by k_asm) (by first | exact rgX | assumption) (by exact small_one (by omega) (by omega) (by omega) (by omega)) (by exact rangeSize_len _) (by rw [PySem.sizeLine_eq]; omega) ?_); intro g'; (refine compRange_first hF1' rfl rfl rfl ?_ ?_); (case' refine_1 => intro k' t' ys' I' oI' C' oC' D' m' h' tk' E' hhi' hC' hx' F' N' off' ne'; simp only [LCg.Off3, and_true] at off'); (case' refine_2 => intro ys' hI'))
  k_with "call ref" => (k_here; k_dflt (refine' Clm.use (dedent_call _ _ _) ?qyB ?qyF ?qyX ?qyN ?qyT ?qyk ?qyp ?qyd ?qyu ?_); (case qyB => k_asm); (case qyF => k_asm); (case qyX => k_asm); (case qyN => k_asm); (case qyT => k_asm); (case qyk => first | exact rfl | assumption); (case qyp => refine ⟨?_, by assumption⟩; first | omega | exact Nat.le_trans (Txt.slice_le _ _ _) (by omega)); (case qyd => ktr_room); (case qyu => ktr_units); intro t' h' tk' F' N')
  k_with "call ref" => (k_here; k_dflt (refine' Clm.use (dedent_call _ _ _) ?qzB ?qzF ?qzX ?qzN ?qzT ?qzk ?qzp ?qzd ?qzu ?_); (case qzB => k_asm); (case qzF => k_asm); (case qzX => k_asm); (case qzN => k_asm); (case qzT => k_asm); (case qzk => first | exact rfl | assumption); (case qzp => refine ⟨?_, by assumption⟩; first | omega | exact Nat.le_trans (Txt.slice_le _ _ _) (by omega)); (case qzd => ktr_room); (case qzu => ktr_units); intro t' h' tk' F' N')
  k_with "call ref" => (k_here; k_dflt (refine' Clm.use (cut_call _ _ _ _ _) ?qxB ?qxF ?qxX ?qxN ?qxT ?qxk ?qxp ?qxd ?qxu ?_); (case qxB => k_asm); (case qxF => k_asm); (case qxX => k_asm); (case qxN => k_asm); (case qxT => k_asm); (case qxk => first | exact rfl | assumption); (case qxp => omega); (case qxd => ktr_room); (case qxu => ktr_units); intro t' h' tk' F' N')
  k_with "call type:range" => ((rename Fr _ _ _ _ => F'); (rename News _ _ _ _ => N'); (with_unfolding_all refine range1_rows F' N' ?_; intro _ _ _ _ _ _ _ _ _))
  k_with "call ref" => ((with_reducible show wpAny _ _ (call (Value.ref 74) _) _ _ _); k_here; k_dflt (refine' Clm.use (fits_callG _ _ _ _ _) ?qwB ?qwF ?qwX ?qwN ?qwT ?qwk ?qwp ?qwd ?qwu ?_); (case qwB => k_asm); (case qwF => k_asm); (case qwX => k_asm); (case qwN => k_asm); (case qwT => k_asm); (case qwk => first | exact rfl | assumption); (case qwp => constructor <;> omega); (case qwd => ktr_room); (case qwu => ktr_units); intro t' h' tk' F' N')
  k_with "pyIter ref" => k_state (fun pre signs => signs.length = pre.length ∧ Ones pre signs) "signs$"
  k_with "state" => first | exact st_first' | exact st_step' (by assumption) rfl
  k_go0
  (all_goals try k_fold)
  k_steps
  all_goals w_report))
end Mine
theorem PySem.Challenge.cw_rx0030_01_holds : PySem.Challenge.rw_rx0030_01.Holds :=
  Mine.law_walk
