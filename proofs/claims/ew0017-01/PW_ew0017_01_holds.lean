import PyProof.Rows.All
import Wide.All
import OpenK.AllK
import Wide.FinOn
import Lean
import PySem.Challenge.RW_ew0017_01
set_option Elab.async false
set_option rowWalk.seconds 0
section
open PySem PySem.W PyProof.Rows
namespace Mine
set_option maxRecDepth 100000 in
set_option maxHeartbeats 8000000 in
open_top hd for PySem.Challenge.rw_ew0017_01
end Mine
end
section
open PySem PySem.W PyProof.Rows
namespace Mine
abbrev fm (l : List (Str × Value)) : Str → Option Value := fun y => l.lookup y
/-- a frame's names, as nested ifs -/
def fmi : List (Str × Value) → Str → Option Value
  | [], _ => none
  | (k, v) :: r, y => if y = k then some v else fmi r y
theorem fm_fmi : ∀ l : List (Str × Value), (fun y => l.lookup y) = fmi l
  | [] => rfl
  | (k, v) :: r => by
    funext y
    have ih := congrFun (fm_fmi r) y
    simp only [List.lookup_cons, fmi]
    by_cases h : y = k
    · subst h; simp
    · have hb : (y == k) = false := by simpa using h
      rw [hb, if_neg h]
      exact ih
theorem fmi_miss {y : Str} : ∀ {l : List (Str × Value)}, (∀ p ∈ l, y ≠ p.1) → fmi l y = none
  | [], _ => rfl
  | (k, v) :: r, h => by
    show (if y = k then some v else fmi r y) = none
    rw [if_neg (h _ (.head _)), fmi_miss fun p hp => h p (.tail _ hp)]
/-- two writings of one frame -/
theorem fmi_same {l₁ l₂ : List (Str × Value)} (keys : List Str) (h : ∀ k ∈ keys, fmi l₁ k = fmi l₂ k) (h₁ : ∀ p ∈ l₁, p.1 ∈ keys) (h₂ : ∀ p ∈ l₂, p.1 ∈ keys) : fmi l₁ = fmi l₂ := by
  funext y
  by_cases hy : y ∈ keys
  · exact h y hy
  · rw [fmi_miss (l := l₁) fun p hp e => hy (by rw [e]; exact h₁ p hp), fmi_miss (l := l₂) fun p hp e => hy (by rw [e]; exact h₂ p hp)]
def KeysOk (l₁ l₂ : List (Str × Value)) : List Str → Prop
  | [] => True
  | k :: r => fmi l₁ k = fmi l₂ k ∧ KeysOk l₁ l₂ r
theorem KeysOk.all {l₁ l₂ : List (Str × Value)} : ∀ {keys : List Str}, KeysOk l₁ l₂ keys → ∀ k ∈ keys, fmi l₁ k = fmi l₂ k
  | _ :: _, h, _, .head _ => h.1
  | _ :: _, h, _, .tail _ hk => KeysOk.all h.2 _ hk
theorem frNorm {g h : Heap} {L : Addr} {l₁ l₂ : List (Str × Value)} (F : Fr g L h (fmi l₁)) (keys : List Str) (hk : KeysOk l₁ l₂ keys)
    (h₁ : (l₁.all fun p => keys.contains p.1) = true) (h₂ : (l₂.all fun p => keys.contains p.1) = true) : Fr g L h (fmi l₂) := by
  have e : fmi l₁ = fmi l₂ := fmi_same keys hk.all (fun p hp => by simpa using List.all_eq_true.mp h₁ p hp) (fun p hp => by simpa using List.all_eq_true.mp h₂ p hp)
  rw [← e]
  exact F
theorem frNormI {g h : Heap} {L : Addr} {l₁ l₂ inn : List (Str × Value)} (F : Fr g L h (fmi (l₁ ++ inn))) (keys : List Str) (hk : KeysOk (l₁ ++ inn) l₂ keys)
    (h₁ : (l₁.all fun p => keys.contains p.1) = true) (hi : ∀ p ∈ inn, p.1 ∈ keys) (h₂ : (l₂.all fun p => keys.contains p.1) = true) : Fr g L h (fmi l₂) := by
  have e : fmi (l₁ ++ inn) = fmi l₂ := fmi_same keys hk.all (fun p hp => by
    rcases List.mem_append.mp hp with hp | hp
    · simpa using List.all_eq_true.mp h₁ p hp
    · exact hi p hp) (fun p hp => by simpa using List.all_eq_true.mp h₂ p hp)
  rw [← e]
  exact F
/-- the sign at a place, as the walk names it -/
theorem sign_at {x : Str} {i : Nat} (h : (i : Int) < x.length) : ∃ c, x.cps[i]? = some c ∧ Txt.item x (i : Int) = ⟨#[c]⟩ := by
  have h' : i < x.cps.size := by
    have := Int.ofNat_lt.mp h
    exact this
  refine ⟨x.cps[i], by simp [h'], item_meets (Int.natCast_nonneg i) ?_⟩
  simp [h']
theorem item_is {x : Str} {i c : Nat} (h : x.cps[i]? = some c) : Txt.item x (i : Int) = ⟨#[c]⟩ := item_meets (Int.natCast_nonneg i) (by simpa using h)
theorem slice_is {x : Str} {i c : Nat} (h : x.cps[i]? = some c) : Txt.slice x (some (i : Int)) (some ((i : Int) + 1)) = ⟨#[c]⟩ := by
  have hl : i < x.cps.size := by
    by_cases hl : i < x.cps.size
    · exact hl
    · rw [Array.getElem?_eq_none (by omega)] at h; cases h
  have e := eq_of_beq (slice_closesL (x := x) (i := (i : Int)) (j := (i : Int) + 1) (Int.natCast_nonneg i) (by omega) (by
    show (i : Int) + 1 ≤ (x.cps.size : Int)
    omega))
  rw [e]
  have e1 : ((i : Int) + 1 - (i : Int)).toNat = 1 := by omega
  have e2 : (i : Int).toNat = i := by omega
  rw [e1, e2]
  have hg : x.cps.toList[i]? = some c := by simpa using h
  have hd : x.cps.toList.drop i = c :: x.cps.toList.drop (i + 1) := by
    rw [List.drop_eq_getElem_cons (by simpa using hl)]
    congr 1
    rw [List.getElem?_eq_getElem (by simpa using hl)] at hg
    exact Option.some.inj hg
  rw [hd]
  rfl
theorem of_drop {x : Str} {i c : Nat} {r : List Nat} (h : x.cps.toList.drop i = c :: r) : x.cps[i]? = some c ∧ i < x.length ∧ x.cps.toList.drop (i + 1) = r := by
  have hl : i < x.cps.toList.length := by
    by_cases hl : i < x.cps.toList.length
    · exact hl
    · rw [List.drop_eq_nil_of_le (by omega)] at h; cases h
  rw [List.drop_eq_getElem_cons hl] at h
  injection h with h1 h2
  refine ⟨?_, by simpa [Str.length] using hl, h2⟩
  rw [← Array.getElem?_toList, List.getElem?_eq_getElem hl, h1]
theorem in_written {lit : Str} {l : List Nat} (e : lit.cps.toList = l) (c : Nat) : (Builtin.Str.occurrences lit ⟨#[c]⟩ 0 lit.length 1).isEmpty = !decide (c ∈ l) := by
  have := StrLaws.found_one lit c
  rw [e] at this
  rw [← this, Bool.not_not]
theorem one_beq (a b : Nat) : ((⟨#[a]⟩ : Str) == ⟨#[b]⟩) = decide (a = b) := by
  by_cases h : a = b
  · subst h; simp
  · have hb : ((⟨#[a]⟩ : Str) == ⟨#[b]⟩) = false := by
      refine beq_false_of_ne fun e => h ?_
      have := congrArg (fun s : Str => s.cps.toList) e
      simpa using this
    rw [hb]; simp [h]
/-- a state that stands as the loop's, its frame and its ledger as J says -/
def Back (g : Heap) (L : Addr) (s : Shared) (J : (Str → Option Value) → List (Addr × Obj) → Prop) (s' : Shared) : Prop :=
  ∃ h' tk' m' nx, s' = { s with heap := h', toks := tk' } ∧ Fr g L h' m' ∧ News g L h' nx ∧ J m' nx
theorem Back.intro {g : Heap} {L : Addr} {s : Shared} {J : (Str → Option Value) → List (Addr × Obj) → Prop} {h' : Heap} {tk' : Nat} {m' : Str → Option Value} {nx : List (Addr × Obj)}
    (F : Fr g L h' m') (N : News g L h' nx) (j : J m' nx) : Back g L s J { s with heap := h', toks := tk' } := ⟨h', tk', m', nx, rfl, F, N, j⟩
def BackF (g : Heap) (L : Addr) (s : Shared) (J P : (Str → Option Value) → List (Addr × Obj) → Prop) (Q : Flow → Shared → Prop) (f : Flow) (s' : Shared) : Prop :=
  match f with
  | .next | .cont => Back g L s J s'
  | .brk => Back g L s P s'
  | .ret v => Q (.ret v) s'
section
variable {prog : Program} {w : World} {A : Around} {E : Value → Shared → Prop} {Q : Flow → Shared → Prop} {s : Shared} {env : Env} {h₀ : Heap} {L : Addr}
theorem while_to {test : Expr} {body : List Stmt} {pos : Pos} {m : Str → Option Value} {news : List (Addr × Obj)} (J : Nat → (Str → Option Value) → List (Addr × Obj) → Prop) (P : (Str → Option Value) → List (Addr × Obj) → Prop) {n₀ : Nat}
    (F : Fr h₀ L s.heap m) (N : News h₀ L s.heap news) (hJ : J n₀ m news)
    (turn : ∀ n m₁ nx h₁ tk₁, Fr h₀ L h₁ m₁ → News h₀ L h₁ nx → J n m₁ nx →
      wpAny (model prog w) A (isTrue test env (eval test env)) (fun b s₂ =>
        if b = true then wpAny (model prog w) A (execs body env) (BackF h₀ L s (fun m' nx' => ∃ n', n' < n ∧ J n' m' nx') P Q) E s₂ else Back h₀ L s P s₂) E { s with heap := h₁, toks := tk₁ })
    (done : ∀ m₁ nx h₁ tk₁, Fr h₀ L h₁ m₁ → News h₀ L h₁ nx → P m₁ nx → Q .next { s with heap := h₁, toks := tk₁ })
    (hE : PassesOwn (model prog w) A env E) :
    wpAny (model prog w) A (exec (.While test body [] pos) env) Q E s := by
  refine While_inv2 J F N hJ (fun n m₁ nx h₁ tk₁ F₁ N₁ j => ?_) hE
  refine wpAny_mono (turn n m₁ nx h₁ tk₁ F₁ N₁ j) (fun b s₂ p => ?_) fun _ _ x => x
  have out : ∀ s₂, Back h₀ L s P s₂ → Q .next s₂ := by
    rintro s₂ ⟨h', tk', m', nx', rfl, F', N', p'⟩
    exact done m' nx' h' tk' F' N' p'
  cases b with
  | false =>
    simp only [Bool.false_eq_true, if_false] at p ⊢
    exact out _ p
  | true =>
    simp only [if_true] at p ⊢
    refine wpAny_mono p (fun f s₃ q => ?_) fun _ _ x => x
    have back : Back h₀ L s (fun m' nx' => ∃ n', n' < n ∧ J n' m' nx') s₃ → WhileStep2 h₀ L s J Q n .next s₃ := by
      rintro ⟨h', tk', m', nx', e, F', N', n', hn, j'⟩
      exact ⟨h', tk', m', nx', n', e, F', N', hn, j'⟩
    cases f with
    | next => exact back q
    | cont => exact back q
    | brk => exact out _ q
    | ret v => exact q
end
theorem my_len {prog : Program} {w : World} {A : Around} {E : Value → Shared → Prop} {s : Shared} {l : Addr} {items : Array Value} {Q : Value → Shared → Prop} (hl : s.heap.IsList l items) (hz : items.size ≤ 1048576)
    (h : ∀ t k, Q (.int (items.size : Int) t) { s with toks := k }) : wpAny (model prog w) A (call (.builtin "len") [.ref l]) Q E s :=
  len_list hl (by omega) (h _ _)
def one (c : Nat) : Str := ⟨#[c]⟩
theorem cat_toList (a b : Str) : (a ++ b).cps.toList = a.cps.toList ++ b.cps.toList := by rw [Str.cps_append, Array.toList_append]
theorem str_ext {a b : Str} (h : a.cps.toList = b.cps.toList) : a = b := Str.ext' (Array.toList_inj.mp h)
theorem join_empty : ∀ l : List Str, (Str.join (Str.ofString "") l).cps.toList = l.flatMap fun x => x.cps.toList
  | [] => rfl
  | [x] => by simp [Str.join]
  | x :: y :: r => by
    have ih := join_empty (y :: r)
    have z : (Str.ofString "").cps.toList = [] := by decide
    show (x ++ Str.ofString "" ++ Str.join (Str.ofString "") (y :: r)).cps.toList = _
    rw [cat_toList, cat_toList, z, List.append_nil, ih]; rfl
theorem join_signs (w : List Nat) : Txt.join (Str.ofString "") (w.map one) = ⟨w.toArray⟩ := by
  refine str_ext ?_
  show (Builtin.Str.glued (Str.ofString "") (w.map one)).cps.toList = _
  rw [StrLaws.glued_eq_join, join_empty]
  induction w with
  | nil => rfl
  | cons c r ih => rw [List.map_cons, List.flatMap_cons, ih]; rfl
theorem pick_all (items : List Value) (n : Nat) (hn : items.length = n) : slicePick items.toArray none (some (n : Int)) none = items.toArray := by
  have e : sliceBounds none (some (n : Int)) none items.toArray.size = (((0 : Nat) : Int), ((n : Nat) : Int), 1) := by
    have h1 : ¬ ((n : Int) < 0) := by omega
    simp only [sliceBounds, Option.getD_none, show (1 : Int) > 0 by decide, if_true, if_neg h1, List.size_toArray, hn]
    congr 1
    congr 1
    omega
  rw [kmk_pick_nat _ e]
  show ((items.drop 0).take (n - 0)).toArray = _
  rw [List.drop_zero, Nat.sub_zero, ← hn, List.take_length]
theorem sum_ones (w : List Nat) : ((w.map one).map (·.length)).sum = w.length := by
  induction w with
  | nil => rfl
  | cons c r ih => simp only [List.map_cons, List.sum_cons, List.length_cons, ih]; show 1 + _ = _; omega
def gl : List Str := ["kind_of", "bool_out", "bytes_out", "int_out", "null_out", "range_out", "string_out", "array_string_escape", "array_out", "composite_out", "PY_TYPES", "make_param", "make_params", "_law_blanks", "_law_element", "_law_list", "_law_signs", "_law_text", "_law_worth", "_law_shaped", "_law_sizes", "_law_flat", "_law_same", "law"]
set_option maxRecDepth 100000 in
theorem gl_all : (((looseW Mine.hd.view_39 ["PY_TYPES"]) ++ (recsOf Mine.hd.view_39).map (·.name) ++ (litsOf Mine.hd.view_39).map (·.1) ++ (clssOf Mine.hd.view_39 (looseW Mine.hd.view_39 ["PY_TYPES"])).map (·.name)).all fun x => gl.contains x) = true := by decide +kernel
set_option maxRecDepth 100000 in
theorem gl_top {mean : ExcName → Option Value} {mg mb : Str → Option Value} {h : Heap} (T : Top topProg ((looseW Mine.hd.view_39 ["PY_TYPES"]) ++ (recsOf Mine.hd.view_39).map (·.name) ++ (litsOf Mine.hd.view_39).map (·.1) ++ (clssOf Mine.hd.view_39 (looseW Mine.hd.view_39 ["PY_TYPES"])).map (·.name)) mean mg mb h) : Top topProg gl mean mg mb h where
  g := T.g
  b := T.b
  nolimit := T.nolimit
  nodigits := T.nodigits
  fn := T.fn
  own := T.own
  const := T.const
  free := fun x h1 h2 h3 h4 h5 => T.free x h1 (fun q => h2 (by have := List.all_eq_true.mp gl_all x q; simpa using this)) h3 h4 h5
  builtins := T.builtins
  tab := T.tab
  bmain := T.bmain
  seer := T.seer
/-- what a call of the text's own def does, in any frame of the text's: it hands Out's value and objects, and turns nothing -/
def Tel (w : World) (mean : ExcName → Option Value) (mg mb : Str → Option Value) (f : Addr) (need : Nat) (vs : List Value) (news : List (Addr × Obj)) (Out : List (Addr × Obj) → Value → Prop) : Prop :=
  ∀ (dp un : Nat) (gd : Option (List Code)) (cn : Str) (cs : Scope) (a : Addr) (ccd : Value) (cl : List (Str × Addr)) (outer : List Env) (A₀ : Around) (base h₀ : Heap) (L : Addr) (m : Str → Option Value) (s : Shared)
    (Q E : Value → Shared → Prop),
    Below A₀ base outer h₀ → Fr h₀ L s.heap m → (Mine.hd.heap_39 w.params).In h₀ → News h₀ L s.heap news → Top topProg gl mean mg mb h₀ → cs.kind = .function → dp + need < recursionLimit → un + 8 * need < cLine →
    (∀ r tl h' tk', Fr h₀ L h' m → News h₀ L h' (news ++ tl) → (∀ b o, s.heap.get? b = some o → h'.get? b = some o) → (∀ q ∈ news, ∀ p ∈ tl, q.1 < p.1) → Out tl r → Q r { s with heap := h', toks := tk' }) →
    wpAny (model PySem.Challenge.rw_ew0017_01.row.prog w) (ktrTop dp un gd cn cs L a ccd cl outer) (call (.ref f) vs) Q E s
theorem Tel.use {w : World} {mean : ExcName → Option Value} {mg mb : Str → Option Value} {f : Addr} {need : Nat} {vs : List Value} {news : List (Addr × Obj)} {Out : List (Addr × Obj) → Value → Prop} (C : Tel w mean mg mb f need vs news Out)
    {dp un : Nat} {gd : Option (List Code)} {cn : Str} {cs : Scope} {a : Addr} {ccd : Value} {cl : List (Str × Addr)} {outer : List Env} {A₀ : Around} {base h₀ : Heap} {L : Addr} {m : Str → Option Value} {s : Shared} {Q E : Value → Shared → Prop}
    (B : Below A₀ base outer h₀) (F : Fr h₀ L s.heap m) (X : (Mine.hd.heap_39 w.params).In h₀) (N : News h₀ L s.heap news) (T : Top topProg gl mean mg mb h₀) (hk : cs.kind = .function) (hd : dp + need < recursionLimit) (hu : un + 8 * need < cLine)
    (ret : ∀ r tl h' tk', Fr h₀ L h' m → News h₀ L h' (news ++ tl) → (∀ b o, s.heap.get? b = some o → h'.get? b = some o) → (∀ q ∈ news, ∀ p ∈ tl, q.1 < p.1) → Out tl r → Q r { s with heap := h', toks := tk' }) :
    wpAny (model PySem.Challenge.rw_ew0017_01.row.prog w) (ktrTop dp un gd cn cs L a ccd cl outer) (call (.ref f) vs) Q E s := C _ _ _ _ _ _ _ _ _ _ _ _ _ _ _ _ _ B F X N T hk hd hu ret
theorem stays_end {s : Shared} {h₀ g h9 : Heap} {L L1 : Addr} {m8 : Str → Option Value} {news nx : List (Addr × Obj)} (G : GSub s.heap g (news.map (·.1))) (N : News h₀ L s.heap news) (F8 : Fr g L1 h9 m8) (N8 : News g L1 h9 nx) (sub : ∀ p ∈ news, p ∈ nx) :
    ∀ b o, s.heap.get? b = some o → h9.get? b = some o := elt_after (InElt.start _) G N F8 N8 sub
/-- a goal that the walk leaves alone -/
def Held (P : Prop) : Prop := P
theorem Held.out {P : Prop} (h : Held P) : P := h
theorem Held.into {P : Prop} (h : P) : Held P := h
end Mine
end
section
open PySem PySem.W PyProof.Rows
namespace Mine
def blankCodes : List Nat := [32, 9, 10, 13, 11, 12]
theorem blanks_lit : (Str.ofString " \t\n\x0d\x0b\x0c").cps.toList = blankCodes := by decide +kernel
local macro_rules | `(tactic| walk_at "my enter") => `(tactic| (refine' code_defG ?k1 ?k2 ?k3 ?k4 ?k5 ?kA ?kF ?kK ?k6 ?k7 ?k8 ?k9 ?kB ?_ ?c2 ?c3 ?c4 ?c5; (case kA => exact rfl); (case kF => exact rfl); (case kK => assumption); (case k1 => k_asm); (case k2 => k_asm); (case k3 => k_asm); (case k4 => k_asm); (case k5 => k_asm); (case k6 => k_is); (case k7 => k_is); (case k8 => ktr_room); (case k9 => exact BindsTo.of_eq rfl); (case c5 => decide); (case kB => exact locs rfl); (case c2 => exact rfl); (case c3 => exact rfl); (case c4 => exact rfl); k_whole; intro g' L' h' FG' F' N' B' X' T' G'; (try dsimp only); (try k_fold)))
set_option maxRecDepth 100000 in
set_option maxHeartbeats 8000000 in
theorem blanks_spec {w : World} {mean : ExcName → Option Value} {mg mb : Str → Option Value} {text : Str} {k : Int} {t1 t2 : Tok} {news : List (Addr × Obj)} (hlen : text.length ≤ 1048576) (h0 : 0 ≤ k) (hnb : ∀ x, text.cps[k.toNat]? = some x → x ∉ blankCodes) :
    Tel w mean mg mb 100 1 [.str text t1, .int k t2] news (fun tl r => tl = [] ∧ ∃ t, r = .int k t) := by
  obtain ⟨i, rfl⟩ := Int.eq_ofNat_of_zero_le h0
  replace hnb : ∀ x, text.cps[i]? = some x → x ∉ blankCodes := by simpa using hnb
  clear h0
  unfold Tel
  k_fill
  k_with_none
  w_top off
  intro dp un gd cn cs a ccd cl outer A₀ base h₀ L m s Q E B F X N T hk hd hu hret
  refine wpAny_call ?_
  k_dflt (walk_at "my enter")
  rename_i g L1 h1 FG F1 N1 B1 X1 T1 G1
  replace F1 : Fr g L1 h1 (fm [("at", Value.int (i : Int) t2), ("text", Value.str text t1)]) := F1
  walk1
  with_unfolding_all refine' While_inv2 (n₀ := 0) (fun n m' nx => m' = (fm [("at", Value.int (i : Int) t2), ("text", Value.str text t1)]) ∧ nx = news) ?kf ?kn ?kj ?kt ?ke
  case kf => exact F1
  case kn => exact N1
  case kj => exact ⟨rfl, rfl⟩
  case ke => passes_own
  case kt =>
    rintro n m₁ news₁ h₁ tk₁ F2 N2 ⟨rfl, rfl⟩
    clear F1 N1
    k_steps
    all_goals (try dsimp only)
    k_steps
    all_goals first
      | (exact hret _ [] _ _ (by k_asm) (ktn_tl0 (by k_asm)) (stays_end G1 N (by assumption) (by assumption) (fun _ hp => hp)) ktn_ord0 ⟨rfl, _, rfl⟩)
      | (exfalso; obtain ⟨c, hc, he⟩ := sign_at (x := text) (i := i) (by assumption); rename _ = false => hf; rw [he, in_written blanks_lit] at hf; simp only [Bool.not_eq_false', decide_eq_true_eq] at hf; exact hnb c hc hf)
end Mine
end
section
open PySem PySem.W PyProof.Rows
namespace Mine
/-- a sign as a server's text writes it between quotes -/
def escSign (c : Nat) : List Nat := if c = 92 ∨ c = 34 then [92, c] else [c]
def escAll (w : List Nat) : List Nat := w.flatMap escSign
structure ElemD where
  text : Str
  i : Nat
  quoted : Bool
  word : List Nat
  stop : Nat
  rest : List Nat
def ElemD.body (d : ElemD) : List Nat := if d.quoted then 34 :: (escAll d.word ++ [34]) else d.word
def ElemD.nxt (d : ElemD) : Nat := d.i + d.body.length
def nullCodes : List Nat := [78, 85, 76, 76]
def ElemD.isNull (d : ElemD) : Bool := !d.quoted && decide (d.word = nullCodes)
def plainSign (c : Nat) : Prop := c ≠ 123 ∧ c ≠ 125 ∧ c ≠ 34 ∧ c ≠ 44 ∧ c ≠ 92 ∧ c ∉ blankCodes
structure ElemD.Good (d : ElemD) : Prop where
  len : d.text.length ≤ 1048576
  here : d.text.cps.toList.drop d.i = d.body ++ d.stop :: d.rest
  stop : d.stop = 44 ∨ d.stop = 125
  wlen : d.word.length ≤ 400000
  plain : d.quoted = false → (∀ c ∈ d.word, plainSign c) ∧ Txt.upper ⟨d.word.toArray⟩ ≠ Str.ofString "" ∧ (Txt.upper ⟨d.word.toArray⟩ = Str.ofString "NULL" → d.word = nullCodes)
def ElemD.Out (d : ElemD) (tl : List (Addr × Obj)) (r : Value) : Prop :=
  ∃ a t n wv kv, r = .ref a ∧ (a, ({ cls := .type "tuple", data := .seq #[wv, .int kv t] n } : Obj)) ∈ tl ∧ kv = (d.nxt : Int) ∧ (if d.isNull then wv = .none else ∃ t', wv = .str ⟨d.word.toArray⟩ t')
def JQ (text : Str) (t1 : Tok) (word : List Nat) (stop : Nat) (rest : List Nat) (nxt : Nat) (l : Addr) (news : List (Addr × Obj)) (n : Nat) (m' : Str → Option Value) (nx : List (Addr × Obj)) : Prop :=
  ∃ (done todo : List Nat) (k : Nat) (ta te : Tok) (items : List Value) (nn : Nat), word = done ++ todo ∧ n = todo.length ∧ text.cps.toList.drop k = escAll todo ++ 34 :: stop :: rest ∧ k + (escAll todo).length + 1 = nxt ∧
    StrsAre items (done.map one) ∧ items.length = done.length ∧ m' = fmi [("at", .int (k : Int) ta), ("quoted", .bool true), ("end", .int (done.length : Int) te), ("signs", .ref l), ("text", .str text t1)] ∧ nx = (l, W.listOf items.toArray nn) :: news
def PQ (text : Str) (t1 : Tok) (word : List Nat) (k : Nat) (l : Addr) (news : List (Addr × Obj)) (m' : Str → Option Value) (nx : List (Addr × Obj)) : Prop :=
  ∃ (ta te : Tok) (items : List Value) (nn : Nat), StrsAre items (word.map one) ∧ items.length = word.length ∧ m' = fmi [("at", .int (k : Int) ta), ("quoted", .bool true), ("end", .int (word.length : Int) te), ("signs", .ref l), ("text", .str text t1)] ∧ nx = (l, W.listOf items.toArray nn) :: news
def JU (text : Str) (t1 : Tok) (word : List Nat) (stop : Nat) (rest : List Nat) (nxt : Nat) (l : Addr) (news : List (Addr × Obj)) (n : Nat) (m' : Str → Option Value) (nx : List (Addr × Obj)) : Prop :=
  ∃ (done todo : List Nat) (k : Nat) (ta te : Tok) (items : List Value) (nn : Nat), word = done ++ todo ∧ n = todo.length ∧ text.cps.toList.drop k = todo ++ stop :: rest ∧ k + todo.length = nxt ∧
    StrsAre items (done.map one) ∧ items.length = done.length ∧ m' = fmi [("at", .int (k : Int) ta), ("quoted", .bool false), ("end", .int (done.length : Int) te), ("signs", .ref l), ("text", .str text t1)] ∧ nx = (l, W.listOf items.toArray nn) :: news
def PU (text : Str) (t1 : Tok) (word : List Nat) (k : Nat) (l : Addr) (news : List (Addr × Obj)) (m' : Str → Option Value) (nx : List (Addr × Obj)) : Prop :=
  ∃ (ta te : Tok) (items : List Value) (nn : Nat), StrsAre items (word.map one) ∧ items.length = word.length ∧ m' = fmi [("at", .int (k : Int) ta), ("quoted", .bool false), ("end", .int (word.length : Int) te), ("signs", .ref l), ("text", .str text t1)] ∧ nx = (l, W.listOf items.toArray nn) :: news
theorem ends_list : (Str.ofString "{}\",").cps.toList = [123, 125, 34, 44] := by decide +kernel
theorem quote_lit : (Str.ofString "\"") = ⟨#[34]⟩ := by decide +kernel
theorem quote_list : (Str.ofString "\"").cps.toList = [34] := by decide +kernel
theorem back_lit : (Str.ofString "\\") = ⟨#[92]⟩ := by decide +kernel
theorem todo_plain {text : Str} {k stop : Nat} {todo tail : List Nat} (h : text.cps.toList.drop k = todo ++ stop :: tail) : k < text.length ∧
    ((todo = [] ∧ text.cps[k]? = some stop) ∨ (∃ c r, todo = c :: r ∧ text.cps[k]? = some c ∧ text.cps.toList.drop (k + 1) = r ++ stop :: tail)) := by
  cases todo with
  | nil =>
    obtain ⟨h1, h2, _⟩ := of_drop (c := stop) (r := tail) h
    exact ⟨h2, .inl ⟨rfl, h1⟩⟩
  | cons c r =>
    obtain ⟨h1, h2, h3⟩ := of_drop (c := c) (r := r ++ stop :: tail) h
    exact ⟨h2, .inr ⟨c, r, rfl, h1, h3⟩⟩
theorem todo_cases {text : Str} {k : Nat} {todo tail : List Nat} (h : text.cps.toList.drop k = escAll todo ++ 34 :: tail) : k < text.length ∧
    ((todo = [] ∧ text.cps[k]? = some 34) ∨ (∃ c r, todo = c :: r ∧ (c = 92 ∨ c = 34) ∧ text.cps[k]? = some 92 ∧ text.cps[k + 1]? = some c ∧ text.cps.toList.drop (k + 2) = escAll r ++ 34 :: tail) ∨
      (∃ c r, todo = c :: r ∧ c ≠ 92 ∧ c ≠ 34 ∧ text.cps[k]? = some c ∧ text.cps.toList.drop (k + 1) = escAll r ++ 34 :: tail)) := by
  cases todo with
  | nil =>
    obtain ⟨h1, h2, _⟩ := of_drop (c := 34) (r := tail) h
    exact ⟨h2, .inl ⟨rfl, h1⟩⟩
  | cons c r =>
    by_cases hc : c = 92 ∨ c = 34
    · have e : escAll (c :: r) = 92 :: c :: escAll r := by simp [escAll, escSign, hc]
      rw [e] at h
      obtain ⟨h1, h2, h3⟩ := of_drop (c := 92) (r := c :: (escAll r ++ 34 :: tail)) h
      obtain ⟨h4, _, h6⟩ := of_drop h3
      exact ⟨h2, .inr (.inl ⟨c, r, rfl, hc, h1, h4, h6⟩)⟩
    · have e : escAll (c :: r) = c :: escAll r := by simp [escAll, escSign, hc]
      rw [e] at h
      obtain ⟨h1, h2, h3⟩ := of_drop (c := c) (r := escAll r ++ 34 :: tail) h
      exact ⟨h2, .inr (.inr ⟨c, r, rfl, fun x => hc (.inl x), fun x => hc (.inr x), h1, h3⟩)⟩
theorem escAll_len2 {c : Nat} {r : List Nat} (h : c = 92 ∨ c = 34) : (escAll (c :: r)).length = (escAll r).length + 2 := by simp [escAll, escSign, h]
theorem escAll_len1 {c : Nat} {r : List Nat} (h : c ≠ 92) (h' : c ≠ 34) : (escAll (c :: r)).length = (escAll r).length + 1 := by simp [escAll, escSign, h, h']
theorem strs_push {items : List Value} {ys : List Str} {x : Str} {t : Tok} (h : StrsAre items ys) : StrsAre (items ++ [.str x t]) (ys ++ [x]) := KStt.strs_snoc h
local macro_rules | `(tactic| walk_at "call builtin:len") => `(tactic| (k_here; (with_reducible show wpAny _ _ (call (Value.builtin "len") [Value.ref _]) _ _ _); k_dflt (refine' my_len ?k1 ?k2 ?_; (case k1 => exact News.isList (by k_asm) (by k_mem)); (case k2 => (simp only [List.size_toArray, List.length_append, List.length_cons, List.length_nil]; omega)); k_whole); intro _ _; (try simp only [List.size_toArray, List.length_append, List.length_cons, List.length_nil])))
local macro_rules | `(tactic| walk_at "my enter") => `(tactic| (refine' code_defG ?k1 ?k2 ?k3 ?k4 ?k5 ?kA ?kF ?kK ?k6 ?k7 ?k8 ?k9 ?kB ?_ ?c2 ?c3 ?c4 ?c5; (case kA => exact rfl); (case kF => exact rfl); (case kK => assumption); (case k1 => k_asm); (case k2 => k_asm); (case k3 => k_asm); (case k4 => k_asm); (case k5 => k_asm); (case k6 => k_is); (case k7 => k_is); (case k8 => ktr_room); (case k9 => exact BindsTo.of_eq rfl); (case c5 => decide); (case kB => exact locs rfl); (case c2 => exact rfl); (case c3 => exact rfl); (case c4 => exact rfl); k_whole; intro g' L' h' FG' F' N' B' X' T' G'; (try dsimp only); (try k_fold)))
set_option maxRecDepth 100000 in
set_option maxHeartbeats 8000000 in
theorem elem_spec {w : World} {mean : ExcName → Option Value} {mg mb : Str → Option Value} (d : ElemD) (hok : d.Good) {k : Int} (hki : k = (d.i : Int)) {t1 t2 : Tok} {news : List (Addr × Obj)} :
    Tel w mean mg mb 107 1 [.str d.text t1, .int k t2] news d.Out := by
  subst hki
  obtain ⟨text, i, quoted, word, stop, rest⟩ := d
  obtain ⟨hlen, hhere, hstop, hwl, hplain⟩ := hok
  dsimp only at hlen hhere hstop hwl hplain
  unfold Tel
  k_fill
  k_with_none
  w_top off
  intro dp un gd cn cs a ccd cl outer A₀ base h₀ L m s Q E B F X N T hk hd hu hret
  simp only [ElemD.Out] at hret
  refine wpAny_call ?_
  k_dflt (walk_at "my enter")
  rename_i g L1 h1 FG F1 N1 B1 X1 T1 G1
  replace F1 : Fr g L1 h1 (fmi [("at", Value.int (i : Int) t2), ("text", Value.str text t1)]) := (fm_fmi _) ▸ F1
  k_with "exec While" => (refine Held.out ?_)
  k_steps
  k_with_none
  rename_i l _ _ _ _ _ _ D _ hlD _ _ _ _ tk h2 F2 N2
  replace F2 : Fr g L1 h2 (fmi [("at", Value.int (↑i + if (Txt.slice text (some ↑i) (some (↑i + 1)) == "\"") = true then 1 else 0) _), ("signs", .ref l), ("end", .int 0 _), ("quoted", .bool (Txt.slice text (some ↑i) (some (↑i + 1)) == "\"")), ("at", Value.int (i : Int) t2), ("text", Value.str text t1)]) := F2
  replace N2 : News g L1 h2 ((l, W.listOf #[] 0) :: news) := fun p hp => N2 p (.tail _ hp)
  cases quoted with
  | false =>
    have hb : (ElemD.mk text i false word stop rest).body = word := rfl
    have hn : (ElemD.mk text i false word stop rest).nxt = i + word.length := rfl
    rw [hb] at hhere
    obtain ⟨hpl, hu1, hu2⟩ := hplain rfl
    have hq : (Txt.slice text (some (i : Int)) (some ((i : Int) + 1)) == Str.ofString "\"") = false := by
      obtain ⟨_, hz⟩ := todo_plain hhere
      rcases hz with ⟨rfl, hc⟩ | ⟨c, r, rfl, hc, _⟩
      · rw [slice_is hc, quote_lit, one_beq]; rcases hstop with rfl | rfl <;> rfl
      · rw [slice_is hc, quote_lit, one_beq]; simpa using (hpl c (.head _)).2.2.1
    simp only [hq, Bool.false_eq_true, if_false] at F2
    refine Held.into ?_
    simp only [Int.add_zero] at F2
    obtain ⟨ta0, te0, F2⟩ : ∃ ta te, Fr g L1 h2 (fmi [("at", .int (i : Int) ta), ("quoted", .bool false), ("end", .int 0 te), ("signs", .ref l), ("text", .str text t1)]) :=
      ⟨_, _, frNorm F2 ["at", "quoted", "end", "signs", "text"] ⟨rfl, rfl, rfl, rfl, rfl, trivial⟩ rfl rfl⟩
    with_unfolding_all refine' while_to (n₀ := word.length) (JU text t1 word stop rest (i + word.length) l news) (PU text t1 word (i + word.length) l news) ?kf ?kn ?kj ?kt ?kd ?ke
    case kf => exact F2
    case kn => exact N2
    case kj => exact ⟨[], word, i, ta0, te0, [], 0, rfl, rfl, hhere, rfl, .nil, rfl, rfl, rfl⟩
    case ke => passes_own
    case kt =>
      rintro n m₁ news₁ h₁ tk₁ F3 N3 ⟨done, todo, k, ta, te, items, nn, hw, hn', hdk, hk9, hS, hI, rfl, rfl⟩
      clear F2 N2 hret
      have hI2 : items.length + 3 ≤ 1048576 := by have e0 := congrArg List.length hw; rw [List.length_append] at e0; omega
      k_steps
      all_goals (try dsimp only)
      all_goals obtain ⟨hkl, hcs⟩ := todo_plain hdk
      · rename (Builtin.Str.occurrences _ _ _ _ _).isEmpty = _ => hA
        rename (_ == _) = _ => hB
        rcases hcs with ⟨rfl, hc⟩ | ⟨c, r, rfl, hc, hd'⟩
        · rw [item_is hc, in_written ends_list] at hA
          rcases hstop with rfl | rfl <;> simp at hA
        · rw [item_is hc, back_lit, one_beq] at hB
          simp [(hpl c (by rw [hw]; simp)).2.2.2.2.1] at hB
      · rename Fr _ _ _ _ => F9
        rename News _ _ _ _ => N9
        rename Heap => h9
        rename (Builtin.Str.occurrences (Str.ofString "{}\",") _ _ _ _).isEmpty = _ => hA
        rcases hcs with ⟨rfl, hc⟩ | ⟨c, r, rfl, hc, hd'⟩
        · rw [item_is hc, in_written ends_list] at hA
          rcases hstop with rfl | rfl <;> simp at hA
        · have e2 : items.length + (0 + 1) = (done ++ [c]).length := by simp [hI]
          rw [item_is hc] at N9
          rw [e2] at F9
          obtain ⟨ta', te', F9⟩ : ∃ ta te, Fr g L1 h9 (fmi [("at", .int ((k + 1 : Nat) : Int) ta), ("quoted", .bool false), ("end", .int ((done ++ [c]).length : Int) te), ("signs", .ref l), ("text", .str text t1)]) :=
            ⟨_, _, frNorm (l₁ := [("at", _), ("end", _), ("at", _), ("quoted", _), ("end", _), ("signs", _), ("text", _)]) F9 ["at", "quoted", "end", "signs", "text"] ⟨rfl, rfl, rfl, rfl, rfl, trivial⟩ rfl rfl⟩
          refine Back.intro F9 N9 ⟨r.length, by simp [hn'], done ++ [c], r, k + 1, ta', te', items ++ [.str (one c) _], _, by simp [hw], rfl, hd', by rw [← hk9, List.length_cons]; omega, by simpa using strs_push hS, by simp [hI], rfl, rfl⟩
      · rename (Builtin.Str.occurrences (Str.ofString "{}\",") _ _ _ _).isEmpty = _ => hA
        rename (Builtin.Str.occurrences (Str.ofString " \t\n\x0d\x0b\x0c") _ _ _ _).isEmpty = _ => hB
        rcases hcs with ⟨rfl, hc⟩ | ⟨c, r, rfl, hc, hd'⟩
        · rw [item_is hc, in_written ends_list] at hA
          rcases hstop with rfl | rfl <;> simp at hA
        · rw [item_is hc, in_written blanks_lit] at hB
          simp [(hpl c (by rw [hw]; simp)).2.2.2.2.2] at hB
      · rename (Builtin.Str.occurrences _ _ _ _ _).isEmpty = _ => hA
        rcases hcs with ⟨rfl, hc⟩ | ⟨c, r, rfl, hc, hd'⟩
        · rw [List.append_nil] at hw
          subst hw
          have e5 : k = i + word.length := by simpa using hk9
          subst e5
          exact Back.intro F3 N3 ⟨ta, te, items, nn, hS, hI, rfl, rfl⟩
        · rw [item_is hc, in_written ends_list] at hA
          obtain ⟨p1, p2, p3, p4, _⟩ := hpl c (by rw [hw]; simp)
          simp [p1, p2, p3, p4] at hA
      · omega
    case kd =>
      rintro m₁ news₁ h₁ tk₁ F3 N3 ⟨ta, te, items, nn, hS, hI, rfl, rfl⟩
      clear F2 N2
      dsimp only
      k_steps
      rename News _ _ _ _ => N4
      rw [pick_all items word.length hI] at N4
      refine join_listW (News.isList N4 (.head _)) hS (by decide +kernel) (by rw [sum_ones, List.length_map]; omega) ?_
      intro t' k'
      rw [join_signs]
      have hwl2 : (Str.mk word.toArray).length ≤ 400000 := by simpa [Str.length] using hwl
      k_steps
      · rename (_ == _) = true => hE
        exfalso
        apply hu1
        rw [eq_of_beq hE]
        decide +kernel
      · rename (List.any _ _) = true => hE
        rename News h₀ _ _ _ => N9
        rename Fr h₀ _ _ _ => F9
        have hw9 : word = nullCodes := by
          simp only [List.any_cons, List.any_nil, Bool.or_false, Bool.or_eq_true, beq_iff_eq] at hE
          rcases hE with hE | hE
          · exact absurd hE.symm hu1
          · exact hu2 hE.symm
        have hN : (ElemD.mk text i false word stop rest).isNull = true := by simp [ElemD.isNull, hw9]
        simp only [hN, if_true] at hret
        exact hret _ [_] _ _ F9 (ktn_tl1 (fun p hp => N9 p (by rcases List.mem_cons.mp hp with rfl | hp; exact .head _; exact .tail _ (.tail _ (.tail _ (.tail _ hp)))))) (stays_end G1 N (by assumption) (by assumption) (by intro p hp; repeat first | exact hp | refine List.mem_cons_of_mem _ ?_)) (ktn_ord1 (by tbn_find)) ⟨_, _, _, _, _, rfl, .head _, rfl, rfl⟩
      · rename (List.any _ _) = false => hE
        rename News h₀ _ _ _ => N9
        rename Fr h₀ _ _ _ => F9
        have hw9 : word ≠ nullCodes := by
          intro e
          rw [e] at hE
          revert hE
          decide +kernel
        have hN : (ElemD.mk text i false word stop rest).isNull = false := by simp [ElemD.isNull, hw9]
        simp only [hN, Bool.false_eq_true, if_false] at hret
        exact hret _ [_] _ _ F9 (ktn_tl1 (fun p hp => N9 p (by rcases List.mem_cons.mp hp with rfl | hp; exact .head _; exact .tail _ (.tail _ (.tail _ (.tail _ hp)))))) (stays_end G1 N (by assumption) (by assumption) (by intro p hp; repeat first | exact hp | refine List.mem_cons_of_mem _ ?_)) (ktn_ord1 (by tbn_find)) ⟨_, _, _, _, _, rfl, .head _, by simp [hn], ⟨_, rfl⟩⟩
  | true =>
    clear hplain
    have hb : (ElemD.mk text i true word stop rest).body = 34 :: (escAll word ++ [34]) := rfl
    have hn : (ElemD.mk text i true word stop rest).nxt = i + 1 + (escAll word).length + 1 := by
      show i + (34 :: (escAll word ++ [34])).length = _
      simp only [List.length_cons, List.length_append, List.length_nil]; omega
    have hN : (ElemD.mk text i true word stop rest).isNull = false := rfl
    rw [hb, List.cons_append, List.append_assoc, List.cons_append, List.nil_append] at hhere
    simp only [hN, hn, Bool.false_eq_true, if_false] at hret
    obtain ⟨hc0, hi0, hd0⟩ := of_drop hhere
    have hq : (Txt.slice text (some (i : Int)) (some ((i : Int) + 1)) == Str.ofString "\"") = true := by rw [slice_is hc0, quote_lit, one_beq]; rfl
    simp only [hq, if_true] at F2
    refine Held.into ?_
    obtain ⟨ta0, te0, F2⟩ : ∃ ta te, Fr g L1 h2 (fmi [("at", .int ((i + 1 : Nat) : Int) ta), ("quoted", .bool true), ("end", .int 0 te), ("signs", .ref l), ("text", .str text t1)]) :=
      ⟨_, _, frNorm F2 ["at", "quoted", "end", "signs", "text"] ⟨rfl, rfl, rfl, rfl, rfl, trivial⟩ rfl rfl⟩
    with_unfolding_all refine' while_to (n₀ := word.length) (JQ text t1 word stop rest (i + 1 + (escAll word).length + 1) l news) (PQ text t1 word (i + 1 + (escAll word).length) l news) ?kf ?kn ?kj ?kt ?kd ?ke
    case kf => exact F2
    case kn => exact N2
    case kj => exact ⟨[], word, i + 1, ta0, te0, [], 0, rfl, rfl, hd0, rfl, .nil, rfl, rfl, rfl⟩
    case ke => passes_own
    case kt =>
      rintro n m₁ news₁ h₁ tk₁ F3 N3 ⟨done, todo, k, ta, te, items, nn, hw, hn', hdk, hk9, hS, hI, rfl, rfl⟩
      clear F2 N2 hret
      have hI2 : items.length + 3 ≤ 1048576 := by have e0 := congrArg List.length hw; rw [List.length_append] at e0; omega
      k_steps
      all_goals (try dsimp only)
      all_goals obtain ⟨hkl, hcs⟩ := todo_cases hdk
      · rename Fr _ _ _ _ => F9
        rename News _ _ _ _ => N9
        rename Heap => h9
        rename (Builtin.Str.occurrences _ _ _ _ _).isEmpty = _ => hA
        rename (_ == _) = _ => hB
        rcases hcs with ⟨rfl, hc⟩ | ⟨c, r, rfl, hcc, hc, hc', hd'⟩ | ⟨c, r, rfl, h1, h2, hc, hd'⟩
        · rw [item_is hc, in_written quote_list] at hA
          simp at hA
        · have e1 : Txt.slice text (some ((k : Int) + 1)) (some ((k : Int) + 1 + 1)) = one c := slice_is (i := k + 1) hc'
          have e2 : items.length + (0 + 1) = (done ++ [c]).length := by simp [hI]
          rw [e1] at N9
          rw [e2] at F9
          obtain ⟨ta', te', F9⟩ : ∃ ta te, Fr g L1 h9 (fmi [("at", .int ((k + 2 : Nat) : Int) ta), ("quoted", .bool true), ("end", .int ((done ++ [c]).length : Int) te), ("signs", .ref l), ("text", .str text t1)]) :=
            ⟨_, _, frNorm (l₁ := [("at", _), ("end", _), ("at", _), ("at", _), ("quoted", _), ("end", _), ("signs", _), ("text", _)]) F9 ["at", "quoted", "end", "signs", "text"] ⟨rfl, rfl, rfl, rfl, rfl, trivial⟩ rfl rfl⟩
          have e3 := escAll_len2 (r := r) hcc
          refine Back.intro F9 N9 ⟨r.length, by simp [hn'], done ++ [c], r, k + 2, ta', te', items ++ [.str (one c) _], _, by simp [hw], rfl, hd', by omega, by simpa using strs_push hS, by simp [hI], rfl, rfl⟩
        · rw [item_is hc, back_lit, one_beq] at hB
          simp [h1] at hB
      · rename Fr _ _ _ _ => F9
        rename News _ _ _ _ => N9
        rename Heap => h9
        rename (Builtin.Str.occurrences _ _ _ _ _).isEmpty = _ => hA
        rename (_ == _) = _ => hB
        rcases hcs with ⟨rfl, hc⟩ | ⟨c, r, rfl, hcc, hc, hc', hd'⟩ | ⟨c, r, rfl, h1, h2, hc, hd'⟩
        · rw [item_is hc, in_written quote_list] at hA
          simp at hA
        · rw [item_is hc, back_lit, one_beq] at hB
          simp at hB
        · have e2 : items.length + (0 + 1) = (done ++ [c]).length := by simp [hI]
          rw [item_is hc] at N9
          rw [e2] at F9
          obtain ⟨ta', te', F9⟩ : ∃ ta te, Fr g L1 h9 (fmi [("at", .int ((k + 1 : Nat) : Int) ta), ("quoted", .bool true), ("end", .int ((done ++ [c]).length : Int) te), ("signs", .ref l), ("text", .str text t1)]) :=
            ⟨_, _, frNorm (l₁ := [("at", _), ("end", _), ("at", _), ("quoted", _), ("end", _), ("signs", _), ("text", _)]) F9 ["at", "quoted", "end", "signs", "text"] ⟨rfl, rfl, rfl, rfl, rfl, trivial⟩ rfl rfl⟩
          have e3 := escAll_len1 (r := r) h1 h2
          refine Back.intro F9 N9 ⟨r.length, by simp [hn'], done ++ [c], r, k + 1, ta', te', items ++ [.str (one c) _], _, by simp [hw], rfl, hd', by omega, by simpa using strs_push hS, by simp [hI], rfl, rfl⟩
      · rename (Builtin.Str.occurrences _ _ _ _ _).isEmpty = _ => hA
        rcases hcs with ⟨rfl, hc⟩ | ⟨c, r, rfl, hcc, hc, hc', hd'⟩ | ⟨c, r, rfl, h1, h2, hc, hd'⟩
        · rw [List.append_nil] at hw
          subst hw
          have e5 : k = i + 1 + (escAll word).length := by simp [escAll] at hk9 ⊢; omega
          subst e5
          exact Back.intro F3 N3 ⟨ta, te, items, nn, hS, hI, rfl, rfl⟩
        · rw [item_is hc, in_written quote_list] at hA
          simp at hA
        · rw [item_is hc, in_written quote_list] at hA
          simp [h2] at hA
      · omega
    case kd =>
      rintro m₁ news₁ h₁ tk₁ F3 N3 ⟨ta, te, items, nn, hS, hI, rfl, rfl⟩
      clear F2 N2
      dsimp only
      k_steps
      rename News _ _ _ _ => N4
      rw [pick_all items word.length hI] at N4
      refine join_listW (News.isList N4 (.head _)) hS (by decide +kernel) (by rw [sum_ones, List.length_map]; omega) ?_
      intro t' k'
      rw [join_signs]
      k_steps
      rename News h₀ _ _ _ => N9
      rename Fr h₀ _ _ _ => F9
      rename _ ∧ _ ∧ AllLt _ _ => hlt
      exact hret _ [_] _ _ F9 (ktn_tl1 (fun p hp => N9 p (by rcases List.mem_cons.mp hp with rfl | hp; exact .head _; exact .tail _ (.tail _ (.tail _ hp))))) (stays_end G1 N (by assumption) (by assumption) (by intro p hp; repeat first | exact hp | refine List.mem_cons_of_mem _ ?_)) (ktn_ord1 hlt.2.2) ⟨_, _, _, _, _, rfl, .head _, by simp, ⟨_, rfl⟩⟩
end Mine
end
section
open PySem PySem.W PyProof.Rows
namespace Mine
/-- a server's text as a tree: an element as it is written, or a list -/
inductive Src where
  | elem (quoted : Bool) (word : List Nat)
  | list (xs : List Src)
mutual
def Src.codes : Src → List Nat
  | .elem q w => if q then 34 :: (escAll w ++ [34]) else w
  | .list [] => [123, 125]
  | .list (x :: r) => 123 :: (x.codes ++ (Src.codesTl r ++ [125]))
def Src.codesTl : List Src → List Nat
  | [] => []
  | x :: r => 44 :: (x.codes ++ Src.codesTl r)
end
def Src.codesIn : List Src → List Nat
  | [] => []
  | x :: r => x.codes ++ Src.codesTl r
theorem Src.codes_list (xs : List Src) : (Src.list xs).codes = 123 :: (Src.codesIn xs ++ [125]) := by
  cases xs with
  | nil => simp [Src.codes, Src.codesIn]
  | cons x r => simp [Src.codes, Src.codesIn]
mutual
def Src.Ok : Src → Prop
  | .elem q w => w.length ≤ 400000 ∧ (q = false → (∀ c ∈ w, plainSign c) ∧ Txt.upper ⟨w.toArray⟩ ≠ Str.ofString "" ∧ (Txt.upper ⟨w.toArray⟩ = Str.ofString "NULL" → w = nullCodes))
  | .list xs => xs.length ≤ 400000 ∧ Src.OkAll xs
def Src.OkAll : List Src → Prop
  | [] => True
  | x :: r => x.Ok ∧ Src.OkAll r
end
theorem Src.OkAll.mem : ∀ {xs : List Src}, Src.OkAll xs → ∀ x ∈ xs, x.Ok
  | _ :: _, h, _, .head _ => h.1
  | _ :: _, h, _, .tail _ m => Src.OkAll.mem h.2 _ m
mutual
def Src.dep : Src → Nat
  | .elem _ _ => 1
  | .list xs => 1 + Src.deps xs
def Src.deps : List Src → Nat
  | [] => 1
  | x :: r => max x.dep (Src.deps r)
end
theorem Src.deps_mem : ∀ {xs : List Src}, ∀ x ∈ xs, x.dep ≤ Src.deps xs
  | _ :: _, _, .head _ => Nat.le_max_left _ _
  | _ :: _, _, .tail _ m => Nat.le_trans (Src.deps_mem _ m) (Nat.le_max_right _ _)
theorem Src.deps_pos : ∀ xs : List Src, 1 ≤ Src.deps xs
  | [] => Nat.le_refl _
  | _ :: r => Nat.le_trans (Src.deps_pos r) (Nat.le_max_right _ _)
mutual
/-- what the reader tells of it, over a ledger -/
def Src.At (nx : List (Addr × Obj)) : Src → Value → Prop
  | .elem q w, v => if (!q && decide (w = nullCodes)) = true then v = .none else ∃ t, v = .str ⟨w.toArray⟩ t
  | .list xs, v => ∃ (a : Addr) (its : List Value) (n : Nat), v = .ref a ∧ (a, W.listOf its.toArray n) ∈ nx ∧ Src.Ats nx xs its
def Src.Ats (nx : List (Addr × Obj)) : List Src → List Value → Prop
  | [], vs => vs = []
  | x :: r, vs => ∃ v vs', vs = v :: vs' ∧ x.At nx v ∧ Src.Ats nx r vs'
end
mutual
theorem Src.At.mono {nx ny : List (Addr × Obj)} (h : ∀ p ∈ nx, p ∈ ny) : ∀ {x : Src} {v : Value}, x.At nx v → x.At ny v
  | .elem q w, v, k => by
    unfold Src.At at k ⊢
    exact k
  | .list xs, v, k => by
    unfold Src.At at k ⊢
    obtain ⟨a, its, n, e, m, k'⟩ := k
    exact ⟨a, its, n, e, h _ m, Src.Ats.mono h k'⟩
theorem Src.Ats.mono {nx ny : List (Addr × Obj)} (h : ∀ p ∈ nx, p ∈ ny) : ∀ {xs : List Src} {vs : List Value}, Src.Ats nx xs vs → Src.Ats ny xs vs
  | [], vs, k => by
    unfold Src.Ats at k ⊢
    exact k
  | x :: r, vs, k => by
    unfold Src.Ats at k ⊢
    obtain ⟨v, vs', e, k1, k2⟩ := k
    exact ⟨v, vs', e, Src.At.mono h k1, Src.Ats.mono h k2⟩
end
theorem Src.Ats.snoc {nx : List (Addr × Obj)} {x : Src} {v : Value} (h : x.At nx v) : ∀ {xs : List Src} {vs : List Value}, Src.Ats nx xs vs → Src.Ats nx (xs ++ [x]) (vs ++ [v])
  | [], vs, k => by
    unfold Src.Ats at k
    subst k
    show Src.Ats nx [x] [v]
    unfold Src.Ats
    exact ⟨v, [], rfl, h, by unfold Src.Ats; rfl⟩
  | y :: r, vs, k => by
    unfold Src.Ats at k
    obtain ⟨u, vs', rfl, k1, k2⟩ := k
    show Src.Ats nx (y :: (r ++ [x])) (u :: (vs' ++ [v]))
    unfold Src.Ats
    exact ⟨u, _, rfl, k1, Src.Ats.snoc h k2⟩
theorem Src.Ats.len {nx : List (Addr × Obj)} : ∀ {xs : List Src} {vs : List Value}, Src.Ats nx xs vs → vs.length = xs.length
  | [], vs, k => by
    unfold Src.Ats at k
    subst k
    rfl
  | y :: r, vs, k => by
    unfold Src.Ats at k
    obtain ⟨u, vs', rfl, k1, k2⟩ := k
    rw [List.length_cons, List.length_cons, Src.Ats.len k2]
theorem upper_nil : Txt.upper ⟨([] : List Nat).toArray⟩ = Str.ofString "" := by decide +kernel
/-- how a tree's text opens -/
theorem Src.head (x : Src) (h : x.Ok) : ∃ c r, x.codes = c :: r ∧ c ∉ blankCodes ∧ c ≠ 125 ∧ c ≠ 44 ∧ (c = 123 ↔ ∃ xs, x = .list xs) := by
  cases x with
  | list xs => exact ⟨123, _, Src.codes_list xs, by decide, by decide, by decide, fun _ => ⟨xs, rfl⟩, fun _ => rfl⟩
  | elem q w =>
    unfold Src.Ok at h
    cases q with
    | true => exact ⟨34, escAll w ++ [34], by simp [Src.codes], by decide, by decide, by decide, fun e => by simp at e, fun ⟨_, e⟩ => by cases e⟩
    | false =>
      obtain ⟨hp, hu, _⟩ := h.2 rfl
      cases w with
      | nil => exact absurd upper_nil hu
      | cons c r =>
        obtain ⟨p1, p2, p3, p4, p5, p6⟩ := hp c (.head _)
        exact ⟨c, r, by simp [Src.codes], p6, p2, p4, fun e => absurd e p1, fun ⟨_, e⟩ => by cases e⟩
end Mine
end
section
open PySem PySem.W PyProof.Rows
namespace Mine
local macro_rules | `(tactic| walk_at "my pad") => `(tactic| skip)
local macro_rules | `(tactic| walk_at "call builtin:len") => `(tactic| (k_here; (with_reducible show wpAny _ _ (call (Value.builtin "len") [Value.ref _]) _ _ _); k_dflt (refine' my_len ?k1 ?k2 ?_; (case k1 => exact News.isList (by k_asm) (by k_mem)); (case k2 => (simp only [List.size_toArray, List.length_append, List.length_cons, List.length_nil]; omega)); k_whole); intro _ _; (try simp only [List.size_toArray, List.length_append, List.length_cons, List.length_nil])))
theorem open_lit : (Str.ofString "{") = ⟨#[123]⟩ := by decide +kernel
theorem close_lit : (Str.ofString "}") = ⟨#[125]⟩ := by decide +kernel
theorem comma_lit : (Str.ofString ",") = ⟨#[44]⟩ := by decide +kernel
theorem one_ne_empty (c : Nat) : (Str.ofString "" == (⟨#[c]⟩ : Str)) = false := by
  refine beq_false_of_ne fun e => ?_
  have := congrArg (fun s : Str => s.cps.toList.length) e
  have z : (Str.ofString "").cps.toList.length = 0 := by decide
  simp only [z] at this
  cases this
theorem close_any (c : Nat) : (([Str.ofString "}", Str.ofString ""] : List Str).any fun x => x == (⟨#[c]⟩ : Str)) = decide (c = 125) := by
  simp only [List.any_cons, List.any_nil, Bool.or_false, one_ne_empty]
  rw [close_lit, one_beq]
  by_cases h : c = 125
  · subst h; rfl
  · have h' : ¬ (125 = c) := fun e => h e.symm
    simp [h, h']
theorem Tel.imp {w : World} {mean : ExcName → Option Value} {mg mb : Str → Option Value} {f : Addr} {need need' : Nat} {vs : List Value} {news : List (Addr × Obj)} {Out Out' : List (Addr × Obj) → Value → Prop} (C : Tel w mean mg mb f need vs news Out)
    (hn : need ≤ need') (ho : ∀ tl r, Out tl r → Out' tl r) : Tel w mean mg mb f need' vs news Out' := by
  unfold Tel
  intro dp un gd cn cs a ccd cl outer A₀ base h₀ L m s Q E B F X N T hk hd hu ret
  exact C.use B F X N T hk (by omega) (by omega) fun r tl h' tk' F' N' hs' ho' o => ret r tl h' tk' F' N' hs' ho' (ho _ _ o)
/-- an element or a list, and the place behind it -/
def itemOut (x : Src) (k2 : Nat) (tl : List (Addr × Obj)) (r : Value) : Prop :=
  ∃ (a : Addr) (t : Tok) (n : Nat) (wv : Value), r = .ref a ∧ (a, ({ cls := .type "tuple", data := .seq #[wv, .int (k2 : Int) t] n } : Obj)) ∈ tl ∧ x.At tl wv
theorem item_elem {w : World} {mean : ExcName → Option Value} {mg mb : Str → Option Value} {q : Bool} {w9 : List Nat} {text : Str} {k k2 stop : Nat} {rest : List Nat} {t1 t2 : Tok} (hlen : text.length ≤ 1048576) (hok : (Src.elem q w9).Ok)
    (hd : text.cps.toList.drop k = (Src.elem q w9).codes ++ stop :: rest) (hs : stop = 44 ∨ stop = 125) (hk2 : k2 = k + (Src.elem q w9).codes.length) (news : List (Addr × Obj)) :
    Tel w mean mg mb 107 1 [.str text t1, .int (k : Int) t2] news (itemOut (.elem q w9) k2) := by
  unfold Src.Ok at hok
  refine (elem_spec ⟨text, k, q, w9, stop, rest⟩ ⟨hlen, hd, hs, hok.1, hok.2⟩ rfl).imp (Nat.le_refl _) ?_
  rintro tl r ⟨a, t, n, wv, kv, rfl, hm, rfl, hv⟩
  refine ⟨a, t, n, wv, rfl, ?_, ?_⟩
  · rw [hk2]; exact hm
  · unfold Src.At; exact hv
theorem off_more {fa D : Addr} {oD ofa : Obj} {news tl tl9 : List (Addr × Obj)} (h1 : ∀ p ∈ news, p.1 < fa) (h2 : ∀ p ∈ tl, fa < p.1) (h3 : ∀ q ∈ (D, oD) :: (fa, ofa) :: (news ++ tl), ∀ p ∈ tl9, q.1 < p.1) : OwnOff (news ++ (tl ++ tl9)) [fa] := by
  intro p hp b hb
  obtain rfl := List.mem_singleton.mp hb
  rcases List.mem_append.mp hp with hp | hp
  · exact Nat.ne_of_lt (h1 p hp)
  · rcases List.mem_append.mp hp with hp | hp
    · exact Nat.ne_of_gt (h2 p hp)
    · exact Nat.ne_of_gt (h3 _ (.tail _ (.head _)) p hp)
theorem gt_more {fa D : Addr} {oD ofa : Obj} {news tl tl9 : List (Addr × Obj)} (h2 : ∀ p ∈ tl, fa < p.1) (h3 : ∀ q ∈ (D, oD) :: (fa, ofa) :: (news ++ tl), ∀ p ∈ tl9, q.1 < p.1) : ∀ p ∈ tl ++ tl9, fa < p.1 := by
  intro p hp
  rcases List.mem_append.mp hp with hp | hp
  · exact h2 p hp
  · exact h3 _ (.tail _ (.head _)) p hp
theorem ledger_two {h₀ h : Heap} {L D fa : Addr} {oD ofa : Obj} {news tl : List (Addr × Obj)} (N : News h₀ L h ((D, oD) :: (fa, ofa) :: (news ++ tl))) : News h₀ L h (news ++ ((D, oD) :: (fa, ofa) :: tl)) := by
  refine fun p hp => N p ?_
  rcases List.mem_append.mp hp with hp | hp
  · exact .tail _ (.tail _ (List.mem_append.mpr (.inl hp)))
  · rcases List.mem_cons.mp hp with rfl | hp
    · exact .head _
    · rcases List.mem_cons.mp hp with rfl | hp
      · exact .tail _ (.head _)
      · exact .tail _ (.tail _ (List.mem_append.mpr (.inr hp)))
theorem order_two {D fa : Addr} {oD ofa : Obj} {news tl : List (Addr × Obj)} (h1 : ∀ p ∈ news, p.1 < fa) (h2 : fa < D) (h3 : ∀ p ∈ tl, fa < p.1) : ∀ q ∈ news, ∀ p ∈ (D, oD) :: (fa, ofa) :: tl, q.1 < p.1 := by
  intro q hq p hp
  have hq1 := h1 q hq
  rcases List.mem_cons.mp hp with rfl | hp
  · exact Nat.lt_trans hq1 h2
  · rcases List.mem_cons.mp hp with rfl | hp
    · exact hq1
    · exact Nat.lt_trans hq1 (h3 p hp)
def listOut (i : Nat) (xs : List Src) (tl : List (Addr × Obj)) (r : Value) : Prop :=
  ∃ (a : Addr) (t : Tok) (m : Nat) (la : Addr) (its : List Value) (n : Nat) (kv : Int), r = .ref a ∧ (a, ({ cls := .type "tuple", data := .seq #[.ref la, .int kv t] m } : Obj)) ∈ tl ∧ (la, W.listOf its.toArray n) ∈ tl ∧ Src.Ats tl xs its ∧ kv = ((i + (Src.list xs).codes.length : Nat) : Int)
theorem item_list {w : World} {mean : ExcName → Option Value} {mg mb : Str → Option Value} {nn : Nat} {ys : List Src} {k k2 : Nat} {vs : List Value} {nw : List (Addr × Obj)} (C : Tel w mean mg mb 114 nn vs nw (listOut k ys)) (hk2 : k2 = k + (Src.list ys).codes.length) : Tel w mean mg mb 114 nn vs nw (itemOut (.list ys) k2) := by
  refine C.imp (Nat.le_refl _) ?_
  rintro tl r ⟨a, t, m, la, its, n, kv, rfl, hm, hl, hA, rfl⟩
  refine ⟨a, t, m, .ref la, rfl, ?_, ?_⟩
  · rw [hk2]; exact hm
  · unfold Src.At; exact ⟨la, its, n, rfl, hl, hA⟩
def JL (text : Str) (t1 : Tok) (xs : List Src) (rest : List Nat) (nxt : Nat) (fa : Addr) (news : List (Addr × Obj)) (n : Nat) (m' : Str → Option Value) (nx : List (Addr × Obj)) : Prop :=
  ∃ (done todo : List Src) (k : Nat) (ta : Tok) (items : List Value) (mm : Nat) (inn : List (Str × Value)) (tl : List (Addr × Obj)), xs = done ++ todo ∧ n = todo.length ∧ text.cps.toList.drop k = Src.codesIn todo ++ 125 :: rest ∧ k + (Src.codesIn todo).length + 1 = nxt ∧
    Src.Ats tl done items ∧ (∀ p ∈ tl, fa < p.1) ∧ (∀ p ∈ inn, p.1 = Str.ofString "inner") ∧ m' = fmi (("at", .int (k : Int) ta) :: ("found", .ref fa) :: ("text", .str text t1) :: inn) ∧ nx = (fa, W.listOf items.toArray mm) :: (news ++ tl)
def PL (text : Str) (t1 : Tok) (xs : List Src) (nxt : Nat) (fa : Addr) (news : List (Addr × Obj)) (m' : Str → Option Value) (nx : List (Addr × Obj)) : Prop :=
  ∃ (k : Nat) (ta : Tok) (items : List Value) (mm : Nat) (inn : List (Str × Value)) (tl : List (Addr × Obj)), k + 1 = nxt ∧ Src.Ats tl xs items ∧ (∀ p ∈ tl, fa < p.1) ∧ m' = fmi (("at", .int (k : Int) ta) :: ("found", .ref fa) :: ("text", .str text t1) :: inn) ∧ nx = (fa, W.listOf items.toArray mm) :: (news ++ tl)
local macro_rules | `(tactic| walk_at "my enter") => `(tactic| (refine' code_defG ?k1 ?k2 ?k3 ?k4 ?k5 ?kA ?kF ?kK ?k6 ?k7 ?k8 ?k9 ?kB ?_ ?c2 ?c3 ?c4 ?c5; (case kA => exact rfl); (case kF => exact rfl); (case kK => assumption); (case k1 => k_asm); (case k2 => k_asm); (case k3 => k_asm); (case k4 => k_asm); (case k5 => k_asm); (case k6 => k_is); (case k7 => k_is); (case k8 => ktr_room); (case k9 => exact BindsTo.of_eq rfl); (case c5 => decide); (case kB => exact locs rfl); (case c2 => exact rfl); (case c3 => exact rfl); (case c4 => exact rfl); k_whole; intro g' L' h' FG' F' N' B' X' T' G'; (try dsimp only); (try k_fold)))
set_option maxRecDepth 100000 in
set_option maxHeartbeats 8000000 in
theorem list_spec {w : World} {mean : ExcName → Option Value} {mg mb : Str → Option Value} : ∀ (nn : Nat) (xs : List Src), 1 + Src.deps xs ≤ nn → (Src.list xs).Ok → ∀ {text : Str} {i : Nat} {rest : List Nat} {t1 t2 : Tok} {news : List (Addr × Obj)} {k : Int}, k = (i : Int) → text.length ≤ 1000000 →
    text.cps.toList.drop i = (Src.list xs).codes ++ rest → Tel w mean mg mb 114 nn [.str text t1, .int k t2] news (listOut i xs) := by
  intro nn
  induction nn with
  | zero => intro xs h; omega
  | succ nn ih =>
  intro xs hdep hok text i rest t1 t2 news k hk0 hlen hdrop
  subst hk0
  rw [Src.codes_list] at hdrop
  unfold Src.Ok at hok
  obtain ⟨hlx, hokx⟩ := hok
  have hpos := Src.deps_pos xs
  have hlen2 : text.length ≤ 1048576 := by omega
  obtain ⟨hc0, hi0, hd0⟩ := of_drop (c := 123) (r := Src.codesIn xs ++ [125] ++ rest) hdrop
  have hb0 : ∀ x, text.cps[((i : Int) + 1).toNat]? = some x → x ∉ blankCodes := by
    intro x hx
    have e : ((i : Int) + 1).toNat = i + 1 := by omega
    rw [e] at hx
    cases xs with
    | nil =>
      obtain ⟨h1, _, _⟩ := of_drop (c := 125) (r := rest) hd0
      rw [h1] at hx; cases hx; decide
    | cons y r =>
      obtain ⟨c, r', e', hb, _⟩ := Src.head y hokx.1
      rw [Src.codesIn, e'] at hd0
      obtain ⟨h1, _, _⟩ := of_drop (c := c) hd0
      rw [h1] at hx; cases hx; exact hb
  unfold Tel
  k_fill
  k_with_none
  w_top off
  intro dp un gd cn cs a ccd cl outer A₀ base h₀ L m s Q E B F X N T hk hd hu hret
  simp only [listOut] at hret
  refine wpAny_call ?_
  k_dflt (walk_at "my enter")
  rename_i g L1 h1 FG F1 N1 B1 X1 T1 G1
  replace F1 : Fr g L1 h1 (fmi [("at", Value.int (i : Int) t2), ("text", Value.str text t1)]) := (fm_fmi _) ▸ F1
  k_with "exec While" => (refine Held.out ?_)
  k_with "call ref" => (k_dflt (refine' Tel.use (blanks_spec ?za ?zb ?zc) ?z1 ?z2 ?z3 ?z4 ?z5 ?zK ?zd ?zu ?_; (case z1 => k_asm); (case z2 => k_asm); (case z3 => k_asm); (case z4 => k_asm); (case z5 => k_asm); (case zK => first | exact rfl | assumption); (case za => assumption); (case zb => omega); (case zc => assumption); (case zd => ktr_room); (case zu => ktr_units)); intro r9 tl9 h9 tk9 F9 N9 hs9 hl9 ho9; obtain ⟨rfl, t9, rfl⟩ := ho9; (try simp only [List.append_nil] at N9); (try dsimp only); (try k_fold))
  k_steps
  k_with_none
  rename Fr _ _ _ _ => F2
  rename News _ _ _ _ => N2
  rename Heap => h2
  rename (∀ p ∈ news, p.1 < _) => hfa
  obtain ⟨fa, hfa, N2, ta0, F2⟩ : ∃ fa, (∀ p ∈ news, p.1 < fa) ∧ News g L1 h2 ((fa, W.listOf #[] 0) :: news) ∧ ∃ ta, Fr g L1 h2 (fmi [("at", .int ((i + 1 : Nat) : Int) ta), ("found", .ref fa), ("text", .str text t1)]) :=
    ⟨_, hfa, fun p hp => N2 p (.tail _ hp), _, frNorm (l₁ := [("found", _), ("at", _), ("at", _), ("text", _)]) F2 ["at", "found", "text"] ⟨rfl, rfl, rfl, trivial⟩ rfl rfl⟩
  refine Held.into ?_
  with_unfolding_all refine' while_to (n₀ := xs.length) (JL text t1 xs rest (i + (Src.list xs).codes.length) fa news) (PL text t1 xs (i + (Src.list xs).codes.length) fa news) ?kf ?kn ?kj ?kt ?kd ?ke
  case kf => exact F2
  case kn => exact N2
  case kj => exact ⟨[], xs, i + 1, ta0, [], 0, [], [], rfl, rfl, by rw [hd0, List.append_assoc]; rfl, by rw [Src.codes_list]; simp; omega, by unfold Src.Ats; rfl, fun _ h => (nomatch h), fun _ h => (nomatch h), rfl, by simp⟩
  case ke => passes_own
  case kt =>
    rintro n m₁ news₁ h₁ tk₁ F3 N3 ⟨done, todo, k, ta, items, mm, inn, tl, hw, hn', hdk, hk9, hS, htl, hinn, rfl, rfl⟩
    clear F2 N2 hret
    cases todo with
    | nil =>
      obtain ⟨hck, hkl, _⟩ := of_drop (c := 125) (r := rest) hdk
      have hkl2 : (k : Int) < text.length := by omega
      have hany : ((([Str.ofString "}", Str.ofString ""] : List Str).any fun x => x == Txt.slice text (some (k : Int)) (some ((k : Int) + 1))) = true) := by rw [slice_is hck, close_any]; rfl
      k_steps
      rename News _ _ _ _ => N9
      rename Fr g _ _ _ => F9
      refine Back.intro F9 (fun p hp => N9 p (.tail _ hp)) ⟨k, ta, items, mm, inn, tl, ?_, ?_, htl, rfl, rfl⟩
      · simpa [Src.codesIn] using hk9
      · rw [List.append_nil] at hw
        rw [hw]
        exact hS
    | cons x r =>
      have hxm : x ∈ xs := by rw [hw]; simp
      have hIl : items.length + 3 ≤ 1048576 := by
        have e0 := Src.Ats.len hS
        have e1 := congrArg List.length hw
        rw [List.length_append] at e1
        omega
      have hxok := Src.OkAll.mem hokx x hxm
      have hxd := Src.deps_mem x hxm
      obtain ⟨c, rr, hcx, hcb, hc125, hc44, hc123⟩ := Src.head x hxok
      obtain ⟨k2, hk2⟩ : ∃ k2, k2 = k + x.codes.length := ⟨_, rfl⟩
      have hdk1 : text.cps.toList.drop k = x.codes ++ (Src.codesTl r ++ 125 :: rest) := by rw [hdk, Src.codesIn, List.append_assoc]
      have hd2 : text.cps.toList.drop k2 = Src.codesTl r ++ 125 :: rest := by rw [hk2, ← List.drop_drop, hdk1, List.drop_left]
      have hk10 : k2 + (Src.codesTl r).length + 1 = i + (Src.list xs).codes.length := by rw [← hk9, Src.codesIn, List.length_append]; omega
      obtain ⟨hck, hkl, _⟩ := of_drop (c := c) (r := rr ++ (Src.codesTl r ++ 125 :: rest)) (by rw [hdk1, hcx]; rfl)
      have hkl2 : (k : Int) < text.length := by omega
      have hany : ((([Str.ofString "}", Str.ofString ""] : List Str).any fun x => x == Txt.slice text (some (k : Int)) (some ((k : Int) + 1))) = false) := by rw [slice_is hck, close_any]; simpa using hc125
      have hbr : (Txt.item text (k : Int) == Str.ofString "{") = decide (c = 123) := by rw [item_is hck, open_lit, one_beq]
      cases x with
      | elem q w9 =>
        have hbr : (Txt.item text (k : Int) == Str.ofString "{") = false := by
          rw [hbr]
          refine decide_eq_false fun e => ?_
          obtain ⟨_, e'⟩ := hc123.mp e
          cases e'
        cases r with
        | nil =>
          have hitem := item_elem (w := w) (mean := mean) (mg := mg) (mb := mb) (k2 := k2) (t1 := t1) (t2 := ta) hlen2 hxok hdk1 (.inr rfl) hk2
          obtain ⟨hck2, hkl3, _⟩ := of_drop (c := 125) (r := rest) hd2
          have hkl4 : (k2 : Int) < text.length := by omega
          have hbk2 : ∀ x, text.cps[(k2 : Int).toNat]? = some x → x ∉ blankCodes := by
            intro x hx
            have e : (k2 : Int).toNat = k2 := by omega
            rw [e, hck2] at hx; cases hx; decide
          have hcm : (Txt.slice text (some (k2 : Int)) (some ((k2 : Int) + 1)) == Str.ofString ",") = false := by rw [slice_is hck2, comma_lit, one_beq]; rfl
          have hcl : (Txt.slice text (some (k2 : Int)) (some ((k2 : Int) + 1)) != Str.ofString "}") = false := by rw [slice_is hck2, close_lit, bne, one_beq]; rfl
          k_with "call ref" => (k_dflt (refine' Tel.use (blanks_spec ?za ?zb ?zc) ?z1 ?z2 ?z3 ?z4 ?z5 ?zK ?zd ?zu ?_; (case z1 => k_asm); (case z2 => k_asm); (case z3 => k_asm); (case z4 => k_asm); (case z5 => k_asm); (case zK => first | exact rfl | assumption); (case za => assumption); (case zb => omega); (case zc => assumption); (case zd => ktr_room); (case zu => ktr_units)); intro r9 tl9 h9 tk9 F9 N9 hs9 hl9 ho9; obtain ⟨rfl, t9, rfl⟩ := ho9; (try simp only [List.append_nil] at N9); (try dsimp only); (try k_fold))
          k_with "call ref" => (k_dflt (refine' Tel.use (hitem _) ?z1 ?z2 ?z3 ?z4 ?z5 ?zK ?zd ?zu ?_; (case z1 => k_asm); (case z2 => k_asm); (case z3 => k_asm); (case z4 => k_asm); (case z5 => k_asm); (case zK => first | exact rfl | assumption); (case zd => ktr_room); (case zu => ktr_units)); intro r9 tl9 h9 tk9 F9 N9 hs9 hl9 ho9; obtain ⟨a9, t9, n9, wv9, rfl, hm9, hat9⟩ := ho9; (try simp only [List.cons_append, List.append_assoc] at N9); have hoff9 := off_more hfa htl hl9; have hgt9 := gt_more htl hl9; (try dsimp only); (try k_fold))
          k_with "assign Tuple" => (k_dflt (refine' unpackN_ ?y1 ?y2 ?y3 ?y4 ?y5 ?y6 ?_; (case y1 => k_asm); (case y2 => k_asm); (case y3 => exact News.isTup N9 (List.mem_cons_of_mem _ (List.mem_cons_of_mem _ (List.mem_append.mpr (.inr (List.mem_append.mpr (.inr hm9))))))); (case y4 => exact rfl); (case y5 => exact rfl); (case y6 => exact rfl)); intro h' F' N'; (try k_sweep))
          k_steps
          k_with_none
          rename News g _ _ _ => N9
          rename Fr g _ _ _ => F9
          rename Heap => h9
          obtain ⟨ta', F9⟩ : ∃ ta', Fr g L1 h9 (fmi (("at", .int (k2 : Int) ta') :: ("found", .ref fa) :: ("text", .str text t1) :: [("inner", wv9)])) :=
            ⟨_, frNormI (l₁ := [("at", _), ("at", _), ("inner", _), ("at", _), ("found", _), ("text", _)]) (inn := inn) F9 ["at", "found", "text", "inner"] ⟨rfl, rfl, rfl, rfl, trivial⟩ rfl (fun p hp => by rw [hinn p hp]; decide) rfl⟩
          rw [List.push_toArray] at N9
          refine Back.intro F9 (fun p hp => N9 p (.tail _ hp)) ⟨0, by rw [hn']; exact Nat.succ_pos _, done ++ [(.elem q w9)], [], k2, ta', items ++ [wv9], mm + 1, [("inner", wv9)], tl ++ tl9, by rw [hw]; simp, rfl, by rw [hd2]; rfl, by rw [← hk10]; rfl, Src.Ats.snoc (hat9.mono (fun p hp => List.mem_append.mpr (.inr hp))) (hS.mono (fun p hp => List.mem_append.mpr (.inl hp))), hgt9, by simp, rfl, rfl⟩
        | cons y r =>
          have hitem := item_elem (w := w) (mean := mean) (mg := mg) (mb := mb) (k2 := k2) (t1 := t1) (t2 := ta) hlen2 hxok hdk1 (.inl rfl) hk2
          obtain ⟨hck2, hkl3, hd3⟩ := of_drop (c := 44) (r := Src.codesIn (y :: r) ++ 125 :: rest) (by rw [hd2]; simp [Src.codesTl, Src.codesIn])
          have hkl4 : (k2 : Int) < text.length := by omega
          have hbk2 : ∀ x, text.cps[(k2 : Int).toNat]? = some x → x ∉ blankCodes := by
            intro x hx
            have e : (k2 : Int).toNat = k2 := by omega
            rw [e, hck2] at hx; cases hx; decide
          have hcm : (Txt.slice text (some (k2 : Int)) (some ((k2 : Int) + 1)) == Str.ofString ",") = true := by rw [slice_is hck2, comma_lit, one_beq]; rfl
          obtain ⟨c2, rr2, hcx2, hcb2, hc1252, _, _⟩ := Src.head y (Src.OkAll.mem hokx y (by rw [hw]; simp))
          obtain ⟨hck3, hkl5, _⟩ := of_drop (c := c2) (r := rr2 ++ (Src.codesTl r ++ 125 :: rest)) (by rw [hd3, Src.codesIn, hcx2]; simp)
          have hbk3 : ∀ x, text.cps[((k2 : Int) + 1).toNat]? = some x → x ∉ blankCodes := by
            intro x hx
            have e : ((k2 : Int) + 1).toNat = k2 + 1 := by omega
            rw [e, hck3] at hx; cases hx; exact hcb2
          have hcl : (Txt.slice text (some ((k2 : Int) + 1)) (some ((k2 : Int) + 1 + 1)) == Str.ofString "}") = false := by
            have e1 : Txt.slice text (some ((k2 : Int) + 1)) (some ((k2 : Int) + 1 + 1)) = ⟨#[c2]⟩ := slice_is (i := k2 + 1) hck3
            rw [e1, close_lit, one_beq]; simpa using hc1252
          k_with "call ref" => (k_dflt (refine' Tel.use (blanks_spec ?za ?zb ?zc) ?z1 ?z2 ?z3 ?z4 ?z5 ?zK ?zd ?zu ?_; (case z1 => k_asm); (case z2 => k_asm); (case z3 => k_asm); (case z4 => k_asm); (case z5 => k_asm); (case zK => first | exact rfl | assumption); (case za => assumption); (case zb => omega); (case zc => assumption); (case zd => ktr_room); (case zu => ktr_units)); intro r9 tl9 h9 tk9 F9 N9 hs9 hl9 ho9; obtain ⟨rfl, t9, rfl⟩ := ho9; (try simp only [List.append_nil] at N9); (try dsimp only); (try k_fold))
          k_with "call ref" => (k_dflt (refine' Tel.use (hitem _) ?z1 ?z2 ?z3 ?z4 ?z5 ?zK ?zd ?zu ?_; (case z1 => k_asm); (case z2 => k_asm); (case z3 => k_asm); (case z4 => k_asm); (case z5 => k_asm); (case zK => first | exact rfl | assumption); (case zd => ktr_room); (case zu => ktr_units)); intro r9 tl9 h9 tk9 F9 N9 hs9 hl9 ho9; obtain ⟨a9, t9, n9, wv9, rfl, hm9, hat9⟩ := ho9; (try simp only [List.cons_append, List.append_assoc] at N9); have hoff9 := off_more hfa htl hl9; have hgt9 := gt_more htl hl9; (try dsimp only); (try k_fold))
          k_with "assign Tuple" => (k_dflt (refine' unpackN_ ?y1 ?y2 ?y3 ?y4 ?y5 ?y6 ?_; (case y1 => k_asm); (case y2 => k_asm); (case y3 => exact News.isTup N9 (List.mem_cons_of_mem _ (List.mem_cons_of_mem _ (List.mem_append.mpr (.inr (List.mem_append.mpr (.inr hm9))))))); (case y4 => exact rfl); (case y5 => exact rfl); (case y6 => exact rfl)); intro h' F' N'; (try k_sweep))
          k_steps
          k_with_none
          rename News g _ _ _ => N9
          rename Fr g _ _ _ => F9
          rename Heap => h9
          obtain ⟨ta', F9⟩ : ∃ ta', Fr g L1 h9 (fmi (("at", .int ((k2 + 1 : Nat) : Int) ta') :: ("found", .ref fa) :: ("text", .str text t1) :: [("inner", wv9)])) :=
            ⟨_, frNormI (l₁ := [("at", _), ("at", _), ("at", _), ("inner", _), ("at", _), ("found", _), ("text", _)]) (inn := inn) F9 ["at", "found", "text", "inner"] ⟨rfl, rfl, rfl, rfl, trivial⟩ rfl (fun p hp => by rw [hinn p hp]; decide) rfl⟩
          rw [List.push_toArray] at N9
          refine Back.intro F9 (fun p hp => N9 p (.tail _ hp)) ⟨(y :: r).length, by rw [hn']; exact Nat.lt_succ_self _, done ++ [(.elem q w9)], y :: r, k2 + 1, ta', items ++ [wv9], mm + 1, [("inner", wv9)], tl ++ tl9, by rw [hw]; simp, rfl, hd3, by rw [← hk10]; simp [Src.codesTl, Src.codesIn]; omega, Src.Ats.snoc (hat9.mono (fun p hp => List.mem_append.mpr (.inr hp))) (hS.mono (fun p hp => List.mem_append.mpr (.inl hp))), hgt9, by simp, rfl, rfl⟩
      | list ys =>
        have hbr : (Txt.item text (k : Int) == Str.ofString "{") = true := by
          rw [hbr]
          exact decide_eq_true (hc123.mpr ⟨_, rfl⟩)
        cases r with
        | nil =>
          have hitem : ∀ nw, Tel w mean mg mb 114 nn [.str text t1, .int (k : Int) ta] nw (itemOut (.list ys) k2) := fun nw => item_list (ih ys (by unfold Src.dep at hxd; omega) hxok rfl hlen hdk1) hk2
          obtain ⟨hck2, hkl3, _⟩ := of_drop (c := 125) (r := rest) hd2
          have hkl4 : (k2 : Int) < text.length := by omega
          have hbk2 : ∀ x, text.cps[(k2 : Int).toNat]? = some x → x ∉ blankCodes := by
            intro x hx
            have e : (k2 : Int).toNat = k2 := by omega
            rw [e, hck2] at hx; cases hx; decide
          have hcm : (Txt.slice text (some (k2 : Int)) (some ((k2 : Int) + 1)) == Str.ofString ",") = false := by rw [slice_is hck2, comma_lit, one_beq]; rfl
          have hcl : (Txt.slice text (some (k2 : Int)) (some ((k2 : Int) + 1)) != Str.ofString "}") = false := by rw [slice_is hck2, close_lit, bne, one_beq]; rfl
          k_with "call ref" => (k_dflt (refine' Tel.use (blanks_spec ?za ?zb ?zc) ?z1 ?z2 ?z3 ?z4 ?z5 ?zK ?zd ?zu ?_; (case z1 => k_asm); (case z2 => k_asm); (case z3 => k_asm); (case z4 => k_asm); (case z5 => k_asm); (case zK => first | exact rfl | assumption); (case za => assumption); (case zb => omega); (case zc => assumption); (case zd => ktr_room); (case zu => ktr_units)); intro r9 tl9 h9 tk9 F9 N9 hs9 hl9 ho9; obtain ⟨rfl, t9, rfl⟩ := ho9; (try simp only [List.append_nil] at N9); (try dsimp only); (try k_fold))
          k_with "call ref" => (k_dflt (refine' Tel.use (hitem _) ?z1 ?z2 ?z3 ?z4 ?z5 ?zK ?zd ?zu ?_; (case z1 => k_asm); (case z2 => k_asm); (case z3 => k_asm); (case z4 => k_asm); (case z5 => k_asm); (case zK => first | exact rfl | assumption); (case zd => ktr_room); (case zu => ktr_units)); intro r9 tl9 h9 tk9 F9 N9 hs9 hl9 ho9; obtain ⟨a9, t9, n9, wv9, rfl, hm9, hat9⟩ := ho9; (try simp only [List.cons_append, List.append_assoc] at N9); have hoff9 := off_more hfa htl hl9; have hgt9 := gt_more htl hl9; (try dsimp only); (try k_fold))
          k_with "assign Tuple" => (k_dflt (refine' unpackN_ ?y1 ?y2 ?y3 ?y4 ?y5 ?y6 ?_; (case y1 => k_asm); (case y2 => k_asm); (case y3 => exact News.isTup N9 (List.mem_cons_of_mem _ (List.mem_cons_of_mem _ (List.mem_append.mpr (.inr (List.mem_append.mpr (.inr hm9))))))); (case y4 => exact rfl); (case y5 => exact rfl); (case y6 => exact rfl)); intro h' F' N'; (try k_sweep))
          k_steps
          k_with_none
          rename News g _ _ _ => N9
          rename Fr g _ _ _ => F9
          rename Heap => h9
          obtain ⟨ta', F9⟩ : ∃ ta', Fr g L1 h9 (fmi (("at", .int (k2 : Int) ta') :: ("found", .ref fa) :: ("text", .str text t1) :: [("inner", wv9)])) :=
            ⟨_, frNormI (l₁ := [("at", _), ("at", _), ("inner", _), ("at", _), ("found", _), ("text", _)]) (inn := inn) F9 ["at", "found", "text", "inner"] ⟨rfl, rfl, rfl, rfl, trivial⟩ rfl (fun p hp => by rw [hinn p hp]; decide) rfl⟩
          rw [List.push_toArray] at N9
          refine Back.intro F9 (fun p hp => N9 p (.tail _ hp)) ⟨0, by rw [hn']; exact Nat.succ_pos _, done ++ [(.list ys)], [], k2, ta', items ++ [wv9], mm + 1, [("inner", wv9)], tl ++ tl9, by rw [hw]; simp, rfl, by rw [hd2]; rfl, by rw [← hk10]; rfl, Src.Ats.snoc (hat9.mono (fun p hp => List.mem_append.mpr (.inr hp))) (hS.mono (fun p hp => List.mem_append.mpr (.inl hp))), hgt9, by simp, rfl, rfl⟩
        | cons y r =>
          have hitem : ∀ nw, Tel w mean mg mb 114 nn [.str text t1, .int (k : Int) ta] nw (itemOut (.list ys) k2) := fun nw => item_list (ih ys (by unfold Src.dep at hxd; omega) hxok rfl hlen hdk1) hk2
          obtain ⟨hck2, hkl3, hd3⟩ := of_drop (c := 44) (r := Src.codesIn (y :: r) ++ 125 :: rest) (by rw [hd2]; simp [Src.codesTl, Src.codesIn])
          have hkl4 : (k2 : Int) < text.length := by omega
          have hbk2 : ∀ x, text.cps[(k2 : Int).toNat]? = some x → x ∉ blankCodes := by
            intro x hx
            have e : (k2 : Int).toNat = k2 := by omega
            rw [e, hck2] at hx; cases hx; decide
          have hcm : (Txt.slice text (some (k2 : Int)) (some ((k2 : Int) + 1)) == Str.ofString ",") = true := by rw [slice_is hck2, comma_lit, one_beq]; rfl
          obtain ⟨c2, rr2, hcx2, hcb2, hc1252, _, _⟩ := Src.head y (Src.OkAll.mem hokx y (by rw [hw]; simp))
          obtain ⟨hck3, hkl5, _⟩ := of_drop (c := c2) (r := rr2 ++ (Src.codesTl r ++ 125 :: rest)) (by rw [hd3, Src.codesIn, hcx2]; simp)
          have hbk3 : ∀ x, text.cps[((k2 : Int) + 1).toNat]? = some x → x ∉ blankCodes := by
            intro x hx
            have e : ((k2 : Int) + 1).toNat = k2 + 1 := by omega
            rw [e, hck3] at hx; cases hx; exact hcb2
          have hcl : (Txt.slice text (some ((k2 : Int) + 1)) (some ((k2 : Int) + 1 + 1)) == Str.ofString "}") = false := by
            have e1 : Txt.slice text (some ((k2 : Int) + 1)) (some ((k2 : Int) + 1 + 1)) = ⟨#[c2]⟩ := slice_is (i := k2 + 1) hck3
            rw [e1, close_lit, one_beq]; simpa using hc1252
          k_with "call ref" => (k_dflt (refine' Tel.use (blanks_spec ?za ?zb ?zc) ?z1 ?z2 ?z3 ?z4 ?z5 ?zK ?zd ?zu ?_; (case z1 => k_asm); (case z2 => k_asm); (case z3 => k_asm); (case z4 => k_asm); (case z5 => k_asm); (case zK => first | exact rfl | assumption); (case za => assumption); (case zb => omega); (case zc => assumption); (case zd => ktr_room); (case zu => ktr_units)); intro r9 tl9 h9 tk9 F9 N9 hs9 hl9 ho9; obtain ⟨rfl, t9, rfl⟩ := ho9; (try simp only [List.append_nil] at N9); (try dsimp only); (try k_fold))
          k_with "call ref" => (k_dflt (refine' Tel.use (hitem _) ?z1 ?z2 ?z3 ?z4 ?z5 ?zK ?zd ?zu ?_; (case z1 => k_asm); (case z2 => k_asm); (case z3 => k_asm); (case z4 => k_asm); (case z5 => k_asm); (case zK => first | exact rfl | assumption); (case zd => ktr_room); (case zu => ktr_units)); intro r9 tl9 h9 tk9 F9 N9 hs9 hl9 ho9; obtain ⟨a9, t9, n9, wv9, rfl, hm9, hat9⟩ := ho9; (try simp only [List.cons_append, List.append_assoc] at N9); have hoff9 := off_more hfa htl hl9; have hgt9 := gt_more htl hl9; (try dsimp only); (try k_fold))
          k_with "assign Tuple" => (k_dflt (refine' unpackN_ ?y1 ?y2 ?y3 ?y4 ?y5 ?y6 ?_; (case y1 => k_asm); (case y2 => k_asm); (case y3 => exact News.isTup N9 (List.mem_cons_of_mem _ (List.mem_cons_of_mem _ (List.mem_append.mpr (.inr (List.mem_append.mpr (.inr hm9))))))); (case y4 => exact rfl); (case y5 => exact rfl); (case y6 => exact rfl)); intro h' F' N'; (try k_sweep))
          k_steps
          k_with_none
          rename News g _ _ _ => N9
          rename Fr g _ _ _ => F9
          rename Heap => h9
          obtain ⟨ta', F9⟩ : ∃ ta', Fr g L1 h9 (fmi (("at", .int ((k2 + 1 : Nat) : Int) ta') :: ("found", .ref fa) :: ("text", .str text t1) :: [("inner", wv9)])) :=
            ⟨_, frNormI (l₁ := [("at", _), ("at", _), ("at", _), ("inner", _), ("at", _), ("found", _), ("text", _)]) (inn := inn) F9 ["at", "found", "text", "inner"] ⟨rfl, rfl, rfl, rfl, trivial⟩ rfl (fun p hp => by rw [hinn p hp]; decide) rfl⟩
          rw [List.push_toArray] at N9
          refine Back.intro F9 (fun p hp => N9 p (.tail _ hp)) ⟨(y :: r).length, by rw [hn']; exact Nat.lt_succ_self _, done ++ [(.list ys)], y :: r, k2 + 1, ta', items ++ [wv9], mm + 1, [("inner", wv9)], tl ++ tl9, by rw [hw]; simp, rfl, hd3, by rw [← hk10]; simp [Src.codesTl, Src.codesIn]; omega, Src.Ats.snoc (hat9.mono (fun p hp => List.mem_append.mpr (.inr hp))) (hS.mono (fun p hp => List.mem_append.mpr (.inl hp))), hgt9, by simp, rfl, rfl⟩
  case kd =>
    rintro m₁ nx h₁ tk₁ F3 N3 ⟨k, ta, items, mm, inn, tl, hk9, hS, htl, rfl, rfl⟩
    clear F2 N2
    dsimp only
    k_steps
    rename News h₀ _ _ _ => N9
    rename Fr h₀ _ _ _ => F9
    rename _ ∧ AllLt _ (news ++ tl) => hlt
    exact hret _ _ _ _ F9 (ledger_two N9) (stays_end G1 N (by assumption) (by assumption) (fun p hp => .tail _ (.tail _ (List.mem_append.mpr (.inl hp))))) (order_two hfa hlt.1 htl) ⟨_, _, _, fa, items, mm, _, rfl, .head _, .tail _ (.head _), hS.mono (fun p hp => .tail _ (.tail _ hp)), by rw [← hk9]; rfl⟩
end Mine
end
section
open PySem PySem.W PyProof.Rows
namespace Mine
section
variable {prog : Program} {w : World} {A : Around} {E : Value → Shared → Prop} {s : Shared} {env : Env}
/-- the turns of a comprehension whose elements may make objects: the i-th result is as R says, over objects made later than the block's own names -/
theorem comp_turns {elt iter : Expr} {x : Str} {px : Pos} {scope : Scope} {pos : Pos} {I D : Addr} {fp wr : List Addr} {n : Nat} {P : Nat → Value → Prop} {St : Nat → Heap → Prop} {cenv : Env} {m : Str → Option Value} {Rr : Result → Shared → Prop}
    (W : Walks prog w A I fp wr n P St) (R : Nat → List (Addr × Obj) → Value → Prop) (mono : ∀ i tl tl' y, (∀ p ∈ tl, p ∈ tl') → R i tl y → R i tl' y)
    (hx : cenv.kindOf x = some .local) (hp : (cenv.scope.kind == .class || (cenv.scope.kind == .module && cenv.locals != cenv.globals)) = false) (hDC : D < cenv.locals) (hfp : ∀ b ∈ fp, b < D)
    (hst : St 0 s.heap) (hacc : s.heap.PlainList D #[]) (hn : s.heap.Ns cenv.locals m)
    (helt : ∀ i v s₂ m₂ (E' : Value → Shared → Prop), i < n → P i v → s₂.heap.Ns cenv.locals m₂ → m₂ x = some v → (∀ b o, b ≠ cenv.locals → b ∉ wr → b ≠ D → s.heap.get? b = some o → s₂.heap.get? b = some o) →
      wpAny (model prog w) A (eval elt cenv) (fun y s₃ => (∃ tl : List (Addr × Obj), (∀ p ∈ tl, cenv.locals < p.1 ∧ s₃.heap.get? p.1 = some p.2) ∧ R i tl y) ∧ Keeps s₂ s₃) E' s₂)
    (hR : ∀ h' tk m' (ys : List Value) (tl : List (Addr × Obj)), h'.Ns cenv.locals m' → h'.PlainList D ys.toArray → ys.length = n → (∀ p ∈ tl, cenv.locals < p.1 ∧ h'.get? p.1 = some p.2) → (∀ j y, ys[j]? = some y → R j tl y) →
      (∀ b o, b ≠ cenv.locals → b ∉ wr → b ≠ D → s.heap.get? b = some o → h'.get? b = some o) → Rr (.ok .next) { s with heap := h', toks := tk })
    (hsz : n ≤ sizeLine) : codeAny (model prog w) A (.compLoop (.ListComp elt [⟨.Name x px, iter, [], 0⟩] scope pos) 0 (.ref I) (.ref D) cenv) Rr s := by
  have hCw : cenv.locals ∉ wr := fun h => absurd (Nat.lt_trans (hfp _ (W.sub _ h)) hDC) (Nat.lt_irrefl _)
  have hDw : D ∉ wr := fun h => absurd (hfp _ (W.sub _ h)) (Nat.lt_irrefl _)
  have hne : D ≠ cenv.locals := Nat.ne_of_lt hDC
  refine codeAny_compLoop_tests (fun k s' => ∃ h' tk m', ∃ ys : List Value, ∃ tl : List (Addr × Obj), s' = { s with heap := h', toks := tk } ∧ St ys.length h' ∧ h'.PlainList D ys.toArray ∧ h'.Ns cenv.locals m' ∧
      (∀ p ∈ tl, cenv.locals < p.1 ∧ h'.get? p.1 = some p.2) ∧ (∀ j y, ys[j]? = some y → R j tl y) ∧ ys.length ≤ n ∧ k = n + 1 - ys.length ∧
      (∀ b o, b ≠ cenv.locals → b ∉ wr → b ≠ D → s.heap.get? b = some o → h'.get? b = some o)) ?_ (n + 1)
    ⟨s.heap, s.toks, m, [], [], rfl, hst, hacc, hn, (fun _ hp => nomatch hp), (fun j y hy => by simp at hy), Nat.zero_le _, rfl, fun _ _ _ _ _ e => e⟩
  rintro k s' ⟨H, tk, m', ys, tl, rfl, hst', hacc', hn', htl, hRs, hle, rfl, hk⟩
  by_cases hlt : ys.length < n
  · refine W.item ys.length _ _ _ hlt hst' fun v h₁ tk₁ hPv hst₁ hk₁ => ?_
    refine wpAny_assign_Name (wpAny_storeName_local hx (hn'.at' fun o e => hk₁ _ o hCw e) (fun h₂ hn₂ hs₂ => ?_) hp)
    have up : ∀ b o, b ≠ cenv.locals → b ∉ wr → H.get? b = some o → h₂.get? b = some o := fun b o hbC hbw e => hs₂.extBut b o hbC (hk₁ b o hbw e)
    have hst₂ : St (ys.length + 1) h₂ := W.frame _ _ _ hst₁ fun b hb o e => hs₂.extBut b o (fun h => absurd (Nat.lt_trans (hfp b hb) (h ▸ hDC)) (Nat.lt_irrefl _)) e
    refine wpAny_tests_nil ?_
    simp only [if_true]
    refine wpAny_mono (helt ys.length v _ _ _ hlt hPv hn₂ (by simp) (fun b o hbC hbw hbD e => up b o hbC hbw (hk b o hbC hbw hbD e))) (fun y s₄ h₄ => ?_) fun _ _ e => e
    obtain ⟨⟨tl', htl', hRy⟩, h₄, tk₄, rfl, hk₄⟩ := h₄
    have hys : ys.toArray.size ≤ sizeLine := by rw [List.size_toArray]; omega
    refine wpAny_list_append_plain (hsz := hys) ((hacc'.at fun o e => up D o hne hDw e).at fun o e => hk₄ _ o e) fun h₅ hl₅ hs₅ => ?_
    rw [List.push_toArray] at hl₅
    have tlow : ∀ p : Addr × Obj, cenv.locals < p.1 → p.1 ≠ cenv.locals ∧ p.1 ∉ wr ∧ p.1 ≠ D := fun p h =>
      ⟨Nat.ne_of_gt h, fun hm => absurd (Nat.lt_trans (Nat.lt_trans (hfp _ (W.sub _ hm)) hDC) h) (Nat.lt_irrefl _), Nat.ne_of_gt (Nat.lt_trans hDC h)⟩
    refine ⟨n + 1 - (ys.length + 1), by omega, h₅, tk₄, _, ys ++ [y], tl ++ tl', rfl, ?_, hl₅, (hn₂.keeps hk₄).sameBut hs₅ (Ne.symm hne), ?_, ?_, (by rw [List.length_append, List.length_singleton]; exact hlt),
      (by rw [List.length_append, List.length_singleton]), fun b o hbC hbw hbD e => hs₅.extBut b o hbD (hk₄ b o (up b o hbC hbw (hk b o hbC hbw hbD e)))⟩
    · have := W.frame _ _ h₅ hst₂ fun b hb o e => hs₅.extBut b o (fun h => absurd (h ▸ hfp b hb) (Nat.lt_irrefl _)) (hk₄ b o e)
      simpa using this
    · intro p hp
      rcases List.mem_append.mp hp with hp | hp
      · obtain ⟨a1, a2⟩ := htl p hp
        obtain ⟨b1, b2, b3⟩ := tlow p a1
        exact ⟨a1, hs₅.extBut _ _ b3 (hk₄ _ _ (up _ _ b1 b2 a2))⟩
      · obtain ⟨a1, a2⟩ := htl' p hp
        obtain ⟨b1, b2, b3⟩ := tlow p a1
        exact ⟨a1, hs₅.extBut _ _ b3 a2⟩
    · intro j z hz
      rcases Nat.lt_trichotomy j ys.length with h | h | h
      · rw [List.getElem?_append_left h] at hz
        exact mono _ _ _ _ (fun p hp => List.mem_append.mpr (.inl hp)) (hRs j z hz)
      · subst h
        simp at hz
        subst hz
        exact mono _ _ _ _ (fun p hp => List.mem_append.mpr (.inr hp)) hRy
      · rw [List.getElem?_eq_none (by rw [List.length_append, List.length_singleton]; omega)] at hz
        cases hz
  · have hin : ys.length = n := by omega
    refine W.done _ _ _ (hin ▸ hst') fun h₁ tk₁ hk₁ => ?_
    refine hR h₁ tk₁ m' ys tl (hn'.at' fun o e => hk₁ _ o hCw e) (hacc'.at fun o e => hk₁ _ o hDw e) hin (fun p hp => ?_) hRs fun b o hbC hbw hbD e => hk₁ b o hbw (hk b o hbC hbw hbD e)
    obtain ⟨a1, a2⟩ := htl p hp
    exact ⟨a1, hk₁ _ _ (fun hm => absurd (Nat.lt_trans (Nat.lt_trans (hfp _ (W.sub _ hm)) hDC) a1) (Nat.lt_irrefl _)) a2⟩
/-- one block of a comprehension over what is walked -/
structure CompSays (prog : Program) (w : World) (A : Around) (env : Env) (scope : Scope) (cl : List (Str × Addr)) (x : Str) (elt : Expr) (wr : List Addr) (n : Nat) (P : Nat → Value → Prop) (R : Nat → List (Addr × Obj) → Value → Prop) (s₂ : Shared) : Prop where
  mono : ∀ i tl tl' y, (∀ p ∈ tl, p ∈ tl') → R i tl y → R i tl' y
  elt : ∀ C i v s₃ m₃ (E' : Value → Shared → Prop), s₂.heap.objs.size < C → i < n → P i v → s₃.heap.Ns C m₃ → m₃ x = some v → (∀ b o, b ∉ wr → s₂.heap.get? b = some o → s₃.heap.get? b = some o) →
    wpAny (model prog w) A (eval elt (compEnvC scope cl C env)) (fun y s₄ => (∃ tl : List (Addr × Obj), (∀ p ∈ tl, C < p.1 ∧ s₄.heap.get? p.1 = some p.2) ∧ R i tl y) ∧ Keeps s₃ s₄) E' s₃
theorem comp_block {elt iter : Expr} {x : Str} {px : Pos} {scope : Scope} {cl : List (Str × Addr)} {pos : Pos} {s₂ : Shared} {I : Addr} {fp wr : List Addr} {n : Nat} {P : Nat → Value → Prop} {St : Nat → Heap → Prop}
    (W : Walks prog w A I fp wr n P St) (hsz : n ≤ sizeLine) {R : Nat → List (Addr × Obj) → Value → Prop} {RR : Value → Addr → Result → Shared → Prop}
    (hcell : ∀ y ∈ scope.names, y.2 ≠ .cell) (hkind : scope.kind = .function) (hx : scope.names.lookup x = some .local) (hst : St 0 s₂.heap) (hfp : ∀ b ∈ fp, b < s₂.heap.objs.size)
    (hq : CompSays prog w A env scope cl x elt wr n P R s₂)
    (hRR : ∀ C h' tk m' (ys : List Value) (tl : List (Addr × Obj)), s₂.heap.objs.size < C → h'.Ns C m' → h'.PlainList s₂.heap.objs.size ys.toArray → ys.length = n → (∀ p ∈ tl, C < p.1 ∧ h'.get? p.1 = some p.2) → (∀ j y, ys[j]? = some y → R j tl y) →
      (∀ b o, b ∉ wr → s₂.heap.get? b = some o → h'.get? b = some o) → RR (.ref s₂.heap.objs.size) C (.ok .next) { s₂ with heap := h', toks := tk }) :
    wpAny (model prog w) A (newList []) (fun acc s₃ => wpAny (model prog w) A (newFunctionEnv scope env.globals cl [] env.qual none .none (some env)) (fun cenv s₄ =>
      codeAny (model prog w) A (.compStart (.ListComp elt [⟨.Name x px, iter, [], 0⟩] scope pos) 0 (.ref I) acc { cenv with scope := relabel scope env }) (RR acc cenv.locals) s₄) E s₃) E s₂ := by
  refine wpAny_newObj_type (wpAny_newFunctionEnv hcell (by intro y hy; simp at hy) (fun h₁ hns₁ hsb₁ => ?_) hkind)
  dsimp only at hns₁ hsb₁ ⊢
  generalize hH : s₂.heap.push { cls := .type "list", dict := none, data := .seq ([] : List Value).toArray } = H at hns₁ hsb₁ ⊢
  have hC : H.objs.size = s₂.heap.objs.size + 1 := by rw [← hH, Heap.size_push]
  have hDC : s₂.heap.objs.size < H.objs.size := by rw [hC]; exact Nat.lt_succ_self _
  have small : ∀ b, b < s₂.heap.objs.size → b ≠ H.objs.size ∧ b ≠ s₂.heap.objs.size := fun b hb => ⟨Nat.ne_of_lt (Nat.lt_trans hb hDC), Nat.ne_of_lt hb⟩
  have old : ∀ b o, s₂.heap.get? b = some o → h₁.get? b = some o := fun b o e => hsb₁.extBut b o (small b (Heap.lt_size e)).1 (Heap.get?_push_of_some _ (hH ▸ Heap.get?_push_of_some _ e))
  have hacc : h₁.PlainList s₂.heap.objs.size #[] := ⟨_, hsb₁.extBut _ _ (Nat.ne_of_lt hDC) (Heap.get?_push_of_some _ (hH ▸ Heap.get?_push_size _ rfl))⟩
  have hst₁ : St 0 h₁ := W.frame _ _ _ hst fun b _ o e => old b o e
  have up : ∀ (h₂ : Heap), (∀ b o, b ≠ H.objs.size → b ∉ wr → b ≠ s₂.heap.objs.size → h₁.get? b = some o → h₂.get? b = some o) → ∀ b o, b ∉ wr → s₂.heap.get? b = some o → h₂.get? b = some o :=
    fun h₂ hk b o hb e => hk b o (small b (Heap.lt_size e)).1 hb (small b (Heap.lt_size e)).2 (old b o e)
  have loop : ∀ s₃ : Shared, s₃ = { s₂ with heap := h₁, toks := s₂.toks + ([] : List (Str × Value)).length } →
      codeAny (model prog w) A (.compLoop (.ListComp elt [⟨.Name x px, iter, [], 0⟩] scope pos) 0 (.ref I) (.ref s₂.heap.objs.size) (compEnvC scope cl H.objs.size env)) (RR (.ref s₂.heap.objs.size) H.objs.size) s₃ := by
    rintro s₃ rfl
    refine comp_turns (cenv := compEnvC scope cl H.objs.size env) W R hq.mono (lookup_relabel_local hx) (by simp [compEnvC, relabel, hkind]) hDC hfp hst₁ hacc hns₁
      (fun i v s₃ m₃ E' hi hv hn hm hk => hq.elt _ i v s₃ m₃ E' hDC hi hv hn hm (up _ hk)) (fun h' tk m' ys tl hn hpl hlen htl hRs hk => ?_) hsz
    exact hRR _ h' tk m' ys tl hDC hn hpl hlen htl hRs (up _ hk)
  exact codeAny_compStart_list (loop _ rfl) (W.self 0 _ _ _ hst₁ (loop _ rfl))
/-- a comprehension as an expression -/
theorem comp_expr {elt iter : Expr} {x : Str} {px : Pos} {scope : Scope} {cl : List (Str × Addr)} {pos : Pos} {Q : Value → Shared → Prop} (R : Nat → List (Addr × Obj) → Value → Prop)
    (hclos : closureFor scope env = pure cl) (hcell : ∀ y ∈ scope.names, y.2 ≠ .cell) (hkind : scope.kind = .function) (hnames : ∀ y ∈ scope.names, y.2 = .local → scope.names.lookup y.1 = some .local) (hx : scope.names.lookup x = some .local)
    (hs : ∀ x, foldedSetIterable iter env x = pure x)
    (h : wpAny (model prog w) A (eval iter env) (fun xv s₁ => wpAny (model prog w) A (pyIter xv) (fun it s₂ => ∃ I fp wr n P St, it = .ref I ∧ Walks prog w A I fp wr n P St ∧ n ≤ sizeLine ∧ St 0 s₂.heap ∧ (∀ b ∈ fp, b < s₂.heap.objs.size) ∧
      CompSays prog w A env scope cl x elt wr n P R s₂ ∧
      (∀ h' tk (ys : List Value) (tl : List (Addr × Obj)), h'.PlainList s₂.heap.objs.size ys.toArray → ys.length = n → (∀ p ∈ tl, s₂.heap.objs.size < p.1 ∧ h'.get? p.1 = some p.2) → (∀ j y, ys[j]? = some y → R j tl y) →
        (∀ b o, b ∉ wr → s₂.heap.get? b = some o → h'.get? b = some o) → Q (.ref s₂.heap.objs.size) { s₂ with heap := h', toks := tk })) E s₁) E s) :
    wpAny (model prog w) A (eval (.ListComp elt [⟨.Name x px, iter, [], 0⟩] scope pos) env) Q E s := by
  rw [eval_ListComp]
  refine wpAny_comprehension_free (use := none) rfl hs hclos hkind hnames (wpAny_mono h (fun xv s₁ h₁ => wpAny_mono h₁ (fun it s₂ h₂ => ?_) fun _ _ e => e) fun _ _ e => e)
  obtain ⟨I, fp, wr, n, P, St, rfl, W, hsz, hst, hfp, hq, hQ⟩ := h₂
  refine comp_block (RR := fun acc C => compPost (model prog w) A E none Q acc C) W hsz hcell hkind hx hst hfp hq ?_
  intro C h' tk m' ys tl hDC hn hpl hlen htl hRs hk
  have hlow : ∀ b, b < C → b ≠ C := fun b hb => Nat.ne_of_lt hb
  refine ⟨m', hn, fun h'' hs'' => hQ h'' tk ys tl ?_ hlen (fun p hp => ?_) hRs fun b o hbw e => ?_⟩
  · obtain ⟨k, e⟩ := hpl
    exact ⟨k, hs''.extBut _ _ (Nat.ne_of_lt hDC) e⟩
  · obtain ⟨a1, a2⟩ := htl p hp
    exact ⟨Nat.lt_trans hDC a1, hs''.extBut _ _ (Nat.ne_of_gt a1) a2⟩
  · exact hs''.extBut b o (Nat.ne_of_lt (Nat.lt_trans (Heap.lt_size e) hDC)) (hk b o hbw e)
/-- a comprehension bound to a name of the frame's -/
theorem comp_assign {elt iter : Expr} {x y : Str} {px py : Pos} {scope : Scope} {cl : List (Str × Addr)} {pos spos : Pos} {Q : Flow → Shared → Prop} (R : Nat → List (Addr × Obj) → Value → Prop)
    (hsw : swapsWith (.ListComp elt [⟨.Name x px, iter, [], 0⟩] scope pos) (some (.Name y py)) spos.line env = pure true)
    (hclos : closureFor scope env = pure cl) (hcell : ∀ y ∈ scope.names, y.2 ≠ .cell) (hkind : scope.kind = .function) (hnames : ∀ y ∈ scope.names, y.2 = .local → scope.names.lookup y.1 = some .local) (hx : scope.names.lookup x = some .local)
    (hy : env.kindOf y = some .local) (hp : (env.scope.kind == .class || (env.scope.kind == .module && env.locals != env.globals)) = false)
    (hs : ∀ x, foldedSetIterable iter env x = pure x)
    (h : wpAny (model prog w) A (eval iter env) (fun xv s₁ => wpAny (model prog w) A (pyIter xv) (fun it s₂ => ∃ I fp wr n P St m, it = .ref I ∧ Walks prog w A I fp wr n P St ∧ n ≤ sizeLine ∧ St 0 s₂.heap ∧ (∀ b ∈ fp, b < s₂.heap.objs.size) ∧
      env.locals ∉ wr ∧ s₂.heap.Ns env.locals m ∧ CompSays prog w A env scope cl x elt wr n P R s₂ ∧
      (∀ h' tk (ys : List Value) (tl : List (Addr × Obj)), h'.PlainList s₂.heap.objs.size ys.toArray → ys.length = n → (∀ p ∈ tl, s₂.heap.objs.size < p.1 ∧ h'.get? p.1 = some p.2) → (∀ j y, ys[j]? = some y → R j tl y) →
        h'.Ns env.locals (fun z => if z = y then some (.ref s₂.heap.objs.size) else m z) →
        (∀ b o, b ≠ env.locals → b ∉ wr → s₂.heap.get? b = some o → h'.get? b = some o) → Q .next { s₂ with heap := h', toks := tk })) E s₁) E s) :
    wpAny (model prog w) A (exec (.Assign [.Name y py] (.ListComp elt [⟨.Name x px, iter, [], 0⟩] scope pos) spos) env) Q E s := by
  rw [exec_Assign_Name_used _ _ _ _ hsw]
  refine wpAny_bind (wpAny_standAt (wpAny_bind ?_))
  show wpAny _ A (do let _ ← comprehension (.ListComp elt [⟨.Name x px, iter, [], 0⟩] scope pos) scope env _ (newList []) false (eval iter env) (some (assign (.Name y py) env))) _ _ s
  refine wpAny_bind (wpAny_mono (wpAny_comprehension_free (use := some (assign (.Name y py) env)) (Q := fun _ s' => Q .next s') rfl hs hclos hkind hnames
    (wpAny_mono h (fun xv s₁ h₁ => wpAny_mono h₁ (fun it s₂ h₂ => ?_) fun _ _ e => e) fun _ _ e => e)) (fun _ s' hq => wpAny_pure (wpAny_pure hq)) fun _ _ e => e)
  obtain ⟨I, fp, wr, n, P, St, m, rfl, W, hsz, hst, hfp, hLw, hn₀, hq, hQ⟩ := h₂
  refine comp_block (RR := fun acc C => compPost (model prog w) A E (some (assign (.Name y py) env)) (fun _ s' => Q .next s') acc C) W hsz hcell hkind hx hst hfp hq ?_
  intro C h' tk m' ys tl hDC hn hpl hlen htl hRs hk
  have hLlt : env.locals < s₂.heap.objs.size := hn₀.lt
  have hLC : env.locals ≠ C := Nat.ne_of_lt (Nat.lt_trans hLlt hDC)
  have hLD : env.locals ≠ s₂.heap.objs.size := Nat.ne_of_lt hLlt
  show wpAny _ A (assign (.Name y py) env (.ref _)) _ _ _
  refine wpAny_assign_Name (wpAny_storeName_local hy (hn₀.at' fun o e => hk _ o hLw e) (fun h₂ hn₂ hs₂ => ?_) hp)
  refine ⟨m', hn.sameBut hs₂ (Ne.symm hLC), fun h₃ hs₃ => hQ h₃ _ ys tl ?_ hlen (fun p hp => ?_) hRs (hn₂.sameBut hs₃ hLC) fun b o hbL hbw e => ?_⟩
  · obtain ⟨k, e⟩ := hpl
    exact ⟨k, hs₃.extBut _ _ (Nat.ne_of_lt hDC) (hs₂.extBut _ _ (Ne.symm hLD) e)⟩
  · obtain ⟨a1, a2⟩ := htl p hp
    exact ⟨Nat.lt_trans hDC a1, hs₃.extBut _ _ (Nat.ne_of_gt a1) (hs₂.extBut _ _ (Nat.ne_of_gt (Nat.lt_trans (Nat.lt_trans hLlt hDC) a1)) a2)⟩
  · exact hs₃.extBut b o (Nat.ne_of_lt (Nat.lt_trans (Heap.lt_size e) hDC)) (hs₂.extBut b o hbL (hk b o hbw e))
end
end Mine
end
section
open PySem PySem.W PyProof.Rows
namespace Mine
section
variable {prog : Program} {w : World} {A : Around} {E : Value → Shared → Prop} {s : Shared} {env : Env} {h₀ : Heap} {x : Str} {body : List Stmt} {Q : Flow → Shared → Prop}
/-- a loop over a text's signs -/
theorem for_str {px pos : Pos} {iter : Expr} {xt : Str} {t : Tok} {m₀ : Str → Option Value} {news : List (Addr × Obj)} (J : Nat → (Str → Option Value) → List (Addr × Obj) → Prop)
    (F : Fr h₀ env.locals s.heap m₀) (N : News h₀ env.locals s.heap news) (hj : J 0 m₀ news)
    (hiter : wpAny (model prog w) A (eval iter env) (fun v s' => v = .str xt t ∧ s' = s) E s)
    (turn : ∀ i c t' m₁ nx h tk own, xt.cps[i]? = some c → nx.map (·.1) = news.map (·.1) → OwnOff own (news.map (·.1)) → J i m₁ nx → Fr h₀ env.locals h (fun y => if y = x then some (.str ⟨#[c]⟩ t') else m₁ y) → News h₀ env.locals h (nx ++ own) →
      wpAny (model prog w) A (execs body env) (InvPostN h₀ env.locals (J (i + 1)) own (news.map (·.1)) { s with heap := h, toks := tk } Q) E { s with heap := h, toks := tk })
    (done : ∀ m₁ nx h tk, J xt.length m₁ nx → Fr h₀ env.locals h m₁ → News h₀ env.locals h nx → Q .next { s with heap := h, toks := tk })
    (hh : A.handled = none) (hx : env.kindOf x = some .local) (hp : (env.scope.kind == .class || (env.scope.kind == .module && env.locals != env.globals)) = false)
    (hs : ∀ x, foldedSetIterable iter env x = pure x) (hE : PassesOwn (model prog w) A env E) :
    wpAny (model prog w) A (exec (.For (.Name x px) iter body [] pos) env) Q E s := by
  refine For_invVF F hx hp (wpAny_mono hiter (fun v s' e => ?_) fun _ _ e => e) hs hE
  obtain ⟨rfl, rfl⟩ := e
  refine wpAny_pyIter_str fun o St hW hst => ?_
  have hLlt : env.locals < s'.heap.objs.size := F.ns.lt
  refine loop_invN J (hW A hh) (fun hm => absurd hLlt ((List.mem_singleton.mp hm) ▸ Nat.lt_irrefl _)) (fun b hb => ?_) (fun p hp hI => absurd (Heap.lt_size (N p hp).1) ((List.mem_singleton.mp hI) ▸ Nat.lt_irrefl _))
    (fun p hp hI => absurd (Heap.lt_size (N p hp).1) ((List.mem_singleton.mp hI) ▸ Nat.lt_irrefl _)) hst (F.push _) (fun p hp => ⟨Heap.get?_push_of_some _ (N p hp).1, (N p hp).2⟩) hj ?_ (fun m₁ nx h tk j F₁ N₁ => done m₁ nx h tk j F₁ N₁)
  · rw [List.mem_singleton.mp hb]
    exact next_is_new F
  · rintro i v m₁ nx h tk own hi ⟨c, u, hc, rfl⟩ hadr hoff hJ F₁ N₁
    exact turn i c u m₁ nx h tk own hc hadr hoff hJ F₁ N₁
end
end Mine
end
section
open PySem PySem.W PyProof.Rows
namespace Mine
section
variable {prog : Program} {w : World} {A₀ A : Around} {s : Shared} {base h₀ : Heap} {outer : List Env} {L : Addr} {m : Str → Option Value} {env : Env} {news : List (Addr × Obj)} {K : Frag} {p : Program} {loose : List Str} {mean : ExcName → Option Value} {mg mb : Str → Option Value}
/-- the entry of a def with cells, which keeps the whole heap beside the ledger -/
theorem code_cells {R : Result → Shared → Prop} {name qual : Str} {params : Arguments} {body : List Stmt} {scope : Scope} {dV kV doc pm cdv ct oc : Value} {an od : Option Addr} {osl : Array (Option Value)} {f : Addr} {args : Args} {binds : List (Str × Value)}
    (B : Below A₀ base outer h₀) (F : Fr h₀ L s.heap m) (X₀ : K.In h₀) (N : News h₀ L s.heap news) (T : Top p loose mean mg mb h₀) (hA : A.frames = some (env :: outer)) (hf : env.frame = some L) (hke : env.scope.kind = .function)
    (ho : K.lookup f = some ⟨oc, od, .func (fnOf name qual params body scope dV kV doc pm an cdv ct), osl⟩) (hcd : codeIn K cdv qual = true) (hroom : A.depth < recursionLimit)
    (hbind : BindsTo s (fnOf name qual params body scope dV kV doc pm an cdv ct) args binds) (hkind : (binds.all fun y => scope.names.lookup y.1 == some .local || scope.names.lookup y.1 == some .cell) = true)
    (hnd : ((cellsFrom 0 scope.names []).map (·.1)).Nodup)
    (h : ∀ g L' h₁ tk cells, Fr h₀ L g m → Fr g L' h₁ (bindL (envOfC qual scope L' f cdv).kindOf binds fun _ => none) → News g L' h₁ (cells ++ news) →
      CellsAre (bindC (envOfC qual scope L' f cdv).kindOf binds fun _ => none) (cellsFrom (L' + 1) scope.names []) cells → Below A base (env :: outer) g → K.In g → Top p loose mean mg mb g → GSub s.heap g (news.map (·.1)) → (∀ p ∈ news, p.1 < L') →
      wpAny (model prog w) (A.deeper (envOfC qual scope L' f cdv)) (execs body (envOfC qual scope L' f cdv))
        (fun fl s' => LeaveK h₀ L m g R (match fl with | .ret v => v | _ => .none) s')
        (fun e s' => wpAny (model prog w) (A.deeper (envOfC qual scope L' f cdv)) (leaving (envOfC qual scope L' f cdv) e) (fun _ s'' => R (.error e) s'') (fun e' s'' => R (.error e') s'') s')
        { s with heap := h₁, toks := tk })
    (hco : scope.isCoroutine = false) (hgen : scope.isGenerator = false) (hk : scope.kind = .function) : codeAny (model prog w) A (.call (.ref f) args) R s := by
  obtain ⟨FG, BG, st, lv⟩ := groundX (R := R) B F N hA hf hke
  refine codeAny_call_function hroom ((X₀.keeps F.keep) _ _ ho) rfl hco hgen rfl (codeRec_of (X₀.keeps F.keep) hcd) (hbind _ _ _ _ ?_)
  refine wpAny_newFunctionEnv_cells hk (kindsX hkind _) fun env' he s' x => ?_
  subst he
  refine ⟨(T.nolimit.keeps F.keep).keeps x.toInCall.keep, codeAny_func ?_⟩
  obtain ⟨h₁, tk, rfl, _⟩ := x.done
  have up := x.toInCall.keep
  obtain ⟨cells, NC, Y⟩ := Cl.news (h₀ := s.heap) (Nat.le_refl _) fun n c hm => ⟨x.cell n c (lookup_of_mem_nodup (cellsFrom_names scope.names 0 (s.heap.objs.size + 1) [] [] rfl ▸ hnd) hm), x.above n c hm⟩
  refine wpAny_mono (h _ s.heap.objs.size h₁ tk cells FG ⟨x.toInCall.ns, fun b o e => up b o (of_hideAll _ e), Nat.le_of_eq (hideAll_size _ _)⟩ (fun p hp => ?_) Y BG (X₀.keeps st) (T.keeps st) (fun b o e n => hideAll_get _ e n) (fun p hp => Heap.lt_size (N p hp).1)) (fun fl s' hl => lv _ _ hl) fun _ _ y => y
  rcases List.mem_append.mp hp with hp | hp
  · refine ⟨(NC p hp).1, (NC p hp).2.1, ?_⟩
    cases q : (hideAll s.heap (news.map (·.1))).get? p.1 with
    | none => rfl
    | some o => have := of_hideAll _ q; rw [(NC p hp).2.2] at this; cases this
  · exact ⟨up _ _ (N p hp).1, Nat.ne_of_lt (Heap.lt_size (N p hp).1), hideAll_none _ (List.mem_map_of_mem hp)⟩
end
section
variable {prog : Program} {w : World} {A : Around} {E : Value → Shared → Prop} {s : Shared}
/-- the code of a generator's block, whether the table of the code around has it or not -/
theorem gen_code {M : Model} {env : Env} {c P : Addr} {ps : Array Value} {pos : Pos} {qualname : Str} {scope : Scope} {Q : Value → Shared → Prop} (hc : env.code = .ref c) (C : CodeHd s.heap c P) (hP : s.heap.get? P = some (tabObj ps)) (ht : TriplesOk ps.toList)
    (hQ : ∀ code h' tk ps', Heap.ExtBut P s.heap h' → s.heap.objs.size ≤ h'.objs.size → h'.get? P = some (tabObj ps') → TriplesOk ps'.toList → Q code { s with heap := h', toks := tk }) :
    wpAny M A (genexprCode env pos qualname scope) Q E s := by
  cases hnf : codeAmong pos ps.toList with
  | none =>
    refine wpAny_genexprCodeX hc (C.code hP ht) (C.tab hP) hnf fun c' h' tk hx hge hlt hcode' _ htab' _ => ?_
    obtain ⟨o, vs, file, tf, flags, tg, inF, text, tt, op, f1, f2, f3, f4, f5, f6, f7, f8, f9, f10, f11⟩ := hcode'
    exact hQ _ h' tk _ hx (Nat.le_trans hge (Nat.le_of_lt hlt)) htab'.2 f10
  | some cv =>
    obtain ⟨o, vs, file, tf, flags, tg, inF, text, tt, op, ho, hd, h11, h2, h7, h9, h10, hop, hpd, htr, hne⟩ := C.code hP ht
    unfold genexprCode codeAt
    rw [hc, if_neg (show ¬ ((Value.ref c == Value.none) = true) from Bool.false_ne_true)]
    refine wpAny_bind (wpAny_fieldsOf ho hd ?_)
    rw [h11]
    refine wpAny_bind (wpAny_fieldsOf hop hpd ?_)
    rw [hnf]
    exact wpAny_pure (hQ cv s.heap s.toks ps (Heap.ExtBut.refl _ _) (Nat.le_refl _) hP ht)

theorem passing_all (n : Nat) : passing (fun _ => true) n 0 = List.range n := by
  unfold passing; rw [List.drop_zero]; exact List.filter_eq_self.mpr fun _ _ => rfl
/-- a generator over what is walked, its elements quiet; the table of the code around may grow -/
theorem gen_walk {env : Env} {elt iter : Expr} {x : Str} {px : Pos} {scope : Scope} {cl : List (Str × Addr)} {pos : Pos} {c P : Addr} {ps : Array Value} {mg : Str → Option Value} {bm : Addr} {ob : Obj} {Q : Value → Shared → Prop}
    (hcode : env.code = .ref c) (hh : A.handled = none) (hco : scope.isCoroutine = false) (hclos : closureFor scope env = pure cl) (hcell : ∀ y ∈ scope.names, y.2 ≠ .cell) (h0 : scope.names.lookup (".0" : Str) = some NameKind.local)
    (hx : scope.names.lookup x = some .local) (hkind : scope.kind = .function) (hroom : A.depth < recursionLimit)
    (h : wpAny (model prog w) A (eval iter env) (fun xv s₁ => wpAny (model prog w) A (pyIter xv) (fun it s₂ => s₂.heap.NoLimit ∧ CodeHd s₂.heap c P ∧ s₂.heap.get? P = some (tabObj ps) ∧ TriplesOk ps.toList ∧ cStatics ≠ P ∧ BMod s₂.heap env.globals mg bm ob ∧ env.globals ≠ P ∧ bm ≠ P ∧
      ∃ I fp n₀ Pi St₀ F, it = .ref I ∧ (∀ A' : Around, A'.handled = none → Walks prog w A' I fp [I] n₀ Pi St₀) ∧ St₀ 0 s₂.heap ∧ (∀ b ∈ fp, b < s₂.heap.objs.size) ∧ P ∉ fp ∧ cStatics ≠ I ∧
        (∀ (C : Addr) (code : Value) (href : Heap), s₂.heap.objs.size ≤ C → (∀ b o, b ≠ P → s₂.heap.get? b = some o → href.get? b = some o) →
          QuietGen prog w (genEnv scope cl C code builtinsNs env) x [] elt (List.range C) [I] Pi (fun _ => true) F href) ∧
        (∀ a s₅ ps', s₅.os = s₂.os → (AllBare s₂.gens → AllBare s₅.gens) → s₅.heap.get? P = some (tabObj ps') → TriplesOk ps'.toList → (∀ b o, b ≠ P → s₂.heap.get? b = some o → s₅.heap.get? b = some o) →
          (∀ K, K < I → K < s₂.heap.objs.size → Gen prog w A K a n₀ F s₅) → Q (.ref a) s₅)) E s₁) E s)
    (hs : ∀ x, genFold iter env x = pure x) :
    wpAny (model prog w) A (eval (.GeneratorExp elt [⟨.Name x px, iter, [], 0⟩] scope pos) env) Q E s := by
  refine wpAny_GeneratorExp_walksQ hh hco hclos hcell h0 hx hkind hroom (wpAny_mono h (fun xv s₁ h₁' => wpAny_mono h₁' (fun it s₂ h₂ => ?_) fun _ _ e => e) fun _ _ e => e) hs
  obtain ⟨hlim, C₂, hP, ht, hcP, M, hgP, hbP, I, fp, n₀, Pi, St₀, F, rfl, W₀, hst, hfp, hPf, hcI, hq, hQ⟩ := h₂
  refine ⟨hlim, gen_code hcode C₂ hP ht fun code h₃ tk₃ ps' hx₃ hsz hP₃ ht₃ => ?_⟩
  have hl₃ : h₃.NoLimit := hlim.extBut hx₃ hcP
  refine wpAny_builtinsFor (M.ns.extBut hx₃ hgP) M.name M.ne (hx₃ _ _ hbP M.obj) M.cls M.dict M.data ?_
  refine ⟨I, fp, [I], n₀, Pi, St₀, fun _ => true, F, rfl, W₀, (W₀ A hh).frame _ _ _ hst (fun b hb o e => hx₃ b o (fun e' => hPf (e' ▸ hb)) e), (fun b hb => Nat.lt_of_lt_of_le (hfp b hb) hsz), hl₃,
    (fun hm => hcI (List.mem_singleton.mp hm)), (fun href hhref => hq _ _ href hsz fun b o hb e => hhref b o (hx₃ b o hb e)), fun a h₅ tk gs hgb hag hsz₅ hk₅ W hat => ?_⟩
  refine hQ a _ ps' rfl (fun G => G.push hgb) (hk₅ _ _ hP₃) ht₃ (fun b o hb e => hk₅ b o (hx₃ b o hb e)) fun K hKI hKs => ?_
  rw [passing_all, List.length_range] at W
  have W' : WalksS prog w A.in4 a (a :: _ :: _) (_ :: [I]) _ n₀ F _ := { W with
    item := fun i s Q E hi st hQ => W.item i s Q E hi st fun v s' hP => hQ v s' (by
      obtain ⟨j, hj, hF⟩ := hP
      rw [List.getElem?_range hi] at hj
      cases hj
      exact hF) }
  refine ⟨_, _, _, _, W', hat, (fun i s' st => st.1.typeIs), List.mem_cons_self, ?_, ?_⟩
  · intro b hb
    show b < h₅.objs.size
    rw [hsz₅]
    rcases List.mem_cons.mp hb with rfl | hb
    · exact Nat.lt_succ_self _
    · rcases List.mem_cons.mp hb with rfl | hb
      · exact Nat.lt_succ_of_lt hag
      · exact Nat.lt_succ_of_lt (Nat.lt_trans (List.mem_range.mp hb) hag)
  · intro b hb
    rcases List.mem_cons.mp hb with rfl | hb
    · exact Nat.lt_of_lt_of_le hKs hsz
    · rw [List.mem_singleton.mp hb]; exact hKI
end
end Mine
end
section
open PySem PySem.W PyProof.Rows
namespace Mine
section
variable {prog : Program} {w : World} {A : Around} {E : Value → Shared → Prop} {s : Shared}
def spaceAt (wd : List Nat) (i : Nat) : Bool := (wd[i]?.map Unicode.isSpace).getD false
theorem any_space (wd : List Nat) : (List.range wd.length).any (spaceAt wd) = wd.any Unicode.isSpace := by
  rw [Bool.eq_iff_iff, List.any_eq_true, List.any_eq_true]
  constructor
  · rintro ⟨i, hi, h⟩
    have hi := List.mem_range.mp hi
    refine ⟨wd[i], List.getElem_mem hi, ?_⟩
    simpa [spaceAt, hi] using h
  · rintro ⟨c, hc, h⟩
    obtain ⟨i, hi, rfl⟩ := List.mem_iff_getElem.mp hc
    exact ⟨i, List.mem_range.mpr hi, by simpa [spaceAt, hi] using h⟩
def inAt (l wd : List Nat) (i : Nat) : Bool := (l[i]?.map fun c => decide (c ∈ wd)).getD false
theorem any_in (l wd : List Nat) : (List.range l.length).any (inAt l wd) = l.any fun c => decide (c ∈ wd) := by
  rw [Bool.eq_iff_iff, List.any_eq_true, List.any_eq_true]
  constructor
  · rintro ⟨i, hi, h⟩
    have hi := List.mem_range.mp hi
    refine ⟨l[i], List.getElem_mem hi, ?_⟩
    simpa [inAt, hi] using h
  · rintro ⟨c, hc, h⟩
    obtain ⟨i, hi, rfl⟩ := List.mem_iff_getElem.mp hc
    exact ⟨i, List.mem_range.mpr hi, by simpa [inAt, hi] using h⟩
theorem truth_bool (tr : Nat → Bool) : TruthOf prog w A (fun i v => v = .bool (tr i)) tr := by
  rintro i v s Q E rfl hQ
  exact wpAny_pure hQ
theorem space_one (c : Nat) : Txt.isspace ⟨#[c]⟩ = Unicode.isSpace c := by
  show (decide ((Str.mk #[c]).length > 0) && (#[c] : Array Nat).all Unicode.isSpace) = _
  simp [Str.length]
theorem quiet_space {cenv : Env} {p1 p2 p3 : Pos} {fp wr : List Addr} {wd : List Nat} {href : Heap} (hkf : cenv.scope.kind = .function) (hk : cenv.kindOf "c" = some .local) (hline : (p2.endLine == p3.line) = true) :
    QuietGen prog w cenv "c" [] (.Call (.Attribute (.Name "c" p1) "isspace" p2) [] [] p3) fp wr (SignAt ⟨wd.toArray⟩) (fun _ => true) (fun i v => v = .bool (spaceAt wd i)) href where
  tests := fun A' E' i v s₂ m₂ _ _ _ _ _ => wpAny_tests_nil ⟨rfl, ⟨_, _, rfl, fun _ _ e => e⟩⟩
  elt := fun A' E' i v s₂ m₂ _ hv _ hn hm _ => by
    obtain ⟨c, u, hc, rfl⟩ := hv
    refine Call_method0 rfl hline (wpAny_Name (wpAny_loadName_local hkf hk hn hm ?_))
    refine SB.isspace ⟨?_, ⟨_, _, rfl, fun _ _ e => e⟩⟩
    rw [space_one]
    simp at hc
    simp [spaceAt, hc]
theorem quiet_in {cenv : Env} {p1 p2 p3 : Pos} {fp wr : List Addr} {l wd : List Nat} {t : Tok} {items : Array Value} {href : Heap} {k : Addr} {o : Obj} (hi : StrsAre items.toList (l.map one)) (hkf : cenv.scope.kind = .function) (hk : cenv.kindOf "c" = some .local)
    (hk2 : cenv.kindOf "val" = some .free) (hcell : cenv.cells.lookup (Str.ofString "val") = some k) (ho : href.get? k = some o) (hd : o.data = .cell (some (.str ⟨wd.toArray⟩ t))) (hkf' : k ∈ fp) (hkw : k ∉ wr) :
    QuietGen prog w cenv "c" [] (.Compare (.Name "c" p1) [.In] [.Name "val" p2] p3) fp wr (fun i v => items[i]? = some v) (fun _ => true) (fun i v => v = .bool (inAt l wd i)) href where
  tests := fun A' E' i v s₂ m₂ _ _ _ _ _ => wpAny_tests_nil ⟨rfl, ⟨_, _, rfl, fun _ _ e => e⟩⟩
  elt := fun A' E' i v s₂ m₂ _ hv _ hn hm hkp => by
    obtain ⟨y, u, hvu, hy⟩ := hi.item i v (by rw [Array.getElem?_toList]; exact hv)
    rw [List.getElem?_map] at hy
    obtain ⟨c, hc, rfl⟩ := Option.map_eq_some_iff.mp hy
    subst hvu
    refine wpAny_Compare1 (wpAny_Name (wpAny_loadName_local hkf hk hn hm (wpAny_Name (wpAny_loadName_free hkf hk2 hcell ⟨o, hkp k hkf' hkw o ho, hd⟩ ?_ rfl) rfl)) rfl) rfl
    refine SB.contains ⟨?_, ⟨_, _, rfl, fun _ _ e => e⟩⟩
    show Value.bool (Txt.contains ⟨wd.toArray⟩ ⟨#[c]⟩) = _
    have := StrLaws.found_one ⟨wd.toArray⟩ c
    have e : Txt.contains ⟨wd.toArray⟩ ⟨#[c]⟩ = decide (c ∈ wd) := this
    rw [e]
    simp [inAt, hc]
end
end Mine
end
section
open PySem PySem.W PyProof.Rows
namespace Mine
/-- as Tel, of a call that comes to a generator: the table of one code may grow, and the generators of the machine may be more -/
def TelG (w : World) (mean : ExcName → Option Value) (mg mb : Str → Option Value) (f : Addr) (need : Nat) (vs : List Value) (news : List (Addr × Obj)) (Out : List (Addr × Obj) → Value → Prop) : Prop :=
  ∀ (dp un : Nat) (gd : Option (List Code)) (cn : Str) (cs : Scope) (a : Addr) (ccd : Value) (cl : List (Str × Addr)) (outer : List Env) (A₀ : Around) (base h₀ : Heap) (L : Addr) (m : Str → Option Value) (s : Shared) (ps : Array Value)
    (Q E : Value → Shared → Prop),
    Below A₀ base outer h₀ → Fr h₀ L s.heap m → (Mine.hd.heap_39 w.params).In h₀ → News h₀ L s.heap ((65, tabObj ps) :: news) → Top topProg gl mean mg mb h₀ → cs.kind = .function → dp + need < recursionLimit → un + 8 * need < cLine →
    TriplesOk ps.toList → AllBare s.gens → (∀ q ∈ news, q.1 ≠ 65) →
    (∀ r tl s' ps', Fr h₀ L s'.heap m → News h₀ L s'.heap ((65, tabObj ps') :: (news ++ tl)) → TriplesOk ps'.toList → AllBare s'.gens → s'.os = s.os → (∀ b o, b ≠ 65 → s.heap.get? b = some o → s'.heap.get? b = some o) →
      (∀ q ∈ (65, tabObj ps) :: news, ∀ p ∈ tl, q.1 < p.1) → Out tl r → Q r s') →
    wpAny (model PySem.Challenge.rw_ew0017_01.row.prog w) (ktrTop dp un gd cn cs L a ccd cl outer) (call (.ref f) vs) Q E s
theorem TelG.use {w : World} {mean : ExcName → Option Value} {mg mb : Str → Option Value} {f : Addr} {need : Nat} {vs : List Value} {news : List (Addr × Obj)} {Out : List (Addr × Obj) → Value → Prop} (C : TelG w mean mg mb f need vs news Out)
    {dp un : Nat} {gd : Option (List Code)} {cn : Str} {cs : Scope} {a : Addr} {ccd : Value} {cl : List (Str × Addr)} {outer : List Env} {A₀ : Around} {base h₀ : Heap} {L : Addr} {m : Str → Option Value} {s : Shared} {ps : Array Value} {Q E : Value → Shared → Prop}
    (B : Below A₀ base outer h₀) (F : Fr h₀ L s.heap m) (X : (Mine.hd.heap_39 w.params).In h₀) (N : News h₀ L s.heap ((65, tabObj ps) :: news)) (T : Top topProg gl mean mg mb h₀) (hk : cs.kind = .function) (hd : dp + need < recursionLimit) (hu : un + 8 * need < cLine)
    (ht : TriplesOk ps.toList) (hb : AllBare s.gens) (hn : ∀ q ∈ news, q.1 ≠ 65)
    (ret : ∀ r tl s' ps', Fr h₀ L s'.heap m → News h₀ L s'.heap ((65, tabObj ps') :: (news ++ tl)) → TriplesOk ps'.toList → AllBare s'.gens → s'.os = s.os → (∀ b o, b ≠ 65 → s.heap.get? b = some o → s'.heap.get? b = some o) →
      (∀ q ∈ (65, tabObj ps) :: news, ∀ p ∈ tl, q.1 < p.1) → Out tl r → Q r s') :
    wpAny (model PySem.Challenge.rw_ew0017_01.row.prog w) (ktrTop dp un gd cn cs L a ccd cl outer) (call (.ref f) vs) Q E s := C _ _ _ _ _ _ _ _ _ _ _ _ _ _ _ _ _ _ B F X N T hk hd hu ht hb hn ret
section
variable {h₀ h h' : Heap} {L : Addr} {m : Str → Option Value} {nx ny nz : List (Addr × Obj)} {ps ps' : Array Value}
theorem after_gen (F : Fr h₀ L h m) (N : News h₀ L h (nx ++ (65, tabObj ps) :: nz)) (hn : ∀ p ∈ nx ++ nz, p.1 ≠ 65) (hk : ∀ b o, b ≠ 65 → h.get? b = some o → h'.get? b = some o) (hP : h'.get? 65 = some (tabObj ps')) :
    Fr h₀ L h' m ∧ News h₀ L h' (nx ++ (65, tabObj ps') :: nz) := by
  have h65 := N (65, tabObj ps) (List.mem_append.mpr (.inr (.head _)))
  have hL : L ≠ 65 := fun e => h65.2.1 e.symm
  refine ⟨⟨F.ns.at fun o e => hk _ _ hL e, fun b o e => hk b o (fun q => ?_) (F.keep b o e), F.above⟩, fun p hp => ?_⟩
  · rw [q, h65.2.2] at e; cases e
  · rcases List.mem_append.mp hp with hp | hp
    · have := N p (List.mem_append.mpr (.inl hp))
      exact ⟨hk _ _ (hn p (List.mem_append.mpr (.inl hp))) this.1, this.2⟩
    · rcases List.mem_cons.mp hp with rfl | hp
      · exact ⟨hP, h65.2⟩
      · have := N p (List.mem_append.mpr (.inr (.tail _ hp)))
        exact ⟨hk _ _ (hn p (List.mem_append.mpr (.inr hp))) this.1, this.2⟩
theorem news_upto {K : Addr} (N : News h₀ L h nx) (hK : ∀ p ∈ nx, p.1 ≤ K) (hk : ∀ b o, b ≤ K → h.get? b = some o → h'.get? b = some o) : News h₀ L h' nx := fun p hp =>
  ⟨hk _ _ (hK p hp) (N p hp).1, (N p hp).2⟩
theorem stays_but {s : Shared} {g h9 : Heap} {L1 : Addr} {m8 : Str → Option Value} {news : List (Addr × Obj)} (G : GSub s.heap g (((65, tabObj ps) :: news).map (·.1))) (N : News h₀ L s.heap ((65, tabObj ps) :: news)) (F8 : Fr g L1 h9 m8) (N8 : News g L1 h9 nx) (sub : ∀ p ∈ news, p ∈ nx) :
    ∀ b o, b ≠ 65 → s.heap.get? b = some o → h9.get? b = some o := fun b o hb e => by
  by_cases hm : b ∈ news.map (·.1)
  · obtain ⟨p, hp, rfl⟩ := List.mem_map.mp hm
    have e1 := (N p (.tail _ hp)).1
    rw [e] at e1
    cases e1
    exact (N8 p (sub p hp)).1
  · refine F8.keep b o (G b o e fun q => ?_)
    rcases List.mem_cons.mp q with q | q
    · exact hb q
    · exact hm q
end
section
variable {prog : Program} {w : World} {A : Around} {E : Value → Shared → Prop} {s : Shared} {h₀ : Heap} {L : Addr} {m : Str → Option Value} {nx nz : List (Addr × Obj)} {ps : Array Value} {p : Program} {loose : List Str} {mean : ExcName → Option Value} {mg mb : Str → Option Value}
/-- what a generator leaves behind it -/
def GenLeft (prog : Program) (w : World) (A : Around) (h₀ : Heap) (L : Addr) (m : Str → Option Value) (nx nz : List (Addr × Obj)) (s : Shared) (n : Nat) (F : Nat → Value → Prop) (a : Addr) (s₅ : Shared) : Prop :=
  ∃ ps' K, Fr h₀ L s₅.heap m ∧ News h₀ L s₅.heap (nx ++ (65, tabObj ps') :: nz) ∧ TriplesOk ps'.toList ∧ AllBare s₅.gens ∧ s₅.os = s.os ∧ L ≤ K ∧ (∀ p ∈ nx ++ (65, tabObj ps') :: nz, p.1 ≤ K) ∧ Gen prog w A K a n F s₅
theorem gen_text {elt iter : Expr} {x : Str} {px : Pos} {scope : Scope} {cl : List (Str × Addr)} {pos : Pos} {env : Env} {wd : Str} {t : Tok} {F : Nat → Value → Prop} {Q : Value → Shared → Prop}
    (Fh : Fr h₀ L s.heap m) (N : News h₀ L s.heap (nx ++ (65, tabObj ps) :: nz)) (hn : ∀ p ∈ nx ++ nz, p.1 ≠ 65) (T : Top p loose mean mg mb h₀) (C : CodeHd h₀ 69 65) (ht : TriplesOk ps.toList) (G : AllBare s.gens)
    (hcode : env.code = .ref 69) (hgl : env.globals = mainGlobals) (hh : A.handled = none) (hco : scope.isCoroutine = false) (hclos : closureFor scope env = pure cl) (hcell : ∀ y ∈ scope.names, y.2 ≠ .cell) (h0 : scope.names.lookup (".0" : Str) = some NameKind.local)
    (hx : scope.names.lookup x = some .local) (hkind : scope.kind = .function) (hroom : A.depth < recursionLimit) (hs : ∀ x, genFold iter env x = pure x)
    (hit : ∀ (Q : Value → Shared → Prop), Q (.str wd t) s → wpAny (model prog w) A (eval iter env) Q E s)
    (hq : ∀ (C : Addr) (code : Value) (href : Heap), s.heap.objs.size < C → (∀ b o, b ≠ 65 → s.heap.get? b = some o → href.get? b = some o) →
      QuietGen prog w (genEnv scope cl C code builtinsNs env) x [] elt (List.range C) [s.heap.objs.size] (SignAt wd) (fun _ => true) F href)
    (hQ : ∀ a s₅, GenLeft prog w A h₀ L m nx nz s wd.cps.size F a s₅ → Q (.ref a) s₅) :
    wpAny (model prog w) A (eval (.GeneratorExp elt [⟨.Name x px, iter, [], 0⟩] scope pos) env) Q E s := by
  obtain ⟨bm, ob, M⟩ := bmod_of_top T
  have h65 := N (65, tabObj ps) (List.mem_append.mpr (.inr (.head _)))
  have ne65 : ∀ {b : Addr} {o : Obj}, h₀.get? b = some o → b ≠ 65 := fun e q => by rw [q, h65.2.2] at e; cases e
  have hg : mainGlobals ≠ 65 := by decide
  have hc : cStatics ≠ 65 := by decide
  have up : ∀ b o, h₀.get? b = some o → (s.heap.push o).get? b = some o := fun b o e => Heap.get?_push_of_some _ (Fh.keep _ _ e)
  refine gen_walk (c := 69) (P := 65) (ps := ps) (mg := mg) (bm := bm) (ob := ob) hcode hh hco hclos hcell h0 hx hkind hroom (hit _ (wpAny_pyIter_str fun o St W hst => ?_)) hs
  have upo : ∀ b o', h₀.get? b = some o' → (s.heap.push o).get? b = some o' := fun b o' e => Heap.get?_push_of_some _ (Fh.keep _ _ e)
  refine ⟨T.nolimit.keeps upo, C.keeps upo, Heap.get?_push_of_some _ h65.1, ht, hc, hgl ▸ M.keeps upo, hgl ▸ hg, ne65 M.obj, s.heap.objs.size, [s.heap.objs.size], wd.cps.size, SignAt wd, St, F, rfl, W, hst, ?_, ?_, ?_, ?_, ?_⟩
  · intro b hb
    rw [List.mem_singleton.mp hb]
    show s.heap.objs.size < (s.heap.push o).objs.size
    rw [Heap.size_push]; exact Nat.lt_succ_self _
  · intro hm
    exact absurd (Heap.lt_size h65.1) (List.mem_singleton.mp hm ▸ Nat.lt_irrefl _)
  · have : cStatics < s.heap.objs.size := let ⟨_, hn, _⟩ := (T.nolimit.keeps Fh.keep); hn.lt
    exact Nat.ne_of_lt this
  · intro C' code href hC hk
    refine hq C' code href ?_ fun b o' hb e => hk b o' hb (Heap.get?_push_of_some _ e)
    have : (s.heap.push o).objs.size ≤ C' := hC
    rw [Heap.size_push] at this
    exact this
  · intro a s₅ ps' hos hga hP' ht' hk hgen
    have e := after_gen (h' := s₅.heap) (ps' := ps') Fh N hn (fun b o' hb e => hk b o' hb (Heap.get?_push_of_some _ e)) hP'
    have hL0 : L < s.heap.objs.size := Fh.ns.lt
    have hK1 : s.heap.objs.size - 1 < s.heap.objs.size := Nat.sub_lt (Nat.lt_of_le_of_lt (Nat.zero_le _) hL0) Nat.one_pos
    refine hQ a s₅ ⟨ps', s.heap.objs.size - 1, e.1, e.2, ht', hga G, hos, Nat.le_sub_one_of_lt hL0, fun p hp => ?_, hgen _ hK1 ?_⟩
    · have : p.1 < s.heap.objs.size := by
        rcases List.mem_append.mp hp with hp | hp
        · exact Heap.lt_size (N p (List.mem_append.mpr (.inl hp))).1
        · rcases List.mem_cons.mp hp with rfl | hp
          · exact Heap.lt_size h65.1
          · exact Heap.lt_size (N p (List.mem_append.mpr (.inr (.tail _ hp)))).1
      exact Nat.le_sub_one_of_lt this
    · show _ < (s.heap.push o).objs.size
      rw [Heap.size_push]; exact Nat.lt_succ_of_lt hK1
theorem gen_tuple {elt iter : Expr} {x : Str} {px : Pos} {scope : Scope} {cl : List (Str × Addr)} {pos : Pos} {env : Env} {l : List Str} {F : Nat → Value → Prop} {Q : Value → Shared → Prop}
    (Fh : Fr h₀ L s.heap m) (N : News h₀ L s.heap (nx ++ (65, tabObj ps) :: nz)) (hn : ∀ p ∈ nx ++ nz, p.1 ≠ 65) (T : Top p loose mean mg mb h₀) (C : CodeHd h₀ 69 65) (ht : TriplesOk ps.toList) (G : AllBare s.gens)
    (hcode : env.code = .ref 69) (hgl : env.globals = mainGlobals) (hh : A.handled = none) (hco : scope.isCoroutine = false) (hclos : closureFor scope env = pure cl) (hcell : ∀ y ∈ scope.names, y.2 ≠ .cell) (h0 : scope.names.lookup (".0" : Str) = some NameKind.local)
    (hx : scope.names.lookup x = some .local) (hkind : scope.kind = .function) (hroom : A.depth < recursionLimit) (hs : ∀ x, genFold iter env x = pure x)
    (hit : ∀ (Q : Value → Shared → Prop), (∀ ax s₁ items, s₁.heap.IsTuple ax items → StrsAre items.toList l → (∀ b o, s.heap.get? b = some o → s₁.heap.get? b = some o) → s.heap.objs.size ≤ s₁.heap.objs.size → s₁.gens = s.gens → s₁.os = s.os → Q (.ref ax) s₁) → wpAny (model prog w) A (eval iter env) Q E s)
    (hq : ∀ (items : Array Value) (C I : Addr) (code : Value) (href : Heap), StrsAre items.toList l → s.heap.objs.size ≤ I → I < C → (∀ b o, b ≠ 65 → s.heap.get? b = some o → href.get? b = some o) →
      QuietGen prog w (genEnv scope cl C code builtinsNs env) x [] elt (List.range C) [I] (fun i v => items[i]? = some v) (fun _ => true) F href)
    (hQ : ∀ a s₅, GenLeft prog w A h₀ L m nx nz s l.length F a s₅ → Q (.ref a) s₅) :
    wpAny (model prog w) A (eval (.GeneratorExp elt [⟨.Name x px, iter, [], 0⟩] scope pos) env) Q E s := by
  obtain ⟨bm, ob, M⟩ := bmod_of_top T
  have h65 := N (65, tabObj ps) (List.mem_append.mpr (.inr (.head _)))
  have ne65 : ∀ {b : Addr} {o : Obj}, h₀.get? b = some o → b ≠ 65 := fun e q => by rw [q, h65.2.2] at e; cases e
  have hg : mainGlobals ≠ 65 := by decide
  have hc : cStatics ≠ 65 := by decide
  refine gen_walk (c := 69) (P := 65) (ps := ps) (mg := mg) (bm := bm) (ob := ob) hcode hh hco hclos hcell h0 hx hkind hroom (hit _ fun ax s₁ items htup hitems hk₁ hsz hgens hos₁ => wpAny_pyIter_tuple htup ?_) hs
  have hlen : items.size = l.length := by
    have := StrsAre.length hitems
    simpa using this
  have upo : ∀ b o', h₀.get? b = some o' → (s₁.heap.push { cls := .type "tuple_iterator", data := .fields #[.ref ax, .int 0 0] }).get? b = some o' := fun b o' e => Heap.get?_push_of_some _ (hk₁ _ _ (Fh.keep _ _ e))
  have hax : ax < s₁.heap.objs.size := by obtain ⟨_, e, _⟩ := htup; exact Heap.lt_size e
  have hax65 : ax ≠ 65 := fun e => by
    obtain ⟨o, e1, e2, _⟩ := htup
    rw [e, hk₁ _ _ h65.1] at e1
    cases e1
    cases e2
  have lt₁ : ∀ {b : Addr} {o : Obj}, s.heap.get? b = some o → b < s₁.heap.objs.size := fun e => Heap.lt_size (hk₁ _ _ e)
  refine ⟨T.nolimit.keeps upo, C.keeps upo, Heap.get?_push_of_some _ (hk₁ _ _ h65.1), ht, hc, hgl ▸ M.keeps upo, hgl ▸ hg, ne65 M.obj, s₁.heap.objs.size, [s₁.heap.objs.size, ax], items.size, _, _, F, rfl,
    (fun A' hA => Walks.tuple hA _ _ (Nat.ne_of_lt hax) items), ⟨⟨_, Heap.get?_push_size _ rfl, rfl, rfl⟩, htup.push _⟩, ?_, ?_, ?_, ?_, ?_⟩
  · intro b hb
    show b < (s₁.heap.push _).objs.size
    rw [Heap.size_push]
    rcases List.mem_cons.mp hb with rfl | hb
    · exact Nat.lt_succ_self _
    · rw [List.mem_singleton.mp hb]; exact Nat.lt_succ_of_lt hax
  · intro hm
    rcases List.mem_cons.mp hm with e | hm
    · exact absurd (lt₁ h65.1) (e ▸ Nat.lt_irrefl _)
    · exact hax65 (List.mem_singleton.mp hm).symm
  · have : cStatics < s₁.heap.objs.size := let ⟨_, hn, _⟩ := ((T.nolimit.keeps Fh.keep).keeps hk₁); hn.lt
    exact Nat.ne_of_lt this
  · intro C' code href hC hk
    refine hq items C' _ code href hitems hsz ?_ fun b o' hb e => hk b o' hb (Heap.get?_push_of_some _ (hk₁ _ _ e))
    have : (s₁.heap.push { cls := .type "tuple_iterator", data := .fields #[.ref ax, .int 0 0] }).objs.size ≤ C' := hC
    rw [Heap.size_push] at this
    exact this
  · intro a s₅ ps' hos hga hP' ht' hk hgen
    have e := after_gen (h' := s₅.heap) (ps' := ps') Fh N hn (fun b o' hb e => hk b o' hb (Heap.get?_push_of_some _ (hk₁ _ _ e))) hP'
    have hL0 : L < s₁.heap.objs.size := Nat.lt_of_lt_of_le Fh.ns.lt hsz
    have hK1 : s₁.heap.objs.size - 1 < s₁.heap.objs.size := Nat.sub_lt (Nat.lt_of_le_of_lt (Nat.zero_le _) hL0) Nat.one_pos
    refine hQ a s₅ ⟨ps', s₁.heap.objs.size - 1, e.1, e.2, ht', hga (hgens ▸ G), hos.trans hos₁, Nat.le_sub_one_of_lt hL0, fun p hp => ?_, hlen ▸ hgen _ hK1 ?_⟩
    · have : p.1 < s₁.heap.objs.size := by
        rcases List.mem_append.mp hp with hp | hp
        · exact lt₁ (N p (List.mem_append.mpr (.inl hp))).1
        · rcases List.mem_cons.mp hp with rfl | hp
          · exact lt₁ h65.1
          · exact lt₁ (N p (List.mem_append.mpr (.inr (.tail _ hp)))).1
      exact Nat.le_sub_one_of_lt this
    · show _ < (s₁.heap.push _).objs.size
      rw [Heap.size_push]; exact Nat.lt_succ_of_lt hK1
theorem any_left {a : Addr} {n : Nat} {tr : Nat → Bool} {b : Bool} {s₅ : Shared} {Q : Value → Shared → Prop} (X : GenLeft prog w A h₀ L m nx nz s n (fun i v => v = .bool (tr i)) a s₅) (hb : (List.range n).any tr = b)
    (hQ : ∀ s' ps', Fr h₀ L s'.heap m → News h₀ L s'.heap (nx ++ (65, tabObj ps') :: nz) → TriplesOk ps'.toList → AllBare s'.gens → s'.os = s.os → Q (.bool b) s') :
    wpAny (model prog w) A (call (.builtin "any") [.ref a]) Q E s₅ := by
  obtain ⟨ps', K, Fh, N, ht, G, hos, hLK, hK, X⟩ := X
  subst hb
  exact any_rowsK Fh G X hLK tr (truth_bool tr) fun s' F' G' os' hk => hQ s' ps' F' (news_upto N hK hk) ht G' (os'.trans hos)
end
end Mine
end
section
open PySem PySem.W PyProof.Rows
namespace Mine
/-- the word has to stand within quotes -/
def needsQ (w : List Nat) : Bool := decide ((escAll w).length = 0) || decide (escAll w = [78, 85, 76, 76]) || (escAll w).any Unicode.isSpace || [123, 125, 44, 92].any fun c => decide (c ∈ escAll w)
def strText (w : List Nat) : List Nat := if needsQ w then 34 :: (escAll w ++ [34]) else escAll w
def strOut (w : List Nat) (tl : List (Addr × Obj)) (r : Value) : Prop := tl = [] ∧ ∃ t, r = .str ⟨(strText w).toArray⟩ t
theorem escAll_le (w : List Nat) : (escAll w).length ≤ 2 * w.length := by
  induction w with
  | nil => simp [escAll]
  | cons c r ih =>
    by_cases h : c = 92 ∨ c = 34
    · rw [escAll_len2 h, List.length_cons]; omega
    · rw [escAll_len1 (fun e => h (.inl e)) (fun e => h (.inr e)), List.length_cons]; omega
theorem quoted_of {wd : List Nat} (h : needsQ wd = true) : ("\"" ++ ⟨(escAll wd).toArray⟩ ++ "\"" : Str) = ⟨(strText wd).toArray⟩ := by
  refine str_ext ?_
  rw [cat_toList, cat_toList, strText, if_pos h]
  have z : (Str.ofString "\"").cps.toList = [34] := by decide
  rw [z]
  simp
theorem plain_of {wd : List Nat} (h : needsQ wd = false) : (⟨(escAll wd).toArray⟩ : Str) = ⟨(strText wd).toArray⟩ := by
  rw [strText, if_neg (by rw [h]; exact Bool.false_ne_true)]
theorem needs_0 {wd : List Nat} (h : (escAll wd).length = 0) : needsQ wd = true := by simp [needsQ, h]
theorem needs_null {wd : List Nat} (h : escAll wd = [78, 85, 76, 76]) : needsQ wd = true := by simp [needsQ, h]
theorem needs_space {wd : List Nat} (h : (escAll wd).any Unicode.isSpace = true) : needsQ wd = true := by simp [needsQ, h]
theorem needs_in {wd : List Nat} (h : ([123, 125, 44, 92].any fun c => decide (c ∈ escAll wd)) = true) : needsQ wd = true := by simp only [needsQ, h, Bool.or_true]
theorem needs_not {wd : List Nat} (h1 : (escAll wd).length ≠ 0) (h2 : escAll wd ≠ [78, 85, 76, 76]) (h3 : (escAll wd).any Unicode.isSpace = false) (h4 : ([123, 125, 44, 92].any fun c => decide (c ∈ escAll wd)) = false) : needsQ wd = false := by
  unfold needsQ
  rw [h3, h4, decide_eq_false h1, decide_eq_false h2]; rfl
theorem null_codes {l : List Nat} : ((⟨l.toArray⟩ : Str) == Str.ofString "NULL") = true ↔ l = [78, 85, 76, 76] := by
  have z : (Str.ofString "NULL") = ⟨[78, 85, 76, 76].toArray⟩ := by decide
  rw [z, beq_iff_eq]
  constructor
  · intro e
    have := congrArg (fun s : Str => s.cps.toList) e
    simpa using this
  · rintro rfl; rfl
theorem allLt_swap {l : Addr} {ps ps' : Array Value} {news : List (Addr × Obj)} (h : AllLt l ((65, tabObj ps) :: news)) : AllLt l ((65, tabObj ps') :: news) := ⟨h.1, h.2⟩
theorem lt_swap {l : Addr} {ps ps' : Array Value} {news : List (Addr × Obj)} (h : ∀ p ∈ ((65, tabObj ps) :: news : List (Addr × Obj)), p.1 < l) : ∀ p ∈ ((65, tabObj ps') :: news : List (Addr × Obj)), p.1 < l := fun p hp => by
  rcases List.mem_cons.mp hp with rfl | hp
  · exact h (65, tabObj ps) (.head _)
  · exact h p (.tail _ hp)
theorem four_strs (t1 t2 t3 t4 : Tok) : StrsAre [Value.str "{" t1, Value.str "}" t2, Value.str "," t3, Value.str "\\" t4] ([123, 125, 44, 92].map one) := by
  have e1 : Str.ofString "{" = one 123 := by decide
  have e2 : Str.ofString "}" = one 125 := by decide
  have e3 : Str.ofString "," = one 44 := by decide
  have e4 : Str.ofString "\\" = one 92 := by decide
  rw [e1, e2, e3, e4]
  have := strs_push (x := one 92) (t := t4) (strs_push (x := one 44) (t := t3) (strs_push (x := one 125) (t := t2) (strs_push (x := one 123) (t := t1) .nil)))
  exact this
def JE (wd : List Nat) (t1 : Tok) (l lc : Addr) (oc : Obj) (news : List (Addr × Obj)) (i : Nat) (m' : Str → Option Value) (nx : List (Addr × Obj)) : Prop :=
  ∃ (items : List Value) (nn : Nat) (inn : List (Str × Value)), StrsAre items ((escAll (wd.take i)).map one) ∧ items.length = (escAll (wd.take i)).length ∧ (∀ p ∈ inn, p.1 = Str.ofString "c") ∧ m' = fmi (("cs", .ref l) :: ("v", .str ⟨wd.toArray⟩ t1) :: inn) ∧ nx = (l, W.listOf items.toArray nn) :: (lc, oc) :: news
local macro_rules | `(tactic| walk_at "my enter") => `(tactic| (refine' code_cells ?k1 ?k2 ?k3 ?k4 ?k5 ?kA ?kF ?kK ?k6 ?k7 ?k8 ?k9 ?kB ?kD ?_ ?c2 ?c3 ?c4; (case kA => exact rfl); (case kF => exact rfl); (case kK => assumption); (case k1 => k_asm); (case k2 => k_asm); (case k3 => k_asm); (case k4 => k_asm); (case k5 => k_asm); (case k6 => k_is); (case k7 => k_is); (case k8 => ktr_room); (case k9 => exact BindsTo.of_eq rfl); (case kB => exact rfl); (case kD => decide +kernel); (case c2 => exact rfl); (case c3 => exact rfl); (case c4 => exact rfl); k_whole; intro g' L' h' tk' cells' FG' F' N' Y' B' X' T' G1 l1; (try k_lt l1); k_cells Y'; (try simp only [List.cons_append, List.nil_append] at N'); (try dsimp only); (try k_fold)))
set_option maxRecDepth 100000 in
set_option maxHeartbeats 8000000 in
theorem esc_spec {w : World} {mean : ExcName → Option Value} {mg mb : Str → Option Value} (wd : List Nat) (hlen : wd.length ≤ 1000) {t1 : Tok} {news : List (Addr × Obj)} :
    TelG w mean mg mb 70 3 [.str ⟨wd.toArray⟩ t1] news (strOut wd) := by
  unfold TelG
  k_fill
  k_with_none
  w_top off
  intro dp un gd cn cs a ccd cl outer A₀ base h₀ L m s ps Q E B F X N T hk hd hu htr hbare hne hret
  have N0 := N
  generalize hnw : (65, tabObj ps) :: news = nws at N
  simp only [strOut] at hret
  refine wpAny_call ?_
  k_dflt (walk_at "my enter")
  k_with "exec For" => (refine Held.out ?_)
  k_steps
  k_with_none
  rename_i g L1 h0 tk0 FG B1 X1 T1 G1 hL1 oc hoc l h1 hl h2 F2 N2
  replace F2 : Fr g L1 h2 (fmi [("cs", .ref l), ("v", .str ⟨wd.toArray⟩ t1)]) := by with_unfolding_all exact F2
  replace hoc : oc.data = .cell none := by rw [hoc]; with_unfolding_all rfl
  refine Held.into ?_
  with_unfolding_all refine' for_str (xt := ⟨wd.toArray⟩) (t := t1) (JE wd t1 l (L1 + 1) oc nws) ?kf ?kn ?kj ?ki ?kt ?kd ?kh ?kx ?kp ?ks ?ke
  case kf => exact F2
  case kn => exact N2
  case kj => exact ⟨[], 0, [], .nil, rfl, fun _ h => (nomatch h), rfl, rfl⟩
  case ki =>
    k_steps
  case kh => exact rfl
  case kx => exact rfl
  case kp => exact rfl
  case ks => intro x; rfl
  case ke => passes_own
  case kt =>
    rintro i c t' m₁ nx h tk own hc hadr hoff ⟨items, nn, inn, hS, hIl, hinn, rfl, rfl⟩ F3 N3
    clear F2 N2 hret
    replace F3 : Fr g L1 h (fmi (("c", .str ⟨#[c]⟩ t') :: ("cs", .ref l) :: ("v", .str ⟨wd.toArray⟩ t1) :: inn)) := F3
    replace N3 : News g L1 h ((l, W.listOf items.toArray nn) :: (L1 + 1, oc) :: (nws ++ own)) := N3
    have hoffl : OwnOff (nws ++ own) [l] := by
      intro p hp b hb
      obtain rfl := List.mem_singleton.mp hb
      rcases List.mem_append.mp hp with hp | hp
      · exact Nat.ne_of_lt (ktn_ltOf hl.2 p hp)
      · exact hoff p hp _ (.head _)
    have hIl2 : items.length + 3 ≤ 1048576 := by
      have e1 := escAll_le (wd.take i)
      have e2 : (wd.take i).length ≤ wd.length := by rw [List.length_take]; omega
      omega
    have hci : wd[i]? = some c := by simpa using hc
    have htk : wd.take (i + 1) = wd.take i ++ [c] := by rw [List.take_add_one, hci]; rfl
    have hesc : escAll (wd.take (i + 1)) = escAll (wd.take i) ++ escSign c := by rw [htk]; simp [escAll]
    k_steps
    · rename News g _ _ _ => N9
      rename Fr g _ _ _ => F9
      rename Heap => h9
      rename (_ == _) = true => hE
      have hce : c = 92 := by rw [back_lit, one_beq] at hE; simpa using hE
      replace F9 : Fr g L1 h9 (fmi (("cs", .ref l) :: ("v", .str ⟨wd.toArray⟩ t1) :: [("c", .str ⟨#[c]⟩ t')])) :=
        frNormI (l₁ := [("c", _), ("cs", _), ("v", _)]) (inn := inn) F9 ["cs", "v", "c"] ⟨rfl, rfl, rfl, trivial⟩ rfl (fun p hp => by rw [hinn p hp]; decide) rfl
      simp only [List.push_toArray, List.append_assoc, List.cons_append, List.nil_append, back_lit] at N9
      obtain ⟨tk9, N9⟩ : ∃ tk9, News g L1 h9 ((l, W.listOf (items ++ [Value.str (one 92) tk9, Value.str (one c) t']).toArray (nn + 1 + 1)) :: (L1 + 1, oc) :: (nws ++ own)) := ⟨_, N9⟩
      have hec : escSign c = [92, c] := by simp [escSign, hce]
      refine InvEndN.intro F9 N9 (nx := (l, W.listOf (items ++ [Value.str (one 92) tk9, Value.str (one c) t']).toArray (nn + 1 + 1)) :: (L1 + 1, oc) :: nws) ⟨items ++ [Value.str (one 92) tk9, Value.str (one c) t'], nn + 1 + 1, [("c", .str ⟨#[c]⟩ t')], ?_, ?_, by simp, rfl, rfl⟩ rfl (fun p hp => ?_) (fun p hp => .tail _ (.tail _ (List.mem_append.mpr (.inr hp))))
      · rw [hesc, List.map_append, hec]
        have := strs_push (x := one c) (t := t') (strs_push (x := one 92) (t := tk9) hS)
        simpa [List.append_assoc] using this
      · rw [hesc, List.length_append, List.length_append, ← hIl, hec]; rfl
      · rcases List.mem_cons.mp hp with rfl | hp
        · exact .head _
        · rcases List.mem_cons.mp hp with rfl | hp
          · exact .tail _ (.head _)
          · exact .tail _ (.tail _ (List.mem_append.mpr (.inl hp)))
    · rename News g _ _ _ => N9
      rename Fr g _ _ _ => F9
      rename Heap => h9
      rename (_ == _) = true => hE
      have hce : c = 34 := by rw [quote_lit, one_beq] at hE; simpa using hE
      replace F9 : Fr g L1 h9 (fmi (("cs", .ref l) :: ("v", .str ⟨wd.toArray⟩ t1) :: [("c", .str ⟨#[c]⟩ t')])) :=
        frNormI (l₁ := [("c", _), ("cs", _), ("v", _)]) (inn := inn) F9 ["cs", "v", "c"] ⟨rfl, rfl, rfl, trivial⟩ rfl (fun p hp => by rw [hinn p hp]; decide) rfl
      simp only [List.push_toArray, List.append_assoc, List.cons_append, List.nil_append, back_lit] at N9
      obtain ⟨tk9, N9⟩ : ∃ tk9, News g L1 h9 ((l, W.listOf (items ++ [Value.str (one 92) tk9, Value.str (one c) t']).toArray (nn + 1 + 1)) :: (L1 + 1, oc) :: (nws ++ own)) := ⟨_, N9⟩
      have hec : escSign c = [92, c] := by simp [escSign, hce]
      refine InvEndN.intro F9 N9 (nx := (l, W.listOf (items ++ [Value.str (one 92) tk9, Value.str (one c) t']).toArray (nn + 1 + 1)) :: (L1 + 1, oc) :: nws) ⟨items ++ [Value.str (one 92) tk9, Value.str (one c) t'], nn + 1 + 1, [("c", .str ⟨#[c]⟩ t')], ?_, ?_, by simp, rfl, rfl⟩ rfl (fun p hp => ?_) (fun p hp => .tail _ (.tail _ (List.mem_append.mpr (.inr hp))))
      · rw [hesc, List.map_append, hec]
        have := strs_push (x := one c) (t := t') (strs_push (x := one 92) (t := tk9) hS)
        simpa [List.append_assoc] using this
      · rw [hesc, List.length_append, List.length_append, ← hIl, hec]; rfl
      · rcases List.mem_cons.mp hp with rfl | hp
        · exact .head _
        · rcases List.mem_cons.mp hp with rfl | hp
          · exact .tail _ (.head _)
          · exact .tail _ (.tail _ (List.mem_append.mpr (.inl hp)))
    · rename News g _ _ _ => N9
      rename Fr g _ _ _ => F9
      rename Heap => h9
      rename (_ == Str.ofString "\\") = false => hE
      rename (_ == Str.ofString "\"") = false => hE2
      have hec : escSign c = [c] := by
        rw [back_lit, one_beq] at hE
        rw [quote_lit, one_beq] at hE2
        simp only [decide_eq_false_iff_not] at hE hE2
        simp [escSign, hE, hE2]
      replace F9 : Fr g L1 h9 (fmi (("cs", .ref l) :: ("v", .str ⟨wd.toArray⟩ t1) :: [("c", .str ⟨#[c]⟩ t')])) :=
        frNormI (l₁ := [("c", _), ("cs", _), ("v", _)]) (inn := inn) F9 ["cs", "v", "c"] ⟨rfl, rfl, rfl, trivial⟩ rfl (fun p hp => by rw [hinn p hp]; decide) rfl
      rw [List.push_toArray] at N9
      refine InvEndN.intro F9 N9 (nx := (l, W.listOf (items ++ [Value.str (one c) t']).toArray (nn + 1)) :: (L1 + 1, oc) :: nws) ⟨items ++ [Value.str (one c) t'], nn + 1, [("c", .str ⟨#[c]⟩ t')], ?_, ?_, by simp, rfl, rfl⟩ rfl (fun p hp => ?_) (fun p hp => .tail _ (.tail _ (List.mem_append.mpr (.inr hp))))
      · rw [hesc, List.map_append, hec]
        exact strs_push hS
      · rw [hesc, List.length_append, List.length_append, ← hIl, hec]; rfl
      · rcases List.mem_cons.mp hp with rfl | hp
        · exact .head _
        · rcases List.mem_cons.mp hp with rfl | hp
          · exact .tail _ (.head _)
          · exact .tail _ (.tail _ (List.mem_append.mpr (.inl hp)))
  case kd =>
    rintro m₁ nx h tk ⟨items, nn, inn, hS, hIl, hinn, rfl, rfl⟩ F3 N3
    replace F3 : Fr g L1 h (fmi (("cs", .ref l) :: ("v", .str ⟨wd.toArray⟩ t1) :: inn)) := F3
    replace N3 : News g L1 h ((l, W.listOf items.toArray nn) :: (L1 + 1, oc) :: nws) := N3
    have hfull : wd.take (Str.length ⟨wd.toArray⟩) = wd := by show wd.take wd.toArray.size = wd; simp
    rw [hfull] at hS hIl
    clear F2 N2
    dsimp only
    have hL2 : ∀ p ∈ nws, p.1 < L1 + 1 := fun p hp => Nat.lt_succ_of_lt (hL1 p hp)
    have hel : (escAll wd).length ≤ 2000 := by have := escAll_le wd; omega
    k_steps
    refine join_listW (News.isList N3 (.head _)) hS (by decide +kernel) (by rw [sum_ones, List.length_map]; omega) ?_
    intro t' k'
    rw [join_signs]
    have hel2 : (Str.mk (escAll wd).toArray).length ≤ 2000 := by simpa [Str.length] using hel
    k_steps
    · rename News h₀ _ _ _ => N9
      rename Fr h₀ _ _ _ => F9
      rename News g _ _ _ => N8
      rename Fr g _ _ _ => F8
      rename _ = (0 : Int) => hz
      subst hnw
      refine hret _ [] _ ps F9 (fun p hp => N9 p (.tail _ (.tail _ (by rw [List.append_nil] at hp; exact hp)))) htr hbare rfl (stays_but G1 N0 F8 N8 (fun p hp => .tail _ (.tail _ (.tail _ hp)))) (fun _ _ _ h => nomatch h) ⟨rfl, _, congrArg (fun x => Value.str x _) (quoted_of (needs_0 (by simpa [Str.length] using hz)))⟩
    · rename News h₀ _ _ _ => N9
      rename Fr h₀ _ _ _ => F9
      rename News g _ _ _ => N8
      rename Fr g _ _ _ => F8
      rename (_ == _) = true => hz
      subst hnw
      refine hret _ [] _ ps F9 (fun p hp => N9 p (.tail _ (.tail _ (by rw [List.append_nil] at hp; exact hp)))) htr hbare rfl (stays_but G1 N0 F8 N8 (fun p hp => .tail _ (.tail _ (.tail _ hp)))) (fun _ _ _ h => nomatch h) ⟨rfl, _, congrArg (fun x => Value.str x _) (quoted_of (needs_null (null_codes.mp hz)))⟩
    · rename News g _ _ _ => N9
      rename Fr g _ _ _ => F9
      rename (_ == _) = false => hnn
      rename _ ≠ (0 : Int) => hnz
      subst hnw
      rename Obj => o8
      have hne2 : ∀ p ∈ ([(l, W.listOf items.toArray nn), (L1 + 1, o8)] : List (Addr × Obj)) ++ news, p.1 ≠ 65 := by
        intro p hp
        have h65 : 65 < L1 := hL1 (65, tabObj ps) (.head _)
        rcases List.mem_append.mp hp with hp | hp
        · rcases List.mem_cons.mp hp with rfl | hp
          · exact Nat.ne_of_gt (Nat.lt_trans (Nat.lt_succ_of_lt h65) hl.1)
          · rw [List.mem_singleton.mp hp]
            exact Nat.ne_of_gt (Nat.lt_succ_of_lt h65)
        · exact hne p hp
      have C1 : CodeHd g 69 65 := codeHd_of_K X1 (by with_unfolding_all rfl)
      with_unfolding_all refine' gen_text (nx := [(l, W.listOf items.toArray nn), (L1 + 1, o8)]) (nz := news) (ps := ps) (wd := ⟨(escAll wd).toArray⟩) (F := fun i v => v = .bool (spaceAt (escAll wd) i)) F9 N9 hne2 T1 C1 htr hbare rfl rfl rfl rfl rfl ?z1 rfl rfl rfl ?z2 (fun _ => rfl) ?z3 ?z4 ?z5
      case z1 => decide
      case z2 => ktr_room
      case z3 =>
        intro Q' hq'
        exact wpAny_Name (wpAny_loadName_cell rfl (by with_unfolding_all rfl) (by with_unfolding_all rfl) ⟨o8, (N9 _ (.tail _ (.head _))).1, by assumption⟩ hq') rfl
      case z4 =>
        intro C' code href hC hk'
        with_unfolding_all exact quiet_space rfl rfl rfl
      case z5 =>
        intro a9 s9 left9
        try dsimp only
        k_with "call builtin:any" => (refine any_left (b := (escAll wd).any Unicode.isSpace) left9 ?hb ?_; (case hb => exact any_space _); intro s8 ps8 F8 N8 ht8 hb8 ho8; (simp only [List.cons_append, List.nil_append] at N8); (replace ho8 : s8.os = s.os := ho8); (have hl8 : L1 + 1 < l ∧ AllLt l ((65, tabObj ps8) :: news) := ⟨hl.1, allLt_swap hl.2⟩); (have hL8 : ∀ p ∈ ((65, tabObj ps8) :: news : List (Addr × Obj)), p.1 < L1 + 1 := lt_swap hL2); (generalize hnw8 : ((65, tabObj ps8) :: news : List (Addr × Obj)) = nws8 at N8 hl8 hL8); clear left9 F9 N9; (try dsimp only))
        k_steps
        · rename News h₀ _ _ _ => N6
          rename Fr h₀ _ _ _ => F6
          rename News g _ _ _ => N5
          rename Fr g _ _ _ => F5
          rename _ = true => hz
          subst hnw8
          exact hret _ [] _ ps8 F6 (fun p hp => N6 p (.tail _ (.tail _ (by rw [List.append_nil] at hp; exact hp)))) ht8 hb8 ho8 (stays_but G1 N0 F5 N5 (fun p hp => .tail _ (.tail _ (.tail _ hp)))) (fun _ _ _ h => nomatch h) ⟨rfl, _, congrArg (fun x => Value.str x _) (quoted_of (needs_space hz))⟩
        · rename _ = false => hsp
          clear hL8 hl8
          have hne3 : ∀ p ∈ ([(l, W.listOf items.toArray nn), (L1 + 1, o8)] : List (Addr × Obj)) ++ news, p.1 ≠ 65 := hne2
          subst hnw8
          with_unfolding_all refine' gen_tuple (nx := [(l, W.listOf items.toArray nn), (L1 + 1, o8)]) (nz := news) (ps := ps8) (l := [123, 125, 44, 92].map one) (F := fun i v => v = .bool (inAt [123, 125, 44, 92] (escAll wd) i)) F8 N8 hne3 T1 C1 ht8 hb8 rfl rfl rfl rfl rfl ?z1 rfl rfl rfl ?z2 (fun _ => rfl) ?z3 ?z4 ?z5
          case z1 => decide
          case z2 => ktr_room
          case z3 =>
            intro Q' hq'
            refine wpAny_Tuple_spliced ?_
            refine wpAny_items_cons (wpAny_Constant_str (wpAny_items_cons (wpAny_Constant_str (wpAny_items_cons (wpAny_Constant_str (wpAny_items_cons (wpAny_Constant_str (wpAny_items_nil ⟨(show 4 ≤ sizeLine by decide), ?_⟩))))))))
            refine hq' _ _ _ ⟨_, Heap.get?_push_size _ rfl, rfl, _, rfl⟩ ?_ (fun b o e => Heap.get?_push_of_some _ e) ?_ rfl rfl
            · exact four_strs _ _ _ _
            · rw [Heap.size_push]; exact Nat.le_succ _
          case z4 =>
            intro its C' I' code href hi hI hC hk'
            with_unfolding_all refine quiet_in (k := L1 + 1) (o := o8) (wd := escAll wd) (l := [123, 125, 44, 92]) hi rfl rfl rfl rfl (hk' _ _ (hne2 (L1 + 1, o8) (.tail _ (.head _))) (N8 _ (.tail _ (.head _))).1) (by assumption) ?_ ?_
            · exact List.mem_range.mpr (Nat.lt_trans (Nat.lt_of_lt_of_le (Heap.lt_size (N8 _ (.tail _ (.head _))).1) hI) hC)
            · intro hm
              have := Nat.lt_of_lt_of_le (Heap.lt_size (N8 _ (.tail _ (.head _))).1) hI
              rw [List.mem_singleton.mp hm] at this
              exact Nat.lt_irrefl _ this
          case z5 =>
            intro a9 s9 left9
            k_with "call builtin:any" => (refine any_left (b := [123, 125, 44, 92].any fun c => decide (c ∈ escAll wd)) left9 ?hb ?_; (case hb => k_dflt (exact any_in [123, 125, 44, 92] (escAll wd))); intro s7 ps7 F7 N7 ht7 hb7 ho7; (simp only [List.cons_append, List.nil_append] at N7); (replace ho7 : s7.os = s8.os := ho7); (have hl7 : L1 + 1 < l ∧ AllLt l ((65, tabObj ps7) :: news) := ⟨hl.1, allLt_swap hl.2⟩); (have hL7 : ∀ p ∈ ((65, tabObj ps7) :: news : List (Addr × Obj)), p.1 < L1 + 1 := lt_swap hL2); (generalize hnw7 : ((65, tabObj ps7) :: news : List (Addr × Obj)) = nws7 at N7 hl7 hL7); clear left9 F8 N8; (try dsimp only))
            k_steps
            · rename News h₀ _ _ _ => N6
              rename Fr h₀ _ _ _ => F6
              rename News g _ _ _ => N5
              rename Fr g _ _ _ => F5
              rename _ = true => hz
              subst hnw7
              exact hret _ [] _ ps7 F6 (fun p hp => N6 p (.tail _ (.tail _ (by rw [List.append_nil] at hp; exact hp)))) ht7 hb7 (ho7.trans ho8) (stays_but G1 N0 F5 N5 (fun p hp => .tail _ (.tail _ (.tail _ hp)))) (fun _ _ _ h => nomatch h) ⟨rfl, _, congrArg (fun x => Value.str x _) (quoted_of (needs_in hz))⟩
            · rename News h₀ _ _ _ => N6
              rename Fr h₀ _ _ _ => F6
              rename News g _ _ _ => N5
              rename Fr g _ _ _ => F5
              rename _ = false => hz
              subst hnw7
              have hnn2 : escAll wd ≠ [78, 85, 76, 76] := fun e => by rw [null_codes.mpr e] at hnn; cases hnn
              exact hret _ [] _ ps7 F6 (fun p hp => N6 p (.tail _ (.tail _ (by rw [List.append_nil] at hp; exact hp)))) ht7 hb7 (ho7.trans ho8) (stays_but G1 N0 F5 N5 (fun p hp => .tail _ (.tail _ (.tail _ hp)))) (fun _ _ _ h => nomatch h)
                ⟨rfl, _, congrArg (fun x => Value.str x _) (plain_of (needs_not (by simpa [Str.length] using hnz) hnn2 hsp hz))⟩
end Mine
end
section
open PySem PySem.W PyProof.Rows
namespace Mine
def hexd (n : Nat) : Nat := if n < 10 then 48 + n else 87 + n
def hexCodes (bs : List UInt8) : List Nat := bs.flatMap fun c => [hexd (c.toNat / 16), hexd (c.toNat % 16)]
theorem hex_fold (b : Array UInt8) : (b.toList.zipIdx.foldl (fun (out : Array Nat) (x : UInt8 × Nat) => (out.push (hexd (x.1.toNat / 16))).push (hexd (x.1.toNat % 16))) #[]) = (hexCodes b.toList).toArray := by
  have gen : ∀ (l : List UInt8) (k : Nat) (out : Array Nat), ((l.zipIdx k).foldl (fun (out : Array Nat) (x : UInt8 × Nat) => (out.push (hexd (x.1.toNat / 16))).push (hexd (x.1.toNat % 16))) out) = out ++ (hexCodes l).toArray := by
    intro l
    induction l with
    | nil => intro k out; simp [hexCodes]
    | cons c r ih =>
      intro k out
      rw [List.zipIdx_cons, List.foldl_cons, ih]
      simp [hexCodes]
  rw [gen]
  simp
set_option maxRecDepth 100000 in
theorem hex_eq (b : Array UInt8) (t : Tok) : Builtin.«bytes.hex» ⟨[.bytes b t], []⟩ = (mkStr ⟨b.toList.zipIdx.foldl (fun (out : Array Nat) (x : UInt8 × Nat) => (out.push (hexd (x.1.toNat / 16))).push (hexd (x.1.toNat % 16))) #[]⟩ >>= fun v => ret v) := by kernel_rfl
theorem meets_hex (b : Array UInt8) (t : Tok) : Meets (Builtin.«bytes.hex» ⟨[.bytes b t], []⟩) (fun _ R s => 2 * b.size ≤ sizeLine ∧ ∀ t' k, R (.ok (.ret (.str ⟨(hexCodes b.toList).toArray⟩ t'))) { s with toks := k }) := by
  refine .of_wp fun prog w A R s hS => ?_
  obtain ⟨hsz, h⟩ := hS
  rw [hex_eq, hex_fold]
  refine wpAny_bind (wpAny_mkStr (wpAny_pure ⟨_, rfl, h _ _⟩) ?_)
  show (hexCodes b.toList).toArray.size ≤ _
  rw [List.size_toArray]
  have gen : ∀ l : List UInt8, (hexCodes l).length = 2 * l.length := by
    intro l
    induction l with
    | nil => rfl
    | cons c r ih =>
      have e : hexCodes (c :: r) = [hexd (c.toNat / 16), hexd (c.toNat % 16)] ++ hexCodes r := by simp [hexCodes]
      rw [e, List.length_append, ih, List.length_cons]; simp; omega
  rw [gen, Array.length_toList]
  exact hsz
section
variable {prog : Program} {w : World} {A : Around} {E : Value → Shared → Prop} {s : Shared}
theorem hex_call {b : Array UInt8} {t : Tok} {Q : Value → Shared → Prop} (hsz : 2 * b.size ≤ sizeLine) (h : ∀ t' k, Q (.str ⟨(hexCodes b.toList).toArray⟩ t') { s with toks := k }) :
    wpAny (model prog w) A (call (.builtin "bytes.hex") [.bytes b t]) Q E s :=
  call_meets FB.slot_bytes_hex (typeIs_bytes _ _ _) FB.entry_bytes_hex (FB.args_bytes_hex_1 _) (meets_hex b t) ⟨hsz, h⟩
theorem hex_method {M : Model} {b : Array UInt8} {t : Tok} {pl : Sem Bool} {Q : Value × List Value → Shared → Prop} (h : Q (.builtin "bytes.hex", [.bytes b t]) s) : wpAny M A (getMethod (.bytes b t) "hex" pl) Q E s :=
  KBd.method_of (.bytes b t) (typeIs_bytes _ _ _) FB.slot_bytes_hex FB.type_bytes_hex (fun _ e => nomatch e) h
end
end Mine
end
section
open PySem PySem.W PyProof.Rows
namespace Mine
def strIs (l : List Nat) (tl : List (Addr × Obj)) (r : Value) : Prop := tl = [] ∧ ∃ t, r = .str ⟨l.toArray⟩ t
def litIs (x : Str) (tl : List (Addr × Obj)) (r : Value) : Prop := tl = [] ∧ ∃ t, r = .str x t
def noneIs (tl : List (Addr × Obj)) (r : Value) : Prop := tl = [] ∧ r = .none
theorem Tel.use1 {w : World} {mean : ExcName → Option Value} {mg mb : Str → Option Value} {f : Addr} {need : Nat} {vs : List Value} {news : List (Addr × Obj)} {R : Value → Prop} {Out : List (Addr × Obj) → Value → Prop} (C : Tel w mean mg mb f need vs news Out)
    {dp un : Nat} {gd : Option (List Code)} {cn : Str} {cs : Scope} {a : Addr} {ccd : Value} {cl : List (Str × Addr)} {outer : List Env} {A₀ : Around} {base h₀ : Heap} {L : Addr} {m : Str → Option Value} {s : Shared} {Q E : Value → Shared → Prop}
    (B : Below A₀ base outer h₀) (F : Fr h₀ L s.heap m) (X : (Mine.hd.heap_39 w.params).In h₀) (N : News h₀ L s.heap news) (T : Top topProg gl mean mg mb h₀) (hk : cs.kind = .function) (hd : dp + need < recursionLimit) (hu : un + 8 * need < cLine)
    (hR : ∀ tl r, Out tl r → tl = [] ∧ R r)
    (ret : ∀ r h' tk', Fr h₀ L h' m → News h₀ L h' news → (∀ b o, s.heap.get? b = some o → h'.get? b = some o) → R r → Q r { s with heap := h', toks := tk' }) :
    wpAny (model PySem.Challenge.rw_ew0017_01.row.prog w) (ktrTop dp un gd cn cs L a ccd cl outer) (call (.ref f) vs) Q E s :=
  C.use B F X N T hk hd hu fun r tl h' tk' F' N' hs _ ho => by
    obtain ⟨e, hr⟩ := hR _ _ ho
    subst e
    rw [List.append_nil] at N'
    exact ret r h' tk' F' N' hs hr
local macro_rules | `(tactic| walk_at "my enter") => `(tactic| (refine' code_defG ?k1 ?k2 ?k3 ?k4 ?k5 ?kA ?kF ?kK ?k6 ?k7 ?k8 ?k9 ?kB ?_ ?c2 ?c3 ?c4 ?c5; (case kA => exact rfl); (case kF => exact rfl); (case kK => assumption); (case k1 => k_asm); (case k2 => k_asm); (case k3 => k_asm); (case k4 => k_asm); (case k5 => k_asm); (case k6 => k_is); (case k7 => k_is); (case k8 => ktr_room); (case k9 => exact BindsTo.of_eq rfl); (case c5 => decide); (case kB => exact locs rfl); (case c2 => exact rfl); (case c3 => exact rfl); (case c4 => exact rfl); k_whole; intro g' L' h' FG' F' N' B' X' T' G'; (try dsimp only); (try k_fold)))
local macro_rules | `(tactic| walk_at "getMethod bytes") => `(tactic| refine hex_method ?_)
local macro_rules | `(tactic| walk_at "call builtin:bytes.hex") => `(tactic| (refine hex_call ?hsz ?_; (case hsz => assumption); intro _ _))
set_option maxRecDepth 100000 in
set_option maxHeartbeats 8000000 in
theorem kind_none {w : World} {mean : ExcName → Option Value} {mg mb : Str → Option Value}  {news : List (Addr × Obj)} :
    Tel w mean mg mb 21 1 [.none] news (litIs "None") := by
  unfold Tel
  k_fill
  k_with_none
  w_top off
  intro dp un gd cn cs a ccd cl outer A₀ base h₀ L m s Q E B F X N T hk hd hu hret
  refine wpAny_call ?_
  k_dflt (walk_at "my enter")
  rename_i g L1 h1 FG F1 N1 B1 X1 T1 G1
  k_steps
  · rename News h₀ _ _ _ => N9
    rename Fr h₀ _ _ _ => F9
    exact hret _ [] _ _ F9 (fun p hp => N9 p (by rw [List.append_nil] at hp; repeat (first | exact hp | refine List.Mem.tail _ ?_))) (stays_end G1 N (by assumption) (by assumption) (fun p hp => by repeat (first | exact hp | refine List.Mem.tail _ ?_))) (fun _ _ _ h => nomatch h) ⟨rfl, _, rfl⟩
set_option maxRecDepth 100000 in
set_option maxHeartbeats 8000000 in
theorem kind_bool {w : World} {mean : ExcName → Option Value} {mg mb : Str → Option Value} {b : Bool} {news : List (Addr × Obj)} :
    Tel w mean mg mb 21 1 [.bool b] news (litIs "bool") := by
  unfold Tel
  k_fill
  k_with_none
  intro dp un gd cn cs a ccd cl outer A₀ base h₀ L m s Q E B F X N T hk hd hu hret
  refine wpAny_call ?_
  k_dflt (walk_at "my enter")
  rename_i g L1 h1 FG F1 N1 B1 X1 T1 G1
  k_steps
  · rename News h₀ _ _ _ => N9
    rename Fr h₀ _ _ _ => F9
    exact hret _ [] _ _ F9 (fun p hp => N9 p (by rw [List.append_nil] at hp; repeat (first | exact hp | refine List.Mem.tail _ ?_))) (stays_end G1 N (by assumption) (by assumption) (fun p hp => by repeat (first | exact hp | refine List.Mem.tail _ ?_))) (fun _ _ _ h => nomatch h) ⟨rfl, _, rfl⟩
set_option maxRecDepth 100000 in
set_option maxHeartbeats 8000000 in
theorem kind_int {w : World} {mean : ExcName → Option Value} {mg mb : Str → Option Value} {n : Int} {t : Tok} {news : List (Addr × Obj)} :
    Tel w mean mg mb 21 1 [.int n t] news (litIs "int") := by
  unfold Tel
  k_fill
  k_with_none
  intro dp un gd cn cs a ccd cl outer A₀ base h₀ L m s Q E B F X N T hk hd hu hret
  refine wpAny_call ?_
  k_dflt (walk_at "my enter")
  rename_i g L1 h1 FG F1 N1 B1 X1 T1 G1
  k_steps
  · rename News h₀ _ _ _ => N9
    rename Fr h₀ _ _ _ => F9
    exact hret _ [] _ _ F9 (fun p hp => N9 p (by rw [List.append_nil] at hp; repeat (first | exact hp | refine List.Mem.tail _ ?_))) (stays_end G1 N (by assumption) (by assumption) (fun p hp => by repeat (first | exact hp | refine List.Mem.tail _ ?_))) (fun _ _ _ h => nomatch h) ⟨rfl, _, rfl⟩
set_option maxRecDepth 100000 in
set_option maxHeartbeats 8000000 in
theorem kind_str {w : World} {mean : ExcName → Option Value} {mg mb : Str → Option Value} {x : Str} {t : Tok} {news : List (Addr × Obj)} :
    Tel w mean mg mb 21 1 [.str x t] news (litIs "str") := by
  unfold Tel
  k_fill
  k_with_none
  intro dp un gd cn cs a ccd cl outer A₀ base h₀ L m s Q E B F X N T hk hd hu hret
  refine wpAny_call ?_
  k_dflt (walk_at "my enter")
  rename_i g L1 h1 FG F1 N1 B1 X1 T1 G1
  k_steps
  · rename News h₀ _ _ _ => N9
    rename Fr h₀ _ _ _ => F9
    exact hret _ [] _ _ F9 (fun p hp => N9 p (by rw [List.append_nil] at hp; repeat (first | exact hp | refine List.Mem.tail _ ?_))) (stays_end G1 N (by assumption) (by assumption) (fun p hp => by repeat (first | exact hp | refine List.Mem.tail _ ?_))) (fun _ _ _ h => nomatch h) ⟨rfl, _, rfl⟩
set_option maxRecDepth 100000 in
set_option maxHeartbeats 8000000 in
theorem bool_out {w : World} {mean : ExcName → Option Value} {mg mb : Str → Option Value} {b : Bool} {news : List (Addr × Obj)} :
    Tel w mean mg mb 28 1 [.bool b] news (litIs (if b then "true" else "false")) := by
  unfold Tel
  k_fill
  k_with_none
  intro dp un gd cn cs a ccd cl outer A₀ base h₀ L m s Q E B F X N T hk hd hu hret
  refine wpAny_call ?_
  k_dflt (walk_at "my enter")
  rename_i g L1 h1 FG F1 N1 B1 X1 T1 G1
  k_steps
  · rename News h₀ _ _ _ => N9
    rename Fr h₀ _ _ _ => F9
    exact hret _ [] _ _ F9 (fun p hp => N9 p (by rw [List.append_nil] at hp; repeat (first | exact hp | refine List.Mem.tail _ ?_))) (stays_end G1 N (by assumption) (by assumption) (fun p hp => by repeat (first | exact hp | refine List.Mem.tail _ ?_))) (fun _ _ _ h => nomatch h) ⟨rfl, _, by simp [*]; rfl⟩
  · rename News h₀ _ _ _ => N9
    rename Fr h₀ _ _ _ => F9
    exact hret _ [] _ _ F9 (fun p hp => N9 p (by rw [List.append_nil] at hp; repeat (first | exact hp | refine List.Mem.tail _ ?_))) (stays_end G1 N (by assumption) (by assumption) (fun p hp => by repeat (first | exact hp | refine List.Mem.tail _ ?_))) (fun _ _ _ h => nomatch h) ⟨rfl, _, by simp [*]; rfl⟩
theorem hex_len (l : List UInt8) : (hexCodes l).length = 2 * l.length := by
  induction l with
  | nil => rfl
  | cons c r ih =>
    have e : hexCodes (c :: r) = [hexd (c.toNat / 16), hexd (c.toNat % 16)] ++ hexCodes r := by simp [hexCodes]
    rw [e, List.length_append, ih, List.length_cons]; simp; omega
theorem bs_x : (Str.ofString "\\x") = ⟨[92, 120].toArray⟩ := by decide +kernel
theorem bs_hex (l : List Nat) : Str.ofString "\\x" ++ (⟨l.toArray⟩ : Str) = ⟨(92 :: 120 :: l).toArray⟩ := by
  refine str_ext ?_
  rw [cat_toList, bs_x]
  simp
def decCodes (n : Int) : List Nat := (Str.ofString (toString n)).cps.toList
theorem dec_str (n : Int) : (⟨(decCodes n).toArray⟩ : Str) = Str.ofString (toString n) := by
  unfold decCodes
  rw [Array.toArray_toList]
set_option maxRecDepth 100000 in
set_option maxHeartbeats 8000000 in
theorem bytes_out {w : World} {mean : ExcName → Option Value} {mg mb : Str → Option Value} {bs : List UInt8} {t : Tok} (hsz : 2 * bs.toArray.size ≤ sizeLine) (h1 : bs.length ≤ 1000) {news : List (Addr × Obj)} :
    Tel w mean mg mb 35 1 [.bytes bs.toArray t] news (strIs (92 :: 120 :: hexCodes bs)) := by
  unfold Tel
  k_fill
  k_with_none
  intro dp un gd cn cs a ccd cl outer A₀ base h₀ L m s Q E B F X N T hk hd hu hret
  refine wpAny_call ?_
  k_dflt (walk_at "my enter")
  rename_i g L1 h1 FG F1 N1 B1 X1 T1 G1
  have hl2 : (Str.mk (hexCodes bs.toArray.toList).toArray).length ≤ 2000 := by show (hexCodes bs).toArray.size ≤ _; rw [List.size_toArray, hex_len]; omega
  k_steps
  · rename News h₀ _ _ _ => N9
    rename Fr h₀ _ _ _ => F9
    exact hret _ [] _ _ F9 (fun p hp => N9 p (by rw [List.append_nil] at hp; repeat (first | exact hp | refine List.Mem.tail _ ?_))) (stays_end G1 N (by assumption) (by assumption) (fun p hp => by repeat (first | exact hp | refine List.Mem.tail _ ?_))) (fun _ _ _ h => nomatch h) ⟨rfl, _, congrArg (fun x => Value.str x _) (bs_hex _)⟩
set_option maxRecDepth 100000 in
set_option maxHeartbeats 8000000 in
theorem int_out {w : World} {mean : ExcName → Option Value} {mg mb : Str → Option Value} {n : Int} {t : Tok} (h1 : n.natAbs < 10 ^ 30) (h2 : n.natAbs.log2 < 1920) {news : List (Addr × Obj)} :
    Tel w mean mg mb 42 1 [.int n t] news (litIs (Str.ofString (toString n))) := by
  unfold Tel
  k_fill
  k_with_none
  intro dp un gd cn cs a ccd cl outer A₀ base h₀ L m s Q E B F X N T hk hd hu hret
  refine wpAny_call ?_
  k_dflt (walk_at "my enter")
  rename_i g L1 h1 FG F1 N1 B1 X1 T1 G1
  k_steps
  · rename News h₀ _ _ _ => N9
    rename Fr h₀ _ _ _ => F9
    exact hret _ [] _ _ F9 (fun p hp => N9 p (by rw [List.append_nil] at hp; repeat (first | exact hp | refine List.Mem.tail _ ?_))) (stays_end G1 N (by assumption) (by assumption) (fun p hp => by repeat (first | exact hp | refine List.Mem.tail _ ?_))) (fun _ _ _ h => nomatch h) ⟨rfl, _, rfl⟩
set_option maxRecDepth 100000 in
set_option maxHeartbeats 8000000 in
theorem null_out {w : World} {mean : ExcName → Option Value} {mg mb : Str → Option Value}  {news : List (Addr × Obj)} :
    Tel w mean mg mb 49 1 [.none] news (noneIs) := by
  unfold Tel
  k_fill
  k_with_none
  intro dp un gd cn cs a ccd cl outer A₀ base h₀ L m s Q E B F X N T hk hd hu hret
  refine wpAny_call ?_
  k_dflt (walk_at "my enter")
  rename_i g L1 h1 FG F1 N1 B1 X1 T1 G1
  k_steps
  · rename News h₀ _ _ _ => N9
    rename Fr h₀ _ _ _ => F9
    exact hret _ [] _ _ F9 (fun p hp => N9 p (by rw [List.append_nil] at hp; repeat (first | exact hp | refine List.Mem.tail _ ?_))) (stays_end G1 N (by assumption) (by assumption) (fun p hp => by repeat (first | exact hp | refine List.Mem.tail _ ?_))) (fun _ _ _ h => nomatch h) ⟨rfl, rfl⟩
set_option maxRecDepth 100000 in
set_option maxHeartbeats 8000000 in
theorem string_out {w : World} {mean : ExcName → Option Value} {mg mb : Str → Option Value} {x : Str} {t : Tok} {news : List (Addr × Obj)} :
    Tel w mean mg mb 63 1 [.str x t] news (litIs x) := by
  unfold Tel
  k_fill
  k_with_none
  intro dp un gd cn cs a ccd cl outer A₀ base h₀ L m s Q E B F X N T hk hd hu hret
  refine wpAny_call ?_
  k_dflt (walk_at "my enter")
  rename_i g L1 h1 FG F1 N1 B1 X1 T1 G1
  k_steps
  · rename News h₀ _ _ _ => N9
    rename Fr h₀ _ _ _ => F9
    exact hret _ [] _ _ F9 (fun p hp => N9 p (by rw [List.append_nil] at hp; repeat (first | exact hp | refine List.Mem.tail _ ?_))) (stays_end G1 N (by assumption) (by assumption) (fun p hp => by repeat (first | exact hp | refine List.Mem.tail _ ?_))) (fun _ _ _ h => nomatch h) ⟨rfl, _, rfl⟩
local macro_rules | `(tactic| walk_at "call ref") => `(tactic| (k_dflt ((first | refine' Tel.use1 (kind_none) ?z1 ?z2 ?z3 ?z4 ?z5 ?zK ?zd ?zu (fun _ _ e => e) ?_ | refine' Tel.use1 (kind_bool) ?z1 ?z2 ?z3 ?z4 ?z5 ?zK ?zd ?zu (fun _ _ e => e) ?_ | refine' Tel.use1 (kind_int) ?z1 ?z2 ?z3 ?z4 ?z5 ?zK ?zd ?zu (fun _ _ e => e) ?_ | refine' Tel.use1 (kind_str) ?z1 ?z2 ?z3 ?z4 ?z5 ?zK ?zd ?zu (fun _ _ e => e) ?_ | refine' Tel.use1 (bool_out) ?z1 ?z2 ?z3 ?z4 ?z5 ?zK ?zd ?zu (fun _ _ e => e) ?_ | refine' Tel.use1 (int_out (by assumption) (by assumption)) ?z1 ?z2 ?z3 ?z4 ?z5 ?zK ?zd ?zu (fun _ _ e => e) ?_ | refine' Tel.use1 (null_out) ?z1 ?z2 ?z3 ?z4 ?z5 ?zK ?zd ?zu (fun _ _ e => e) ?_ | refine' Tel.use1 (string_out) ?z1 ?z2 ?z3 ?z4 ?z5 ?zK ?zd ?zu (fun _ _ e => e) ?_); (case z1 => k_asm); (case z2 => k_asm); (case z3 => k_asm); (case z4 => k_asm); (case z5 => k_asm); (case zK => first | exact rfl | assumption); (case zd => ktr_room); (case zu => ktr_units)); intro r9 h9 tk9 F9 N9 hs9 hout9; (first | (obtain ⟨t9, hr9⟩ := hout9; subst hr9) | subst hout9); (try dsimp only); (try k_fold)))
set_option maxRecDepth 100000 in
set_option maxHeartbeats 8000000 in
theorem mp_none {w : World} {mean : ExcName → Option Value} {mg mb : Str → Option Value}  {news : List (Addr × Obj)} :
    Tel w mean mg mb 88 3 [.ref 81, .none] news (noneIs) := by
  unfold Tel
  k_fill
  k_with_none
  intro dp un gd cn cs a ccd cl outer A₀ base h₀ L m s Q E B F X N T hk hd hu hret
  refine wpAny_call ?_
  k_dflt (walk_at "my enter")
  rename_i g L1 h1 FG F1 N1 B1 X1 T1 G1
  k_steps
  · rename News h₀ _ _ _ => N9
    rename Fr h₀ _ _ _ => F9
    exact hret _ [] _ _ F9 (fun p hp => N9 p (by rw [List.append_nil] at hp; repeat (first | exact hp | refine List.Mem.tail _ ?_))) (stays_end G1 N (by assumption) (by assumption) (fun p hp => by repeat (first | exact hp | refine List.Mem.tail _ ?_))) (fun _ _ _ h => nomatch h) ⟨rfl, rfl⟩
set_option maxRecDepth 100000 in
set_option maxHeartbeats 8000000 in
theorem mp_bool {w : World} {mean : ExcName → Option Value} {mg mb : Str → Option Value} {b : Bool} {news : List (Addr × Obj)} :
    Tel w mean mg mb 88 3 [.ref 81, .bool b] news (litIs (if b then "true" else "false")) := by
  unfold Tel
  k_fill
  k_with_none
  intro dp un gd cn cs a ccd cl outer A₀ base h₀ L m s Q E B F X N T hk hd hu hret
  refine wpAny_call ?_
  k_dflt (walk_at "my enter")
  rename_i g L1 h1 FG F1 N1 B1 X1 T1 G1
  k_steps
  · rename News h₀ _ _ _ => N9
    rename Fr h₀ _ _ _ => F9
    exact hret _ [] _ _ F9 (fun p hp => N9 p (by rw [List.append_nil] at hp; repeat (first | exact hp | refine List.Mem.tail _ ?_))) (stays_end G1 N (by assumption) (by assumption) (fun p hp => by repeat (first | exact hp | refine List.Mem.tail _ ?_))) (fun _ _ _ h => nomatch h) ⟨rfl, _, rfl⟩
set_option maxRecDepth 100000 in
set_option maxHeartbeats 8000000 in
theorem mp_int {w : World} {mean : ExcName → Option Value} {mg mb : Str → Option Value} {n : Int} {t : Tok} (h1 : n.natAbs < 10 ^ 30) (h2 : n.natAbs.log2 < 1920) {news : List (Addr × Obj)} :
    Tel w mean mg mb 88 3 [.ref 81, .int n t] news (litIs (Str.ofString (toString n))) := by
  unfold Tel
  k_fill
  k_with_none
  intro dp un gd cn cs a ccd cl outer A₀ base h₀ L m s Q E B F X N T hk hd hu hret
  refine wpAny_call ?_
  k_dflt (walk_at "my enter")
  rename_i g L1 h1 FG F1 N1 B1 X1 T1 G1
  k_steps
  · rename News h₀ _ _ _ => N9
    rename Fr h₀ _ _ _ => F9
    exact hret _ [] _ _ F9 (fun p hp => N9 p (by rw [List.append_nil] at hp; repeat (first | exact hp | refine List.Mem.tail _ ?_))) (stays_end G1 N (by assumption) (by assumption) (fun p hp => by repeat (first | exact hp | refine List.Mem.tail _ ?_))) (fun _ _ _ h => nomatch h) ⟨rfl, _, rfl⟩
set_option maxRecDepth 100000 in
set_option maxHeartbeats 8000000 in
theorem mp_str {w : World} {mean : ExcName → Option Value} {mg mb : Str → Option Value} {x : Str} {t : Tok} {news : List (Addr × Obj)} :
    Tel w mean mg mb 88 3 [.ref 81, .str x t] news (litIs x) := by
  unfold Tel
  k_fill
  k_with_none
  intro dp un gd cn cs a ccd cl outer A₀ base h₀ L m s Q E B F X N T hk hd hu hret
  refine wpAny_call ?_
  k_dflt (walk_at "my enter")
  rename_i g L1 h1 FG F1 N1 B1 X1 T1 G1
  k_steps
  · rename News h₀ _ _ _ => N9
    rename Fr h₀ _ _ _ => F9
    exact hret _ [] _ _ F9 (fun p hp => N9 p (by rw [List.append_nil] at hp; repeat (first | exact hp | refine List.Mem.tail _ ?_))) (stays_end G1 N (by assumption) (by assumption) (fun p hp => by repeat (first | exact hp | refine List.Mem.tail _ ?_))) (fun _ _ _ h => nomatch h) ⟨rfl, _, rfl⟩
local macro_rules | `(tactic| walk_at "call ref") => `(tactic| (k_dflt ((first | refine' Tel.use1 (mp_none) ?z1 ?z2 ?z3 ?z4 ?z5 ?zK ?zd ?zu (fun _ _ e => e) ?_ | refine' Tel.use1 (mp_bool) ?z1 ?z2 ?z3 ?z4 ?z5 ?zK ?zd ?zu (fun _ _ e => e) ?_ | refine' Tel.use1 (mp_int (by assumption) (by assumption)) ?z1 ?z2 ?z3 ?z4 ?z5 ?zK ?zd ?zu (fun _ _ e => e) ?_ | refine' Tel.use1 (mp_str) ?z1 ?z2 ?z3 ?z4 ?z5 ?zK ?zd ?zu (fun _ _ e => e) ?_ | refine' Tel.use1 (bytes_out (by assumption) (by assumption)) ?z1 ?z2 ?z3 ?z4 ?z5 ?zK ?zd ?zu (fun _ _ e => e) ?_); (case z1 => k_asm); (case z2 => k_asm); (case z3 => k_asm); (case z4 => k_asm); (case z5 => k_asm); (case zK => first | exact rfl | assumption); (case zd => ktr_room); (case zu => ktr_units)); intro r9 h9 tk9 F9 N9 hs9 hout9; (first | (obtain ⟨t9, hr9⟩ := hout9; subst hr9) | subst hout9); (try dsimp only); (try k_fold)))
set_option maxRecDepth 100000 in
set_option maxHeartbeats 8000000 in
theorem out_none {w : World} {mean : ExcName → Option Value} {mg mb : Str → Option Value}  {news : List (Addr × Obj)} :
    Tel w mean mg mb 75 1 [.none] news (strIs nullCodes) := by
  unfold Tel
  k_fill
  k_with_none
  intro dp un gd cn cs a ccd cl outer A₀ base h₀ L m s Q E B F X N T hk hd hu hret
  refine wpAny_call ?_
  k_dflt (walk_at "my enter")
  rename_i g L1 h1 FG F1 N1 B1 X1 T1 G1
  k_steps
  · rename News h₀ _ _ _ => N9
    rename Fr h₀ _ _ _ => F9
    exact hret _ [] _ _ F9 (fun p hp => N9 p (by rw [List.append_nil] at hp; repeat (first | exact hp | refine List.Mem.tail _ ?_))) (stays_end G1 N (by assumption) (by assumption) (fun p hp => by repeat (first | exact hp | refine List.Mem.tail _ ?_))) (fun _ _ _ h => nomatch h) ⟨rfl, _, rfl⟩
set_option maxRecDepth 100000 in
set_option maxHeartbeats 8000000 in
theorem out_bool {w : World} {mean : ExcName → Option Value} {mg mb : Str → Option Value} {b : Bool} {news : List (Addr × Obj)} :
    Tel w mean mg mb 75 5 [.bool b] news (litIs (if b then "true" else "false")) := by
  unfold Tel
  k_fill
  k_with_none
  intro dp un gd cn cs a ccd cl outer A₀ base h₀ L m s Q E B F X N T hk hd hu hret
  refine wpAny_call ?_
  k_dflt (walk_at "my enter")
  rename_i g L1 h1 FG F1 N1 B1 X1 T1 G1
  k_steps
  · rename News h₀ _ _ _ => N9
    rename Fr h₀ _ _ _ => F9
    exact hret _ [] _ _ F9 (fun p hp => N9 p (by rw [List.append_nil] at hp; repeat (first | exact hp | refine List.Mem.tail _ ?_))) (stays_end G1 N (by assumption) (by assumption) (fun p hp => by repeat (first | exact hp | refine List.Mem.tail _ ?_))) (fun _ _ _ h => nomatch h) ⟨rfl, _, rfl⟩
set_option maxRecDepth 100000 in
set_option maxHeartbeats 8000000 in
theorem out_int {w : World} {mean : ExcName → Option Value} {mg mb : Str → Option Value} {n : Int} {t : Tok} (h1 : n.natAbs < 10 ^ 30) (h2 : n.natAbs.log2 < 1920) {news : List (Addr × Obj)} :
    Tel w mean mg mb 75 5 [.int n t] news (litIs (Str.ofString (toString n))) := by
  unfold Tel
  k_fill
  k_with_none
  intro dp un gd cn cs a ccd cl outer A₀ base h₀ L m s Q E B F X N T hk hd hu hret
  refine wpAny_call ?_
  k_dflt (walk_at "my enter")
  rename_i g L1 h1 FG F1 N1 B1 X1 T1 G1
  k_steps
  · rename News h₀ _ _ _ => N9
    rename Fr h₀ _ _ _ => F9
    exact hret _ [] _ _ F9 (fun p hp => N9 p (by rw [List.append_nil] at hp; repeat (first | exact hp | refine List.Mem.tail _ ?_))) (stays_end G1 N (by assumption) (by assumption) (fun p hp => by repeat (first | exact hp | refine List.Mem.tail _ ?_))) (fun _ _ _ h => nomatch h) ⟨rfl, _, rfl⟩
theorem escAll_plain {l : List Nat} (h : ∀ c ∈ l, c ≠ 92 ∧ c ≠ 34) : escAll l = l := by
  induction l with
  | nil => rfl
  | cons c r ih =>
    have hc := h c (.head _)
    have e : escSign c = [c] := by simp [escSign, hc.1, hc.2]
    have ih := ih fun d hd => h d (.tail _ hd)
    show escSign c ++ escAll r = c :: r
    rw [e, ih]; rfl
theorem hexd_sign (n : Nat) (h : n < 16) : (48 ≤ hexd n ∧ hexd n ≤ 57) ∨ (97 ≤ hexd n ∧ hexd n ≤ 102) := by
  unfold hexd
  split <;> omega
theorem hex_signs (l : List UInt8) : ∀ c ∈ hexCodes l, (48 ≤ c ∧ c ≤ 57) ∨ (97 ≤ c ∧ c ≤ 102) := by
  intro c hc
  obtain ⟨b, _, hb⟩ := List.mem_flatMap.mp hc
  have hlt : b.toNat < 256 := b.toNat_lt
  rcases List.mem_cons.mp hb with rfl | hb
  · exact hexd_sign _ (by omega)
  · rw [List.mem_singleton.mp hb]; exact hexd_sign _ (by omega)
theorem bs_quoted (bs : List UInt8) : Str.empty ++ Str.ofString "\"\\" ++ (⟨(92 :: 120 :: hexCodes bs).toArray⟩ : Str) ++ Str.ofString "\"" = ⟨(34 :: (escAll (92 :: 120 :: hexCodes bs) ++ [34])).toArray⟩ := by
  have e1 : (Str.ofString "\"\\").cps.toList = [34, 92] := by decide +kernel
  have e2 : escAll (92 :: 120 :: hexCodes bs) = 92 :: 92 :: 120 :: hexCodes bs := by
    have h1 : escAll (hexCodes bs) = hexCodes bs := escAll_plain fun c hc => by
      have := hex_signs bs c hc
      omega
    show escSign 92 ++ (escSign 120 ++ escAll (hexCodes bs)) = _
    rw [h1]; rfl
  refine str_ext ?_
  rw [cat_toList, cat_toList, cat_toList, e1, quote_list, e2]
  simp [Str.empty]
set_option maxRecDepth 100000 in
set_option maxHeartbeats 8000000 in
theorem out_bytes {w : World} {mean : ExcName → Option Value} {mg mb : Str → Option Value} {bs : List UInt8} {t : Tok} (hsz : 2 * bs.toArray.size ≤ sizeLine) (h1 : bs.length ≤ 1000) {news : List (Addr × Obj)} :
    Tel w mean mg mb 75 5 [.bytes bs.toArray t] news (strIs (34 :: (escAll (92 :: 120 :: hexCodes bs) ++ [34]))) := by
  unfold Tel
  k_fill
  k_with_none
  intro dp un gd cn cs a ccd cl outer A₀ base h₀ L m s Q E B F X N T hk hd hu hret
  refine wpAny_call ?_
  k_dflt (walk_at "my enter")
  rename_i g L1 h1 FG F1 N1 B1 X1 T1 G1
  have hl2 : (Str.mk (92 :: 120 :: hexCodes bs).toArray).length ≤ 2100 := by show (92 :: 120 :: hexCodes bs).toArray.size ≤ _; rw [List.size_toArray, List.length_cons, List.length_cons, hex_len]; omega
  k_steps
  · rename News h₀ _ _ _ => N9
    rename Fr h₀ _ _ _ => F9
    exact hret _ [] _ _ F9 (fun p hp => N9 p (by rw [List.append_nil] at hp; repeat (first | exact hp | refine List.Mem.tail _ ?_))) (stays_end G1 N (by assumption) (by assumption) (fun p hp => by repeat (first | exact hp | refine List.Mem.tail _ ?_))) (fun _ _ _ h => nomatch h) ⟨rfl, _, congrArg (fun x => Value.str x _) (bs_quoted bs)⟩
end Mine
end
section
open PySem PySem.W PyProof.Rows
namespace Mine
/-- the table of one code is there, and every generator is bare -/
def GOk (s : Shared) : Prop := AllBare s.gens ∧ ∃ ps, s.heap.get? 65 = some (tabObj ps) ∧ TriplesOk ps.toList
/-- what a call leaves as it was, but for the table -/
structure KeepsG (s s' : Shared) : Prop where
  os : s'.os = s.os
  heap : ∀ b o, b ≠ 65 → s.heap.get? b = some o → s'.heap.get? b = some o
  ok : GOk s → GOk s'
theorem KeepsG.refl (s : Shared) : KeepsG s s := ⟨rfl, fun _ _ _ e => e, fun h => h⟩
theorem KeepsG.trans {s s' s'' : Shared} (x : KeepsG s s') (y : KeepsG s' s'') : KeepsG s s'' := ⟨y.os.trans x.os, fun b o hb e => y.heap b o hb (x.heap b o hb e), fun h => y.ok (x.ok h)⟩
theorem KeepsG.of {s s' : Shared} (h : Keeps s s') : KeepsG s s' := by
  obtain ⟨h', tk, rfl, hk⟩ := h
  exact ⟨rfl, fun b o _ e => hk b o e, fun ⟨g, ps, e, t⟩ => ⟨g, ps, hk _ _ e, t⟩⟩
theorem GOk.at {s : Shared} {h' : Heap} {tk : Nat} (h : GOk s) (hk : ∀ o, s.heap.get? 65 = some o → h'.get? 65 = some o) : GOk { s with heap := h', toks := tk } :=
  let ⟨g, ps, e, t⟩ := h; ⟨g, ps, hk _ e, t⟩
section
variable {prog : Program} {w : World} {A : Around} {E : Value → Shared → Prop} {s : Shared} {env : Env}
theorem comp_turnsG {elt iter : Expr} {x : Str} {px : Pos} {scope : Scope} {pos : Pos} {I D : Addr} {fp wr : List Addr} {n : Nat} {P : Nat → Value → Prop} {St : Nat → Heap → Prop} {cenv : Env} {m : Str → Option Value} {Rr : Result → Shared → Prop}
    (W : Walks prog w A I fp wr n P St) (h65 : 65 ∉ fp) (h65D : 65 < D) (hok : GOk s) (R : Nat → List (Addr × Obj) → Value → Prop) (mono : ∀ i tl tl' y, (∀ p ∈ tl, p ∈ tl') → R i tl y → R i tl' y)
    (hx : cenv.kindOf x = some .local) (hp : (cenv.scope.kind == .class || (cenv.scope.kind == .module && cenv.locals != cenv.globals)) = false) (hDC : D < cenv.locals) (hfp : ∀ b ∈ fp, b < D)
    (hst : St 0 s.heap) (hacc : s.heap.PlainList D #[]) (hn : s.heap.Ns cenv.locals m)
    (helt : ∀ i v s₂ m₂ (E' : Value → Shared → Prop), i < n → P i v → GOk s₂ → s₂.os = s.os → s₂.heap.Ns cenv.locals m₂ → m₂ x = some v → (∀ b o, b ≠ 65 → b ≠ cenv.locals → b ∉ wr → b ≠ D → s.heap.get? b = some o → s₂.heap.get? b = some o) →
      wpAny (model prog w) A (eval elt cenv) (fun y s₃ => (∃ tl : List (Addr × Obj), (∀ p ∈ tl, cenv.locals < p.1 ∧ s₃.heap.get? p.1 = some p.2) ∧ R i tl y) ∧ KeepsG s₂ s₃) E' s₂)
    (hR : ∀ s' m' (ys : List Value) (tl : List (Addr × Obj)), GOk s' → s'.os = s.os → s'.heap.Ns cenv.locals m' → s'.heap.PlainList D ys.toArray → ys.length = n → (∀ p ∈ tl, cenv.locals < p.1 ∧ s'.heap.get? p.1 = some p.2) → (∀ j y, ys[j]? = some y → R j tl y) →
      (∀ b o, b ≠ 65 → b ≠ cenv.locals → b ∉ wr → b ≠ D → s.heap.get? b = some o → s'.heap.get? b = some o) → Rr (.ok .next) s')
    (hsz : n ≤ sizeLine) : codeAny (model prog w) A (.compLoop (.ListComp elt [⟨.Name x px, iter, [], 0⟩] scope pos) 0 (.ref I) (.ref D) cenv) Rr s := by
  have hCw : cenv.locals ∉ wr := fun h => absurd (Nat.lt_trans (hfp _ (W.sub _ h)) hDC) (Nat.lt_irrefl _)
  have hDw : D ∉ wr := fun h => absurd (hfp _ (W.sub _ h)) (Nat.lt_irrefl _)
  have hne : D ≠ cenv.locals := Nat.ne_of_lt hDC
  have h65w : 65 ∉ wr := fun h => h65 (W.sub _ h)
  have h65C : (65 : Addr) ≠ cenv.locals := Nat.ne_of_lt (Nat.lt_trans h65D hDC)
  have h65n : (65 : Addr) ≠ D := Nat.ne_of_lt h65D
  have hC65 : cenv.locals ≠ 65 := fun e => h65C e.symm
  have hD65 : D ≠ 65 := fun e => h65n e.symm
  refine codeAny_compLoop_tests (fun k s' => ∃ m', ∃ ys : List Value, ∃ tl : List (Addr × Obj), GOk s' ∧ s'.os = s.os ∧ St ys.length s'.heap ∧ s'.heap.PlainList D ys.toArray ∧ s'.heap.Ns cenv.locals m' ∧
      (∀ p ∈ tl, cenv.locals < p.1 ∧ s'.heap.get? p.1 = some p.2) ∧ (∀ j y, ys[j]? = some y → R j tl y) ∧ ys.length ≤ n ∧ k = n + 1 - ys.length ∧
      (∀ b o, b ≠ 65 → b ≠ cenv.locals → b ∉ wr → b ≠ D → s.heap.get? b = some o → s'.heap.get? b = some o)) ?_ (n + 1)
    ⟨m, [], [], hok, rfl, hst, hacc, hn, (fun _ hp => nomatch hp), (fun j y hy => by simp at hy), Nat.zero_le _, rfl, fun _ _ _ _ _ _ e => e⟩
  rintro k s' ⟨m', ys, tl, hok', hos', hst', hacc', hn', htl, hRs, hle, rfl, hk⟩
  by_cases hlt : ys.length < n
  · refine W.item ys.length _ _ _ hlt hst' fun v h₁ tk₁ hPv hst₁ hk₁ => ?_
    refine wpAny_assign_Name (wpAny_storeName_local hx (hn'.at' fun o e => hk₁ _ o hCw e) (fun h₂ hn₂ hs₂ => ?_) hp)
    have up : ∀ b o, b ≠ cenv.locals → b ∉ wr → s'.heap.get? b = some o → h₂.get? b = some o := fun b o hbC hbw e => hs₂.extBut b o hbC (hk₁ b o hbw e)
    have hst₂ : St (ys.length + 1) h₂ := W.frame _ _ _ hst₁ fun b hb o e => hs₂.extBut b o (fun h => absurd (Nat.lt_trans (hfp b hb) (h ▸ hDC)) (Nat.lt_irrefl _)) e
    refine wpAny_tests_nil ?_
    simp only [if_true]
    have hok₂ : GOk { s' with heap := h₂, toks := tk₁ } := hok'.at fun o e => up _ _ h65C h65w e
    refine wpAny_mono (helt ys.length v _ _ _ hlt hPv hok₂ hos' hn₂ (by simp) (fun b o hb65 hbC hbw hbD e => up b o hbC hbw (hk b o hb65 hbC hbw hbD e))) (fun y s₄ h₄ => ?_) fun _ _ e => e
    obtain ⟨⟨tl', htl', hRy⟩, hk₄⟩ := h₄
    have hys : ys.toArray.size ≤ sizeLine := by rw [List.size_toArray]; omega
    refine wpAny_list_append_plain (hsz := hys) ((hacc'.at fun o e => up D o hne hDw e).at fun o e => hk₄.heap _ o hD65 e) fun h₅ hl₅ hs₅ => ?_
    rw [List.push_toArray] at hl₅
    have tlow : ∀ p : Addr × Obj, cenv.locals < p.1 → p.1 ≠ 65 ∧ p.1 ≠ cenv.locals ∧ p.1 ∉ wr ∧ p.1 ≠ D := fun p h =>
      ⟨Nat.ne_of_gt (Nat.lt_trans (Nat.lt_trans h65D hDC) h), Nat.ne_of_gt h, fun hm => absurd (Nat.lt_trans (Nat.lt_trans (hfp _ (W.sub _ hm)) hDC) h) (Nat.lt_irrefl _), Nat.ne_of_gt (Nat.lt_trans hDC h)⟩
    refine ⟨n + 1 - (ys.length + 1), by omega, _, ys ++ [y], tl ++ tl', (hk₄.ok hok₂).at (fun o e => hs₅.extBut _ o h65n e), hk₄.os.trans hos', ?_, hl₅, (hn₂.at' fun o e => hk₄.heap _ o hC65 e).sameBut hs₅ (Ne.symm hne), ?_, ?_, (by rw [List.length_append, List.length_singleton]; exact hlt),
      (by rw [List.length_append, List.length_singleton]), fun b o hb65 hbC hbw hbD e => hs₅.extBut b o hbD (hk₄.heap b o hb65 (up b o hbC hbw (hk b o hb65 hbC hbw hbD e)))⟩
    · have := W.frame _ _ h₅ hst₂ fun b hb o e => hs₅.extBut b o (fun h => absurd (h ▸ hfp b hb) (Nat.lt_irrefl _)) (hk₄.heap b o (fun e => h65 (e ▸ hb)) e)
      simpa using this
    · intro p hp
      rcases List.mem_append.mp hp with hp | hp
      · obtain ⟨a1, a2⟩ := htl p hp
        obtain ⟨b0, b1, b2, b3⟩ := tlow p a1
        exact ⟨a1, hs₅.extBut _ _ b3 (hk₄.heap _ _ b0 (up _ _ b1 b2 a2))⟩
      · obtain ⟨a1, a2⟩ := htl' p hp
        obtain ⟨b0, b1, b2, b3⟩ := tlow p a1
        exact ⟨a1, hs₅.extBut _ _ b3 a2⟩
    · intro j z hz
      rcases Nat.lt_trichotomy j ys.length with h | h | h
      · rw [List.getElem?_append_left h] at hz
        exact mono _ _ _ _ (fun p hp => List.mem_append.mpr (.inl hp)) (hRs j z hz)
      · subst h
        simp at hz
        subst hz
        exact mono _ _ _ _ (fun p hp => List.mem_append.mpr (.inr hp)) hRy
      · rw [List.getElem?_eq_none (by rw [List.length_append, List.length_singleton]; omega)] at hz
        cases hz
  · have hin : ys.length = n := by omega
    refine W.done _ _ _ (hin ▸ hst') fun h₁ tk₁ hk₁ => ?_
    refine hR _ m' ys tl (hok'.at fun o e => hk₁ _ o h65w e) hos' (hn'.at' fun o e => hk₁ _ o hCw e) (hacc'.at fun o e => hk₁ _ o hDw e) hin (fun p hp => ?_) hRs fun b o hb65 hbC hbw hbD e => hk₁ b o hbw (hk b o hb65 hbC hbw hbD e)
    obtain ⟨a1, a2⟩ := htl p hp
    exact ⟨a1, hk₁ _ _ (fun hm => absurd (Nat.lt_trans (Nat.lt_trans (hfp _ (W.sub _ hm)) hDC) a1) (Nat.lt_irrefl _)) a2⟩
structure CompSaysG (prog : Program) (w : World) (A : Around) (env : Env) (scope : Scope) (cl : List (Str × Addr)) (x : Str) (elt : Expr) (wr : List Addr) (n : Nat) (P : Nat → Value → Prop) (R : Nat → List (Addr × Obj) → Value → Prop) (s₂ : Shared) : Prop where
  mono : ∀ i tl tl' y, (∀ p ∈ tl, p ∈ tl') → R i tl y → R i tl' y
  elt : ∀ C i v s₃ m₃ (E' : Value → Shared → Prop), s₂.heap.objs.size < C → i < n → P i v → GOk s₃ → s₃.os = s₂.os → s₃.heap.Ns C m₃ → m₃ x = some v → (∀ b o, b ≠ 65 → b ∉ wr → s₂.heap.get? b = some o → s₃.heap.get? b = some o) →
    wpAny (model prog w) A (eval elt (compEnvC scope cl C env)) (fun y s₄ => (∃ tl : List (Addr × Obj), (∀ p ∈ tl, C < p.1 ∧ s₄.heap.get? p.1 = some p.2) ∧ R i tl y) ∧ KeepsG s₃ s₄) E' s₃
theorem comp_blockG {elt iter : Expr} {x : Str} {px : Pos} {scope : Scope} {cl : List (Str × Addr)} {pos : Pos} {s₂ : Shared} {I : Addr} {fp wr : List Addr} {n : Nat} {P : Nat → Value → Prop} {St : Nat → Heap → Prop}
    (W : Walks prog w A I fp wr n P St) (h65 : 65 ∉ fp) (hok : GOk s₂) (hsz : n ≤ sizeLine) {R : Nat → List (Addr × Obj) → Value → Prop} {RR : Value → Addr → Result → Shared → Prop}
    (hcell : ∀ y ∈ scope.names, y.2 ≠ .cell) (hkind : scope.kind = .function) (hx : scope.names.lookup x = some .local) (hst : St 0 s₂.heap) (hfp : ∀ b ∈ fp, b < s₂.heap.objs.size)
    (hq : CompSaysG prog w A env scope cl x elt wr n P R s₂)
    (hRR : ∀ C s' m' (ys : List Value) (tl : List (Addr × Obj)), s₂.heap.objs.size < C → GOk s' → s'.os = s₂.os → s'.heap.Ns C m' → s'.heap.PlainList s₂.heap.objs.size ys.toArray → ys.length = n → (∀ p ∈ tl, C < p.1 ∧ s'.heap.get? p.1 = some p.2) → (∀ j y, ys[j]? = some y → R j tl y) →
      (∀ b o, b ≠ 65 → b ∉ wr → s₂.heap.get? b = some o → s'.heap.get? b = some o) → RR (.ref s₂.heap.objs.size) C (.ok .next) s') :
    wpAny (model prog w) A (newList []) (fun acc s₃ => wpAny (model prog w) A (newFunctionEnv scope env.globals cl [] env.qual none .none (some env)) (fun cenv s₄ =>
      codeAny (model prog w) A (.compStart (.ListComp elt [⟨.Name x px, iter, [], 0⟩] scope pos) 0 (.ref I) acc { cenv with scope := relabel scope env }) (RR acc cenv.locals) s₄) E s₃) E s₂ := by
  refine wpAny_newObj_type (wpAny_newFunctionEnv hcell (by intro y hy; simp at hy) (fun h₁ hns₁ hsb₁ => ?_) hkind)
  dsimp only at hns₁ hsb₁ ⊢
  generalize hH : s₂.heap.push { cls := .type "list", dict := none, data := .seq ([] : List Value).toArray } = H at hns₁ hsb₁ ⊢
  have hC : H.objs.size = s₂.heap.objs.size + 1 := by rw [← hH, Heap.size_push]
  have hDC : s₂.heap.objs.size < H.objs.size := by rw [hC]; exact Nat.lt_succ_self _
  have small : ∀ b, b < s₂.heap.objs.size → b ≠ H.objs.size ∧ b ≠ s₂.heap.objs.size := fun b hb => ⟨Nat.ne_of_lt (Nat.lt_trans hb hDC), Nat.ne_of_lt hb⟩
  have old : ∀ b o, s₂.heap.get? b = some o → h₁.get? b = some o := fun b o e => hsb₁.extBut b o (small b (Heap.lt_size e)).1 (Heap.get?_push_of_some _ (hH ▸ Heap.get?_push_of_some _ e))
  have hacc : h₁.PlainList s₂.heap.objs.size #[] := ⟨_, hsb₁.extBut _ _ (Nat.ne_of_lt hDC) (Heap.get?_push_of_some _ (hH ▸ Heap.get?_push_size _ rfl))⟩
  have hst₁ : St 0 h₁ := W.frame _ _ _ hst fun b _ o e => old b o e
  have h65D : 65 < s₂.heap.objs.size := let ⟨_, _, e, _⟩ := hok; Heap.lt_size e
  have up : ∀ (h₂ : Heap), (∀ b o, b ≠ 65 → b ≠ H.objs.size → b ∉ wr → b ≠ s₂.heap.objs.size → h₁.get? b = some o → h₂.get? b = some o) → ∀ b o, b ≠ 65 → b ∉ wr → s₂.heap.get? b = some o → h₂.get? b = some o :=
    fun h₂ hk b o hb65 hb e => hk b o hb65 (small b (Heap.lt_size e)).1 hb (small b (Heap.lt_size e)).2 (old b o e)
  have loop : ∀ s₃ : Shared, s₃ = { s₂ with heap := h₁, toks := s₂.toks + ([] : List (Str × Value)).length } →
      codeAny (model prog w) A (.compLoop (.ListComp elt [⟨.Name x px, iter, [], 0⟩] scope pos) 0 (.ref I) (.ref s₂.heap.objs.size) (compEnvC scope cl H.objs.size env)) (RR (.ref s₂.heap.objs.size) H.objs.size) s₃ := by
    rintro s₃ rfl
    refine comp_turnsG (cenv := compEnvC scope cl H.objs.size env) W h65 h65D (hok.at fun o e => old _ _ e) R hq.mono (lookup_relabel_local hx) (by simp [compEnvC, relabel, hkind]) hDC hfp hst₁ hacc hns₁
      (fun i v s₃ m₃ E' hi hv hok hos hn hm hk => hq.elt _ i v s₃ m₃ E' hDC hi hv hok hos hn hm (up _ hk)) (fun s' m' ys tl hok' hos' hn hpl hlen htl hRs hk => ?_) hsz
    exact hRR _ s' m' ys tl hDC hok' hos' hn hpl hlen htl hRs (up _ hk)
  exact codeAny_compStart_list (loop _ rfl) (W.self 0 _ _ _ hst₁ (loop _ rfl))
theorem comp_exprG {elt iter : Expr} {x : Str} {px : Pos} {scope : Scope} {cl : List (Str × Addr)} {pos : Pos} {Q : Value → Shared → Prop} (R : Nat → List (Addr × Obj) → Value → Prop)
    (hclos : closureFor scope env = pure cl) (hcell : ∀ y ∈ scope.names, y.2 ≠ .cell) (hkind : scope.kind = .function) (hnames : ∀ y ∈ scope.names, y.2 = .local → scope.names.lookup y.1 = some .local) (hx : scope.names.lookup x = some .local)
    (hs : ∀ x, foldedSetIterable iter env x = pure x)
    (h : wpAny (model prog w) A (eval iter env) (fun xv s₁ => wpAny (model prog w) A (pyIter xv) (fun it s₂ => ∃ I fp wr n P St, it = .ref I ∧ Walks prog w A I fp wr n P St ∧ 65 ∉ fp ∧ GOk s₂ ∧ n ≤ sizeLine ∧ St 0 s₂.heap ∧ (∀ b ∈ fp, b < s₂.heap.objs.size) ∧
      CompSaysG prog w A env scope cl x elt wr n P R s₂ ∧
      (∀ s' (ys : List Value) (tl : List (Addr × Obj)), GOk s' → s'.os = s₂.os → s'.heap.PlainList s₂.heap.objs.size ys.toArray → ys.length = n → (∀ p ∈ tl, s₂.heap.objs.size < p.1 ∧ s'.heap.get? p.1 = some p.2) → (∀ j y, ys[j]? = some y → R j tl y) →
        (∀ b o, b ≠ 65 → b ∉ wr → s₂.heap.get? b = some o → s'.heap.get? b = some o) → Q (.ref s₂.heap.objs.size) s')) E s₁) E s) :
    wpAny (model prog w) A (eval (.ListComp elt [⟨.Name x px, iter, [], 0⟩] scope pos) env) Q E s := by
  rw [eval_ListComp]
  refine wpAny_comprehension_free (use := none) rfl hs hclos hkind hnames (wpAny_mono h (fun xv s₁ h₁ => wpAny_mono h₁ (fun it s₂ h₂ => ?_) fun _ _ e => e) fun _ _ e => e)
  obtain ⟨I, fp, wr, n, P, St, rfl, W, h65, hok, hsz, hst, hfp, hq, hQ⟩ := h₂
  refine comp_blockG (RR := fun acc C => compPost (model prog w) A E none Q acc C) W h65 hok hsz hcell hkind hx hst hfp hq ?_
  intro C s' m' ys tl hDC hok' hos' hn hpl hlen htl hRs hk
  have h65D : 65 < s₂.heap.objs.size := let ⟨_, _, e, _⟩ := hok; Heap.lt_size e
  refine ⟨m', hn, fun h'' hs'' => hQ _ ys tl (hok'.at fun o e => hs''.extBut _ _ (Nat.ne_of_lt (Nat.lt_trans h65D hDC)) e) hos' ?_ hlen (fun p hp => ?_) hRs fun b o hb65 hbw e => ?_⟩
  · obtain ⟨k, e⟩ := hpl
    exact ⟨k, hs''.extBut _ _ (Nat.ne_of_lt hDC) e⟩
  · obtain ⟨a1, a2⟩ := htl p hp
    exact ⟨Nat.lt_trans hDC a1, hs''.extBut _ _ (Nat.ne_of_gt a1) a2⟩
  · exact hs''.extBut b o (Nat.ne_of_lt (Nat.lt_trans (Heap.lt_size e) hDC)) (hk b o hb65 hbw e)
theorem comp_assignG {elt iter : Expr} {x y : Str} {px py : Pos} {scope : Scope} {cl : List (Str × Addr)} {pos spos : Pos} {Q : Flow → Shared → Prop} (R : Nat → List (Addr × Obj) → Value → Prop)
    (hsw : swapsWith (.ListComp elt [⟨.Name x px, iter, [], 0⟩] scope pos) (some (.Name y py)) spos.line env = pure true)
    (hclos : closureFor scope env = pure cl) (hcell : ∀ y ∈ scope.names, y.2 ≠ .cell) (hkind : scope.kind = .function) (hnames : ∀ y ∈ scope.names, y.2 = .local → scope.names.lookup y.1 = some .local) (hx : scope.names.lookup x = some .local)
    (hy : env.kindOf y = some .local) (hp : (env.scope.kind == .class || (env.scope.kind == .module && env.locals != env.globals)) = false)
    (hs : ∀ x, foldedSetIterable iter env x = pure x)
    (h : wpAny (model prog w) A (eval iter env) (fun xv s₁ => wpAny (model prog w) A (pyIter xv) (fun it s₂ => ∃ I fp wr n P St m, it = .ref I ∧ Walks prog w A I fp wr n P St ∧ 65 ∉ fp ∧ GOk s₂ ∧ env.locals ≠ 65 ∧ n ≤ sizeLine ∧ St 0 s₂.heap ∧ (∀ b ∈ fp, b < s₂.heap.objs.size) ∧
      env.locals ∉ wr ∧ s₂.heap.Ns env.locals m ∧ CompSaysG prog w A env scope cl x elt wr n P R s₂ ∧
      (∀ s' (ys : List Value) (tl : List (Addr × Obj)), GOk s' → s'.os = s₂.os → s'.heap.PlainList s₂.heap.objs.size ys.toArray → ys.length = n → (∀ p ∈ tl, s₂.heap.objs.size < p.1 ∧ s'.heap.get? p.1 = some p.2) → (∀ j y, ys[j]? = some y → R j tl y) →
        s'.heap.Ns env.locals (fun z => if z = y then some (.ref s₂.heap.objs.size) else m z) →
        (∀ b o, b ≠ 65 → b ≠ env.locals → b ∉ wr → s₂.heap.get? b = some o → s'.heap.get? b = some o) → Q .next s')) E s₁) E s) :
    wpAny (model prog w) A (exec (.Assign [.Name y py] (.ListComp elt [⟨.Name x px, iter, [], 0⟩] scope pos) spos) env) Q E s := by
  rw [exec_Assign_Name_used _ _ _ _ hsw]
  refine wpAny_bind (wpAny_standAt (wpAny_bind ?_))
  show wpAny _ A (do let _ ← comprehension (.ListComp elt [⟨.Name x px, iter, [], 0⟩] scope pos) scope env _ (newList []) false (eval iter env) (some (assign (.Name y py) env))) _ _ s
  refine wpAny_bind (wpAny_mono (wpAny_comprehension_free (use := some (assign (.Name y py) env)) (Q := fun _ s' => Q .next s') rfl hs hclos hkind hnames
    (wpAny_mono h (fun xv s₁ h₁ => wpAny_mono h₁ (fun it s₂ h₂ => ?_) fun _ _ e => e) fun _ _ e => e)) (fun _ s' hq => wpAny_pure (wpAny_pure hq)) fun _ _ e => e)
  obtain ⟨I, fp, wr, n, P, St, m, rfl, W, h65, hok, hL65, hsz, hst, hfp, hLw, hn₀, hq, hQ⟩ := h₂
  refine comp_blockG (RR := fun acc C => compPost (model prog w) A E (some (assign (.Name y py) env)) (fun _ s' => Q .next s') acc C) W h65 hok hsz hcell hkind hx hst hfp hq ?_
  intro C s' m' ys tl hDC hok' hos' hn hpl hlen htl hRs hk
  have h65D : 65 < s₂.heap.objs.size := let ⟨_, _, e, _⟩ := hok; Heap.lt_size e
  have hLlt : env.locals < s₂.heap.objs.size := hn₀.lt
  have hLC : env.locals ≠ C := Nat.ne_of_lt (Nat.lt_trans hLlt hDC)
  have hLD : env.locals ≠ s₂.heap.objs.size := Nat.ne_of_lt hLlt
  show wpAny _ A (assign (.Name y py) env (.ref _)) _ _ _
  refine wpAny_assign_Name (wpAny_storeName_local hy (hn₀.at' fun o e => hk _ o hL65 hLw e) (fun h₂ hn₂ hs₂ => ?_) hp)
  refine ⟨m', hn.sameBut hs₂ (Ne.symm hLC), fun h₃ hs₃ => hQ _ ys tl (hok'.at fun o e => hs₃.extBut _ _ (Nat.ne_of_lt (Nat.lt_trans h65D hDC)) (hs₂.extBut _ _ (fun e => hL65 e.symm) e)) hos' ?_ hlen (fun p hp => ?_) hRs (hn₂.sameBut hs₃ hLC) fun b o hb65 hbL hbw e => ?_⟩
  · obtain ⟨k, e⟩ := hpl
    exact ⟨k, hs₃.extBut _ _ (Nat.ne_of_lt hDC) (hs₂.extBut _ _ (Ne.symm hLD) e)⟩
  · obtain ⟨a1, a2⟩ := htl p hp
    exact ⟨Nat.lt_trans hDC a1, hs₃.extBut _ _ (Nat.ne_of_gt a1) (hs₂.extBut _ _ (Nat.ne_of_gt (Nat.lt_trans (Nat.lt_trans hLlt hDC) a1)) a2)⟩
  · exact hs₃.extBut b o (Nat.ne_of_lt (Nat.lt_trans (Heap.lt_size e) hDC)) (hs₂.extBut b o hbL (hk b o hb65 hbw e))
end
end Mine
end
section
open PySem PySem.W PyProof.Rows
namespace Mine
/-- a value that the law hands in -/
inductive PV where
  | none
  | bool (b : Bool)
  | int (n : Int)
  | str (w : List Nat)
  | bytes (bs : List UInt8)
  | list (xs : List PV)
mutual
def PV.src : PV → Src
  | .none => .elem false nullCodes
  | .bool b => .elem false (if b then [116, 114, 117, 101] else [102, 97, 108, 115, 101])
  | .int n => .elem false (decCodes n)
  | .str w => .elem (needsQ w) w
  | .bytes bs => .elem true (92 :: 120 :: hexCodes bs)
  | .list xs => .list (PV.srcs xs)
def PV.srcs : List PV → List Src
  | [] => []
  | x :: r => x.src :: PV.srcs r
end
theorem PV.srcs_eq : ∀ xs : List PV, PV.srcs xs = xs.map PV.src
  | [] => by unfold PV.srcs; rfl
  | x :: r => by unfold PV.srcs; rw [PV.srcs_eq r, List.map_cons]
mutual
/-- it stands in a ledger -/
def PV.At (nx : List (Addr × Obj)) : PV → Value → Prop
  | .none, v => v = .none
  | .bool b, v => v = .bool b
  | .int n, v => ∃ t, v = .int n t
  | .str w, v => ∃ t, v = .str ⟨w.toArray⟩ t
  | .bytes bs, v => ∃ t, v = .bytes bs.toArray t
  | .list xs, v => ∃ (a : Addr) (its : List Value) (n : Nat), v = .ref a ∧ (a, W.listOf its.toArray n) ∈ nx ∧ PV.Ats nx xs its
def PV.Ats (nx : List (Addr × Obj)) : List PV → List Value → Prop
  | [], vs => vs = []
  | x :: r, vs => ∃ v vs', vs = v :: vs' ∧ x.At nx v ∧ PV.Ats nx r vs'
end
mutual
theorem PV.At.mono {nx ny : List (Addr × Obj)} (h : ∀ p ∈ nx, p ∈ ny) : ∀ {x : PV} {v : Value}, x.At nx v → x.At ny v
  | .none, v, k => by unfold PV.At at k ⊢; exact k
  | .bool b, v, k => by unfold PV.At at k ⊢; exact k
  | .int n, v, k => by unfold PV.At at k ⊢; exact k
  | .str w, v, k => by unfold PV.At at k ⊢; exact k
  | .bytes bs, v, k => by unfold PV.At at k ⊢; exact k
  | .list xs, v, k => by
    unfold PV.At at k ⊢
    obtain ⟨a, its, n, e, m, k'⟩ := k
    exact ⟨a, its, n, e, h _ m, PV.Ats.mono h k'⟩
theorem PV.Ats.mono {nx ny : List (Addr × Obj)} (h : ∀ p ∈ nx, p ∈ ny) : ∀ {xs : List PV} {vs : List Value}, PV.Ats nx xs vs → PV.Ats ny xs vs
  | [], vs, k => by unfold PV.Ats at k ⊢; exact k
  | x :: r, vs, k => by
    unfold PV.Ats at k ⊢
    obtain ⟨v, vs', e, k1, k2⟩ := k
    exact ⟨v, vs', e, PV.At.mono h k1, PV.Ats.mono h k2⟩
end
theorem PV.Ats.len {nx : List (Addr × Obj)} : ∀ {xs : List PV} {vs : List Value}, PV.Ats nx xs vs → vs.length = xs.length
  | [], vs, k => by unfold PV.Ats at k; subst k; rfl
  | y :: r, vs, k => by
    unfold PV.Ats at k
    obtain ⟨u, vs', rfl, k1, k2⟩ := k
    rw [List.length_cons, List.length_cons, PV.Ats.len k2]
theorem PV.Ats.get {nx : List (Addr × Obj)} : ∀ {xs : List PV} {vs : List Value}, PV.Ats nx xs vs → ∀ (i : Nat) (v : Value), vs[i]? = some v → ∃ x, xs[i]? = some x ∧ x.At nx v
  | [], vs, k, i, v, e => by unfold PV.Ats at k; subst k; simp at e
  | y :: r, vs, k, i, v, e => by
    unfold PV.Ats at k
    obtain ⟨u, vs', rfl, k1, k2⟩ := k
    cases i with
    | zero => simp at e; subst e; exact ⟨y, rfl, k1⟩
    | succ i =>
      obtain ⟨x, hx, ha⟩ := PV.Ats.get k2 i v (by simpa using e)
      exact ⟨x, by simpa using hx, ha⟩
mutual
def PV.Fine : PV → Prop
  | .none => True
  | .bool _ => True
  | .int n => n.natAbs < 10 ^ 30 ∧ n.natAbs.log2 < 1920
  | .str w => w.length ≤ 1000
  | .bytes bs => bs.length ≤ 1000
  | .list xs => xs.length ≤ 1000 ∧ PV.Fines xs
def PV.Fines : List PV → Prop
  | [] => True
  | x :: r => x.Fine ∧ PV.Fines r
end
theorem PV.Fines.mem : ∀ {xs : List PV}, PV.Fines xs → ∀ x ∈ xs, x.Fine
  | _ :: _, k, _, .head _ => by unfold PV.Fines at k; exact k.1
  | _ :: _, k, _, .tail _ m => by unfold PV.Fines at k; exact PV.Fines.mem k.2 _ m
mutual
def PV.dep : PV → Nat
  | .list xs => 1 + PV.deps xs
  | .none => 1
  | .bool _ => 1
  | .int _ => 1
  | .str _ => 1
  | .bytes _ => 1
def PV.deps : List PV → Nat
  | [] => 1
  | x :: r => max x.dep (PV.deps r)
end
theorem PV.deps_mem : ∀ {xs : List PV}, ∀ x ∈ xs, x.dep ≤ PV.deps xs
  | _ :: _, _, .head _ => by unfold PV.deps; exact Nat.le_max_left _ _
  | _ :: _, _, .tail _ m => by unfold PV.deps; exact Nat.le_trans (PV.deps_mem _ m) (Nat.le_max_right _ _)
def textIs (l : List Nat) (_ : List (Addr × Obj)) (r : Value) : Prop := ∃ t, r = .str ⟨l.toArray⟩ t
theorem Tel.toG {w : World} {mean : ExcName → Option Value} {mg mb : Str → Option Value} {f : Addr} {need need' : Nat} {vs : List Value} {news : List (Addr × Obj)} {Out Out' : List (Addr × Obj) → Value → Prop}
    (C : ∀ ps, Tel w mean mg mb f need vs ((65, tabObj ps) :: news) Out) (hn : need ≤ need') (ho : ∀ tl r, Out tl r → Out' tl r) : TelG w mean mg mb f need' vs news Out' := by
  intro dp un gd cn cs a ccd cl outer A₀ base h₀ L m s ps Q E B F X N T hk hd hu ht hb hne ret
  refine (C ps).use B F X N T hk (by omega) (by omega) fun r tl h' tk' F' N' hs hord hout => ret r tl _ ps F' N' ht hb rfl (fun b o _ e => hs b o e) hord (ho _ _ hout)
theorem hn_cons {D : Addr} {o : Obj} {news : List (Addr × Obj)} (h : 65 < D ∧ AllLt D news) (hne : ∀ q ∈ news, q.1 ≠ 65) : ∀ q ∈ (D, o) :: news, q.1 ≠ 65 := fun q hq => by
  rcases List.mem_cons.mp hq with rfl | hq
  · exact Nat.ne_of_gt h.1
  · exact hne q hq
theorem news_swap {h₀ h : Heap} {L : Addr} {x y : Addr × Obj} {r : List (Addr × Obj)} (N : News h₀ L h (x :: y :: r)) : News h₀ L h (y :: x :: r) := fun p hp => N p (by
  rcases List.mem_cons.mp hp with rfl | hp
  · exact .tail _ (.head _)
  · rcases List.mem_cons.mp hp with rfl | hp
    · exact .head _
    · exact .tail _ (.tail _ hp))
local macro_rules | `(tactic| walk_at "my enter") => `(tactic| (refine' code_defG ?k1 ?k2 ?k3 ?k4 ?k5 ?kA ?kF ?kK ?k6 ?k7 ?k8 ?k9 ?kB ?_ ?c2 ?c3 ?c4 ?c5; (case kA => exact rfl); (case kF => exact rfl); (case kK => assumption); (case k1 => k_asm); (case k2 => k_asm); (case k3 => k_asm); (case k4 => k_asm); (case k5 => k_asm); (case k6 => k_is); (case k7 => k_is); (case k8 => ktr_room); (case k9 => exact BindsTo.of_eq rfl); (case c5 => decide); (case kB => exact locs rfl); (case c2 => exact rfl); (case c3 => exact rfl); (case c4 => exact rfl); k_whole; intro g' L' h' FG' F' N' B' X' T' G'; (try dsimp only); (try k_fold)))
set_option maxRecDepth 100000 in
set_option maxHeartbeats 8000000 in
theorem out_str {w : World} {mean : ExcName → Option Value} {mg mb : Str → Option Value} (wd : List Nat) (hlen : wd.length ≤ 1000) {t1 : Tok} {news : List (Addr × Obj)} :
    TelG w mean mg mb 75 5 [.str ⟨wd.toArray⟩ t1] news (textIs (strText wd)) := by
  unfold TelG
  k_fill
  k_with_none
  w_top off
  intro dp un gd cn cs a ccd cl outer A₀ base h₀ L m s ps Q E B F X N T hk hd hu htr hbare hne hret
  refine wpAny_call ?_
  k_dflt (walk_at "my enter")
  rename_i g L1 h1 FG F1 N1 B1 X1 T1 G1
  k_with "call ref" => (k_dflt (refine' TelG.use (esc_spec wd hlen) ?z1 ?z2 ?z3 ?z4 ?z5 ?zK ?zd ?zu ?zt ?zb ?zn ?_; (case z1 => k_asm); (case z2 => k_asm); (case z3 => k_asm); (case z4 => exact news_swap (by k_asm)); (case z5 => k_asm); (case zK => first | exact rfl | assumption); (case zd => ktr_room); (case zu => ktr_units); (case zt => assumption); (case zb => assumption); (case zn => exact hn_cons (by assumption) hne)); intro r9 tl9 s9 ps9 F9 N9 ht9 hb9 ho9 hk9 hl9 hout9; (try dsimp only); (try k_fold))
  k_steps
  rename Fr h₀ _ _ _ => F8
  rename News h₀ _ _ _ => N8
  obtain ⟨rfl, t8, rfl⟩ := hout9
  rw [List.append_nil] at N8 N9
  exact hret _ [] s9 ps9 F8 (fun p hp => N8 p (by
    rcases List.mem_cons.mp hp with rfl | hp
    · exact .head _
    · rw [List.append_nil] at hp; exact .tail _ (.tail _ hp))) ht9 hb9 ho9 (stays_but G1 N F9 N9 fun p hp => .tail _ (.tail _ hp)) (fun _ _ _ h => nomatch h) ⟨_, rfl⟩
end Mine
end
section
open PySem PySem.W PySem.Calls PyProof.Rows
namespace Mine
section
variable {prog : Program} {w : World} {A : Around} {E : Value → Shared → Prop} {s : Shared}
/-- a call of a def of the text's by its name, in a block -/
theorem call_here {K : Frag} {g : Heap} {cenv : Env} {f x : Str} {fa : Addr} {np xp pos : Pos} {mg mb : Str → Option Value} {p : Program} {loose : List Str} {mean : ExcName → Option Value} {m : Str → Option Value} {v oc : Value} {od : Option Addr} {fd : FuncData} {sl : Array (Option Value)} {Q : Value → Shared → Prop}
    (X : K.In g) (T : Top p loose mean mg mb g) (hk : ∀ b o, g.get? b = some o → s.heap.get? b = some o) (e : nsIn K mainGlobals f = some (some (.ref fa))) (hf : K.lookup fa = some ⟨oc, od, .func fd, sl⟩)
    (hG : cenv.globals = mainGlobals) (hkf : cenv.scope.kind = .function) (hx : cenv.kindOf f = some .globalImplicit) (hl : cenv.kindOf x = some .local) (hn : s.heap.Ns cenv.locals m) (hm : m x = some v) (hd : (f == ("__debug__" : Str)) = false) (hd2 : (x == ("__debug__" : Str)) = false)
    (h : wpAny (model prog w) A (call (.ref fa) [v]) Q E s) : wpAny (model prog w) A (eval (.Call (.Name f np) [.Name x xp] [] pos) cenv) Q E s := by
  refine wpAny_Call_NameR ?_
  refine Name_function_global hkf hx (loadGlobal_global (env := cenv) (by rw [hG]; exact T.g.keeps hk) (mg_of X T.g e) ?_) hd
  refine callWith_def (o := ⟨oc, od, .func fd, sl⟩) rfl ?_ rfl
  refine wpAny_items_cons (wpAny_Name (wpAny_loadName_local hkf hl hn hm (wpAny_items_nil ⟨hk _ _ (X _ _ hf), h⟩)) hd2) rfl
end
theorem escAll_id {wd : List Nat} (h : needsQ wd = false) : escAll wd = wd := by
  unfold needsQ at h
  simp only [Bool.or_eq_false_iff] at h
  obtain ⟨⟨⟨_, _⟩, _⟩, h4⟩ := h
  have h5 : 92 ∉ escAll wd := by
    intro hm
    have : ([123, 125, 44, 92].any fun c => decide (c ∈ escAll wd)) = true := List.any_eq_true.mpr ⟨92, by decide, decide_eq_true hm⟩
    rw [h4] at this; cases this
  refine escAll_plain fun c hc => ?_
  constructor
  · rintro rfl
    exact h5 (List.mem_flatMap.mpr ⟨92, hc, by decide⟩)
  · rintro rfl
    exact h5 (List.mem_flatMap.mpr ⟨34, hc, by decide⟩)
theorem TelG.more {w : World} {mean : ExcName → Option Value} {mg mb : Str → Option Value} {f : Addr} {need need' : Nat} {vs : List Value} {news : List (Addr × Obj)} {Out : List (Addr × Obj) → Value → Prop} (C : TelG w mean mg mb f need vs news Out) (hn : need ≤ need') :
    TelG w mean mg mb f need' vs news Out := fun _ _ _ _ _ _ _ _ _ _ _ _ _ _ _ _ _ _ B F X N T hk hd hu ht hb hne ret => C.use B F X N T hk (by omega) (by omega) ht hb hne ret
theorem strs_of_get : ∀ {ys : List Value} {l : List Str}, ys.length = l.length → (∀ (j : Nat) (y : Value), ys[j]? = some y → ∃ x, l[j]? = some x ∧ ∃ t, y = .str x t) → StrsAre ys l
  | [], [], _, _ => .nil
  | y :: ys, x :: l, hl, h => by
    obtain ⟨x', hx, t, rfl⟩ := h 0 y rfl
    cases hx
    exact .cons _ _ (strs_of_get (by simpa using hl) fun j z hz => h (j + 1) z hz)
  | [], _ :: _, hl, _ => by simp at hl
  | _ :: _, [], hl, _ => by simp at hl
theorem codesIn_join : ∀ xs : List Src, (Txt.join (Str.ofString ",") (xs.map fun x => (⟨x.codes.toArray⟩ : Str))) = ⟨(Src.codesIn xs).toArray⟩ := by
  intro xs
  refine str_ext ?_
  show (Builtin.Str.glued (Str.ofString ",") _).cps.toList = _
  rw [StrLaws.glued_eq_join]
  have z : (Str.ofString ",").cps.toList = [44] := by decide +kernel
  have tl : ∀ (r : List Src) (x : Src), (Str.join (Str.ofString ",") ((x :: r).map fun x => (⟨x.codes.toArray⟩ : Str))).cps.toList = x.codes ++ Src.codesTl r := by
    intro r
    induction r with
    | nil => intro x; simp [Str.join, Src.codesTl]
    | cons y r ih =>
      intro x
      show ((⟨x.codes.toArray⟩ : Str) ++ Str.ofString "," ++ Str.join (Str.ofString ",") ((y :: r).map fun x => (⟨x.codes.toArray⟩ : Str))).cps.toList = _
      rw [cat_toList, cat_toList, z, ih y]
      simp [Src.codesTl]
  cases xs with
  | nil => rfl
  | cons x r => rw [tl]; simp [Src.codesIn]
theorem codes_le {xs : List Src} {x : Src} (h : x ∈ xs) : x.codes.length ≤ (Src.codesIn xs).length := by
  have tl : ∀ r : List Src, x ∈ r → x.codes.length ≤ (Src.codesTl r).length := by
    intro r
    induction r with
    | nil => intro h; cases h
    | cons y r ih =>
      intro h
      unfold Src.codesTl
      rw [List.length_cons, List.length_append]
      rcases List.mem_cons.mp h with rfl | h
      · omega
      · have := ih h; omega
  cases xs with
  | nil => cases h
  | cons y r =>
    unfold Src.codesIn
    rw [List.length_append]
    rcases List.mem_cons.mp h with rfl | h
    · omega
    · have := tl r h; omega
theorem codes_sum (xs : List Src) : ((xs.map fun x => (⟨x.codes.toArray⟩ : Str)).map (·.length)).sum ≤ (Src.codesIn xs).length := by
  have tl : ∀ r : List Src, ((r.map fun x => (⟨x.codes.toArray⟩ : Str)).map (·.length)).sum ≤ (Src.codesTl r).length := by
    intro r
    induction r with
    | nil => simp [Src.codesTl]
    | cons y r ih =>
      simp only [List.map_cons, List.sum_cons, Src.codesTl, List.length_cons, List.length_append]
      have e : Str.length ⟨y.codes.toArray⟩ = y.codes.length := by simp [Str.length]
      rw [e]; omega
  cases xs with
  | nil => simp [Src.codesIn]
  | cons y r =>
    have := tl r
    simp only [List.map_cons, List.sum_cons, Src.codesIn, List.length_append]
    have e : Str.length ⟨y.codes.toArray⟩ = y.codes.length := by simp [Str.length]
    rw [e]; omega
local macro_rules | `(tactic| walk_at "my enter") => `(tactic| (refine' code_defG ?k1 ?k2 ?k3 ?k4 ?k5 ?kA ?kF ?kK ?k6 ?k7 ?k8 ?k9 ?kB ?_ ?c2 ?c3 ?c4 ?c5; (case kA => exact rfl); (case kF => exact rfl); (case kK => assumption); (case k1 => k_asm); (case k2 => k_asm); (case k3 => k_asm); (case k4 => k_asm); (case k5 => k_asm); (case k6 => k_is); (case k7 => k_is); (case k8 => ktr_room); (case k9 => exact BindsTo.of_eq rfl); (case c5 => decide); (case kB => exact locs rfl); (case c2 => exact rfl); (case c3 => exact rfl); (case c4 => exact rfl); k_whole; intro g' L' h' FG' F' N' B' X' T' G'; (try dsimp only); (try k_fold)))
local macro_rules | `(tactic| walk_at "exec Assign cons ListComp") => `(tactic| (refine Held.out ?_))
set_option maxRecDepth 100000 in
set_option maxHeartbeats 8000000 in
theorem out_spec {w : World} {mean : ExcName → Option Value} {mg mb : Str → Option Value} : ∀ (nn : Nat) (d : PV), d.dep ≤ nn → d.Fine → d.src.codes.length ≤ 1000000 → ∀ {news : List (Addr × Obj)} {v : Value}, d.At news v →
    TelG w mean mg mb 75 (nn + 5) [v] news (textIs d.src.codes) := by
  intro nn
  induction nn with
  | zero => intro d h; exfalso; cases d <;> (unfold PV.dep at h; omega)
  | succ nn ih =>
  intro d hdep hfine hlen news v hat
  cases d with
  | none =>
    unfold PV.At at hat
    subst hat
    exact (Tel.toG (fun ps => out_none) (by omega) fun tl r h => h.2)
  | bool b =>
    unfold PV.At at hat
    subst hat
    refine (Tel.toG (fun ps => out_bool) (by omega) fun tl r h => ?_)
    obtain ⟨_, t, rfl⟩ := h
    refine ⟨t, congrArg (fun x => Value.str x t) ?_⟩
    cases b <;> decide +kernel
  | int n =>
    unfold PV.At at hat
    unfold PV.Fine at hfine
    obtain ⟨t, rfl⟩ := hat
    refine (Tel.toG (fun ps => out_int hfine.1 hfine.2) (by omega) fun tl r h => ?_)
    obtain ⟨_, t, rfl⟩ := h
    exact ⟨t, congrArg (fun x => Value.str x t) (dec_str n).symm⟩
  | str wd =>
    unfold PV.At at hat
    unfold PV.Fine at hfine
    obtain ⟨t, rfl⟩ := hat
    have e : strText wd = (PV.str wd).src.codes := by
      unfold PV.src Src.codes strText
      cases hq : needsQ wd
      · simp only [Bool.false_eq_true, if_false]
        exact escAll_id hq
      · rfl
    rw [← e]
    exact (out_str (w := w) (mean := mean) (mg := mg) (mb := mb) wd hfine (t1 := t) (news := news)).more (by omega)
  | bytes bs =>
    unfold PV.At at hat
    unfold PV.Fine at hfine
    obtain ⟨t, rfl⟩ := hat
    exact (Tel.toG (fun ps => out_bytes (by rw [List.size_toArray, sizeLine_eq]; omega) hfine) (by omega) fun tl r h => h.2)
  | list xs =>
    unfold PV.At at hat
    unfold PV.Fine at hfine
    obtain ⟨a0, its, n0, rfl, hm0, hats⟩ := hat
    unfold TelG
    k_fill
    k_with_none
    w_top off
    intro dp un gd cn cs a ccd cl outer A₀ base h₀ L m s ps Q E B F X N T hk hd hu htr hbare hne hret
    refine wpAny_call ?_
    k_dflt (walk_at "my enter")
    rename_i g L1 h1 FG F1 N1 B1 X1 T1 G1
    replace F1 : Fr g L1 h1 (fmi [("val", .ref a0)]) := (fm_fmi _) ▸ F1
    have hm1 : (a0, W.listOf its.toArray n0) ∈ (65, tabObj ps) :: news := .tail _ hm0
    k_steps
    refine Held.into ?_
    rename Fr g L1 _ _ => F9
    rename News g L1 _ _ => N9
    have h65 := N9 (65, tabObj ps) (.head _)
    have hlist := News.isList N9 hm1
    have hlen9 : its.length = xs.length := PV.Ats.len hats
    have hL65 : L1 ≠ 65 := fun e => h65.2.1 e.symm
    have ha65 : a0 ≠ 65 := hne _ hm0
    with_unfolding_all refine' comp_assignG (fun i tl y => ∃ x, xs[i]? = some x ∧ ∃ t, y = .str ⟨x.src.codes.toArray⟩ t) ?hsw ?hclos ?hcell ?hkind ?hnames ?hx ?hy ?hp ?hs ?hh
    case hsw => rfl
    case hclos => rfl
    case hcell => decide
    case hkind => rfl
    case hnames => decide
    case hx => rfl
    case hy => rfl
    case hp => rfl
    case hs => intro x; rfl
    case hh =>
      refine wpAny_Name (wpAny_loadName_local rfl rfl F9.ns rfl ?_) rfl
      refine wpAny_pyIter_list hlist ?_
      have hlt0 : a0 < h1.objs.size := by obtain ⟨_, e, _⟩ := hlist; exact Heap.lt_size e
      have hI65 : 65 < h1.objs.size := Heap.lt_size h65.1
      have hLs : L1 < h1.objs.size := F9.ns.lt
      refine ⟨h1.objs.size, [h1.objs.size, a0], [h1.objs.size], its.toArray.size, _, _, _, rfl, Walks.list rfl _ _ (Nat.ne_of_lt hlt0) its.toArray, ?_, ⟨hbare, ps, Heap.get?_push_of_some _ h65.1, htr⟩, hL65, ?_, ⟨⟨_, Heap.get?_push_size _ rfl, rfl, rfl⟩, hlist.push _⟩, ?_, ?_, F9.ns.push _, ⟨?_, ?_⟩, ?_⟩
      · intro hm
        rcases List.mem_cons.mp hm with e | hm
        · exact Nat.ne_of_lt hI65 e
        · exact ha65 (List.mem_singleton.mp hm).symm
      · rw [List.size_toArray, sizeLine_eq]; omega
      · intro b hb
        show b < (h1.push _).objs.size
        rw [Heap.size_push]
        rcases List.mem_cons.mp hb with rfl | hb
        · exact Nat.lt_succ_self _
        · rw [List.mem_singleton.mp hb]; exact Nat.lt_succ_of_lt hlt0
      · intro hm
        exact Nat.ne_of_lt hLs (List.mem_singleton.mp hm)
      · rintro i tl tl' y _ h
        exact h
      · intro C i v s₃ m₃ E' hC hi hv hok3 hos3 hns3 hm3 hk3
        obtain ⟨hb3, ps3, hP3, ht3⟩ := hok3
        have keep3 : ∀ b o, b ≠ 65 → h1.get? b = some o → s₃.heap.get? b = some o := fun b o hb e => hk3 b o hb (fun hm => Nat.ne_of_lt (Heap.lt_size e) (List.mem_singleton.mp hm)) (Heap.get?_push_of_some _ e)
        obtain ⟨F3, N3⟩ := after_gen (nx := []) (nz := news) F9 N9 hne keep3 hP3
        obtain ⟨x, hx, hax⟩ := PV.Ats.get hats i v (by simpa using hv)
        have hxm : x ∈ xs := List.mem_of_getElem? hx
        have hxd : x.dep ≤ nn := by
          have h1 := PV.deps_mem x hxm
          unfold PV.dep at hdep
          omega
        have hxl : x.src.codes.length ≤ 1000000 := by
          have h1 : x.src ∈ PV.srcs xs := by rw [PV.srcs_eq]; exact List.mem_map_of_mem hxm
          have h2 := codes_le h1
          unfold PV.src at hlen
          rw [Src.codes_list, List.length_cons, List.length_append] at hlen
          omega
        with_unfolding_all refine' call_here X1 T1 F3.keep ?e1 ?e2 rfl rfl rfl rfl hns3 hm3 rfl rfl ?_
        case e1 => with_unfolding_all rfl
        case e2 => with_unfolding_all rfl
        k_dflt (refine' TelG.use (ih x hxd (PV.Fines.mem hfine.2 x hxm) hxl hax) ?z1 F3 X1 N3 T1 ?zK ?zd ?zu ht3 hb3 hne ?_; (case z1 => k_asm); (case zK => exact rfl); (case zd => ktr_room); (case zu => ktr_units))
        intro r tl s' ps' F' N' ht' hb' hos' hkeep hord hout
        exact ⟨⟨[], (fun _ h => nomatch h), x, hx, hout⟩, ⟨hos', hkeep, fun _ => ⟨hb', ps', (N' _ (.head _)).1, ht'⟩⟩⟩
      · intro s' ys tl hok' hos' hpl hyl htl hR hns' hk'
        obtain ⟨hb', ps', hP', ht'⟩ := hok'
        obtain ⟨kk, hD⟩ := hpl
        have hDs : (h1.push { cls := .type "list_iterator", data := .fields #[.ref a0, .int 0 0] }).objs.size = h1.objs.size + 1 := Heap.size_push _ _
        generalize hDe : (h1.push { cls := .type "list_iterator", data := .fields #[.ref a0, .int 0 0] }).objs.size = D at *
        have hD1 : h1.objs.size < D := by rw [hDs]; exact Nat.lt_succ_self _
        have keep' : ∀ b o, b ≠ 65 → b ≠ L1 → h1.get? b = some o → s'.heap.get? b = some o := fun b o hb hbL e => hk' b o hb hbL (fun hm => Nat.ne_of_lt (Heap.lt_size e) (List.mem_singleton.mp hm)) (Heap.get?_push_of_some _ e)
        have gfresh : ∀ b, h1.objs.size ≤ b → g.get? b = none := fun b hb => by
          cases q : g.get? b with
          | none => rfl
          | some o => exact absurd (Heap.lt_size (F9.keep _ _ q)) (Nat.not_lt.mpr hb)
        have g65 : ∀ b o, g.get? b = some o → b ≠ 65 := fun b o e q => by rw [q, h65.2.2] at e; cases e
        have gL : ∀ b o, g.get? b = some o → b ≠ L1 := fun b o e q => Nat.lt_irrefl _ (Nat.lt_of_lt_of_le (q ▸ Heap.lt_size e) F9.above)
        have F' : Fr g L1 s'.heap (fmi [("result", .ref D), ("val", .ref a0)]) := ⟨by with_unfolding_all exact hns', fun b o e => keep' b o (g65 b o e) (gL b o e) (F9.keep b o e), F9.above⟩
        have N' : News g L1 s'.heap ((D, W.listOf ys.toArray kk) :: (65, tabObj ps') :: news) := fun p hp => by
          rcases List.mem_cons.mp hp with rfl | hp
          · exact ⟨hD, Nat.ne_of_gt (Nat.lt_trans hLs hD1), gfresh _ (Nat.le_of_lt hD1)⟩
          · rcases List.mem_cons.mp hp with rfl | hp
            · exact ⟨hP', h65.2⟩
            · have := N9 p (.tail _ hp)
              exact ⟨keep' _ _ (hne p hp) this.2.1 this.1, this.2⟩
        have hys : StrsAre ys ((PV.srcs xs).map fun x => (⟨x.codes.toArray⟩ : Str)) := by
          refine strs_of_get (by rw [List.length_map, PV.srcs_eq, List.length_map, hyl, List.size_toArray, hlen9]) fun j y hj => ?_
          obtain ⟨x, hx, t, rfl⟩ := hR j y hj
          exact ⟨_, by rw [List.getElem?_map, PV.srcs_eq, List.getElem?_map, hx]; rfl, t, rfl⟩
        clear hns' hk' hR htl hD keep' gfresh
        clear F9 N9
        try clear F1
        try clear N1
        dsimp only
        k_steps
        have hcl : (Src.codesIn (PV.srcs xs)).length ≤ 1000000 := by
          unfold PV.src at hlen
          rw [Src.codes_list, List.length_cons, List.length_append] at hlen
          omega
        have hsl : (PV.srcs xs).length ≤ 1000 := by rw [PV.srcs_eq, List.length_map]; exact hfine.1
        refine join_listW (News.isList N' (.head _)) hys (by decide +kernel) (by have := codes_sum (PV.srcs xs); rw [List.length_map]; omega) ?_
        intro t' k'
        rw [codesIn_join]
        have hjl : (Str.mk (Src.codesIn (PV.srcs xs)).toArray).length ≤ 1000000 := by simpa [Str.length] using hcl
        k_steps
        rename News h₀ _ _ _ => N8
        rename Fr h₀ _ _ _ => F8
        refine hret _ [] _ ps' F8 (fun p hp => N8 p (.tail _ (by rw [List.append_nil] at hp; exact hp))) ht' hb' hos' (stays_but G1 N F' N' (fun p hp => .tail _ (.tail _ hp))) (fun _ _ _ h => nomatch h) ⟨_, congrArg (fun x => Value.str x _) ?_⟩
        refine str_ext ?_
        have z1 : (Str.ofString "{").cps.toList = [123] := by decide +kernel
        have z2 : (Str.ofString "}").cps.toList = [125] := by decide +kernel
        rw [cat_toList, cat_toList, cat_toList, z1, z2]
        unfold PV.src
        rw [Src.codes_list]
        simp [Str.empty]
end Mine
end
section
open PySem PySem.W PyProof.Rows
namespace Mine
/-- what a block's element leaves as it was -/
def KeepsC (C : Addr) (m : Str → Option Value) (s s' : Shared) : Prop :=
  ∃ h' tk, s' = { s with heap := h', toks := tk } ∧ (∀ b o, b ≠ C → s.heap.get? b = some o → h'.get? b = some o) ∧ h'.Ns C m
theorem KeepsC.of {C : Addr} {m : Str → Option Value} {s s' : Shared} (h : Keeps s s') (hn : s.heap.Ns C m) : KeepsC C m s s' := by
  obtain ⟨h', tk, rfl, hk⟩ := h
  exact ⟨h', tk, rfl, fun b o _ e => hk b o e, hn.keeps hk⟩
section
variable {prog : Program} {w : World} {A : Around} {E : Value → Shared → Prop} {s : Shared} {env : Env}
/-- the turns of a comprehension whose elements may make objects: the i-th result is as R says, over objects made later than the block's own names -/
theorem comp_turnsW {elt iter : Expr} {x : Str} {px : Pos} {scope : Scope} {pos : Pos} {I D : Addr} {fp wr : List Addr} {n : Nat} {P : Nat → Value → Prop} {St : Nat → Heap → Prop} {cenv : Env} {m : Str → Option Value} {Rr : Result → Shared → Prop}
    (W : Walks prog w A I fp wr n P St) (R : Nat → List (Addr × Obj) → Value → Prop) (mono : ∀ i tl tl' y, (∀ p ∈ tl, p ∈ tl') → R i tl y → R i tl' y)
    (hx : cenv.kindOf x = some .local) (hp : (cenv.scope.kind == .class || (cenv.scope.kind == .module && cenv.locals != cenv.globals)) = false) (hDC : D < cenv.locals) (hfp : ∀ b ∈ fp, b < D)
    (hst : St 0 s.heap) (hacc : s.heap.PlainList D #[]) (hn : s.heap.Ns cenv.locals m)
    (helt : ∀ i v s₂ m₂ (E' : Value → Shared → Prop), i < n → P i v → s₂.heap.Ns cenv.locals m₂ → m₂ x = some v → (∀ b o, b ≠ cenv.locals → b ∉ wr → b ≠ D → s.heap.get? b = some o → s₂.heap.get? b = some o) →
      wpAny (model prog w) A (eval elt cenv) (fun y s₃ => (∃ tl : List (Addr × Obj), (∀ p ∈ tl, cenv.locals < p.1 ∧ s₃.heap.get? p.1 = some p.2) ∧ R i tl y) ∧ KeepsC cenv.locals m₂ s₂ s₃) E' s₂)
    (hR : ∀ h' tk m' (ys : List Value) (tl : List (Addr × Obj)), h'.Ns cenv.locals m' → h'.PlainList D ys.toArray → ys.length = n → (∀ p ∈ tl, cenv.locals < p.1 ∧ h'.get? p.1 = some p.2) → (∀ j y, ys[j]? = some y → R j tl y) →
      (∀ b o, b ≠ cenv.locals → b ∉ wr → b ≠ D → s.heap.get? b = some o → h'.get? b = some o) → Rr (.ok .next) { s with heap := h', toks := tk })
    (hsz : n ≤ sizeLine) : codeAny (model prog w) A (.compLoop (.ListComp elt [⟨.Name x px, iter, [], 0⟩] scope pos) 0 (.ref I) (.ref D) cenv) Rr s := by
  have hCw : cenv.locals ∉ wr := fun h => absurd (Nat.lt_trans (hfp _ (W.sub _ h)) hDC) (Nat.lt_irrefl _)
  have hDw : D ∉ wr := fun h => absurd (hfp _ (W.sub _ h)) (Nat.lt_irrefl _)
  have hne : D ≠ cenv.locals := Nat.ne_of_lt hDC
  refine codeAny_compLoop_tests (fun k s' => ∃ h' tk m', ∃ ys : List Value, ∃ tl : List (Addr × Obj), s' = { s with heap := h', toks := tk } ∧ St ys.length h' ∧ h'.PlainList D ys.toArray ∧ h'.Ns cenv.locals m' ∧
      (∀ p ∈ tl, cenv.locals < p.1 ∧ h'.get? p.1 = some p.2) ∧ (∀ j y, ys[j]? = some y → R j tl y) ∧ ys.length ≤ n ∧ k = n + 1 - ys.length ∧
      (∀ b o, b ≠ cenv.locals → b ∉ wr → b ≠ D → s.heap.get? b = some o → h'.get? b = some o)) ?_ (n + 1)
    ⟨s.heap, s.toks, m, [], [], rfl, hst, hacc, hn, (fun _ hp => nomatch hp), (fun j y hy => by simp at hy), Nat.zero_le _, rfl, fun _ _ _ _ _ e => e⟩
  rintro k s' ⟨H, tk, m', ys, tl, rfl, hst', hacc', hn', htl, hRs, hle, rfl, hk⟩
  by_cases hlt : ys.length < n
  · refine W.item ys.length _ _ _ hlt hst' fun v h₁ tk₁ hPv hst₁ hk₁ => ?_
    refine wpAny_assign_Name (wpAny_storeName_local hx (hn'.at' fun o e => hk₁ _ o hCw e) (fun h₂ hn₂ hs₂ => ?_) hp)
    have up : ∀ b o, b ≠ cenv.locals → b ∉ wr → H.get? b = some o → h₂.get? b = some o := fun b o hbC hbw e => hs₂.extBut b o hbC (hk₁ b o hbw e)
    have hst₂ : St (ys.length + 1) h₂ := W.frame _ _ _ hst₁ fun b hb o e => hs₂.extBut b o (fun h => absurd (Nat.lt_trans (hfp b hb) (h ▸ hDC)) (Nat.lt_irrefl _)) e
    refine wpAny_tests_nil ?_
    simp only [if_true]
    refine wpAny_mono (helt ys.length v _ _ _ hlt hPv hn₂ (by simp) (fun b o hbC hbw hbD e => up b o hbC hbw (hk b o hbC hbw hbD e))) (fun y s₄ h₄ => ?_) fun _ _ e => e
    obtain ⟨⟨tl', htl', hRy⟩, h₄, tk₄, rfl, hk₄, hn₄⟩ := h₄
    have hys : ys.toArray.size ≤ sizeLine := by rw [List.size_toArray]; omega
    refine wpAny_list_append_plain (hsz := hys) ((hacc'.at fun o e => up D o hne hDw e).at fun o e => hk₄ _ o hne e) fun h₅ hl₅ hs₅ => ?_
    rw [List.push_toArray] at hl₅
    have tlow : ∀ p : Addr × Obj, cenv.locals < p.1 → p.1 ≠ cenv.locals ∧ p.1 ∉ wr ∧ p.1 ≠ D := fun p h =>
      ⟨Nat.ne_of_gt h, fun hm => absurd (Nat.lt_trans (Nat.lt_trans (hfp _ (W.sub _ hm)) hDC) h) (Nat.lt_irrefl _), Nat.ne_of_gt (Nat.lt_trans hDC h)⟩
    refine ⟨n + 1 - (ys.length + 1), by omega, h₅, tk₄, _, ys ++ [y], tl ++ tl', rfl, ?_, hl₅, hn₄.sameBut hs₅ (Ne.symm hne), ?_, ?_, (by rw [List.length_append, List.length_singleton]; exact hlt),
      (by rw [List.length_append, List.length_singleton]), fun b o hbC hbw hbD e => hs₅.extBut b o hbD (hk₄ b o hbC (up b o hbC hbw (hk b o hbC hbw hbD e)))⟩
    · have := W.frame _ _ h₅ hst₂ fun b hb o e => hs₅.extBut b o (fun h => absurd (h ▸ hfp b hb) (Nat.lt_irrefl _)) (hk₄ b o (fun h => absurd (Nat.lt_trans (hfp b hb) (h ▸ hDC)) (Nat.lt_irrefl _)) e)
      simpa using this
    · intro p hp
      rcases List.mem_append.mp hp with hp | hp
      · obtain ⟨a1, a2⟩ := htl p hp
        obtain ⟨b1, b2, b3⟩ := tlow p a1
        exact ⟨a1, hs₅.extBut _ _ b3 (hk₄ _ _ b1 (up _ _ b1 b2 a2))⟩
      · obtain ⟨a1, a2⟩ := htl' p hp
        obtain ⟨b1, b2, b3⟩ := tlow p a1
        exact ⟨a1, hs₅.extBut _ _ b3 a2⟩
    · intro j z hz
      rcases Nat.lt_trichotomy j ys.length with h | h | h
      · rw [List.getElem?_append_left h] at hz
        exact mono _ _ _ _ (fun p hp => List.mem_append.mpr (.inl hp)) (hRs j z hz)
      · subst h
        simp at hz
        subst hz
        exact mono _ _ _ _ (fun p hp => List.mem_append.mpr (.inr hp)) hRy
      · rw [List.getElem?_eq_none (by rw [List.length_append, List.length_singleton]; omega)] at hz
        cases hz
  · have hin : ys.length = n := by omega
    refine W.done _ _ _ (hin ▸ hst') fun h₁ tk₁ hk₁ => ?_
    refine hR h₁ tk₁ m' ys tl (hn'.at' fun o e => hk₁ _ o hCw e) (hacc'.at fun o e => hk₁ _ o hDw e) hin (fun p hp => ?_) hRs fun b o hbC hbw hbD e => hk₁ b o hbw (hk b o hbC hbw hbD e)
    obtain ⟨a1, a2⟩ := htl p hp
    exact ⟨a1, hk₁ _ _ (fun hm => absurd (Nat.lt_trans (Nat.lt_trans (hfp _ (W.sub _ hm)) hDC) a1) (Nat.lt_irrefl _)) a2⟩
/-- one block of a comprehension over what is walked -/
structure CompSaysW (prog : Program) (w : World) (A : Around) (env : Env) (scope : Scope) (cl : List (Str × Addr)) (x : Str) (elt : Expr) (wr : List Addr) (n : Nat) (P : Nat → Value → Prop) (R : Nat → List (Addr × Obj) → Value → Prop) (s₂ : Shared) : Prop where
  mono : ∀ i tl tl' y, (∀ p ∈ tl, p ∈ tl') → R i tl y → R i tl' y
  elt : ∀ C i v s₃ m₃ (E' : Value → Shared → Prop), s₂.heap.objs.size < C → i < n → P i v → s₃.heap.Ns C m₃ → m₃ x = some v → (∀ b o, b ∉ wr → s₂.heap.get? b = some o → s₃.heap.get? b = some o) →
    wpAny (model prog w) A (eval elt (compEnvC scope cl C env)) (fun y s₄ => (∃ tl : List (Addr × Obj), (∀ p ∈ tl, C < p.1 ∧ s₄.heap.get? p.1 = some p.2) ∧ R i tl y) ∧ KeepsC C m₃ s₃ s₄) E' s₃
theorem comp_blockW {elt iter : Expr} {x : Str} {px : Pos} {scope : Scope} {cl : List (Str × Addr)} {pos : Pos} {s₂ : Shared} {I : Addr} {fp wr : List Addr} {n : Nat} {P : Nat → Value → Prop} {St : Nat → Heap → Prop}
    (W : Walks prog w A I fp wr n P St) (hsz : n ≤ sizeLine) {R : Nat → List (Addr × Obj) → Value → Prop} {RR : Value → Addr → Result → Shared → Prop}
    (hcell : ∀ y ∈ scope.names, y.2 ≠ .cell) (hkind : scope.kind = .function) (hx : scope.names.lookup x = some .local) (hst : St 0 s₂.heap) (hfp : ∀ b ∈ fp, b < s₂.heap.objs.size)
    (hq : CompSaysW prog w A env scope cl x elt wr n P R s₂)
    (hRR : ∀ C h' tk m' (ys : List Value) (tl : List (Addr × Obj)), s₂.heap.objs.size < C → h'.Ns C m' → h'.PlainList s₂.heap.objs.size ys.toArray → ys.length = n → (∀ p ∈ tl, C < p.1 ∧ h'.get? p.1 = some p.2) → (∀ j y, ys[j]? = some y → R j tl y) →
      (∀ b o, b ∉ wr → s₂.heap.get? b = some o → h'.get? b = some o) → RR (.ref s₂.heap.objs.size) C (.ok .next) { s₂ with heap := h', toks := tk }) :
    wpAny (model prog w) A (newList []) (fun acc s₃ => wpAny (model prog w) A (newFunctionEnv scope env.globals cl [] env.qual none .none (some env)) (fun cenv s₄ =>
      codeAny (model prog w) A (.compStart (.ListComp elt [⟨.Name x px, iter, [], 0⟩] scope pos) 0 (.ref I) acc { cenv with scope := relabel scope env }) (RR acc cenv.locals) s₄) E s₃) E s₂ := by
  refine wpAny_newObj_type (wpAny_newFunctionEnv hcell (by intro y hy; simp at hy) (fun h₁ hns₁ hsb₁ => ?_) hkind)
  dsimp only at hns₁ hsb₁ ⊢
  generalize hH : s₂.heap.push { cls := .type "list", dict := none, data := .seq ([] : List Value).toArray } = H at hns₁ hsb₁ ⊢
  have hC : H.objs.size = s₂.heap.objs.size + 1 := by rw [← hH, Heap.size_push]
  have hDC : s₂.heap.objs.size < H.objs.size := by rw [hC]; exact Nat.lt_succ_self _
  have small : ∀ b, b < s₂.heap.objs.size → b ≠ H.objs.size ∧ b ≠ s₂.heap.objs.size := fun b hb => ⟨Nat.ne_of_lt (Nat.lt_trans hb hDC), Nat.ne_of_lt hb⟩
  have old : ∀ b o, s₂.heap.get? b = some o → h₁.get? b = some o := fun b o e => hsb₁.extBut b o (small b (Heap.lt_size e)).1 (Heap.get?_push_of_some _ (hH ▸ Heap.get?_push_of_some _ e))
  have hacc : h₁.PlainList s₂.heap.objs.size #[] := ⟨_, hsb₁.extBut _ _ (Nat.ne_of_lt hDC) (Heap.get?_push_of_some _ (hH ▸ Heap.get?_push_size _ rfl))⟩
  have hst₁ : St 0 h₁ := W.frame _ _ _ hst fun b _ o e => old b o e
  have up : ∀ (h₂ : Heap), (∀ b o, b ≠ H.objs.size → b ∉ wr → b ≠ s₂.heap.objs.size → h₁.get? b = some o → h₂.get? b = some o) → ∀ b o, b ∉ wr → s₂.heap.get? b = some o → h₂.get? b = some o :=
    fun h₂ hk b o hb e => hk b o (small b (Heap.lt_size e)).1 hb (small b (Heap.lt_size e)).2 (old b o e)
  have loop : ∀ s₃ : Shared, s₃ = { s₂ with heap := h₁, toks := s₂.toks + ([] : List (Str × Value)).length } →
      codeAny (model prog w) A (.compLoop (.ListComp elt [⟨.Name x px, iter, [], 0⟩] scope pos) 0 (.ref I) (.ref s₂.heap.objs.size) (compEnvC scope cl H.objs.size env)) (RR (.ref s₂.heap.objs.size) H.objs.size) s₃ := by
    rintro s₃ rfl
    refine comp_turnsW (cenv := compEnvC scope cl H.objs.size env) W R hq.mono (lookup_relabel_local hx) (by simp [compEnvC, relabel, hkind]) hDC hfp hst₁ hacc hns₁
      (fun i v s₃ m₃ E' hi hv hn hm hk => hq.elt _ i v s₃ m₃ E' hDC hi hv hn hm (up _ hk)) (fun h' tk m' ys tl hn hpl hlen htl hRs hk => ?_) hsz
    exact hRR _ h' tk m' ys tl hDC hn hpl hlen htl hRs (up _ hk)
  exact codeAny_compStart_list (loop _ rfl) (W.self 0 _ _ _ hst₁ (loop _ rfl))
/-- what a comprehension needs of what is walked -/
def SrcSays (prog : Program) (w : World) (A : Around) (env : Env) (scope : Scope) (cl : List (Str × Addr)) (x : Str) (elt : Expr) (R : Nat → List (Addr × Obj) → Value → Prop) (Q : Value → Shared → Prop) (it : Value) (s₂ : Shared) : Prop :=
  ∃ I fp wr n P St, it = .ref I ∧ Walks prog w A I fp wr n P St ∧ n ≤ sizeLine ∧ St 0 s₂.heap ∧ (∀ b ∈ fp, b < s₂.heap.objs.size) ∧
      CompSaysW prog w A env scope cl x elt wr n P R s₂ ∧
      (∀ h' tk (ys : List Value) (tl : List (Addr × Obj)), h'.PlainList s₂.heap.objs.size ys.toArray → ys.length = n → (∀ p ∈ tl, s₂.heap.objs.size < p.1 ∧ h'.get? p.1 = some p.2) → (∀ j y, ys[j]? = some y → R j tl y) →
        (∀ b o, b ∉ wr → s₂.heap.get? b = some o → h'.get? b = some o) → Q (.ref s₂.heap.objs.size) { s₂ with heap := h', toks := tk })
/-- a comprehension as an expression -/
theorem comp_exprW {elt iter : Expr} {x : Str} {px : Pos} {scope : Scope} {cl : List (Str × Addr)} {pos : Pos} {Q : Value → Shared → Prop} (R : Nat → List (Addr × Obj) → Value → Prop)
    (hclos : closureFor scope env = pure cl) (hcell : ∀ y ∈ scope.names, y.2 ≠ .cell) (hkind : scope.kind = .function) (hnames : ∀ y ∈ scope.names, y.2 = .local → scope.names.lookup y.1 = some .local) (hx : scope.names.lookup x = some .local)
    (hs : ∀ x, foldedSetIterable iter env x = pure x)
    (h : wpAny (model prog w) A (eval iter env) (fun xv s₁ => wpAny (model prog w) A (pyIter xv) (SrcSays prog w A env scope cl x elt R Q) E s₁) E s) :
    wpAny (model prog w) A (eval (.ListComp elt [⟨.Name x px, iter, [], 0⟩] scope pos) env) Q E s := by
  rw [eval_ListComp]
  refine wpAny_comprehension_free (use := none) rfl hs hclos hkind hnames (wpAny_mono h (fun xv s₁ h₁ => wpAny_mono h₁ (fun it s₂ h₂ => ?_) fun _ _ e => e) fun _ _ e => e)
  obtain ⟨I, fp, wr, n, P, St, rfl, W, hsz, hst, hfp, hq, hQ⟩ := h₂
  refine comp_blockW (RR := fun acc C => compPost (model prog w) A E none Q acc C) W hsz hcell hkind hx hst hfp hq ?_
  intro C h' tk m' ys tl hDC hn hpl hlen htl hRs hk
  have hlow : ∀ b, b < C → b ≠ C := fun b hb => Nat.ne_of_lt hb
  refine ⟨m', hn, fun h'' hs'' => hQ h'' tk ys tl ?_ hlen (fun p hp => ?_) hRs fun b o hbw e => ?_⟩
  · obtain ⟨k, e⟩ := hpl
    exact ⟨k, hs''.extBut _ _ (Nat.ne_of_lt hDC) e⟩
  · obtain ⟨a1, a2⟩ := htl p hp
    exact ⟨Nat.lt_trans hDC a1, hs''.extBut _ _ (Nat.ne_of_gt a1) a2⟩
  · exact hs''.extBut b o (Nat.ne_of_lt (Nat.lt_trans (Heap.lt_size e) hDC)) (hk b o hbw e)
end
end Mine
end
section
open PySem PySem.W PySem.Calls PyProof.Rows
namespace Mine
def cutAt (h : Heap) (C : Addr) : Heap := { h with objs := h.objs.extract 0 C }
theorem cut_size (h : Heap) (C : Addr) : (cutAt h C).objs.size ≤ C := by
  show (h.objs.extract 0 C).size ≤ C
  rw [Array.size_extract]
  exact Nat.le_trans (Nat.sub_le _ _) (Nat.min_le_left _ _)
theorem cut_at (h : Heap) (C b : Addr) : (cutAt h C).objs[b]? = if b < C then h.objs[b]? else none := by
  show (h.objs.extract 0 C)[b]? = _
  rw [Array.getElem?_extract]
  by_cases hb : b < C
  · rcases Nat.lt_or_ge b h.objs.size with h1 | h1
    · have : @LT.lt Nat _ b (min C h.objs.size - 0) := by
        rw [Nat.sub_zero]; exact Nat.lt_min.mpr ⟨hb, h1⟩
      rw [if_pos this, if_pos hb, Nat.zero_add]
    · have : ¬ @LT.lt Nat _ b (min C h.objs.size - 0) := by
        rw [Nat.sub_zero]; exact fun q => absurd (Nat.lt_min.mp q).2 (Nat.not_lt.mpr h1)
      rw [if_neg this, if_pos hb, Array.getElem?_eq_none h1]
  · have : ¬ @LT.lt Nat _ b (min C h.objs.size - 0) := by
      rw [Nat.sub_zero]; exact fun q => hb (Nat.lt_min.mp q).1
    rw [if_neg this, if_neg hb]
theorem cut_get {h : Heap} {C b : Addr} {o : Obj} (hb : b < C) (e : h.get? b = some o) : (cutAt h C).get? b = some o := by
  unfold Heap.get? at e ⊢
  rw [cut_at, if_pos hb]
  exact e
theorem of_cut {h : Heap} {C b : Addr} {o : Obj} (e : (cutAt h C).get? b = some o) : h.get? b = some o ∧ b < C := by
  unfold Heap.get? at e ⊢
  rw [cut_at] at e
  by_cases hb : b < C
  · rw [if_pos hb] at e
    exact ⟨e, hb⟩
  · rw [if_neg hb] at e; cases e
theorem cut_none {h : Heap} {C b : Addr} (hb : C ≤ b) : (cutAt h C).get? b = none := by
  cases q : (cutAt h C).get? b with
  | none => rfl
  | some o => exact absurd (of_cut q).2 (Nat.not_lt.mpr hb)
def youngs (h : Heap) (C : Addr) : List (Addr × Obj) := (List.range h.objs.size).filterMap fun b => if C < b then (h.get? b).map fun o => (b, o) else none
theorem mem_youngs {h : Heap} {C : Addr} {p : Addr × Obj} : p ∈ youngs h C ↔ C < p.1 ∧ h.get? p.1 = some p.2 := by
  unfold youngs
  rw [List.mem_filterMap]
  constructor
  · rintro ⟨b, _, e⟩
    by_cases hb : C < b
    · rw [if_pos hb] at e
      obtain ⟨o, ho, rfl⟩ := Option.map_eq_some_iff.mp e
      exact ⟨hb, ho⟩
    · rw [if_neg hb] at e; cases e
  · rintro ⟨h1, h2⟩
    exact ⟨p.1, List.mem_range.mpr (Heap.lt_size h2), by rw [if_pos h1, h2]; rfl⟩
/-- where a block's element has to come to -/
def EltPost (C : Addr) (m : Str → Option Value) (s : Shared) (R : List (Addr × Obj) → Value → Prop) (y : Value) (s' : Shared) : Prop :=
  (∃ tl : List (Addr × Obj), (∀ p ∈ tl, C < p.1 ∧ s'.heap.get? p.1 = some p.2) ∧ R tl y) ∧ KeepsC C m s s'
theorem EltPost.plain {C : Addr} {m : Str → Option Value} {s : Shared} {R : List (Addr × Obj) → Value → Prop} {y : Value} {s' : Shared} (h : R [] y) (k : KeepsC C m s s') : EltPost C m s R y s' :=
  ⟨⟨[], (fun _ h => nomatch h), h⟩, k⟩
/-- the ground of a block's element -/
theorem elt_open {s : Shared} {C : Addr} {m : Str → Option Value} {goal : Prop} {K : Frag} {p : Program} {loose : List Str} {mean : ExcName → Option Value} {mg mb : Str → Option Value} {g : Heap}
    (hn : s.heap.Ns C m) (X : K.In g) (T : Top p loose mean mg mb g) (hk : ∀ b o, g.get? b = some o → s.heap.get? b = some o) (hg : g.objs.size ≤ C)
    (h : ∀ (g' : Heap) (yg : List (Addr × Obj)), Fr g' C s.heap m → News g' C s.heap yg → K.In g' → Top p loose mean mg mb g' → (∀ b o, b < C → s.heap.get? b = some o → g'.get? b = some o) → (∀ b o, g'.get? b = some o → s.heap.get? b = some o ∧ b < C) → (∀ b o, C < b → s.heap.get? b = some o → (b, o) ∈ yg) →
      (∀ h9 tk9 nx, Fr g' C h9 m → News g' C h9 nx → (∀ p ∈ yg, p ∈ nx) → KeepsC C m s { s with heap := h9, toks := tk9 }) → goal) : goal := by
  have low : ∀ b o, g.get? b = some o → (cutAt s.heap C).get? b = some o := fun b o e => cut_get (Nat.lt_of_lt_of_le (Heap.lt_size e) hg) (hk b o e)
  refine h (cutAt s.heap C) (youngs s.heap C) ⟨hn, fun b o e => (of_cut e).1, cut_size _ _⟩ (fun p hp => ?_) (X.keeps low) (T.keeps low) (fun b o hb e => cut_get hb e) (fun b o e => of_cut e) (fun b o hb e => mem_youngs.mpr ⟨hb, e⟩) ?_
  · obtain ⟨h1, h2⟩ := mem_youngs.mp hp
    exact ⟨h2, Nat.ne_of_gt h1, cut_none (Nat.le_of_lt h1)⟩
  · intro h9 tk9 nx F N hs
    refine ⟨h9, tk9, rfl, fun b o hb e => ?_, F.ns⟩
    rcases Nat.lt_trichotomy b C with h1 | h1 | h1
    · exact F.keep b o (cut_get h1 e)
    · exact absurd h1 hb
    · exact (N (b, o) (hs _ (mem_youngs.mpr ⟨h1, e⟩))).1
section
variable {prog : Program} {w : World} {A : Around} {E : Value → Shared → Prop} {s : Shared} {env : Env}
/-- a comprehension over a range -/
theorem range_says {elt : Expr} {x : Str} {scope : Scope} {cl : List (Str × Addr)} {Q : Value → Shared → Prop} {R : Nat → List (Addr × Obj) → Value → Prop} {D : Addr} {N : Int} {t u v : Tok}
    (hh : A.handled = none) (hr : IsRange s.heap D 0 N 1 t u v) (h0 : 0 ≤ N) (h1 : N ≤ 1000000)
    (mono : ∀ i tl tl' y, (∀ p ∈ tl, p ∈ tl') → R i tl y → R i tl' y)
    (helt : ∀ C (i : Nat) (tv : Tok) s₃ m₃ (E' : Value → Shared → Prop), s.heap.objs.size < C → (i : Int) < N → s₃.heap.Ns C m₃ → m₃ x = some (.int (i : Int) tv) → (∀ b o, s.heap.get? b = some o → s₃.heap.get? b = some o) →
      wpAny (model prog w) A (eval elt (compEnvC scope cl C env)) (EltPost C m₃ s₃ (R i)) E' s₃)
    (fin : ∀ Dl h' tk (ys : List Value) (tl : List (Addr × Obj)), s.heap.objs.size ≤ Dl → h'.PlainList Dl ys.toArray → (ys.length : Int) = N → (∀ p ∈ tl, Dl < p.1 ∧ h'.get? p.1 = some p.2) → (∀ j y, ys[j]? = some y → R j tl y) →
      (∀ b o, s.heap.get? b = some o → h'.get? b = some o) → Q (.ref Dl) { s with heap := h', toks := tk }) :
    wpAny (model prog w) A (pyIter (.ref D)) (SrcSays prog w A env scope cl x elt R Q) E s := by
  have hsize : Builtin.Range.rangeSize 0 N 1 = (N.toNat : Int) := by
    rw [rangeSize_one]
    by_cases h : 0 < N
    · rw [if_pos h]; omega
    · rw [if_neg h]; omega
  refine wpAny_pyIter_range hr ?_ ?_
  · exact small_one (by omega) (by omega) (by omega) (by omega)
  · have hI : ∀ b o, s.heap.get? b = some o → b ∉ [s.heap.objs.size] := fun b o e hm => Nat.ne_of_lt (Heap.lt_size e) (List.mem_singleton.mp hm)
    refine ⟨s.heap.objs.size, [s.heap.objs.size], [s.heap.objs.size], N.toNat, _, _, rfl, Walks.range hh _ 0 1 N.toNat, by rw [sizeLine_eq]; omega, ?_, ?_, ⟨mono, ?_⟩, ?_⟩
    · rw [hsize]
      exact Heap.get?_push_size _ rfl
    · intro b hb
      rw [List.mem_singleton.mp hb]
      show _ < (s.heap.push _).objs.size
      rw [Heap.size_push]; exact Nat.lt_succ_self _
    · rintro C i v s₃ m₃ E' hC hi ⟨tv, rfl⟩ hns hm hk
      have e : (0 : Int) + (i : Int) * 1 = (i : Int) := by omega
      rw [e] at hm
      have hC' : s.heap.objs.size < C := by
        have : (s.heap.push _).objs.size < C := hC
        rw [Heap.size_push] at this
        exact Nat.lt_trans (Nat.lt_succ_self _) this
      exact helt C i tv s₃ m₃ E' hC' (by omega) hns hm fun b o e => hk b o (hI b o e) (Heap.get?_push_of_some _ e)
    · intro h' tk ys tl hpl hyl htl hR hk
      refine fin _ h' tk ys tl ?_ hpl (by rw [hyl]; omega) htl hR fun b o e => hk b o (hI b o e) (Heap.get?_push_of_some _ e)
      show _ ≤ (s.heap.push _).objs.size
      rw [Heap.size_push]; exact Nat.le_succ _
end
end Mine
end
section
open PySem PySem.W PySem.Calls PyProof.Rows
namespace Mine
local macro_rules | `(tactic| walk_at "my cells") => `(tactic| (refine' code_cells ?k1 ?k2 ?k3 ?k4 ?k5 ?kA ?kF ?kK ?k6 ?k7 ?k8 ?k9 ?kB ?kD ?_ ?c2 ?c3 ?c4; (case kA => exact rfl); (case kF => exact rfl); (case kK => assumption); (case k1 => k_asm); (case k2 => k_asm); (case k3 => k_asm); (case k4 => k_asm); (case k5 => k_asm); (case k6 => k_is); (case k7 => k_is); (case k8 => ktr_room); (case k9 => exact BindsTo.of_eq rfl); (case kB => exact rfl); (case kD => decide +kernel); (case c2 => exact rfl); (case c3 => exact rfl); (case c4 => exact rfl); k_whole; intro g' L' h' tk' cells' FG' F' N' Y' B' X' T' G1 l1; (try k_lt l1); k_cells Y'; (try simp only [List.cons_append, List.nil_append] at N'); (try dsimp only); (try k_fold)))
local macro_rules | `(tactic| walk_at "eval ListComp") => `(tactic| (refine Held.out ?_))
local macro_rules | `(tactic| walk_at "pyIter ref") => `(tactic| (refine Held.out ?_))
def lawSigns : List Nat := [97, 78, 85, 76, 34, 92, 123, 125, 44, 32, 10, 9, 39, 233, 8195, 120]
structure LawWord (w : List Nat) : Prop where
  signs : ∀ c ∈ w, c ∈ lawSigns
  len : w.length ≤ 5
  null : Txt.upper ⟨w.toArray⟩ = Str.ofString "NULL" → w = nullCodes
local macro_rules | `(tactic| walk_at "subscriptTail") => `(tactic| ((with_reducible show wpAny _ _ (subscriptTail _ _ (Value.str _ _) (Value.int _ _)) _ _ _); refine Held.out ?_))
theorem law_sign (z : Int) : ∃ c ∈ lawSigns, Txt.item (Str.ofString "aNUL\"\\{}, \n\t'é\u2003x") (z.fmod 16) = ⟨#[c]⟩ := by
  have hz : 0 ≤ z.fmod 16 ∧ z.fmod 16 < 16 := by rw [Int.fmod_eq_emod_of_nonneg _ (by decide)]; omega
  generalize z.fmod 16 = x at hz
  obtain ⟨n, rfl⟩ := Int.eq_ofNat_of_zero_le hz.1
  have hn : n < 16 := by omega
  have all : ∀ n, n < 16 → ∃ c, lawSigns[n]? = some c ∧ (Str.ofString "aNUL\"\\{}, \n\t'é\u2003x").cps[n]? = some c := by decide +kernel
  obtain ⟨c, h1, h2⟩ := all n hn
  exact ⟨c, List.mem_of_getElem? h1, item_is h2⟩
theorem plain_list {h : Heap} {D : Addr} {ys : List Value} (x : h.PlainList D ys.toArray) : h.IsList D ys.toArray := by
  obtain ⟨k, e⟩ := x
  exact ⟨_, e, rfl, _, rfl⟩
theorem null_word : LawWord nullCodes := ⟨by decide, by decide, fun _ => rfl⟩
theorem null_text : Str.ofString "NULL" = ⟨nullCodes.toArray⟩ := by decide +kernel
theorem signs_of : ∀ {ys : List Value}, (∀ y ∈ ys, ∃ c ∈ lawSigns, ∃ t, y = .str ⟨#[c]⟩ t) → ∃ wd : List Nat, StrsAre ys (wd.map one) ∧ (∀ c ∈ wd, c ∈ lawSigns) ∧ wd.length = ys.length
  | [], _ => ⟨[], .nil, (fun _ h => nomatch h), rfl⟩
  | y :: r, h => by
    obtain ⟨c, hc, t, rfl⟩ := h y (.head _)
    obtain ⟨wd, h1, h2, h3⟩ := signs_of (ys := r) fun z hz => h z (.tail _ hz)
    exact ⟨c :: wd, .cons _ _ h1, fun d hd => by
      rcases List.mem_cons.mp hd with rfl | hd
      · exact hc
      · exact h2 d hd, by simp [h3]⟩
set_option maxRecDepth 100000 in
set_option maxHeartbeats 8000000 in
theorem text_spec {w : World} {mean : ExcName → Option Value} {mg mb : Str → Option Value} (rest : Int) (h0 : 0 ≤ rest) (h1 : rest < 10 ^ 9) {t1 : Tok} {news : List (Addr × Obj)} :
    Tel w mean mg mb 119 1 [.int rest t1] news (fun tl r => tl = [] ∧ ∃ wd t, LawWord wd ∧ r = .str ⟨wd.toArray⟩ t) := by
  unfold Tel
  k_fill
  k_with_none
  w_top off
  intro dp un gd cn cs a ccd cl outer A₀ base h₀ L m s Q E B F X N T hk hd hu hret
  refine wpAny_call ?_
  k_dflt (walk_at "my cells")
  k_steps
  rename_i g L1 h0 tk0 FG B1 X1 T1 G1 hL1 oc hoc F2 N2
  rename Fr g L1 h0 _ => F2
  rename Below _ _ _ g => B1
  rename Frag.In _ g => X1
  rename Top _ _ _ _ _ g => T1
  rename GSub s.heap g _ => G1
  rename _ = Data.cell _ => hoc
  rename Obj => oc
  rename News g L1 h0 _ => N2
  have hoc2 : oc.data = .cell (some (.int rest t1)) := by rw [hoc]; with_unfolding_all rfl
  clear hoc
  refine Held.into ?_
  with_unfolding_all refine' comp_exprW (fun i tl y => ∃ c ∈ lawSigns, ∃ t, y = .str ⟨#[c]⟩ t) ?hclos ?hcell ?hkind ?hnames ?hx ?hs ?hh
  case hclos => rfl
  case hcell => decide
  case hkind => rfl
  case hnames => decide
  case hx => rfl
  case hs => intro x; rfl
  case hh =>
    k_steps
    refine Held.into ?_
    rename IsRange _ _ _ _ _ _ _ _ => hr
    rename Fr g L1 _ _ => F3
    rename News g L1 _ _ => N3
    rename Heap => hh
    have hq0 : 0 ≤ rest.fmod 6 ∧ rest.fmod 6 < 6 := by rw [Int.fmod_eq_emod_of_nonneg _ (by decide)]; omega
    with_unfolding_all refine' range_says (R := fun i tl y => ∃ c ∈ lawSigns, ∃ t, y = .str ⟨#[c]⟩ t) ?r1 ?r2 ?r3 ?r4 (fun _ _ _ _ _ h => h) ?r5 ?r6
    case r1 => rfl
    case r2 => exact hr
    case r3 => exact hq0.1
    case r4 => omega
    case r5 =>
      intro C i tv s₃ m₃ E' hC hi hns hm hk
      have hgC : g.objs.size ≤ C := Nat.le_trans F3.above (Nat.le_of_lt (Nat.lt_trans F3.ns.lt hC))
      refine elt_open hns X1 T1 (fun b o e => hk b o (F3.keep b o e)) hgC ?_
      intro g' yg Fc Nc Xc Tc low _ _ fin
      have hcell : g'.get? (L1 + 1) = some oc := low _ _ (Nat.lt_trans (Heap.lt_size (N3 _ (.head _)).1) hC) (hk _ _ (N3 _ (.head _)).1)
      have hi5 : i = 0 ∨ i = 1 ∨ i = 2 ∨ i = 3 ∨ i = 4 := by omega
      k_with "eval Name" => (first
        | (k_dflt (refine' wpAny_Name (wpAny_loadName_cell ?a ?b ?c ⟨_, Fc.keep _ _ hcell, hoc2⟩ ?_) ?e; (case a => exact rfl); (case b => with_unfolding_all exact rfl); (case c => with_unfolding_all exact rfl); (case e => exact rfl)))
        | (k_dflt (refine' wpAny_Name (wpAny_loadName_cell ?a ?b ?c ⟨_, Fr.keep (by assumption) _ _ hcell, hoc2⟩ ?_) ?e; (case a => exact rfl); (case b => with_unfolding_all exact rfl); (case c => with_unfolding_all exact rfl); (case e => exact rfl)))
        | (k_dflt (refine' wpAny_Name (wpAny_loadName_local ?a ?b (Fr.ns ?f) hm ?_) ?e; (case a => exact rfl); (case b => with_unfolding_all exact rfl); (case e => exact rfl); (case f => assumption))))
      obtain rfl | rfl | rfl | rfl | rfl := hi5
      all_goals (
        replace hm : m₃ "k" = some (.int (Int.ofNat _) tv) := hm
        k_steps
        obtain ⟨c, hc, e⟩ := law_sign _
        rw [e]
        rename News g' C _ _ => N8
        rename Fr g' C _ _ => F8
        exact .plain ⟨c, hc, _, rfl⟩ (fin _ _ _ F8 N8 (fun p hp => .tail _ hp)))
    case r6 =>
      intro Dl h' tk ys tl hDl hpl hyl htl hR hk
      have F5 := Fr.keeps F3 hk
      have N5 := News.grown N3 hk
      obtain ⟨wd, hS, hin, hlw⟩ := signs_of (ys := ys) (fun y hy => by
        obtain ⟨j, hj⟩ := List.getElem?_of_mem hy
        exact hR j y hj)
      clear hk hR htl F3 N3
      have hl5 : wd.length ≤ 5 := by rw [hlw]; omega
      k_steps
      refine join_listW (plain_list hpl) hS (by decide +kernel) (by rw [sum_ones, List.length_map]; omega) ?_
      intro t' k'
      rw [join_signs]
      have hel2 : (Str.mk wd.toArray).length ≤ 5 := by simpa [Str.length] using hl5
      k_steps
      · rename News h₀ _ _ _ => N9
        rename Fr h₀ _ _ _ => F9
        rename News g L1 _ _ => N8
        rename Fr g L1 _ _ => F8
        exact hret _ [] _ _ F9 (fun p hp => N9 p (by rw [List.append_nil] at hp; exact .tail _ hp)) (stays_end G1 N F8 N8 (fun p hp => .tail _ hp)) (fun _ _ _ h => nomatch h) ⟨rfl, _, _, null_word, congrArg (fun x => Value.str x _) null_text⟩
      · rename News h₀ _ _ _ => N9
        rename Fr h₀ _ _ _ => F9
        rename News g L1 _ _ => N8
        rename Fr g L1 _ _ => F8
        exact hret _ [] _ _ F9 (fun p hp => N9 p (by rw [List.append_nil] at hp; exact .tail _ hp)) (stays_end G1 N F8 N8 (fun p hp => .tail _ hp)) (fun _ _ _ h => nomatch h) ⟨rfl, _, _, null_word, congrArg (fun x => Value.str x _) null_text⟩
      · rename News h₀ _ _ _ => N9
        rename Fr h₀ _ _ _ => F9
        rename News g L1 _ _ => N8
        rename Fr g L1 _ _ => F8
        rename (_ == _) = false => hnn
        exact hret _ [] _ _ F9 (fun p hp => N9 p (by rw [List.append_nil] at hp; exact .tail _ hp)) (stays_end G1 N F8 N8 (fun p hp => .tail _ hp)) (fun _ _ _ h => nomatch h) ⟨rfl, wd, _, ⟨hin, hl5, fun e => by rw [e] at hnn; exact absurd hnn (by decide +kernel)⟩, rfl⟩
end Mine
end
section
open PySem PySem.W PySem.Calls PyProof.Rows
namespace Mine
local macro_rules | `(tactic| walk_at "my cells") => `(tactic| (refine' code_cells ?k1 ?k2 ?k3 ?k4 ?k5 ?kA ?kF ?kK ?k6 ?k7 ?k8 ?k9 ?kB ?kD ?_ ?c2 ?c3 ?c4; (case kA => exact rfl); (case kF => exact rfl); (case kK => assumption); (case k1 => k_asm); (case k2 => k_asm); (case k3 => k_asm); (case k4 => k_asm); (case k5 => k_asm); (case k6 => k_is); (case k7 => k_is); (case k8 => ktr_room); (case k9 => exact BindsTo.of_eq rfl); (case kB => exact rfl); (case kD => decide +kernel); (case c2 => exact rfl); (case c3 => exact rfl); (case c4 => exact rfl); k_whole; intro g' L' h' tk' cells' FG' F' N' Y' B' X' T' G1 l1; (try k_lt l1); k_cells Y'; (try simp only [List.cons_append, List.nil_append] at N'); (try dsimp only); (try k_fold)))
local macro_rules | `(tactic| walk_at "eval ListComp") => `(tactic| (refine Held.out ?_))
local macro_rules | `(tactic| walk_at "call type:bytes") => `(tactic| (refine Held.out ?_))
local macro_rules | `(tactic| walk_at "pyIter ref") => `(tactic| (refine Held.out ?_))
local macro_rules | `(tactic| walk_at "call ref") => `(tactic| (k_dflt ((refine' Tel.use1 (text_spec _ (by assumption) (by assumption)) ?z1 ?z2 ?z3 ?z4 ?z5 ?zK ?zd ?zu (fun _ _ e => e) ?_; (case z1 => k_asm); (case z2 => k_asm); (case z3 => k_asm); (case z4 => k_asm); (case z5 => k_asm); (case zK => first | exact rfl | assumption); (case zd => ktr_room); (case zu => ktr_units)); intro r9 h9 tk9 F9 N9 hs9 hout9; (obtain ⟨wd9, t9, hw9, hr9⟩ := hout9; subst hr9); (try dsimp only); (try k_fold))))
/-- a value that is no list, of the kind asked for -/
def Leaf (k : Int) : PV → Prop
  | .none => True
  | .int n => k = 0 ∧ n.natAbs < 10 ^ 30 ∧ n.natAbs.log2 < 1920
  | .str w => k = 1 ∧ LawWord w
  | .bytes bs => k = 2 ∧ bs.length ≤ 5
  | .bool _ => k = 3
  | .list _ => False
theorem octet_of (x : Int) (t : Tok) : ∃ n : Int, 0 ≤ n ∧ n < 256 ∧ ∃ t', Value.int (x.fmod 256) t = .int n t' := by
  refine ⟨x.fmod 256, ?_, ?_, t, rfl⟩ <;> (rw [Int.fmod_eq_emod_of_nonneg _ (by decide)]; omega)
theorem octets_of : ∀ {ys : List Value}, (∀ y ∈ ys, ∃ n : Int, 0 ≤ n ∧ n < 256 ∧ ∃ t, y = .int n t) → ∃ ns : List Int, IntsAre ys ns ∧ (∀ n ∈ ns, 0 ≤ n ∧ n < 256) ∧ ns.length = ys.length
  | [], _ => ⟨[], .nil, (fun _ h => nomatch h), rfl⟩
  | y :: r, h => by
    obtain ⟨n, a1, a2, t, rfl⟩ := h y (.head _)
    obtain ⟨ns, h1, h2, h3⟩ := octets_of (ys := r) fun z hz => h z (.tail _ hz)
    exact ⟨n :: ns, .cons _ _ h1, fun d hd => by
      rcases List.mem_cons.mp hd with rfl | hd
      · exact ⟨a1, a2⟩
      · exact h2 d hd, by simp [h3]⟩
theorem int_ok {n : Int} (h : n.natAbs < 10 ^ 30) : n.natAbs < 10 ^ 30 ∧ n.natAbs.log2 < 1920 := by
  refine ⟨h, ?_⟩
  by_cases h0 : n.natAbs = 0
  · rw [h0]; decide
  · rw [Nat.log2_lt h0]
    exact Nat.lt_trans h (by decide +kernel)
theorem cube_ok {x : Int} (h0 : 0 ≤ x) (h1 : x < 10 ^ 9) : (0 - x * x * x).natAbs < 10 ^ 30 := by
  obtain ⟨n, rfl⟩ := Int.eq_ofNat_of_zero_le h0
  have hn : n ≤ 10 ^ 9 := by omega
  have e : (0 - (n : Int) * n * n).natAbs = n * n * n := by
    rw [Int.zero_sub, Int.natAbs_neg]
    rfl
  rw [e]
  have h2 := Nat.mul_le_mul (Nat.mul_le_mul hn hn) hn
  exact Nat.lt_of_le_of_lt h2 (by decide)
set_option maxRecDepth 100000 in
set_option maxHeartbeats 8000000 in
theorem worth_spec {w : World} {mean : ExcName → Option Value} {mg mb : Str → Option Value} (kind draw : Int) (hk0 : 0 ≤ kind) (hk3 : kind ≤ 3) (h0 : 0 ≤ draw) (h1 : draw < 10 ^ 9) {t1 t2 : Tok} {news : List (Addr × Obj)} :
    Tel w mean mg mb 124 3 [.int kind t1, .int draw t2] news (fun tl r => tl = [] ∧ ∃ d, Leaf kind d ∧ d.At [] r) := by
  unfold Tel
  k_fill
  k_with_none
  w_top off
  intro dp un gd cn cs a ccd cl outer A₀ base h₀ L m s Q E B F X N T hk hd hu hret
  have hr0 : 0 ≤ draw.fdiv 5 := by rw [Int.fdiv_eq_ediv_of_nonneg _ (by decide)]; omega
  have hr1 : draw.fdiv 5 < 10 ^ 9 := by rw [Int.fdiv_eq_ediv_of_nonneg _ (by decide)]; omega
  refine wpAny_call ?_
  k_dflt (walk_at "my cells")
  rename ∀ p ∈ news, p.1 < _ => hL1
  have hL2 : ∀ p ∈ news, p.1 < _ + 1 := fun p hp => Nat.lt_succ_of_lt (hL1 p hp)
  k_steps
  · rename News h₀ _ _ _ => N9
    rename Fr h₀ _ _ _ => F9
    rename GSub s.heap _ _ => G1
    exact hret _ [] _ _ F9 (fun p hp => N9 p (by rw [List.append_nil] at hp; exact .tail _ hp)) (stays_end G1 N (by assumption) (by assumption) (fun p hp => .tail _ hp)) (fun _ _ _ h => nomatch h) ⟨rfl, PV.none, trivial, rfl⟩
  · rename News h₀ _ _ _ => N9
    rename Fr h₀ _ _ _ => F9
    rename GSub s.heap _ _ => G1
    have hkk : kind = 0 := by assumption
    exact hret _ [] _ _ F9 (fun p hp => N9 p (by rw [List.append_nil] at hp; exact .tail _ hp)) (stays_end G1 N (by assumption) (by assumption) (fun p hp => .tail _ hp)) (fun _ _ _ h => nomatch h) ⟨rfl, PV.int _, ⟨hkk, int_ok (by rw [Int.fdiv_eq_ediv_of_nonneg _ (by decide)] at hr0 hr1 ⊢; omega)⟩, _, rfl⟩
  · rename News h₀ _ _ _ => N9
    rename Fr h₀ _ _ _ => F9
    rename GSub s.heap _ _ => G1
    have hkk : kind = 0 := by assumption
    exact hret _ [] _ _ F9 (fun p hp => N9 p (by rw [List.append_nil] at hp; exact .tail _ hp)) (stays_end G1 N (by assumption) (by assumption) (fun p hp => .tail _ hp)) (fun _ _ _ h => nomatch h) ⟨rfl, PV.int _, ⟨hkk, int_ok (cube_ok hr0 hr1)⟩, _, rfl⟩
  · rename News h₀ _ _ _ => N9
    rename Fr h₀ _ _ _ => F9
    rename GSub s.heap _ _ => G1
    rename LawWord _ => hw9
    have hkk : kind = 1 := by assumption
    exact hret _ [] _ _ F9 (fun p hp => N9 p (by rw [List.append_nil] at hp; exact .tail _ hp)) (stays_end G1 N (by assumption) (by assumption) (fun p hp => .tail _ hp)) (fun _ _ _ h => nomatch h) ⟨rfl, PV.str _, ⟨hkk, hw9⟩, _, rfl⟩
  · refine Held.into ?_
    have hkk : kind = 2 := by assumption
    rename News _ _ _ ((_, _) :: news) => N2
    rename _ = Data.cell (some _) => hoc2
    with_unfolding_all refine' comp_exprW (fun i tl y => ∃ n : Int, 0 ≤ n ∧ n < 256 ∧ ∃ t, y = .int n t) ?hclos ?hcell ?hkind ?hnames ?hx ?hs ?hh
    case hclos => rfl
    case hcell => decide
    case hkind => rfl
    case hnames => decide
    case hx => rfl
    case hs => intro x; rfl
    case hh =>
      k_steps
      refine Held.into ?_
      rename IsRange _ _ _ _ _ _ _ _ => hr
      rename Fr _ _ _ _ => F3
      rename News _ _ _ _ => N3
      rename Frag.In _ _ => X1
      rename Top _ _ _ _ _ _ => T1
      have hq0 : 0 ≤ (draw.fdiv 5).fmod 5 ∧ (draw.fdiv 5).fmod 5 < 5 := by rw [Int.fmod_eq_emod_of_nonneg _ (by decide)]; omega
      with_unfolding_all refine' range_says (R := fun i tl y => ∃ n : Int, 0 ≤ n ∧ n < 256 ∧ ∃ t, y = .int n t) ?r1 ?r2 ?r3 ?r4 (fun _ _ _ _ _ h => h) ?r5 ?r6
      case r1 => rfl
      case r2 => exact hr
      case r3 => exact hq0.1
      case r4 => omega
      case r5 =>
        intro C i tv s₃ m₃ E' hC hi hns hm hk
        have hgC := Nat.le_trans F3.above (Nat.le_of_lt (Nat.lt_trans F3.ns.lt hC))
        refine elt_open hns X1 T1 (fun b o e => hk b o (F3.keep b o e)) hgC ?_
        intro g' yg Fc Nc Xc Tc low _ _ fin
        have hcell := low _ _ (Nat.lt_trans (Heap.lt_size (N3 _ (.head _)).1) hC) (hk _ _ (N3 _ (.head _)).1)
        have hi5 : i = 0 ∨ i = 1 ∨ i = 2 ∨ i = 3 := by omega
        k_with "eval Name" => (first
          | (k_dflt (refine' wpAny_Name (wpAny_loadName_cell ?a ?b ?c ⟨_, Fr.keep (by assumption) _ _ hcell, hoc2⟩ ?_) ?e; (case a => exact rfl); (case b => with_unfolding_all exact rfl); (case c => with_unfolding_all exact rfl); (case e => exact rfl)))
          | (k_dflt (refine' wpAny_Name (wpAny_loadName_local ?a ?b (Fr.ns ?f) hm ?_) ?e; (case a => exact rfl); (case b => with_unfolding_all exact rfl); (case e => exact rfl); (case f => assumption))))
        obtain rfl | rfl | rfl | rfl := hi5
        all_goals (
          replace hm : m₃ "k" = some (.int (Int.ofNat _) tv) := hm
          k_steps
          rename News g' C _ _ => N8
          rename Fr g' C _ _ => F8
          exact .plain (octet_of _ _) (fin _ _ _ F8 N8 (fun p hp => .tail _ hp)))
      case r6 =>
        intro Dl h' tk ys tl hDl hpl hyl htl hR hk
        have F5 := Fr.keeps F3 hk
        have N5 := News.grown N3 hk
        obtain ⟨ns, hS, hin, hlw⟩ := octets_of (ys := ys) (fun y hy => by
          obtain ⟨j, hj⟩ := List.getElem?_of_mem hy
          exact hR j y hj)
        clear hk hR htl F3 N3
        k_steps
        refine Held.into ?_
        refine call_bytes_ints (plain_list hpl) hS hin (by rw [← hlw, sizeLine_eq]; omega) rfl ?_
        intro h5 t5 k5 hk5
        have F6 := Fr.keeps F5 hk5
        have N6 := News.grown N5 hk5
        clear F5 N5 hk5
        k_steps
        rename News h₀ _ _ _ => N9
        rename Fr h₀ _ _ _ => F9
        rename GSub s.heap _ _ => G1
        exact hret _ [] _ _ F9 (fun p hp => N9 p (by rw [List.append_nil] at hp; exact .tail _ hp)) (stays_end G1 N F6 N6 (fun p hp => .tail _ hp)) (fun _ _ _ h => nomatch h)
          ⟨rfl, PV.bytes (ns.map fun n => n.toNat.toUInt8), ⟨hkk, by rw [List.length_map]; omega⟩, _, rfl⟩
  · rename News h₀ _ _ _ => N9
    rename Fr h₀ _ _ _ => F9
    rename GSub s.heap _ _ => G1
    have hkk : kind = 3 := by omega
    exact hret _ [] _ _ F9 (fun p hp => N9 p (by rw [List.append_nil] at hp; exact .tail _ hp)) (stays_end G1 N (by assumption) (by assumption) (fun p hp => .tail _ hp)) (fun _ _ _ h => nomatch h) ⟨rfl, PV.bool _, hkk, rfl⟩
end Mine
end
section
open PySem PySem.W PySem.Calls PyProof.Rows
namespace Mine
local macro_rules | `(tactic| walk_at "my enter") => `(tactic| (refine' code_defG ?k1 ?k2 ?k3 ?k4 ?k5 ?kA ?kF ?kK ?k6 ?k7 ?k8 ?k9 ?kB ?_ ?c2 ?c3 ?c4 ?c5; (case kA => exact rfl); (case kF => exact rfl); (case kK => assumption); (case k1 => k_asm); (case k2 => k_asm); (case k3 => k_asm); (case k4 => k_asm); (case k5 => k_asm); (case k6 => k_is); (case k7 => k_is); (case k8 => ktr_room); (case k9 => exact BindsTo.of_eq rfl); (case c5 => decide); (case kB => exact locs rfl); (case c2 => exact rfl); (case c3 => exact rfl); (case c4 => exact rfl); k_whole; intro g' L' h' FG' F' N' B' X' T' G'; (try dsimp only); (try k_fold)))
def Sizes (zs : List Int) : Prop := zs = [0] ∨ (1 ≤ zs.length ∧ zs.length ≤ 3 ∧ ∀ z ∈ zs, 1 ≤ z ∧ z ≤ 3)
def sizesOut (tl : List (Addr × Obj)) (r : Value) : Prop := ∃ (a : Addr) (its : List Value) (n : Nat) (zs : List Int), r = .ref a ∧ (a, W.listOf its.toArray n) ∈ tl ∧ IntsAre its zs ∧ Sizes zs
theorem one_back {x p : Addr × Obj} {news : List (Addr × Obj)} (h : p ∈ news ++ [x]) : p ∈ x :: news := by
  rcases List.mem_append.mp h with h | h
  · exact .tail _ h
  · rw [List.mem_singleton.mp h]; exact .head _
theorem two_back {x y p : Addr × Obj} {news : List (Addr × Obj)} (h : p ∈ news ++ [x]) : p ∈ x :: y :: news := by
  rcases List.mem_append.mp h with h | h
  · exact .tail _ (.tail _ h)
  · rw [List.mem_singleton.mp h]; exact .head _
theorem fmod_lt (x : Int) {m : Int} (h : 0 < m) : 0 ≤ x.fmod m ∧ x.fmod m < m := by
  rw [Int.fmod_eq_emod_of_nonneg _ (Int.le_of_lt h)]
  exact ⟨Int.emod_nonneg _ (Int.ne_of_gt h), Int.emod_lt_of_pos _ h⟩
theorem sizes_take (head : Int) : 1 ≤ (List.take (1 + (head.fdiv 4).fmod 3).toNat [1 + (head.fdiv 12).fmod 3, 1 + (head.fdiv 36).fmod 3, 1 + (head.fdiv 108).fmod 2]).length ∧
    (List.take (1 + (head.fdiv 4).fmod 3).toNat [1 + (head.fdiv 12).fmod 3, 1 + (head.fdiv 36).fmod 3, 1 + (head.fdiv 108).fmod 2]).length ≤ 3 ∧
    ∀ z ∈ List.take (1 + (head.fdiv 4).fmod 3).toNat [1 + (head.fdiv 12).fmod 3, 1 + (head.fdiv 36).fmod 3, 1 + (head.fdiv 108).fmod 2], 1 ≤ z ∧ z ≤ 3 := by
  have h1 := fmod_lt (head.fdiv 4) (m := 3) (by decide)
  have h2 := fmod_lt (head.fdiv 12) (m := 3) (by decide)
  have h3 := fmod_lt (head.fdiv 36) (m := 3) (by decide)
  have h4 := fmod_lt (head.fdiv 108) (m := 2) (by decide)
  refine ⟨?_, ?_, fun z hz => ?_⟩
  · rw [List.length_take]; simp only [List.length_cons, List.length_nil]; omega
  · rw [List.length_take]; simp only [List.length_cons, List.length_nil]; omega
  · have := List.mem_of_mem_take hz
    simp only [List.mem_cons, List.not_mem_nil, or_false] at this
    omega
set_option maxRecDepth 100000 in
set_option maxHeartbeats 8000000 in
theorem sizes_spec {w : World} {mean : ExcName → Option Value} {mg mb : Str → Option Value} (head : Int) (h0 : 0 ≤ head) (h1 : head < 10 ^ 9) {t1 : Tok} {news : List (Addr × Obj)} :
    Tel w mean mg mb 136 1 [.int head t1] news sizesOut := by
  unfold Tel
  k_fill
  k_with_none
  w_top off
  intro dp un gd cn cs a ccd cl outer A₀ base h₀ L m s Q E B F X N T hk hd hu hret
  refine wpAny_call ?_
  k_dflt (walk_at "my enter")
  rename_i g L1 h1 FG F1 N1 B1 X1 T1 G1
  k_steps
  · rename News h₀ _ _ _ => N9
    rename Fr h₀ _ _ _ => F9
    rename News g L1 _ _ => N8
    rename Fr g L1 _ _ => F8
    rename ∀ p ∈ news, p.1 < _ => l1
    refine hret _ [(_, _)] _ _ F9 (fun p hp => N9 p (one_back hp)) (stays_end G1 N F8 N8 (fun p hp => .tail _ hp)) (fun q hq p hp => by rw [List.mem_singleton.mp hp]; exact l1 q hq) ⟨_, [_], 0, [0], rfl, .head _, .cons _ _ .nil, .inl rfl⟩
  · rename News h₀ _ _ _ => N9
    rename Fr h₀ _ _ _ => F9
    rename News g L1 _ _ => N8
    rename Fr g L1 _ _ => F8
    rename IntsAre _ _ => hI
    rename _ ∧ AllLt _ news => l1
    refine hret _ [(_, _)] _ _ F9 (fun p hp => N9 p (two_back hp)) (stays_end G1 N F8 N8 (fun p hp => .tail _ (.tail _ hp))) (fun q hq p hp => by rw [List.mem_singleton.mp hp]; exact ktn_ltOf l1.2 q hq) ⟨_, _, 0, _, rfl, .head _, hI, .inr (sizes_take head)⟩
end Mine
end
section
open PySem PySem.W PySem.Calls PyProof.Rows
namespace Mine
/-- the ground of a block's element: what the frame's ledger holds stands in the block's ledger -/
theorem elt_open2 {s : Shared} {C L : Addr} {m m₁ : Str → Option Value} {goal : Prop} {K : Frag} {p : Program} {loose : List Str} {mean : ExcName → Option Value} {mg mb : Str → Option Value} {g : Heap} {nx : List (Addr × Obj)}
    (hn : s.heap.Ns C m) (X : K.In g) (T : Top p loose mean mg mb g) (F : Fr g L s.heap m₁) (N : News g L s.heap nx) (hLC : L < C) (hnC : ∀ q ∈ nx, q.1 < C)
    (h : ∀ (g' : Heap) (yg : List (Addr × Obj)), Fr g' C s.heap m → News g' C s.heap (nx ++ yg) → K.In g' → Top p loose mean mg mb g' →
      (∀ h9, (∀ b o, g'.get? b = some o → h9.get? b = some o) → Fr g L h9 m₁) →
      (∀ h9 tk9 ny, Fr g' C h9 m → News g' C h9 ny → (∀ p ∈ nx ++ yg, p ∈ ny) → KeepsC C m s { s with heap := h9, toks := tk9 }) →
      (∀ h9 nz, News g' C h9 nz → News g L h9 nz) → goal) : goal := by
  have nm : ∀ b o, g.get? b = some o → b ∉ nx.map (·.1) := fun b o e q => by
    obtain ⟨p, hp, rfl⟩ := List.mem_map.mp q
    rw [(N p hp).2.2] at e; cases e
  have hgC : g.objs.size ≤ C := Nat.le_trans F.above (Nat.le_of_lt hLC)
  have low : ∀ b o, b < C → b ∉ nx.map (·.1) → s.heap.get? b = some o → (hideAll (cutAt s.heap C) (nx.map (·.1))).get? b = some o := fun b o hb hm e => hideAll_get _ (cut_get hb e) hm
  have sub : ∀ b o, g.get? b = some o → (hideAll (cutAt s.heap C) (nx.map (·.1))).get? b = some o := fun b o e => low b o (Nat.lt_of_lt_of_le (Heap.lt_size e) hgC) (nm b o e) (F.keep b o e)
  have back : ∀ b o, (hideAll (cutAt s.heap C) (nx.map (·.1))).get? b = some o → s.heap.get? b = some o := fun b o e => (of_cut (of_hideAll _ e)).1
  obtain ⟨oL, es, ep, hL, hLd, hLk, hLf⟩ := F.ns
  have nL : L ∉ nx.map (·.1) := fun q => by
    obtain ⟨p, hp, e⟩ := List.mem_map.mp q
    exact (N p hp).2.1 e
  refine h (hideAll (cutAt s.heap C) (nx.map (·.1))) (youngs s.heap C) ⟨hn, back, Nat.le_trans (Nat.le_of_eq (hideAll_size _ _)) (cut_size _ _)⟩ (fun p hp => ?_) (X.keeps sub) (T.keeps sub) (fun h9 k9 => ⟨⟨oL, es, ep, k9 _ _ (low _ _ hLC nL hL), hLd, hLk, hLf⟩, fun b o e => k9 b o (sub b o e), F.above⟩) ?_ (fun h9 nz N9 p hp => ⟨(N9 p hp).1, fun e => ?_, ?_⟩)
  · rcases List.mem_append.mp hp with hp | hp
    · exact ⟨(N p hp).1, Nat.ne_of_lt (hnC p hp), hideAll_none _ (List.mem_map_of_mem hp)⟩
    · obtain ⟨h1, h2⟩ := mem_youngs.mp hp
      refine ⟨h2, Nat.ne_of_gt h1, ?_⟩
      cases q : (hideAll (cutAt s.heap C) (nx.map (·.1))).get? p.1 with
      | none => rfl
      | some o => exact absurd (of_cut (of_hideAll _ q)).2 (Nat.not_lt.mpr (Nat.le_of_lt h1))
  · intro h9 tk9 ny F9 N9 hs
    refine ⟨h9, tk9, rfl, fun b o hb e => ?_, F9.ns⟩
    rcases Nat.lt_trichotomy b C with h1 | h1 | h1
    · by_cases hm : b ∈ nx.map (·.1)
      · obtain ⟨p, hp, rfl⟩ := List.mem_map.mp hm
        have e1 := (N p hp).1
        rw [e] at e1
        cases e1
        exact (N9 p (hs _ (List.mem_append.mpr (.inl hp)))).1
      · exact F9.keep b o (low b o h1 hm e)
    · exact absurd h1 hb
    · exact (N9 (b, o) (hs _ (List.mem_append.mpr (.inr (mem_youngs.mpr ⟨h1, e⟩))))).1
  · have := (N9 p hp).2.2
    rw [e, low _ _ hLC nL hL] at this; cases this
  · cases q : g.get? p.1 with
    | none => rfl
    | some o => have := (N9 p hp).2.2; rw [sub _ _ q] at this; cases this
theorem news_nil {h₀ h : Heap} {L : Addr} : News h₀ L h [] := fun _ hp => nomatch hp
end Mine
end
section
open PySem PySem.W PySem.Calls PyProof.Rows
namespace Mine
local macro_rules | `(tactic| walk_at "my cells") => `(tactic| (refine' code_cells ?k1 ?k2 ?k3 ?k4 ?k5 ?kA ?kF ?kK ?k6 ?k7 ?k8 ?k9 ?kB ?kD ?_ ?c2 ?c3 ?c4; (case kA => exact rfl); (case kF => exact rfl); (case kK => assumption); (case k1 => k_asm); (case k2 => k_asm); (case k3 => k_asm); (case k4 => k_asm); (case k5 => k_asm); (case k6 => k_is); (case k7 => k_is); (case k8 => ktr_room); (case k9 => exact BindsTo.of_eq rfl); (case kB => exact rfl); (case kD => decide +kernel); (case c2 => exact rfl); (case c3 => exact rfl); (case c4 => exact rfl); k_whole; intro g' L' h' tk' cells' FG' F' N' Y' B' X' T' G1 l1; (try k_lt l1); k_cells Y'; (try simp only [List.cons_append, List.nil_append] at N'); (try dsimp only); (try k_fold)))
local macro_rules | `(tactic| walk_at "eval ListComp") => `(tactic| (refine Held.out ?_))
local macro_rules | `(tactic| walk_at "pyIter ref") => `(tactic| ((with_reducible show wpAny _ _ (pyIter _) (SrcSays _ _ _ _ _ _ _ _ _) _ _); refine Held.out ?_))
structure Draws (ns : List Int) : Prop where
  lo : 3 ≤ ns.length
  hi : ns.length ≤ 20
  range : ∀ n ∈ ns, 0 ≤ n ∧ n < 10 ^ 9
def leafsOut (kind : Int) (tl : List (Addr × Obj)) (r : Value) : Prop := ∃ (a : Addr) (its : List Value) (n : Nat) (ds : List PV), r = .ref a ∧ (a, W.listOf its.toArray n) ∈ tl ∧ PV.Ats [] ds its ∧ (∀ d ∈ ds, Leaf kind d) ∧ ds.length ≤ 27
theorem sizes_cases {zs : List Int} {sits : List Value} (hzs : Sizes zs) (h : IntsAre sits zs) : (∃ t, sits = [.int 0 t] ∧ zs = [0]) ∨ (∃ z t, sits = [.int z t] ∧ 1 ≤ z ∧ z ≤ 3) ∨ (∃ z y t u, sits = [.int z t, .int y u] ∧ 1 ≤ z ∧ z ≤ 3 ∧ 1 ≤ y ∧ y ≤ 3) ∨
      (∃ z y x t u v, sits = [.int z t, .int y u, .int x v] ∧ 1 ≤ z ∧ z ≤ 3 ∧ 1 ≤ y ∧ y ≤ 3 ∧ 1 ≤ x ∧ x ≤ 3) := by
  rcases hzs with rfl | ⟨h1, h3, hall⟩
  · cases h with
    | cons _ t h => cases h with | nil => exact .inl ⟨_, rfl, rfl⟩
  · cases h with
    | nil => simp at h1
    | cons _ t h =>
      have a1 := hall _ (.head _)
      cases h with
      | nil => exact .inr (.inl ⟨_, _, rfl, a1⟩)
      | cons _ u h =>
        have a2 := hall _ (.tail _ (.head _))
        cases h with
        | nil => exact .inr (.inr (.inl ⟨_, _, _, _, rfl, a1.1, a1.2, a2⟩))
        | cons _ v h =>
          have a3 := hall _ (.tail _ (.tail _ (.head _)))
          cases h with
          | nil => exact .inr (.inr (.inr ⟨_, _, _, _, _, _, rfl, a1.1, a1.2, a2.1, a2.2, a3⟩))
          | cons _ w h => simp at h3
theorem drop_draws {ns : List Int} (h : Draws ns) : 2 ≤ (ns.drop 1).length ∧ (ns.drop 1).length ≤ 20 ∧ ∀ n ∈ ns.drop 1, 0 ≤ n ∧ n < 10 ^ 9 := by
  have h1 := h.lo
  have h2 := h.hi
  exact ⟨by rw [List.length_drop]; omega, by rw [List.length_drop]; omega, fun n hn => h.range n (List.mem_of_mem_drop hn)⟩
theorem div_one (i n : Nat) : 1 ≤ 1 + (i : Int).fdiv (n : Int) ∧ 1 + (i : Int).fdiv (n : Int) ≤ 1 + i := by
  rw [Int.fdiv_eq_ediv_of_nonneg _ (Int.natCast_nonneg n)]
  have h1 : (0 : Int) ≤ (i : Int) / (n : Int) := Int.ediv_nonneg (Int.natCast_nonneg i) (Int.natCast_nonneg n)
  have h2 : (i : Int) / (n : Int) ≤ i := Int.ediv_le_self _ (Int.natCast_nonneg i)
  omega
theorem draw_at {ns : List Int} {i : Nat} (h : ∀ n ∈ ns, 0 ≤ n ∧ n < 10 ^ 9) : 0 ≤ ns.getD i 0 ∧ ns.getD i 0 < 10 ^ 9 := by
  rw [List.getD_eq_getElem?_getD]
  cases e : ns[i]? with
  | none => decide
  | some n => exact h n (List.mem_of_getElem? e)
theorem fdiv_range {a d : Int} (h : 0 ≤ a ∧ a < 10 ^ 9) (hd : 1 ≤ d) : 0 ≤ a.fdiv d ∧ a.fdiv d < 10 ^ 9 := by
  rw [Int.fdiv_eq_ediv_of_nonneg _ (by omega)]
  exact ⟨Int.ediv_nonneg h.1 (by omega), Int.lt_of_le_of_lt (Int.ediv_le_self _ h.1) h.2⟩
theorem leaves_of {k : Int} : ∀ {ys : List Value}, (∀ y ∈ ys, ∃ d, Leaf k d ∧ d.At [] y) → ∃ ds : List PV, PV.Ats [] ds ys ∧ (∀ d ∈ ds, Leaf k d) ∧ ds.length = ys.length
  | [], _ => ⟨[], by unfold PV.Ats; rfl, (fun _ h => nomatch h), rfl⟩
  | y :: r, h => by
    obtain ⟨d, h1, h2⟩ := h y (.head _)
    obtain ⟨ds, a1, a2, a3⟩ := leaves_of (k := k) (ys := r) fun z hz => h z (.tail _ hz)
    refine ⟨d :: ds, ?_, fun e he => ?_, by simp [a3]⟩
    · unfold PV.Ats
      exact ⟨y, r, rfl, h2, a1⟩
    · rcases List.mem_cons.mp he with rfl | he
      · exact h1
      · exact a2 e he
theorem new_list {g h h' : Heap} {L Dl : Addr} {m : Str → Option Value} {nx : List (Addr × Obj)} {ys : List Value} (F : Fr g L h m) (N : News g L h nx) (hD : h.objs.size ≤ Dl) (hpl : h'.PlainList Dl ys.toArray) (hk : ∀ b o, h.get? b = some o → h'.get? b = some o) :
    ∃ kk, News g L h' ((Dl, W.listOf ys.toArray kk) :: nx) := by
  obtain ⟨kk, e⟩ := hpl
  refine ⟨kk, fun p hp => ?_⟩
  rcases List.mem_cons.mp hp with rfl | hp
  · refine ⟨e, Nat.ne_of_gt (Nat.lt_of_lt_of_le F.ns.lt hD), ?_⟩
    cases q : g.get? Dl with
    | none => rfl
    | some o => exact absurd (Heap.lt_size (F.keep _ _ q)) (Nat.not_lt.mpr hD)
  · exact ⟨hk _ _ (N p hp).1, (N p hp).2⟩
theorem five_back {x a b c d p : Addr × Obj} {news : List (Addr × Obj)} (h : p ∈ news ++ [x]) : p ∈ x :: a :: b :: c :: d :: news := by
  rcases List.mem_append.mp h with h | h
  · exact .tail _ (.tail _ (.tail _ (.tail _ (.tail _ h))))
  · rw [List.mem_singleton.mp h]; exact .head _
theorem prod2 {z y : Int} (h : 1 ≤ z ∧ z ≤ 3 ∧ 1 ≤ y ∧ y ≤ 3) : 0 ≤ 1 * z * y ∧ 1 * z * y ≤ 27 := by
  have hz : z = 1 ∨ z = 2 ∨ z = 3 := by omega
  have hy : y = 1 ∨ y = 2 ∨ y = 3 := by omega
  rcases hz with rfl | rfl | rfl <;> rcases hy with rfl | rfl | rfl <;> decide
theorem prod3 {z y x : Int} (h : 1 ≤ z ∧ z ≤ 3 ∧ 1 ≤ y ∧ y ≤ 3 ∧ 1 ≤ x ∧ x ≤ 3) : 0 ≤ 1 * z * y * x ∧ 1 * z * y * x ≤ 27 := by
  have hz : z = 1 ∨ z = 2 ∨ z = 3 := by omega
  have hy : y = 1 ∨ y = 2 ∨ y = 3 := by omega
  have hx : x = 1 ∨ x = 2 ∨ x = 3 := by omega
  rcases hz with rfl | rfl | rfl <;> rcases hy with rfl | rfl | rfl <;> rcases hx with rfl | rfl | rfl <;> decide
set_option maxRecDepth 100000 in
set_option maxHeartbeats 8000000 in
theorem flat_spec {w : World} {mean : ExcName → Option Value} {mg mb : Str → Option Value} (ns zs : List Int) (hns : Draws ns) (hzs : Sizes zs) (kind : Int) (hk0 : 0 ≤ kind) (hk3 : kind ≤ 3) {na sa : Addr} {nits sits : List Value} {nn sn : Nat} {t1 : Tok} {news : List (Addr × Obj)}
    (hNi : IntsAre nits ns) (hSi : IntsAre sits zs) :
    Tel w mean mg mb 141 5 [.ref na, .int kind t1, .ref sa] ((na, W.listOf nits.toArray nn) :: (sa, W.listOf sits.toArray sn) :: news) (leafsOut kind) := by
  have hcases : (∃ t, sits = [.int 0 t] ∧ zs = [0]) ∨ (∃ z t, sits = [.int z t] ∧ 1 ≤ z ∧ z ≤ 3) ∨ (∃ z y t u, sits = [.int z t, .int y u] ∧ 1 ≤ z ∧ z ≤ 3 ∧ 1 ≤ y ∧ y ≤ 3) ∨
      (∃ z y x t u v, sits = [.int z t, .int y u, .int x v] ∧ 1 ≤ z ∧ z ≤ 3 ∧ 1 ≤ y ∧ y ≤ 3 ∧ 1 ≤ x ∧ x ≤ 3) := sizes_cases hzs hSi
  have hws := drop_draws hns
  obtain ⟨t, rfl, _⟩ | ⟨z, t, rfl, hz⟩ | ⟨z, y, t, u, rfl, hz⟩ | ⟨z, y, x, t, u, v, rfl, hz⟩ := hcases
  · have hM : 0 ≤ 1 * (0 : Int) ∧ 1 * (0 : Int) ≤ 27 := by decide
    unfold Tel
    k_fill
    k_with_none
    w_top off
    intro dp un gd cn cs a ccd cl outer A₀ base h₀ L m s Q E B F X N T hk hd hu hret
    refine wpAny_call ?_
    k_dflt (walk_at "my cells")
    rename_i g L1 h2 tk2 FG F2 B1 X1 T1 G1 hL1 oc2 oc1 hoc2 hoc1 N2
    have hL3 : ∀ p ∈ news, p.1 < L1 + 1 := fun p hp => Nat.lt_succ_of_lt (ktn_ltOf hL1.2.2 p hp)
    have hL2 : ∀ p ∈ news, p.1 < L1 + 1 + 1 := fun p hp => Nat.lt_succ_of_lt (hL3 p hp)
    have hlen1 : ns.length ≤ 1048576 := by have := hns.hi; omega
    replace hoc1 : oc1.data = .cell (some (.int kind t1)) := by rw [hoc1]; with_unfolding_all rfl
    k_steps
    refine Held.into ?_
    rename Fr g _ _ _ => F3
    rename News g _ _ _ => N3
    with_unfolding_all refine' comp_exprW (fun i tl y => ∃ d, Leaf kind d ∧ d.At [] y) ?hclos ?hcell ?hkind ?hnames ?hx ?hs ?hh
    case hclos => rfl
    case hcell => decide
    case hkind => rfl
    case hnames => decide
    case hx => rfl
    case hs => intro x; rfl
    case hh =>
      k_steps
      rename IsRange _ _ _ _ _ _ _ _ => hr
      rename Fr g _ _ _ => F4
      rename News g _ _ _ => N4
      rename IntsAre _ (ns.drop 1) => hWi
      rename _ = Data.cell (some (Value.ref _)) => hoc2
      with_unfolding_all refine' range_says (R := fun i tl y => ∃ d, Leaf kind d ∧ d.At [] y) ?r1 ?r2 ?r3 ?r4 (fun _ _ _ _ _ h => h) ?r5 ?r6
      case r1 => rfl
      case r2 => exact hr
      case r3 => exact hM.1
      case r4 => exact Int.le_trans hM.2 (by decide)
      case r5 =>
        intro C i tv s₃ m₃ E' hC hi hns3 hm hk9
        have F5 := Fr.keeps F4 hk9
        have N5 := News.grown N4 hk9
        refine elt_open2 hns3 X1 T1 F5 N5 (Nat.lt_trans F4.ns.lt hC) (fun q hq => Nat.lt_trans (Heap.lt_size (N4 q hq).1) hC) ?_
        intro g' yg Fc Nc Xc Tc toL fin _
        simp only [List.cons_append] at Nc
        clear F5 N5 F4 N4
        have hdv := div_one i (ns.drop 1).length
        have hgv := draw_at (ns := ns.drop 1) (i := ((i : Int).fmod ((ns.drop 1).length : Int)).toNat) hws.2.2
        k_with "eval Name" => (first
          | (k_dflt (refine' wpAny_Name (wpAny_loadName_cell ?a ?b ?c ⟨_, News.get ?n ?k, hoc1⟩ ?_) ?e; (case a => exact rfl); (case b => with_unfolding_all exact rfl); (case c => with_unfolding_all exact rfl); (case e => exact rfl); (case n => assumption); (case k => k_mem)))
          | (k_dflt (refine' wpAny_Name (wpAny_loadName_cell ?a ?b ?c ⟨_, News.get ?n ?k, hoc2⟩ ?_) ?e; (case a => exact rfl); (case b => with_unfolding_all exact rfl); (case c => with_unfolding_all exact rfl); (case e => exact rfl); (case n => assumption); (case k => k_mem)))
          | (k_dflt (refine' wpAny_Name (wpAny_loadName_local ?a ?b (Fr.ns ?f) hm ?_) ?e; (case a => exact rfl); (case b => with_unfolding_all exact rfl); (case e => exact rfl); (case f => assumption))))
        k_steps
        rename Fr g' C _ _ => F8
        rename News g' C _ _ => N8
        have hq := fdiv_range hgv hdv.1
        k_dflt (refine' Tel.use (worth_spec kind _ hk0 hk3 hq.1 hq.2) (news := []) ?z1 (toL _ F8.keep) X1 news_nil T1 ?zK ?zd ?zu ?_; (case z1 => k_asm); (case zK => exact rfl); (case zd => ktr_room); (case zu => ktr_units))
        intro r tl h9 tk9 F9 N9 hs9 ho9 hout9
        obtain ⟨_, d, hleaf, hat⟩ := hout9
        exact .plain ⟨d, hleaf, hat⟩ (fin _ _ _ (Fr.keeps F8 hs9) (News.grown N8 hs9) (fun p hp => hp))
      case r6 =>
        intro Dl h' tk ys tl hDl hpl hyl htl hR hk9
        obtain ⟨ds, hds, hlf, hdl⟩ := leaves_of (k := kind) (ys := ys) (fun y hy => by
          obtain ⟨j, hj⟩ := List.getElem?_of_mem hy
          exact hR j y hj)
        have N5 := new_list F4 N4 hDl hpl hk9
        have F5 := Fr.keeps F4 hk9
        have hlt : ∀ q ∈ ((na, W.listOf nits.toArray nn) :: (sa, _) :: news : List (Addr × Obj)), q.1 < Dl := fun q hq => Nat.lt_of_lt_of_le (Heap.lt_size (N4 q (.tail _ (.tail _ (.tail _ (.tail _ hq))))).1) hDl
        obtain ⟨kk, N5⟩ := N5
        clear F4 N4 hk9 hR htl
        k_steps
        rename News h₀ _ _ _ => N9
        rename Fr h₀ _ _ _ => F9
        exact hret _ [(Dl, W.listOf ys.toArray kk)] _ _ F9 (fun p hp => N9 p (five_back hp)) (stays_end G1 N F5 N5 (fun p hp => .tail _ (.tail _ (.tail _ (.tail _ (.tail _ hp)))))) (fun q hq p hp => by rw [List.mem_singleton.mp hp]; exact hlt q hq)
          ⟨Dl, ys, kk, ds, rfl, .head _, hds, hlf, by have h27 := hM.2; rw [← hyl] at h27; rw [hdl]; omega⟩
  · have hM : 0 ≤ 1 * z ∧ 1 * z ≤ 27 := by omega
    unfold Tel
    k_fill
    k_with_none
    intro dp un gd cn cs a ccd cl outer A₀ base h₀ L m s Q E B F X N T hk hd hu hret
    refine wpAny_call ?_
    k_dflt (walk_at "my cells")
    rename_i g L1 h2 tk2 FG F2 B1 X1 T1 G1 hL1 oc2 oc1 hoc2 hoc1 N2
    have hL3 : ∀ p ∈ news, p.1 < L1 + 1 := fun p hp => Nat.lt_succ_of_lt (ktn_ltOf hL1.2.2 p hp)
    have hL2 : ∀ p ∈ news, p.1 < L1 + 1 + 1 := fun p hp => Nat.lt_succ_of_lt (hL3 p hp)
    have hlen1 : ns.length ≤ 1048576 := by have := hns.hi; omega
    replace hoc1 : oc1.data = .cell (some (.int kind t1)) := by rw [hoc1]; with_unfolding_all rfl
    k_steps
    refine Held.into ?_
    rename Fr g _ _ _ => F3
    rename News g _ _ _ => N3
    with_unfolding_all refine' comp_exprW (fun i tl y => ∃ d, Leaf kind d ∧ d.At [] y) ?hclos ?hcell ?hkind ?hnames ?hx ?hs ?hh
    case hclos => rfl
    case hcell => decide
    case hkind => rfl
    case hnames => decide
    case hx => rfl
    case hs => intro x; rfl
    case hh =>
      k_steps
      rename IsRange _ _ _ _ _ _ _ _ => hr
      rename Fr g _ _ _ => F4
      rename News g _ _ _ => N4
      rename IntsAre _ (ns.drop 1) => hWi
      rename _ = Data.cell (some (Value.ref _)) => hoc2
      with_unfolding_all refine' range_says (R := fun i tl y => ∃ d, Leaf kind d ∧ d.At [] y) ?r1 ?r2 ?r3 ?r4 (fun _ _ _ _ _ h => h) ?r5 ?r6
      case r1 => rfl
      case r2 => exact hr
      case r3 => exact hM.1
      case r4 => exact Int.le_trans hM.2 (by decide)
      case r5 =>
        intro C i tv s₃ m₃ E' hC hi hns3 hm hk9
        have F5 := Fr.keeps F4 hk9
        have N5 := News.grown N4 hk9
        refine elt_open2 hns3 X1 T1 F5 N5 (Nat.lt_trans F4.ns.lt hC) (fun q hq => Nat.lt_trans (Heap.lt_size (N4 q hq).1) hC) ?_
        intro g' yg Fc Nc Xc Tc toL fin _
        simp only [List.cons_append] at Nc
        clear F5 N5 F4 N4
        have hdv := div_one i (ns.drop 1).length
        have hgv := draw_at (ns := ns.drop 1) (i := ((i : Int).fmod ((ns.drop 1).length : Int)).toNat) hws.2.2
        k_with "eval Name" => (first
          | (k_dflt (refine' wpAny_Name (wpAny_loadName_cell ?a ?b ?c ⟨_, News.get ?n ?k, hoc1⟩ ?_) ?e; (case a => exact rfl); (case b => with_unfolding_all exact rfl); (case c => with_unfolding_all exact rfl); (case e => exact rfl); (case n => assumption); (case k => k_mem)))
          | (k_dflt (refine' wpAny_Name (wpAny_loadName_cell ?a ?b ?c ⟨_, News.get ?n ?k, hoc2⟩ ?_) ?e; (case a => exact rfl); (case b => with_unfolding_all exact rfl); (case c => with_unfolding_all exact rfl); (case e => exact rfl); (case n => assumption); (case k => k_mem)))
          | (k_dflt (refine' wpAny_Name (wpAny_loadName_local ?a ?b (Fr.ns ?f) hm ?_) ?e; (case a => exact rfl); (case b => with_unfolding_all exact rfl); (case e => exact rfl); (case f => assumption))))
        k_steps
        rename Fr g' C _ _ => F8
        rename News g' C _ _ => N8
        have hq := fdiv_range hgv hdv.1
        k_dflt (refine' Tel.use (worth_spec kind _ hk0 hk3 hq.1 hq.2) (news := []) ?z1 (toL _ F8.keep) X1 news_nil T1 ?zK ?zd ?zu ?_; (case z1 => k_asm); (case zK => exact rfl); (case zd => ktr_room); (case zu => ktr_units))
        intro r tl h9 tk9 F9 N9 hs9 ho9 hout9
        obtain ⟨_, d, hleaf, hat⟩ := hout9
        exact .plain ⟨d, hleaf, hat⟩ (fin _ _ _ (Fr.keeps F8 hs9) (News.grown N8 hs9) (fun p hp => hp))
      case r6 =>
        intro Dl h' tk ys tl hDl hpl hyl htl hR hk9
        obtain ⟨ds, hds, hlf, hdl⟩ := leaves_of (k := kind) (ys := ys) (fun y hy => by
          obtain ⟨j, hj⟩ := List.getElem?_of_mem hy
          exact hR j y hj)
        have N5 := new_list F4 N4 hDl hpl hk9
        have F5 := Fr.keeps F4 hk9
        have hlt : ∀ q ∈ ((na, W.listOf nits.toArray nn) :: (sa, _) :: news : List (Addr × Obj)), q.1 < Dl := fun q hq => Nat.lt_of_lt_of_le (Heap.lt_size (N4 q (.tail _ (.tail _ (.tail _ (.tail _ hq))))).1) hDl
        obtain ⟨kk, N5⟩ := N5
        clear F4 N4 hk9 hR htl
        k_steps
        rename News h₀ _ _ _ => N9
        rename Fr h₀ _ _ _ => F9
        exact hret _ [(Dl, W.listOf ys.toArray kk)] _ _ F9 (fun p hp => N9 p (five_back hp)) (stays_end G1 N F5 N5 (fun p hp => .tail _ (.tail _ (.tail _ (.tail _ (.tail _ hp)))))) (fun q hq p hp => by rw [List.mem_singleton.mp hp]; exact hlt q hq)
          ⟨Dl, ys, kk, ds, rfl, .head _, hds, hlf, by have h27 := hM.2; rw [← hyl] at h27; rw [hdl]; omega⟩
  · have hM : 0 ≤ 1 * z * y ∧ 1 * z * y ≤ 27 := prod2 hz
    unfold Tel
    k_fill
    k_with_none
    intro dp un gd cn cs a ccd cl outer A₀ base h₀ L m s Q E B F X N T hk hd hu hret
    refine wpAny_call ?_
    k_dflt (walk_at "my cells")
    rename_i g L1 h2 tk2 FG F2 B1 X1 T1 G1 hL1 oc2 oc1 hoc2 hoc1 N2
    have hL3 : ∀ p ∈ news, p.1 < L1 + 1 := fun p hp => Nat.lt_succ_of_lt (ktn_ltOf hL1.2.2 p hp)
    have hL2 : ∀ p ∈ news, p.1 < L1 + 1 + 1 := fun p hp => Nat.lt_succ_of_lt (hL3 p hp)
    have hlen1 : ns.length ≤ 1048576 := by have := hns.hi; omega
    replace hoc1 : oc1.data = .cell (some (.int kind t1)) := by rw [hoc1]; with_unfolding_all rfl
    k_steps
    refine Held.into ?_
    rename Fr g _ _ _ => F3
    rename News g _ _ _ => N3
    with_unfolding_all refine' comp_exprW (fun i tl y => ∃ d, Leaf kind d ∧ d.At [] y) ?hclos ?hcell ?hkind ?hnames ?hx ?hs ?hh
    case hclos => rfl
    case hcell => decide
    case hkind => rfl
    case hnames => decide
    case hx => rfl
    case hs => intro x; rfl
    case hh =>
      k_steps
      rename IsRange _ _ _ _ _ _ _ _ => hr
      rename Fr g _ _ _ => F4
      rename News g _ _ _ => N4
      rename IntsAre _ (ns.drop 1) => hWi
      rename _ = Data.cell (some (Value.ref _)) => hoc2
      with_unfolding_all refine' range_says (R := fun i tl y => ∃ d, Leaf kind d ∧ d.At [] y) ?r1 ?r2 ?r3 ?r4 (fun _ _ _ _ _ h => h) ?r5 ?r6
      case r1 => rfl
      case r2 => exact hr
      case r3 => exact hM.1
      case r4 => exact Int.le_trans hM.2 (by decide)
      case r5 =>
        intro C i tv s₃ m₃ E' hC hi hns3 hm hk9
        have F5 := Fr.keeps F4 hk9
        have N5 := News.grown N4 hk9
        refine elt_open2 hns3 X1 T1 F5 N5 (Nat.lt_trans F4.ns.lt hC) (fun q hq => Nat.lt_trans (Heap.lt_size (N4 q hq).1) hC) ?_
        intro g' yg Fc Nc Xc Tc toL fin _
        simp only [List.cons_append] at Nc
        clear F5 N5 F4 N4
        have hdv := div_one i (ns.drop 1).length
        have hgv := draw_at (ns := ns.drop 1) (i := ((i : Int).fmod ((ns.drop 1).length : Int)).toNat) hws.2.2
        k_with "eval Name" => (first
          | (k_dflt (refine' wpAny_Name (wpAny_loadName_cell ?a ?b ?c ⟨_, News.get ?n ?k, hoc1⟩ ?_) ?e; (case a => exact rfl); (case b => with_unfolding_all exact rfl); (case c => with_unfolding_all exact rfl); (case e => exact rfl); (case n => assumption); (case k => k_mem)))
          | (k_dflt (refine' wpAny_Name (wpAny_loadName_cell ?a ?b ?c ⟨_, News.get ?n ?k, hoc2⟩ ?_) ?e; (case a => exact rfl); (case b => with_unfolding_all exact rfl); (case c => with_unfolding_all exact rfl); (case e => exact rfl); (case n => assumption); (case k => k_mem)))
          | (k_dflt (refine' wpAny_Name (wpAny_loadName_local ?a ?b (Fr.ns ?f) hm ?_) ?e; (case a => exact rfl); (case b => with_unfolding_all exact rfl); (case e => exact rfl); (case f => assumption))))
        k_steps
        rename Fr g' C _ _ => F8
        rename News g' C _ _ => N8
        have hq := fdiv_range hgv hdv.1
        k_dflt (refine' Tel.use (worth_spec kind _ hk0 hk3 hq.1 hq.2) (news := []) ?z1 (toL _ F8.keep) X1 news_nil T1 ?zK ?zd ?zu ?_; (case z1 => k_asm); (case zK => exact rfl); (case zd => ktr_room); (case zu => ktr_units))
        intro r tl h9 tk9 F9 N9 hs9 ho9 hout9
        obtain ⟨_, d, hleaf, hat⟩ := hout9
        exact .plain ⟨d, hleaf, hat⟩ (fin _ _ _ (Fr.keeps F8 hs9) (News.grown N8 hs9) (fun p hp => hp))
      case r6 =>
        intro Dl h' tk ys tl hDl hpl hyl htl hR hk9
        obtain ⟨ds, hds, hlf, hdl⟩ := leaves_of (k := kind) (ys := ys) (fun y hy => by
          obtain ⟨j, hj⟩ := List.getElem?_of_mem hy
          exact hR j y hj)
        have N5 := new_list F4 N4 hDl hpl hk9
        have F5 := Fr.keeps F4 hk9
        have hlt : ∀ q ∈ ((na, W.listOf nits.toArray nn) :: (sa, _) :: news : List (Addr × Obj)), q.1 < Dl := fun q hq => Nat.lt_of_lt_of_le (Heap.lt_size (N4 q (.tail _ (.tail _ (.tail _ (.tail _ hq))))).1) hDl
        obtain ⟨kk, N5⟩ := N5
        clear F4 N4 hk9 hR htl
        k_steps
        rename News h₀ _ _ _ => N9
        rename Fr h₀ _ _ _ => F9
        exact hret _ [(Dl, W.listOf ys.toArray kk)] _ _ F9 (fun p hp => N9 p (five_back hp)) (stays_end G1 N F5 N5 (fun p hp => .tail _ (.tail _ (.tail _ (.tail _ (.tail _ hp)))))) (fun q hq p hp => by rw [List.mem_singleton.mp hp]; exact hlt q hq)
          ⟨Dl, ys, kk, ds, rfl, .head _, hds, hlf, by have h27 := hM.2; rw [← hyl] at h27; rw [hdl]; omega⟩
  · have hM : 0 ≤ 1 * z * y * x ∧ 1 * z * y * x ≤ 27 := prod3 hz
    unfold Tel
    k_fill
    k_with_none
    intro dp un gd cn cs a ccd cl outer A₀ base h₀ L m s Q E B F X N T hk hd hu hret
    refine wpAny_call ?_
    k_dflt (walk_at "my cells")
    rename_i g L1 h2 tk2 FG F2 B1 X1 T1 G1 hL1 oc2 oc1 hoc2 hoc1 N2
    have hL3 : ∀ p ∈ news, p.1 < L1 + 1 := fun p hp => Nat.lt_succ_of_lt (ktn_ltOf hL1.2.2 p hp)
    have hL2 : ∀ p ∈ news, p.1 < L1 + 1 + 1 := fun p hp => Nat.lt_succ_of_lt (hL3 p hp)
    have hlen1 : ns.length ≤ 1048576 := by have := hns.hi; omega
    replace hoc1 : oc1.data = .cell (some (.int kind t1)) := by rw [hoc1]; with_unfolding_all rfl
    k_steps
    refine Held.into ?_
    rename Fr g _ _ _ => F3
    rename News g _ _ _ => N3
    with_unfolding_all refine' comp_exprW (fun i tl y => ∃ d, Leaf kind d ∧ d.At [] y) ?hclos ?hcell ?hkind ?hnames ?hx ?hs ?hh
    case hclos => rfl
    case hcell => decide
    case hkind => rfl
    case hnames => decide
    case hx => rfl
    case hs => intro x; rfl
    case hh =>
      k_steps
      rename IsRange _ _ _ _ _ _ _ _ => hr
      rename Fr g _ _ _ => F4
      rename News g _ _ _ => N4
      rename IntsAre _ (ns.drop 1) => hWi
      rename _ = Data.cell (some (Value.ref _)) => hoc2
      with_unfolding_all refine' range_says (R := fun i tl y => ∃ d, Leaf kind d ∧ d.At [] y) ?r1 ?r2 ?r3 ?r4 (fun _ _ _ _ _ h => h) ?r5 ?r6
      case r1 => rfl
      case r2 => exact hr
      case r3 => exact hM.1
      case r4 => exact Int.le_trans hM.2 (by decide)
      case r5 =>
        intro C i tv s₃ m₃ E' hC hi hns3 hm hk9
        have F5 := Fr.keeps F4 hk9
        have N5 := News.grown N4 hk9
        refine elt_open2 hns3 X1 T1 F5 N5 (Nat.lt_trans F4.ns.lt hC) (fun q hq => Nat.lt_trans (Heap.lt_size (N4 q hq).1) hC) ?_
        intro g' yg Fc Nc Xc Tc toL fin _
        simp only [List.cons_append] at Nc
        clear F5 N5 F4 N4
        have hdv := div_one i (ns.drop 1).length
        have hgv := draw_at (ns := ns.drop 1) (i := ((i : Int).fmod ((ns.drop 1).length : Int)).toNat) hws.2.2
        k_with "eval Name" => (first
          | (k_dflt (refine' wpAny_Name (wpAny_loadName_cell ?a ?b ?c ⟨_, News.get ?n ?k, hoc1⟩ ?_) ?e; (case a => exact rfl); (case b => with_unfolding_all exact rfl); (case c => with_unfolding_all exact rfl); (case e => exact rfl); (case n => assumption); (case k => k_mem)))
          | (k_dflt (refine' wpAny_Name (wpAny_loadName_cell ?a ?b ?c ⟨_, News.get ?n ?k, hoc2⟩ ?_) ?e; (case a => exact rfl); (case b => with_unfolding_all exact rfl); (case c => with_unfolding_all exact rfl); (case e => exact rfl); (case n => assumption); (case k => k_mem)))
          | (k_dflt (refine' wpAny_Name (wpAny_loadName_local ?a ?b (Fr.ns ?f) hm ?_) ?e; (case a => exact rfl); (case b => with_unfolding_all exact rfl); (case e => exact rfl); (case f => assumption))))
        k_steps
        rename Fr g' C _ _ => F8
        rename News g' C _ _ => N8
        have hq := fdiv_range hgv hdv.1
        k_dflt (refine' Tel.use (worth_spec kind _ hk0 hk3 hq.1 hq.2) (news := []) ?z1 (toL _ F8.keep) X1 news_nil T1 ?zK ?zd ?zu ?_; (case z1 => k_asm); (case zK => exact rfl); (case zd => ktr_room); (case zu => ktr_units))
        intro r tl h9 tk9 F9 N9 hs9 ho9 hout9
        obtain ⟨_, d, hleaf, hat⟩ := hout9
        exact .plain ⟨d, hleaf, hat⟩ (fin _ _ _ (Fr.keeps F8 hs9) (News.grown N8 hs9) (fun p hp => hp))
      case r6 =>
        intro Dl h' tk ys tl hDl hpl hyl htl hR hk9
        obtain ⟨ds, hds, hlf, hdl⟩ := leaves_of (k := kind) (ys := ys) (fun y hy => by
          obtain ⟨j, hj⟩ := List.getElem?_of_mem hy
          exact hR j y hj)
        have N5 := new_list F4 N4 hDl hpl hk9
        have F5 := Fr.keeps F4 hk9
        have hlt : ∀ q ∈ ((na, W.listOf nits.toArray nn) :: (sa, _) :: news : List (Addr × Obj)), q.1 < Dl := fun q hq => Nat.lt_of_lt_of_le (Heap.lt_size (N4 q (.tail _ (.tail _ (.tail _ (.tail _ hq))))).1) hDl
        obtain ⟨kk, N5⟩ := N5
        clear F4 N4 hk9 hR htl
        k_steps
        rename News h₀ _ _ _ => N9
        rename Fr h₀ _ _ _ => F9
        exact hret _ [(Dl, W.listOf ys.toArray kk)] _ _ F9 (fun p hp => N9 p (five_back hp)) (stays_end G1 N F5 N5 (fun p hp => .tail _ (.tail _ (.tail _ (.tail _ (.tail _ hp)))))) (fun q hq p hp => by rw [List.mem_singleton.mp hp]; exact hlt q hq)
          ⟨Dl, ys, kk, ds, rfl, .head _, hds, hlf, by have h27 := hM.2; rw [← hyl] at h27; rw [hdl]; omega⟩
end Mine
end
section
open PySem PySem.W PySem.Calls PyProof.Rows
namespace Mine
local macro_rules | `(tactic| walk_at "my cells") => `(tactic| (refine' code_cells ?k1 ?k2 ?k3 ?k4 ?k5 ?kA ?kF ?kK ?k6 ?k7 ?k8 ?k9 ?kB ?kD ?_ ?c2 ?c3 ?c4; (case kA => exact rfl); (case kF => exact rfl); (case kK => assumption); (case k1 => k_asm); (case k2 => k_asm); (case k3 => k_asm); (case k4 => k_asm); (case k5 => k_asm); (case k6 => k_is); (case k7 => k_is); (case k8 => ktr_room); (case k9 => exact BindsTo.of_eq rfl); (case kB => exact rfl); (case kD => decide +kernel); (case c2 => exact rfl); (case c3 => exact rfl); (case c4 => exact rfl); k_whole; intro g' L' h' tk' cells' FG' F' N' Y' B' X' T' G1 l1; (try k_lt l1); k_cells Y'; (try simp only [List.cons_append, List.nil_append] at N'); (try dsimp only); (try k_fold)))
local macro_rules | `(tactic| walk_at "eval ListComp") => `(tactic| (refine Held.out ?_))
local macro_rules | `(tactic| walk_at "pyIter ref") => `(tactic| ((with_reducible show wpAny _ _ (pyIter _) (SrcSays _ _ _ _ _ _ _ _ _ _) _ _); refine Held.out ?_))
def Made (k : Int) : Nat → PV → Prop
  | 0, d => Leaf k d
  | n + 1, d => ∃ xs, d = .list xs ∧ xs.length ≤ 27 ∧ ∀ x ∈ xs, Made k n x
def Leaves (k : Int) (its : List Value) : Prop := its.length ≤ 27 ∧ ∀ y ∈ its, ∃ d, Leaf k d ∧ d.At [] y
theorem Leaves.made {k : Int} {its : List Value} (h : Leaves k its) {a : Addr} {n : Nat} {nx : List (Addr × Obj)} (hm : (a, W.listOf its.toArray n) ∈ nx) : ∃ d, Made k 1 d ∧ d.At nx (.ref a) := by
  obtain ⟨ds, h1, h2, h3⟩ := leaves_of h.2
  refine ⟨.list ds, ⟨ds, rfl, by rw [h3]; exact h.1, h2⟩, ?_⟩
  unfold PV.At
  exact ⟨a, its, n, rfl, hm, PV.Ats.mono (fun _ h => absurd h List.not_mem_nil) h1⟩
theorem pick_mem {items : Array Value} {lo hi st : Option Int} {v : Value} (h : v ∈ (slicePick items lo hi st).toList) : v ∈ items.toList := by
  unfold slicePick at h
  simp only [List.mem_filterMap] at h
  obtain ⟨i, _, e⟩ := h
  exact Array.mem_toList_iff.mpr (Array.mem_of_getElem? e)
theorem Leaves.pick {k : Int} {its : List Value} (h : Leaves k its) (lo hi : Option Int) : Leaves k ((slicePick its.toArray lo hi none).toList) := by
  refine ⟨?_, fun y hy => h.2 y (by simpa using pick_mem hy)⟩
  have := slicePick_size_le its.toArray lo hi none
  rw [List.size_toArray] at this
  rw [Array.length_toList]
  exact Nat.le_trans this h.1
def madeOut (k : Int) (dep : Nat) (x : Addr × Obj) (tl : List (Addr × Obj)) (r : Value) : Prop := ∃ d, Made k dep d ∧ d.At (x :: tl) r
def pick (its : List Value) (lo hi : Option Int) : List Value := (slicePick its.toArray lo hi none).toList
section
variable {prog : Program} {w : World} {A : Around} {E : Value → Shared → Prop} {s : Shared} {h₀ : Heap} {L l : Addr} {m : Str → Option Value} {news : List (Addr × Obj)} {value slice : PySem.Expr} {its : List Value} {vl vu : Value} {lo hi : Option Int} {Q : Value → Shared → Prop}
theorem my_slice (F : Fr h₀ L s.heap m) (N : News h₀ L s.heap news) (hl : s.heap.IsList l its.toArray) (pl : IsPart vl lo) (pu : IsPart vu hi)
    (h : ∀ D h', Fr h₀ L h' m → News h₀ L h' ((D, W.listOf (pick its lo hi).toArray 0) :: news) → (∀ p ∈ news, p.1 < D) → L < D → Q (.ref D) { s with heap := h' })
    (hs : subscripted slice false (.ref l) (.ref s.heap.objs.size) = operate [.ref s.heap.objs.size, .ref l] (getItem (.ref l) (.ref s.heap.objs.size))) (ht : ∀ r, letTemporaryGo value (.ref l) r = pure ()) (hz : its.toArray.size ≤ sizeLine) :
    wpAny (model prog w) A (subscriptTail value slice (.ref l) (.ref s.heap.objs.size)) Q E { s with heap := s.heap.push { cls := .type "slice", data := .fields #[vl, vu, .none] } } :=
  slice_list F N hl pl pu (fun h' F' N' => h _ h' F' (by unfold pick; rw [Array.toArray_toList]; exact N') (fun p hp => Nat.lt_succ_of_lt (Heap.lt_size (N p hp).1)) (Nat.lt_succ_of_lt F.ns.lt)) hs ht hz
end
theorem news_two {g h : Heap} {C : Addr} {a b : Addr × Obj} {r : List (Addr × Obj)} (N : News g C h (b :: a :: r)) : News g C h [a, b] := fun p hp => N p (by
  rcases List.mem_cons.mp hp with rfl | hp
  · exact .tail _ (.head _)
  · rw [List.mem_singleton.mp hp]; exact .head _)
local macro_rules | `(tactic| walk_at "subscriptTail Name Slice ref ref") => `(tactic| (k_here; (with_reducible show wpAny _ _ (subscriptTail _ (PySem.Expr.Slice _ (some _) none _) (Value.ref _) (Value.ref _)) _ _ _); k_dflt (refine' my_slice ?F ?N ?l ?p ?q ?_ ?s ?t ?z; (case F => k_asm); (case N => k_asm); (case l => exact News.isList (by k_asm) (by k_mem)); (case p => exact IsPart.int _ _); (case q => exact IsPart.int _ _); (case s => with_unfolding_all rfl); (case t => kmk_pure); (case z => assumption)); intro D' h' F' N' l1 l2; (try k_lt l1)))
set_option maxRecDepth 100000 in
set_option maxHeartbeats 8000000 in
theorem shaped1 {w : World} {mean : ExcName → Option Value} {mg mb : Str → Option Value} (kind : Int) {fa sa : Addr} {its : List Value} {fn sn : Nat} {z : Int} {t : Tok} {news : List (Addr × Obj)} (hl : Leaves kind its) :
    Tel w mean mg mb 129 1 [.ref fa, .ref sa] ((fa, W.listOf its.toArray fn) :: (sa, W.listOf #[.int z t] sn) :: news) (madeOut kind 1 (fa, W.listOf its.toArray fn)) := by
  unfold Tel
  k_fill
  k_with_none
  w_top off
  intro dp un gd cn cs a ccd cl outer A₀ base h₀ L m s Q E B F X N T hk hd hu hret
  refine wpAny_call ?_
  k_dflt (walk_at "my cells")
  k_steps
  · rename News h₀ _ _ _ => N9
    rename Fr h₀ _ _ _ => F9
    rename GSub s.heap _ _ => G1
    exact hret _ [] _ _ F9 (fun p hp => N9 p (by rw [List.append_nil] at hp; exact .tail _ (.tail _ (.tail _ hp)))) (stays_end G1 N (by assumption) (by assumption) (fun p hp => .tail _ (.tail _ (.tail _ hp)))) (fun _ _ _ h => nomatch h) (hl.made (.head _))
local macro_rules | `(tactic| walk_at "call builtin:len") => `(tactic| (k_here; (with_reducible show wpAny _ _ (call (Value.builtin "len") [Value.ref _]) _ _ _); k_dflt (refine' my_len ?k1 ?k2 ?_; (case k1 => exact News.isList (by k_asm) (by k_mem)); (case k2 => (simp only [List.size_toArray, List.length_append, List.length_cons, List.length_nil]; omega)); k_whole); intro _ _; (try simp only [List.size_toArray, List.length_append, List.length_cons, List.length_nil])))
theorem mades_of {k : Int} {n : Nat} {tl : List (Addr × Obj)} : ∀ {ys : List Value}, (∀ y ∈ ys, ∃ d, Made k n d ∧ d.At tl y) → ∃ ds : List PV, PV.Ats tl ds ys ∧ (∀ d ∈ ds, Made k n d) ∧ ds.length = ys.length
  | [], _ => ⟨[], by unfold PV.Ats; rfl, (fun _ h => absurd h List.not_mem_nil), rfl⟩
  | y :: r, h => by
    obtain ⟨d, h1, h2⟩ := h y (.head _)
    obtain ⟨ds, a1, a2, a3⟩ := mades_of (k := k) (n := n) (ys := r) fun z hz => h z (.tail _ hz)
    refine ⟨d :: ds, ?_, fun e he => ?_, by simp [a3]⟩
    · unfold PV.Ats
      exact ⟨y, r, rfl, h2, a1⟩
    · rcases List.mem_cons.mp he with rfl | he
      · exact h1
      · exact a2 e he
theorem with_tl {g h h' : Heap} {L Dl : Addr} {m : Str → Option Value} {nx tl : List (Addr × Obj)} (F : Fr g L h m) (N : News g L h' nx) (hD : h.objs.size ≤ Dl) (htl : ∀ p ∈ tl, Dl < p.1 ∧ h'.get? p.1 = some p.2) : News g L h' (nx ++ tl) := fun p hp => by
  rcases List.mem_append.mp hp with hp | hp
  · exact N p hp
  · obtain ⟨h1, h2⟩ := htl p hp
    have h3 : h.objs.size ≤ p.1 := Nat.le_trans hD (Nat.le_of_lt h1)
    refine ⟨h2, Nat.ne_of_gt (Nat.lt_of_lt_of_le F.ns.lt h3), ?_⟩
    cases q : g.get? p.1 with
    | none => rfl
    | some o => exact absurd (Heap.lt_size (F.keep _ _ q)) (Nat.not_lt.mpr h3)
theorem shape_back {x a b c p f1 f2 : Addr × Obj} {news tl : List (Addr × Obj)} (h : p ∈ (f1 :: f2 :: news) ++ (x :: tl)) : p ∈ x :: a :: b :: c :: f1 :: f2 :: (news ++ tl) := by
  rcases List.mem_append.mp h with h | h
  · rcases List.mem_cons.mp h with rfl | h
    · exact .tail _ (.tail _ (.tail _ (.tail _ (.head _))))
    · rcases List.mem_cons.mp h with rfl | h
      · exact .tail _ (.tail _ (.tail _ (.tail _ (.tail _ (.head _)))))
      · exact .tail _ (.tail _ (.tail _ (.tail _ (.tail _ (.tail _ (List.mem_append.mpr (.inl h)))))))
  · rcases List.mem_cons.mp h with rfl | h
    · exact .head _
    · exact .tail _ (.tail _ (.tail _ (.tail _ (.tail _ (.tail _ (List.mem_append.mpr (.inr h)))))))
theorem shape_sub {x a b c p f1 f2 : Addr × Obj} {news tl : List (Addr × Obj)} (h : p ∈ f1 :: f2 :: news) : p ∈ x :: a :: b :: c :: f1 :: f2 :: (news ++ tl) :=
  shape_back (List.mem_append.mpr (.inl h))
set_option maxRecDepth 100000 in
set_option maxHeartbeats 8000000 in
theorem shaped2 {w : World} {mean : ExcName → Option Value} {mg mb : Str → Option Value} (kind : Int) {fa sa : Addr} {its : List Value} {fn sn : Nat} {z y : Int} {t u : Tok} {news : List (Addr × Obj)} (hl : Leaves kind its) (hz : 1 ≤ z ∧ z ≤ 3) :
    Tel w mean mg mb 129 2 [.ref fa, .ref sa] ((fa, W.listOf its.toArray fn) :: (sa, W.listOf #[.int z t, .int y u] sn) :: news) (madeOut kind 2 (fa, W.listOf its.toArray fn)) := by
  unfold Tel
  k_fill
  k_with_none
  intro dp un gd cn cs a ccd cl outer A₀ base h₀ L m s Q E B F X N T hk hd hu hret
  have hsz : its.toArray.size ≤ sizeLine := by rw [List.size_toArray, sizeLine_eq]; have := hl.1; omega
  have hsz2 : its.length ≤ 1048576 := by have := hl.1; omega
  refine wpAny_call ?_
  k_dflt (walk_at "my cells")
  rename_i g L1 h2 tk2 FG F2 B1 X1 T1 G1 hL1 oc3 oc2 oc1 hoc3 hoc2 hoc1 N2
  have hL4 : ∀ p ∈ news, p.1 < L1 + 1 := fun p hp => Nat.lt_succ_of_lt (ktn_ltOf hL1.2.2 p hp)
  have hL5 : ∀ p ∈ news, p.1 < L1 + 1 + 1 := fun p hp => Nat.lt_succ_of_lt (hL4 p hp)
  have hL6 : ∀ p ∈ news, p.1 < L1 + 1 + 1 + 1 := fun p hp => Nat.lt_succ_of_lt (hL5 p hp)
  replace hoc1 : oc1.data = .cell (some (.ref fa)) := by rw [hoc1]; with_unfolding_all rfl
  replace hoc2 : oc2.data = .cell (some (.ref sa)) := by rw [hoc2]; with_unfolding_all rfl
  have hz0 : 1 ≤ [z, y].getD (Int.toNat 0) 0 ∧ [z, y].getD (Int.toNat 0) 0 ≤ 3 := hz
  k_steps
  refine Held.into ?_
  rename _ = Data.cell (some (Value.int _ _)) => hoc3
  with_unfolding_all refine' comp_exprW (fun i tl y => ∃ d, Made kind 1 d ∧ d.At tl y) ?hclos ?hcell ?hkind ?hnames ?hx ?hs ?hh
  case hclos => rfl
  case hcell => decide
  case hkind => rfl
  case hnames => decide
  case hx => rfl
  case hs => intro x; rfl
  case hh =>
    k_steps
    rename IsRange _ _ _ _ _ _ _ _ => hr
    rename Fr g _ _ _ => F4
    rename News g _ _ _ => N4
    with_unfolding_all refine' range_says (R := fun i tl y => ∃ d, Made kind 1 d ∧ d.At tl y) ?r1 ?r2 ?r3 ?r4 (fun _ _ _ _ hs h => h.imp fun d h => ⟨h.1, PV.At.mono hs h.2⟩) ?r5 ?r6
    case r1 => rfl
    case r2 => exact hr
    case r3 => exact Int.le_trans (by decide) hz0.1
    case r4 => exact Int.le_trans hz0.2 (by decide)
    case r5 =>
      intro C i tv s₃ m₃ E' hC hi hns3 hm hk9
      have F5 := Fr.keeps F4 hk9
      have N5 := News.grown N4 hk9
      refine elt_open2 hns3 X1 T1 F5 N5 (Nat.lt_trans F4.ns.lt hC) (fun q hq => Nat.lt_trans (Heap.lt_size (N4 q hq).1) hC) ?_
      intro g' yg Fc Nc Xc Tc toL fin toN
      simp only [List.cons_append] at Nc
      clear F5 N5 F4 N4
      k_with "eval Name" => (first
        | (k_dflt (refine' wpAny_Name (wpAny_loadName_cell ?a ?b ?c ⟨_, News.get ?n ?k, hoc1⟩ ?_) ?e; (case a => exact rfl); (case b => with_unfolding_all exact rfl); (case c => with_unfolding_all exact rfl); (case e => exact rfl); (case n => assumption); (case k => k_mem)))
        | (k_dflt (refine' wpAny_Name (wpAny_loadName_cell ?a ?b ?c ⟨_, News.get ?n ?k, hoc2⟩ ?_) ?e; (case a => exact rfl); (case b => with_unfolding_all exact rfl); (case c => with_unfolding_all exact rfl); (case e => exact rfl); (case n => assumption); (case k => k_mem)))
        | (k_dflt (refine' wpAny_Name (wpAny_loadName_cell ?a ?b ?c ⟨_, News.get ?n ?k, hoc3⟩ ?_) ?e; (case a => exact rfl); (case b => with_unfolding_all exact rfl); (case c => with_unfolding_all exact rfl); (case e => exact rfl); (case n => assumption); (case k => k_mem)))
        | (k_dflt (refine' wpAny_Name (wpAny_loadName_local ?a ?b (Fr.ns ?f) hm ?_) ?e; (case a => exact rfl); (case b => with_unfolding_all exact rfl); (case e => exact rfl); (case f => assumption))))
      k_steps
      rename Fr g' C _ _ => F8
      rename News g' C _ _ => N8
      rename C < _ => hCD
      k_dflt (refine' Tel.use (shaped1 kind (hl.pick _ _) (news := [])) ?z1 (toL _ F8.keep) X1 (toN _ _ (news_two N8)) T1 ?zK ?zd ?zu ?_; (case z1 => k_asm); (case zK => exact rfl); (case zd => ktr_room); (case zu => ktr_units))
      intro r tl h9 tk9 F9 N9 hs9 ho9 hout9
      obtain ⟨d, hmade, hat⟩ := hout9
      refine ⟨⟨_ :: tl, ?_, d, hmade, hat⟩, fin _ _ _ (Fr.keeps F8 hs9) (News.grown N8 hs9) (fun p hp => .tail _ (.tail _ hp))⟩
      intro p hp
      rcases List.mem_cons.mp hp with rfl | hp
      · exact ⟨hCD, (N9 _ (.head _)).1⟩
      · exact ⟨Nat.lt_trans hCD (ho9 _ (.head _) p hp), (N9 p (.tail _ (.tail _ hp))).1⟩
    case r6 =>
      intro Dl h' tk ys tl hDl hpl hyl htl hR hk9
      obtain ⟨ds, hds, hlf, hdl⟩ := mades_of (k := kind) (n := 1) (tl := tl) (ys := ys) (fun y hy => by
        obtain ⟨j, hj⟩ := List.getElem?_of_mem hy
        exact hR j y hj)
      obtain ⟨kk, N5⟩ := new_list F4 N4 hDl hpl hk9
      have F5 := Fr.keeps F4 hk9
      have hlt : ∀ q ∈ ((fa, W.listOf its.toArray fn) :: (sa, _) :: news : List (Addr × Obj)), q.1 < Dl := fun q hq => Nat.lt_of_lt_of_le (Heap.lt_size (N4 q (.tail _ (.tail _ (.tail _ hq)))).1) hDl
      have N6 := with_tl (tl := tl) F4 N5 hDl htl
      simp only [List.cons_append] at N6
      clear F4 N4 N5 hk9 hR
      k_steps
      rename News h₀ _ _ _ => N9
      rename Fr h₀ _ _ _ => F9
      exact hret _ ((Dl, W.listOf ys.toArray kk) :: tl) _ _ F9 (fun p hp => N9 p (shape_back hp)) (stays_end G1 N F5 N6 (fun p hp => shape_sub hp)) (fun q hq p hp => by
          rcases List.mem_cons.mp hp with rfl | hp
          · exact hlt q hq
          · exact Nat.lt_trans (hlt q hq) (htl p hp).1)
        ⟨.list ds, ⟨ds, rfl, by have h27 := hz0.2; rw [← hyl] at h27; rw [hdl]; omega, hlf⟩, by unfold PV.At; exact ⟨Dl, ys, kk, rfl, .tail _ (.head _), PV.Ats.mono (fun p hp => .tail _ (.tail _ hp)) hds⟩⟩
set_option maxRecDepth 100000 in
set_option maxHeartbeats 8000000 in
theorem shaped3 {w : World} {mean : ExcName → Option Value} {mg mb : Str → Option Value} (kind : Int) {fa sa : Addr} {its : List Value} {fn sn : Nat} {z y x : Int} {t u v : Tok} {news : List (Addr × Obj)} (hl : Leaves kind its) (hz : 1 ≤ z ∧ z ≤ 3) (hy : 1 ≤ y ∧ y ≤ 3) :
    Tel w mean mg mb 129 3 [.ref fa, .ref sa] ((fa, W.listOf its.toArray fn) :: (sa, W.listOf #[.int z t, .int y u, .int x v] sn) :: news) (madeOut kind 3 (fa, W.listOf its.toArray fn)) := by
  unfold Tel
  k_fill
  k_with_none
  intro dp un gd cn cs a ccd cl outer A₀ base h₀ L m s Q E B F X N T hk hd hu hret
  have hsz : its.toArray.size ≤ sizeLine := by rw [List.size_toArray, sizeLine_eq]; have := hl.1; omega
  have hsz2 : its.length ≤ 1048576 := by have := hl.1; omega
  refine wpAny_call ?_
  k_dflt (walk_at "my cells")
  rename_i g L1 h2 tk2 FG F2 B1 X1 T1 G1 hL1 oc3 oc2 oc1 hoc3 hoc2 hoc1 N2
  have hL4 : ∀ p ∈ news, p.1 < L1 + 1 := fun p hp => Nat.lt_succ_of_lt (ktn_ltOf hL1.2.2 p hp)
  have hL5 : ∀ p ∈ news, p.1 < L1 + 1 + 1 := fun p hp => Nat.lt_succ_of_lt (hL4 p hp)
  have hL6 : ∀ p ∈ news, p.1 < L1 + 1 + 1 + 1 := fun p hp => Nat.lt_succ_of_lt (hL5 p hp)
  replace hoc1 : oc1.data = .cell (some (.ref fa)) := by rw [hoc1]; with_unfolding_all rfl
  replace hoc2 : oc2.data = .cell (some (.ref sa)) := by rw [hoc2]; with_unfolding_all rfl
  have hz0 : 1 ≤ [z, y, x].getD (Int.toNat 0) 0 ∧ [z, y, x].getD (Int.toNat 0) 0 ≤ 3 := hz
  k_steps
  refine Held.into ?_
  rename _ = Data.cell (some (Value.int _ _)) => hoc3
  with_unfolding_all refine' comp_exprW (fun i tl y => ∃ d, Made kind 2 d ∧ d.At tl y) ?hclos ?hcell ?hkind ?hnames ?hx ?hs ?hh
  case hclos => rfl
  case hcell => decide
  case hkind => rfl
  case hnames => decide
  case hx => rfl
  case hs => intro x; rfl
  case hh =>
    k_steps
    rename IsRange _ _ _ _ _ _ _ _ => hr
    rename Fr g _ _ _ => F4
    rename News g _ _ _ => N4
    with_unfolding_all refine' range_says (R := fun i tl y => ∃ d, Made kind 2 d ∧ d.At tl y) ?r1 ?r2 ?r3 ?r4 (fun _ _ _ _ hs h => h.imp fun d h => ⟨h.1, PV.At.mono hs h.2⟩) ?r5 ?r6
    case r1 => rfl
    case r2 => exact hr
    case r3 => exact Int.le_trans (by decide) hz0.1
    case r4 => exact Int.le_trans hz0.2 (by decide)
    case r5 =>
      intro C i tv s₃ m₃ E' hC hi hns3 hm hk9
      have F5 := Fr.keeps F4 hk9
      have N5 := News.grown N4 hk9
      refine elt_open2 hns3 X1 T1 F5 N5 (Nat.lt_trans F4.ns.lt hC) (fun q hq => Nat.lt_trans (Heap.lt_size (N4 q hq).1) hC) ?_
      intro g' yg Fc Nc Xc Tc toL fin toN
      simp only [List.cons_append] at Nc
      clear F5 N5 F4 N4
      k_with "eval Name" => (first
        | (k_dflt (refine' wpAny_Name (wpAny_loadName_cell ?a ?b ?c ⟨_, News.get ?n ?k, hoc1⟩ ?_) ?e; (case a => exact rfl); (case b => with_unfolding_all exact rfl); (case c => with_unfolding_all exact rfl); (case e => exact rfl); (case n => assumption); (case k => k_mem)))
        | (k_dflt (refine' wpAny_Name (wpAny_loadName_cell ?a ?b ?c ⟨_, News.get ?n ?k, hoc2⟩ ?_) ?e; (case a => exact rfl); (case b => with_unfolding_all exact rfl); (case c => with_unfolding_all exact rfl); (case e => exact rfl); (case n => assumption); (case k => k_mem)))
        | (k_dflt (refine' wpAny_Name (wpAny_loadName_cell ?a ?b ?c ⟨_, News.get ?n ?k, hoc3⟩ ?_) ?e; (case a => exact rfl); (case b => with_unfolding_all exact rfl); (case c => with_unfolding_all exact rfl); (case e => exact rfl); (case n => assumption); (case k => k_mem)))
        | (k_dflt (refine' wpAny_Name (wpAny_loadName_local ?a ?b (Fr.ns ?f) hm ?_) ?e; (case a => exact rfl); (case b => with_unfolding_all exact rfl); (case e => exact rfl); (case f => assumption))))
      k_steps
      rename Fr g' C _ _ => F8
      rename News g' C _ _ => N8
      rename C < _ => hCD
      k_dflt (refine' Tel.use (shaped2 kind (hl.pick _ _) hy (news := [])) ?z1 (toL _ F8.keep) X1 (toN _ _ (news_two N8)) T1 ?zK ?zd ?zu ?_; (case z1 => k_asm); (case zK => exact rfl); (case zd => ktr_room); (case zu => ktr_units))
      intro r tl h9 tk9 F9 N9 hs9 ho9 hout9
      obtain ⟨d, hmade, hat⟩ := hout9
      refine ⟨⟨_ :: tl, ?_, d, hmade, hat⟩, fin _ _ _ (Fr.keeps F8 hs9) (News.grown N8 hs9) (fun p hp => .tail _ (.tail _ hp))⟩
      intro p hp
      rcases List.mem_cons.mp hp with rfl | hp
      · exact ⟨hCD, (N9 _ (.head _)).1⟩
      · exact ⟨Nat.lt_trans hCD (ho9 _ (.head _) p hp), (N9 p (.tail _ (.tail _ hp))).1⟩
    case r6 =>
      intro Dl h' tk ys tl hDl hpl hyl htl hR hk9
      obtain ⟨ds, hds, hlf, hdl⟩ := mades_of (k := kind) (n := 2) (tl := tl) (ys := ys) (fun y hy => by
        obtain ⟨j, hj⟩ := List.getElem?_of_mem hy
        exact hR j y hj)
      obtain ⟨kk, N5⟩ := new_list F4 N4 hDl hpl hk9
      have F5 := Fr.keeps F4 hk9
      have hlt : ∀ q ∈ ((fa, W.listOf its.toArray fn) :: (sa, _) :: news : List (Addr × Obj)), q.1 < Dl := fun q hq => Nat.lt_of_lt_of_le (Heap.lt_size (N4 q (.tail _ (.tail _ (.tail _ hq)))).1) hDl
      have N6 := with_tl (tl := tl) F4 N5 hDl htl
      simp only [List.cons_append] at N6
      clear F4 N4 N5 hk9 hR
      k_steps
      rename News h₀ _ _ _ => N9
      rename Fr h₀ _ _ _ => F9
      exact hret _ ((Dl, W.listOf ys.toArray kk) :: tl) _ _ F9 (fun p hp => N9 p (shape_back hp)) (stays_end G1 N F5 N6 (fun p hp => shape_sub hp)) (fun q hq p hp => by
          rcases List.mem_cons.mp hp with rfl | hp
          · exact hlt q hq
          · exact Nat.lt_trans (hlt q hq) (htl p hp).1)
        ⟨.list ds, ⟨ds, rfl, by have h27 := hz0.2; rw [← hyl] at h27; rw [hdl]; omega, hlf⟩, by unfold PV.At; exact ⟨Dl, ys, kk, rfl, .tail _ (.head _), PV.Ats.mono (fun p hp => .tail _ (.tail _ hp)) hds⟩⟩
end Mine
end
section
open PySem PySem.W PySem.Calls PyProof.Rows PySem.NumText
open PySem.Builtin PySem.Builtin.Str PySem.StrLaws
namespace Mine
theorem digits_of_nat (m : Nat) : PySem.NumText.AllDigits ((Nat.toDigits 10 m).map Char.toNat) ∧ (Nat.toDigits 10 m).map Char.toNat ≠ [] ∧ PySem.NumText.digitsVal ((Nat.toDigits 10 m).map Char.toNat) = m := by
  refine ⟨fun c hc => ?_, fun e => ?_, KIN.val_back m⟩
  · obtain ⟨ch, hch, e⟩ := List.mem_map.mp hc
    rw [← e]
    exact PyProof.Rows.digit_range (Nat.isDigit_of_mem_toDigits (by decide) (by decide) hch)
  · have h := PySem.toDigits_len_ge 10 m
    rw [List.map_eq_nil_iff.mp e] at h
    exact absurd h (by decide)
theorem dec_nat (m : Nat) : decCodes (m : Int) = (Nat.toDigits 10 m).map Char.toNat := KIN.signs_num m
theorem dec_neg (m : Nat) : decCodes (Int.negSucc m) = 45 :: (Nat.toDigits 10 (m + 1)).map Char.toNat := by
  unfold decCodes
  rw [PyProof.Rows.signs_ofString]
  show ("-" ++ Nat.repr (m + 1)).toList.map Char.toNat = _
  rw [String.toList_append, List.map_append, Nat.toList_repr]
  rfl
theorem dec_len {n : Int} (h : n.natAbs < 10 ^ 30) : (decCodes n).length ≤ 31 := by
  have := int_text_length_le10 (a := n) (k := 30) (by decide) h
  unfold decCodes
  rw [PyProof.Rows.signs_ofString, List.length_map]
  exact this
theorem dec_reads {n : Int} (h : n.natAbs < 10 ^ 30) : PySem.intText? (Str.ofString (toString n)) = some n := by
  have hl := dec_len h
  have hl2 : (Str.ofString (toString n)).length ≤ 4300 := by
    have e : (Str.ofString (toString n)).length = (decCodes n).length := by simp [decCodes, Str.length]
    omega
  cases n with
  | ofNat m =>
    obtain ⟨h1, h2, h3⟩ := digits_of_nat m
    have e : (Str.ofString (toString (Int.ofNat m))).cps.toList = (Nat.toDigits 10 m).map Char.toNat := dec_nat m
    have := intText_digits (x := Str.ofString (toString (Int.ofNat m))) (by rw [e]; exact h1) (by rw [e]; exact h2) hl2
    rw [this, e, h3]; rfl
  | negSucc m =>
    obtain ⟨h1, h2, h3⟩ := digits_of_nat (m + 1)
    have e : (Str.ofString (toString (Int.negSucc m))).cps.toList = 45 :: (Nat.toDigits 10 (m + 1)).map Char.toNat := dec_neg m
    have := intText_neg e h1 h2 hl2
    rw [this, h3]; rfl
theorem digits_isdigit {ds : List Nat} (h : PySem.NumText.AllDigits ds) (hne : ds ≠ []) : Txt.isdigit ⟨ds.toArray⟩ = true := by
  have one : ∀ c, 48 ≤ c → c ≤ 57 → Unicode.isDigit c = true := by
    intro c h1 h2
    have : c = 48 ∨ c = 49 ∨ c = 50 ∨ c = 51 ∨ c = 52 ∨ c = 53 ∨ c = 54 ∨ c = 55 ∨ c = 56 ∨ c = 57 := by omega
    rcases this with rfl | rfl | rfl | rfl | rfl | rfl | rfl | rfl | rfl | rfl <;> decide +kernel
  unfold Txt.isdigit
  rw [Bool.and_eq_true]
  constructor
  · simp only [decide_eq_true_eq, Str.length, List.size_toArray]
    exact List.length_pos_iff.mpr hne
  · rw [List.all_toArray, List.all_eq_true]
    exact fun c hc => one c (h c hc).1 (h c hc).2
open PySem.Builtin PySem.Builtin.Str PySem.StrLaws in
theorem gives_replace4 (x y z : Str) (t u v c : Tok)
    (hf : ((occurrences x y 0 x.length 1).isEmpty || (y.length == 0 && z.length == 0)) = false →
      (u == 0 || v == 0) = false ∧ (u == v) = false ∧ (y == z) = false ∧ tooLong (x.length + (occurrences x y 0 x.length 1).length * z.length) = false) :
    Gives (Builtin.«str.replace» ⟨[.str x t, .str y u, .str z v, .int 1 c], []⟩) (if ((occurrences x y 0 x.length 1).isEmpty || (y.length == 0 && z.length == 0)) = true then .val (.str x t) else .str (glued z (partsBetween x (occurrences x y 0 x.length 1) y.length))) := by
  show Gives (if ((occurrences x y 0 x.length 1).isEmpty || (y.length == 0 && z.length == 0)) = true then (do rule "str.replace.nothing"; ret (.str x t)) else
          (do let same ← isSame (.str y u) (.str z v)
              if same = true then (do rule "str.replace.old-is-new"; ret (.str x t)) else
              if tooLong (x.length + (occurrences x y 0 x.length 1).length * z.length) = true then unsupported "str.replace:memory" else
              retStr (glued z (partsBetween x (occurrences x y 0 x.length 1) y.length)))) _
  cases hc : ((occurrences x y 0 x.length 1).isEmpty || (y.length == 0 && z.length == 0))
  · obtain ⟨h0, huv, hyz, hl⟩ := hf hc
    rw [isSame_str_other y z u v h0 huv hyz, hl]
    exact .of_eq rfl
  · exact .rule (.of_eq rfl)
open PySem.Builtin PySem.Builtin.Str PySem.StrLaws in
theorem cuts_minus {x : Str} {ds : List Nat} (hx : x.cps.toList = 45 :: ds) : occurrences x (Str.ofString "-") 0 x.length 1 = [0] := by
  have hy : Str.ofString "-" = ⟨#[45]⟩ := by decide +kernel
  have hlen : x.length = ds.length + 1 := by
    have := congrArg List.length hx
    simpa [Str.length] using this
  have h0 : At x (Str.ofString "-") x.length 0 := by
    rw [hy]
    refine ⟨by rw [hlen]; show 0 + 1 ≤ _; omega, ?_⟩
    unfold subAt
    rw [beq_iff_eq]
    refine Array.toList_inj.mp ?_
    show (x.cps.extract 0 (0 + 1)).toList = [45]
    rw [Array.toList_extract, hx]
    rfl
  have hle := occ_length_le x (Str.ofString "-") 0 x.length 1
  rcases occ_head x (Str.ofString "-") 1 (Nat.le_refl _) with ⟨_, hn⟩ | ⟨i, r, e, hi, hmin⟩
  · exact absurd h0 (hn 0)
  · have hi0 : i = 0 := by
      rcases Nat.eq_zero_or_pos i with h | h
      · exact h
      · exact absurd h0 (hmin 0 h)
    rw [e, List.length_cons] at hle
    have : r = [] := List.length_eq_zero_iff.mp (by omega)
    rw [e, hi0, this]
open PySem.Builtin PySem.Builtin.Str PySem.StrLaws in
theorem glued_minus {x : Str} {ds : List Nat} (hx : x.cps.toList = 45 :: ds) : glued (Str.ofString "") (partsBetween x [0] (Str.ofString "-").length) = ⟨ds.toArray⟩ := by
  have hlen : x.cps.size = ds.length + 1 := by
    have := congrArg List.length hx
    simpa using this
  have h1 : (Str.ofString "-").length = 1 := by decide +kernel
  have h2 : (Str.ofString "").cps = #[] := by decide +kernel
  refine str_ext ?_
  rw [h1]
  show ((x.cps.extract 0 0) ++ (Str.ofString "").cps ++ x.cps.extract 1 x.length).toList = ds
  rw [h2]
  have e3 : x.cps.toList.tail = ds := by rw [hx]; rfl
  simp only [Array.toList_append, Array.toList_extract]
  simp [Str.length, hlen, e3]
section
variable {prog : Program} {w : World} {A : Around} {E : Value → Shared → Prop} {s : Shared}
theorem replace_dec {n : Int} (hn : n.natAbs < 10 ^ 30) {t u v c : Tok} (hu : u ≠ 0) (hv : v ≠ 0) (huv : u ≠ v) {Q : Value → Shared → Prop}
    (h : ∀ ds t' k, PySem.NumText.AllDigits ds → ds ≠ [] → Q (.str ⟨ds.toArray⟩ t') { s with toks := k }) :
    wpAny (model prog w) A (call (.builtin "str.replace") [.str (Str.ofString (toString n)) t, .str (Str.ofString "-") u, .str (Str.ofString "") v, .int 1 c]) Q E s := by
  have hl0 : (Str.ofString "").length = 0 := by decide +kernel
  have hz : ((Str.ofString "-").length == 0 && (Str.ofString "").length == 0) = false := by decide +kernel
  have hf : tooLong ((Str.ofString (toString n)).length + (occurrences (Str.ofString (toString n)) (Str.ofString "-") 0 (Str.ofString (toString n)).length 1).length * (Str.ofString "").length) = false := by
    rw [hl0, Nat.mul_zero, Nat.add_zero]
    have := dec_len hn
    have e : (Str.ofString (toString n)).length = (decCodes n).length := by simp [decCodes, Str.length]
    unfold tooLong
    rw [decide_eq_false_iff_not, e, sizeLine_eq]
    omega
  refine call_gives F.slot_str_replace (typeIs_str _ _ _) F.entry_str_replace (F.args_str_replace_4 _ _ _ _) (gives_replace4 _ _ _ t u v c fun _ => ⟨by simp [hu, hv], by simp [huv], by decide +kernel, hf⟩) ?_
  rw [hz, Bool.or_false]
  cases n with
  | ofNat m =>
    obtain ⟨h1, h2, h3⟩ := digits_of_nat m
    have e : (Str.ofString (toString (Int.ofNat m))).cps.toList = (Nat.toDigits 10 m).map Char.toNat := dec_nat m
    have hemp : (occurrences (Str.ofString (toString (Int.ofNat m))) (Str.ofString "-") 0 (Str.ofString (toString (Int.ofNat m))).length 1).isEmpty = true := by
      have hy : Str.ofString "-" = ⟨#[45]⟩ := by decide +kernel
      have := found_one (Str.ofString (toString (Int.ofNat m))) 45
      rw [hy]
      rw [e, decide_eq_false (fun hm => by have := h1 45 hm; omega)] at this
      simpa using this
    rw [hemp, if_pos rfl]
    have hx : Str.ofString (toString (Int.ofNat m)) = ⟨((Nat.toDigits 10 m).map Char.toNat).toArray⟩ := str_ext (by rw [e])
    show Q (.str _ t) s
    rw [hx]
    exact h _ t s.toks h1 h2
  | negSucc m =>
    obtain ⟨h1, h2, h3⟩ := digits_of_nat (m + 1)
    have e : (Str.ofString (toString (Int.negSucc m))).cps.toList = 45 :: (Nat.toDigits 10 (m + 1)).map Char.toNat := dec_neg m
    rw [cuts_minus e, if_neg (by decide), glued_minus e]
    refine ⟨?_, h _ _ _ h1 h2⟩
    have := dec_len hn
    have e2 : (decCodes (Int.negSucc m)).length = ((Nat.toDigits 10 (m + 1)).map Char.toNat).length + 1 := by rw [dec_neg]; rfl
    show ((Nat.toDigits 10 (m + 1)).map Char.toNat).toArray.size ≤ _
    rw [List.size_toArray, sizeLine_eq]
    omega
end
end Mine
end
section
open PySem PySem.W PySem.Calls PyProof.Rows
namespace Mine
local macro_rules | `(tactic| walk_at "my pad") => `(tactic| skip)
local macro_rules | `(tactic| walk_at "my cells") => `(tactic| (refine' code_cells ?k1 ?k2 ?k3 ?k4 ?k5 ?kA ?kF ?kK ?k6 ?k7 ?k8 ?k9 ?kB ?kD ?_ ?c2 ?c3 ?c4; (case kA => exact rfl); (case kF => exact rfl); (case kK => assumption); (case k1 => k_asm); (case k2 => k_asm); (case k3 => k_asm); (case k4 => k_asm); (case k5 => k_asm); (case k6 => k_is); (case k7 => k_is); (case k8 => ktr_room); (case k9 => exact BindsTo.of_eq rfl); (case kB => exact rfl); (case kD => decide +kernel); (case c2 => exact rfl); (case c3 => exact rfl); (case c4 => exact rfl); k_whole; intro g' L' h' tk' cells' FG' F' N' Y' B' X' T' G1 l1; (try k_lt l1); k_cells Y'; (try simp only [List.cons_append, List.nil_append] at N'); (try dsimp only); (try k_fold)))
local macro_rules | `(tactic| walk_at "eval ListComp") => `(tactic| (refine Held.out ?_))
def isTrue_ (tl : List (Addr × Obj)) (r : Value) : Prop := tl = [] ∧ r = .bool true
set_option maxRecDepth 100000 in
set_option maxHeartbeats 8000000 in
theorem same_none {w : World} {mean : ExcName → Option Value} {mg mb : Str → Option Value} {kind : Int} {t : Tok} {news : List (Addr × Obj)} :
    Tel w mean mg mb 146 1 [.int kind t, .none, .none] news isTrue_ := by
  unfold Tel
  k_fill
  k_with_none
  w_top off
  intro dp un gd cn cs a ccd cl outer A₀ base h₀ L m s Q E B F X N T hk hd hu hret
  refine wpAny_call ?_
  k_dflt (walk_at "my cells")
  k_steps
  · rename News h₀ _ _ _ => N9
    rename Fr h₀ _ _ _ => F9
    rename GSub s.heap _ _ => G1
    exact hret _ [] _ _ F9 (fun p hp => N9 p (by rw [List.append_nil] at hp; repeat (first | exact hp | refine List.Mem.tail _ ?_))) (stays_end G1 N (by assumption) (by assumption) (fun p hp => by repeat (first | exact hp | refine List.Mem.tail _ ?_))) (fun _ _ _ h => nomatch h) ⟨rfl, rfl⟩
set_option maxRecDepth 100000 in
set_option maxHeartbeats 8000000 in
theorem same_str {w : World} {mean : ExcName → Option Value} {mg mb : Str → Option Value} {x : Str} {t u v : Tok} {news : List (Addr × Obj)} :
    Tel w mean mg mb 146 1 [.int 1 t, .str x u, .str x v] news isTrue_ := by
  unfold Tel
  k_fill
  k_with_none
  intro dp un gd cn cs a ccd cl outer A₀ base h₀ L m s Q E B F X N T hk hd hu hret
  refine wpAny_call ?_
  k_dflt (walk_at "my cells")
  k_steps
  · rename News h₀ _ _ _ => N9
    rename Fr h₀ _ _ _ => F9
    rename GSub s.heap _ _ => G1
    exact hret _ [] _ _ F9 (fun p hp => N9 p (by rw [List.append_nil] at hp; repeat (first | exact hp | refine List.Mem.tail _ ?_))) (stays_end G1 N (by assumption) (by assumption) (fun p hp => by repeat (first | exact hp | refine List.Mem.tail _ ?_))) (fun _ _ _ h => nomatch h) ⟨rfl, congrArg Value.bool (beq_self_eq_true x)⟩
set_option maxRecDepth 100000 in
set_option maxHeartbeats 8000000 in
theorem same_true {w : World} {mean : ExcName → Option Value} {mg mb : Str → Option Value} {t u v : Tok} {news : List (Addr × Obj)} :
    Tel w mean mg mb 146 1 [Value.int 3 t, .bool true, .str (Str.ofString "true") v] news isTrue_ := by
  unfold Tel
  k_fill
  k_with_none
  intro dp un gd cn cs a ccd cl outer A₀ base h₀ L m s Q E B F X N T hk hd hu hret
  refine wpAny_call ?_
  k_dflt (walk_at "my cells")
  k_steps
  · rename News h₀ _ _ _ => N9
    rename Fr h₀ _ _ _ => F9
    rename GSub s.heap _ _ => G1
    exact hret _ [] _ _ F9 (fun p hp => N9 p (by rw [List.append_nil] at hp; repeat (first | exact hp | refine List.Mem.tail _ ?_))) (stays_end G1 N (by assumption) (by assumption) (fun p hp => by repeat (first | exact hp | refine List.Mem.tail _ ?_))) (fun _ _ _ h => nomatch h) ⟨rfl, congrArg Value.bool (by decide +kernel)⟩
set_option maxRecDepth 100000 in
set_option maxHeartbeats 8000000 in
theorem same_false {w : World} {mean : ExcName → Option Value} {mg mb : Str → Option Value} {t u v : Tok} {news : List (Addr × Obj)} :
    Tel w mean mg mb 146 1 [Value.int 3 t, .bool false, .str (Str.ofString "false") v] news isTrue_ := by
  unfold Tel
  k_fill
  k_with_none
  intro dp un gd cn cs a ccd cl outer A₀ base h₀ L m s Q E B F X N T hk hd hu hret
  refine wpAny_call ?_
  k_dflt (walk_at "my cells")
  k_steps
  · rename News h₀ _ _ _ => N9
    rename Fr h₀ _ _ _ => F9
    rename GSub s.heap _ _ => G1
    exact hret _ [] _ _ F9 (fun p hp => N9 p (by rw [List.append_nil] at hp; repeat (first | exact hp | refine List.Mem.tail _ ?_))) (stays_end G1 N (by assumption) (by assumption) (fun p hp => by repeat (first | exact hp | refine List.Mem.tail _ ?_))) (fun _ _ _ h => nomatch h) ⟨rfl, congrArg Value.bool (by decide +kernel)⟩
local macro_rules | `(tactic| walk_at "execs cons") => `(tactic| ((with_reducible refine wpAny_execs_cons ?_); try dsimp only))
local macro_rules | `(tactic| walk_at "call builtin:str.replace") => `(tactic| (k_dflt (refine' replace_dec ?h ?a ?b ?c ?_; (case h => assumption); (case a => exact Nat.succ_ne_zero _); (case b => exact Nat.succ_ne_zero _); (case c => exact Nat.ne_of_lt (Nat.lt_succ_self _))); intro ds9 t9 k9 hds9 hne9))
local macro_rules | `(tactic| walk_at "call type:int") => `(tactic| (k_dflt (refine' KIN.call_text (dec_reads ?h) ?l ?_; (case h => assumption); (case l => exact dec_short (by assumption)))))
theorem dec_short {n : Int} (h : n.natAbs < 10 ^ 30) : (Str.ofString (toString n)).length ≤ 640 := by
  have := dec_len h
  have e : (Str.ofString (toString n)).length = (decCodes n).length := by simp [decCodes, Str.length]
  omega
set_option maxRecDepth 100000 in
set_option maxHeartbeats 8000000 in
theorem same_int {w : World} {mean : ExcName → Option Value} {mg mb : Str → Option Value} {n : Int} {t u v : Tok} (hn : n.natAbs < 10 ^ 30) {news : List (Addr × Obj)} :
    Tel w mean mg mb 146 1 [.int 0 t, .int n u, .str (Str.ofString (toString n)) v] news isTrue_ := by
  unfold Tel
  k_fill
  k_with_none
  intro dp un gd cn cs a ccd cl outer A₀ base h₀ L m s Q E B F X N T hk hd hu hret
  refine wpAny_call ?_
  k_dflt (walk_at "my cells")
  k_steps
  · refine KIN.call_text (dec_reads hn) (dec_short hn) ?_
    k_steps
    · rename News h₀ _ _ _ => N9
      rename Fr h₀ _ _ _ => F9
      rename GSub s.heap _ _ => G1
      exact hret _ [] _ _ F9 (fun p hp => N9 p (by rw [List.append_nil] at hp; repeat (first | exact hp | refine List.Mem.tail _ ?_))) (stays_end G1 N (by assumption) (by assumption) (fun p hp => by repeat (first | exact hp | refine List.Mem.tail _ ?_))) (fun _ _ _ h => nomatch h) ⟨rfl, congrArg Value.bool (by simp)⟩
  · rename PySem.NumText.AllDigits _ => hd9
    rename _ ≠ [] => hne9
    rename News h₀ _ _ _ => N9
    rename Fr h₀ _ _ _ => F9
    rename GSub s.heap _ _ => G1
    exact hret _ [] _ _ F9 (fun p hp => N9 p (by rw [List.append_nil] at hp; repeat (first | exact hp | refine List.Mem.tail _ ?_))) (stays_end G1 N (by assumption) (by assumption) (fun p hp => by repeat (first | exact hp | refine List.Mem.tail _ ?_))) (fun _ _ _ h => nomatch h) ⟨rfl, congrArg Value.bool (digits_isdigit hd9 hne9)⟩
end Mine
end
section
open PySem PySem.W PySem.Calls PyProof.Rows PySem.NumText
namespace Mine
set_option maxRecDepth 100000 in
set_option maxHeartbeats 4000000 in
theorem hex_reads {a b : Nat} (ha : a < 16) (hb : b < 16) : (int_private% "readNumeral") 0 16 [hexd a, hexd b] = (int_private% "Numeral.value") ((16 * a + b : Nat) : Int) := by
  have ha' : a = 0 ∨ a = 1 ∨ a = 2 ∨ a = 3 ∨ a = 4 ∨ a = 5 ∨ a = 6 ∨ a = 7 ∨ a = 8 ∨ a = 9 ∨ a = 10 ∨ a = 11 ∨ a = 12 ∨ a = 13 ∨ a = 14 ∨ a = 15 := by omega
  have hb' : b = 0 ∨ b = 1 ∨ b = 2 ∨ b = 3 ∨ b = 4 ∨ b = 5 ∨ b = 6 ∨ b = 7 ∨ b = 8 ∨ b = 9 ∨ b = 10 ∨ b = 11 ∨ b = 12 ∨ b = 13 ∨ b = 14 ∨ b = 15 := by omega
  rcases ha' with rfl | rfl | rfl | rfl | rfl | rfl | rfl | rfl | rfl | rfl | rfl | rfl | rfl | rfl | rfl | rfl <;> rcases hb' with rfl | rfl | rfl | rfl | rfl | rfl | rfl | rfl | rfl | rfl | rfl | rfl | rfl | rfl | rfl | rfl <;> rfl
theorem hexd_pos {a : Nat} : hexd a ≠ 0 := by unfold hexd; split <;> omega
theorem hexd_small {a : Nat} (h : a < 16) : hexd a < 128 := by unfold hexd; split <;> omega
theorem wp_hex {M : Model} {A : Around} {E : Value → Shared → Prop} {s : Shared} {Q : Value → Shared → Prop} {v : Value} {text : List Nat} {n : Int}
    (hs : (text.takeWhile (· != 0)).length ≤ 640) (hr : (int_private% "readNumeral") 0 16 (text.takeWhile (· != 0)) = (int_private% "Numeral.value") n)
    (ha : ((text.takeWhile (· != 0)).length == text.length) = true) (h : Q (.int n s.toks) { s with toks := s.toks + 1 }) :
    wpAny M A ((int_private% "intFromText") v text 16) Q E s := by
  obtain ⟨hp, g, d, tk, os⟩ := s
  repeat (any_goals (first
    | assumption
    | (with_reducible refine wpAny_ite_true (decide_eq_true hs) ?_)
    | (with_reducible refine wpAny_ite_true (decide_eq_true ha) ?_)
    | wp_step))
  all_goals (try rw [hr])
  all_goals (try dsimp only)
  repeat (any_goals (first
    | assumption
    | (with_reducible refine wpAny_ite_true (decide_eq_true hs) ?_)
    | (with_reducible refine wpAny_ite_true (decide_eq_true ha) ?_)
    | wp_step))
set_option maxHeartbeats 4000000 in
theorem gives_hex {a b : Nat} (ha : a < 16) (hb : b < 16) {u t : Tok} : Gives (Builtin.«int.__new__» ⟨[.type "int", .str ⟨#[hexd a, hexd b]⟩ u, .int 16 t], []⟩) (.int ((16 * a + b : Nat) : Int)) :=
  .of_wp fun M A E s Q h => by
    obtain ⟨hp, g, d, tk, os⟩ := s
    have f1 := F.conv_sub_int
    have f2 := F.madeHere_int
    have f6 : typeOf (.str ⟨#[hexd a, hexd b]⟩ u) = pure (.type "str") := rfl
    have hall : (#[hexd a, hexd b] : Array Nat).all (· < 128) = true := by simp [hexd_small ha, hexd_small hb]
    have e1 : (hexd a != 0) = true := by simpa using hexd_pos (a := a)
    have e2 : (hexd b != 0) = true := by simpa using hexd_pos (a := b)
    have htw : ([hexd a, hexd b] : List Nat).takeWhile (· != 0) = [hexd a, hexd b] := by simp only [List.takeWhile, e1, e2]
    have hs : (([hexd a, hexd b] : List Nat).takeWhile (· != 0)).length ≤ 640 := by rw [htw]; show 2 ≤ 640; decide
    have hr : (int_private% "readNumeral") 0 16 (([hexd a, hexd b] : List Nat).takeWhile (· != 0)) = (int_private% "Numeral.value") ((16 * a + b : Nat) : Int) := by rw [htw]; exact hex_reads ha hb
    have hl : ((([hexd a, hexd b] : List Nat).takeWhile (· != 0)).length == ([hexd a, hexd b] : List Nat).length) = true := by rw [htw]; rfl
    have hk := KIN.Hid.mk (And.intro hs (And.intro hr hl))
    clear hs hr hl
    repeat (any_goals (first
      | assumption
      | (with_reducible refine wpAny_ite_true hall ?_)
      | (rw [hall])
      | ((with_reducible show wpAny _ _ ((int_private% "intFromText") _ _ _) _ _ _); refine wp_hex hk.out.1 hk.out.2.1 hk.out.2.2 ?_)
      | wp_step))
    all_goals first | exact ⟨_, rfl, h⟩ | skip
end Mine
end
section
open PySem PySem.W PySem.Calls PyProof.Rows
namespace Mine
set_option maxRecDepth 100000
section
variable {prog : Program} {w : World} {A : Around} {E : Value → Shared → Prop} {s : Shared}
def ByteAt (b : Array UInt8) (i : Nat) (v : Value) : Prop := ∃ c u, b[i]? = some c ∧ v = .int (c.toNat : Int) u
theorem extend_bytes {R : Result → Shared → Prop} (hh : A.handled = none) (x : Array UInt8) (t : Tok) (S : Addr) (res : Value) (c₀ : Nat) (hS : s.heap.get? S = some { cls := .type "list", data := .seq #[] c₀ })
    (hR : ∀ h' tk acc' c', (∀ b o, b ≠ S → s.heap.get? b = some o → h'.get? b = some o) → h'.get? S = some { cls := .type "list", dict := none, data := .seq acc' c', slots := #[] } →
      ItemsOf (ByteAt x) acc' x.size → R (.ok (.ret res)) { s with heap := h', toks := tk }) (hn : x.size ≤ sizeLine) :
    wpAny (model prog w) A.in1 (Builtin.List.listExtendWith (.ref S) (.bytes x t) res)
      (fun fin s' => match fin with | .done f => R (.ok f) s' | .again c' => c'.quiet = true ∧ codeAny (model prog w) A c' R s') (fun e s' => R (.error e) s') s := by
  have hSI : S ≠ s.heap.objs.size := Nat.ne_of_lt (Heap.lt_size hS)
  have hSf : S ∉ [s.heap.objs.size] := fun hm => hSI (List.mem_singleton.mp hm)
  unfold Builtin.List.listExtendWith
  refine wpAny_bind (wpAny_typeOf (T := "bytes") (v := .bytes x t) rfl ?_)
  have h1 : Builtin.List.listSameRef (.ref S) (.bytes x t) = false := rfl
  have h2 : (Value.type "bytes" == Value.type "list") = false := by decide
  have h3 : (Value.type "bytes" == Value.type "tuple") = false := by decide
  simp only [h1, h2, h3, Bool.or_false, Bool.false_eq_true, if_false]
  refine wpAny_bind (KBw.pyIter_bytes ?_)
  refine wpAny_bind (wpAny_holding ?_)
  unfold Builtin.List.listLengthHint
  refine wpAny_bind (wpAny_specialOf (T := "bytes") (v := .bytes x t) rfl FB.slot_bytes_len.lookup ?_)
  wp_delta
  refine wpAny_bind (wpAny_isInstance (T := "bytes") (v := .bytes x t) (b := true) rfl (by rw [isSubtype_type]; kernel_rfl) ?_)
  show wpAny _ _ (typeOf (Value.bytes x t) >>= _) _ _ _
  refine wpAny_bind (wpAny_typeOf (T := "bytes") (v := .bytes x t) rfl ?_)
  refine wpAny_pure ?_
  rw [if_neg (by decide)]
  refine wpAny_pure ⟨plainId_quiet F.plain_extend_loop _, codeAny_extend_loopS (KBw.walks (A := A.in1) hh s.heap.objs.size x t).toS hn _ hSf _ x.size 0 _ _ _ rfl (Nat.zero_le _) ⟨_, Heap.get?_push_size _ rfl, rfl, rfl⟩ (Heap.get?_push_of_some _ hS) (ItemsOf.nil _) fun s' acc' c' hm hS' hacc => ?_⟩
  rw [Moved.eq_with hm]
  refine hR s'.heap s'.toks acc' c' (fun b ob hb e => hm.heap b ob (fun hmem => ?_) (Heap.get?_push_of_some _ e)) hS' hacc
  rcases List.mem_cons.mp hmem with e' | hmem
  · exact hb e'
  · exact absurd (Heap.lt_size e) (by rw [List.mem_singleton.mp hmem]; exact Nat.lt_irrefl _)
theorem init_bytes {R : Result → Shared → Prop} (hh : A.handled = none) (x : Array UInt8) (t : Tok) (S : Addr) (hS : s.heap.get? S = some { cls := .type "list", data := .seq #[] })
    (hR : ∀ h' tk acc' c', (∀ b o, b ≠ S → s.heap.get? b = some o → h'.get? b = some o) → h'.get? S = some { cls := .type "list", dict := none, data := .seq acc' c', slots := #[] } →
      ItemsOf (ByteAt x) acc' x.size → R (.ok (.ret .none)) { s with heap := h', toks := tk }) (hn : x.size ≤ sizeLine) :
    wpAny (model prog w) A.in1 (Builtin.«list.__init__» ⟨[.ref S, .bytes x t], []⟩)
      (fun fin s' => match fin with | .done f => R (.ok f) s' | .again c' => c'.quiet = true ∧ codeAny (model prog w) A c' R s') (fun e s' => R (.error e) s') s := by
  show wpAny _ _ (do let old ← Builtin.List.listItems (.ref S); Builtin.List.listUpdate (.ref S) (fun _ => #[]); letGo old.toList.reverse; Builtin.List.listExtendWith (.ref S) (.bytes x t) .none) _ _ s
  refine wpAny_bind ?_
  unfold Builtin.List.listItems
  refine wpAny_bind (wpAny_seqItems hS rfl (wpAny_pure ?_))
  show wpAny _ _ (updateSeq S (fun _ => #[]) >>= fun _ => letGo (#[] : Array Value).toList.reverse >>= fun _ => Builtin.List.listExtendWith (.ref S) (.bytes x t) .none) _ _ s
  refine wpAny_bind (wpAny_updateSeq hS rfl ?_)
  have hS₂ := Heap.get?_update_self (Obj.mapSeq (fun _ => (#[] : Array Value))) hS rfl
  have oth : ∀ b o, b ≠ S → s.heap.get? b = some o → (s.heap.update S (Obj.mapSeq (fun _ => (#[] : Array Value)))).get? b = some o :=
    fun b o hb e => (Heap.get?_update_other _ _ (Ne.symm hb)).trans e
  refine wpAny_bind (wpAny_letGo ?_)
  refine extend_bytes (hn := hn) hh x t S .none _ hS₂ fun h' tk acc' c' hk hS' hacc => ?_
  exact hR h' tk acc' c' (fun b o hb e => hk b o hb (oth b o hb e)) hS' hacc
theorem list_bytes {Q : Value → Shared → Prop} (hh : A.handled = none) (x : Array UInt8) (t : Tok)
    (hQ : ∀ h' tk acc' c', (∀ b o, s.heap.get? b = some o → h'.get? b = some o) →
      h'.get? s.heap.objs.size = some { cls := .type "list", dict := none, data := .seq acc' c', slots := #[] } → ItemsOf (ByteAt x) acc' x.size → Q (.ref s.heap.objs.size) { s with heap := h', toks := tk }) (hn : x.size ≤ sizeLine) :
    wpAny (model prog w) A (call (.type "list") [.bytes x t]) Q E s := by
  refine callType_codes (Q₁ := fun obj s₁ => obj = .ref s.heap.objs.size ∧ s₁ = { s with heap := s.heap.push { cls := .type "list", data := .seq #[] } }) F.called_list (F.typeCall_list_1 _) F.entry_list_init
    (code_list_new _ ⟨rfl, rfl⟩) fun obj s₁ h₁ => ?_
  obtain ⟨rfl, rfl⟩ := h₁
  have hS : (s.heap.push { cls := .type "list", data := .seq #[] }).get? s.heap.objs.size = some { cls := .type "list", data := .seq #[] } := Heap.get?_push_size _ rfl
  refine ⟨⟨_, hS, rfl⟩, F.args_list_init_2 _ _, init_bytes (A := A.in1) (hn := hn) hh x t _ hS fun h' tk acc' c' hk hS' hacc => ?_⟩
  exact ⟨rfl, hQ h' tk acc' c' (fun b o e => hk b o (Nat.ne_of_lt (Heap.lt_size e)) (Heap.get?_push_of_some _ e)) hS' hacc⟩
theorem args_init3 (a b c : Value) : argsOk "object.__init__" ⟨[a, b, c], []⟩ := by unfold argsOk; kernel_rfl
theorem call_hex {a b : Nat} (ha : a < 16) (hb : b < 16) {u t : Tok} {Q : Value → Shared → Prop} (h : Q (.int ((16 * a + b : Nat) : Int) s.toks) { s with toks := s.toks + 1 }) :
    wpAny (model prog w) A (call (.type "int") [.str ⟨#[hexd a, hexd b]⟩ u, .int 16 t]) Q E s :=
  callType_new F.called_int F.newNe_int (by kernel_rfl) (by kernel_rfl) (fun obj => args_init3 obj _ _) F.entry_int_new (gives_hex ha hb).meets (show (Made.int _).post _ s from ⟨rfl, h⟩)
end
end Mine
end
section
open PySem PySem.W PySem.Calls PyProof.Rows
namespace Mine
theorem hex_drop : ∀ (bs : List UInt8) (i : Nat) (c : UInt8), bs[i]? = some c → (hexCodes bs).drop (2 * i) = hexd (c.toNat / 16) :: hexd (c.toNat % 16) :: (hexCodes bs).drop (2 * i + 2)
  | [], i, c, h => by simp at h
  | b :: r, 0, c, h => by
    simp at h; subst h
    simp [hexCodes]
  | b :: r, i + 1, c, h => by
    have e : hexCodes (b :: r) = hexd (b.toNat / 16) :: hexd (b.toNat % 16) :: hexCodes r := by simp [hexCodes]
    have ih := hex_drop r i c (by simpa using h)
    rw [e, show 2 * (i + 1) = 2 * i + 1 + 1 by omega, List.drop_succ_cons, List.drop_succ_cons, ih]
    rw [show 2 * i + 1 + 1 + 2 = (2 * i + 2) + 1 + 1 by omega, List.drop_succ_cons, List.drop_succ_cons]
theorem hex_slice {bs : List UInt8} {x : Str} (hx : x = ⟨(92 :: 120 :: hexCodes bs).toArray⟩) {i : Nat} {c : UInt8} (h : bs[i]? = some c) :
    Txt.slice x (some (2 + (i : Int) * 2)) (some (2 + (i : Int) * 2 + 2)) = ⟨#[hexd (c.toNat / 16), hexd (c.toNat % 16)]⟩ := by
  have hl : x.length = 2 + 2 * bs.length := by subst hx; simp [Str.length, hex_len]; omega
  have hi : i < bs.length := by
    rcases Nat.lt_or_ge i bs.length with h' | h'
    · exact h'
    · rw [List.getElem?_eq_none h'] at h; cases h
  have e := eq_of_beq (slice_closesL (x := x) (i := 2 + (i : Int) * 2) (j := 2 + (i : Int) * 2 + 2) (by omega) (by omega) (by rw [hl]; omega))
  rw [e]
  have e1 : (2 + (i : Int) * 2 + 2 - (2 + (i : Int) * 2)).toNat = 2 := by omega
  have e2 : (2 + (i : Int) * 2).toNat = 2 * i + 1 + 1 := by omega
  rw [e1, e2]
  subst hx
  show (⟨(List.take 2 (List.drop (2 * i + 1 + 1) (92 :: 120 :: hexCodes bs))).toArray⟩ : Str) = _
  rw [List.drop_succ_cons, List.drop_succ_cons, hex_drop bs i c h]
  rfl
theorem fits_small {i : Int} (h0 : 0 ≤ i) (h1 : i ≤ 1000000) : Builtin.Range.rangeFitsLong i = true := by
  unfold Builtin.Range.rangeFitsLong
  rw [Bool.and_eq_true]
  exact ⟨decide_eq_true (by omega), decide_eq_true (by omega)⟩
theorem two_size {N : Int} {n : Nat} (hN : N = 2 + 2 * (n : Int)) : Builtin.Range.rangeSize 2 N 2 = (n : Int) := by
  subst hN
  unfold Builtin.Range.rangeSize
  rw [if_pos (by decide)]
  by_cases h : n = 0
  · subst h; rfl
  · rw [if_pos (by omega)]
    have e : (2 + 2 * (n : Int) - 2 - 1) / 2 = (n : Int) - 1 := by omega
    rw [e]; omega
theorem two_small {N : Int} {n : Nat} (hN : N = 2 + 2 * (n : Int)) (h1 : n ≤ 1000) : Builtin.Range.small 2 N 2 = true := by
  unfold Builtin.Range.small
  rw [two_size hN, fits_small (i := 2) (by decide) (by decide), fits_small (i := N) (by omega) (by omega), fits_small (i := (n : Int)) (by omega) (by omega), if_pos (by decide), fits_small (i := N + (2 - 1)) (by omega) (by omega)]
  simp
section
variable {prog : Program} {w : World} {A : Around} {E : Value → Shared → Prop} {s : Shared} {env : Env}
/-- a comprehension over a range from two, by twos -/
theorem range_says2 {elt : Expr} {x : Str} {scope : Scope} {cl : List (Str × Addr)} {Q : Value → Shared → Prop} {R : Nat → List (Addr × Obj) → Value → Prop} {D : Addr} {n : Nat} {N : Int} {t u v : Tok}
    (hh : A.handled = none) (hr : IsRange s.heap D 2 N 2 t u v) (hN : N = 2 + 2 * (n : Int)) (h1 : n ≤ 1000)
    (mono : ∀ i tl tl' y, (∀ p ∈ tl, p ∈ tl') → R i tl y → R i tl' y)
    (helt : ∀ C (i : Nat) (tv : Tok) s₃ m₃ (E' : Value → Shared → Prop), s.heap.objs.size < C → i < n → s₃.heap.Ns C m₃ → m₃ x = some (.int (2 + (i : Int) * 2) tv) → (∀ b o, s.heap.get? b = some o → s₃.heap.get? b = some o) →
      wpAny (model prog w) A (eval elt (compEnvC scope cl C env)) (EltPost C m₃ s₃ (R i)) E' s₃)
    (fin : ∀ Dl h' tk (ys : List Value) (tl : List (Addr × Obj)), s.heap.objs.size ≤ Dl → h'.PlainList Dl ys.toArray → ys.length = n → (∀ p ∈ tl, Dl < p.1 ∧ h'.get? p.1 = some p.2) → (∀ j y, ys[j]? = some y → R j tl y) →
      (∀ b o, s.heap.get? b = some o → h'.get? b = some o) → Q (.ref Dl) { s with heap := h', toks := tk }) :
    wpAny (model prog w) A (pyIter (.ref D)) (SrcSays prog w A env scope cl x elt R Q) E s := by
  refine wpAny_pyIter_range hr (two_small hN h1) ?_
  · have hI : ∀ b o, s.heap.get? b = some o → b ∉ [s.heap.objs.size] := fun b o e hm => Nat.ne_of_lt (Heap.lt_size e) (List.mem_singleton.mp hm)
    refine ⟨s.heap.objs.size, [s.heap.objs.size], [s.heap.objs.size], n, _, _, rfl, Walks.range hh _ 2 2 n, by rw [sizeLine_eq]; omega, ?_, ?_, ⟨mono, ?_⟩, ?_⟩
    · rw [two_size hN]
      exact Heap.get?_push_size _ rfl
    · intro b hb
      rw [List.mem_singleton.mp hb]
      show _ < (s.heap.push _).objs.size
      rw [Heap.size_push]; exact Nat.lt_succ_self _
    · rintro C i v s₃ m₃ E' hC hi ⟨tv, rfl⟩ hns hm hk
      have hC' : s.heap.objs.size < C := by
        have : (s.heap.push _).objs.size < C := hC
        rw [Heap.size_push] at this
        exact Nat.lt_trans (Nat.lt_succ_self _) this
      exact helt C i tv s₃ m₃ E' hC' hi hns hm fun b o e => hk b o (hI b o e) (Heap.get?_push_of_some _ e)
    · intro h' tk ys tl hpl hyl htl hR hk
      refine fin _ h' tk ys tl ?_ hpl hyl htl hR fun b o e => hk b o (hI b o e) (Heap.get?_push_of_some _ e)
      show _ ≤ (s.heap.push _).objs.size
      rw [Heap.size_push]; exact Nat.le_succ _
end
end Mine
end
section
open PySem PySem.W PySem.Calls PyProof.Rows
namespace Mine
local macro_rules | `(tactic| walk_at "my pad") => `(tactic| skip)
local macro_rules | `(tactic| walk_at "my cells") => `(tactic| (refine' code_cells ?k1 ?k2 ?k3 ?k4 ?k5 ?kA ?kF ?kK ?k6 ?k7 ?k8 ?k9 ?kB ?kD ?_ ?c2 ?c3 ?c4; (case kA => exact rfl); (case kF => exact rfl); (case kK => assumption); (case k1 => k_asm); (case k2 => k_asm); (case k3 => k_asm); (case k4 => k_asm); (case k5 => k_asm); (case k6 => k_is); (case k7 => k_is); (case k8 => ktr_room); (case k9 => exact BindsTo.of_eq rfl); (case kB => exact rfl); (case kD => decide +kernel); (case c2 => exact rfl); (case c3 => exact rfl); (case c4 => exact rfl); k_whole; intro g' L' h' tk' cells' FG' F' N' Y' B' X' T' G1 l1; (try k_lt l1); k_cells Y'; (try simp only [List.cons_append, List.nil_append] at N'); (try dsimp only); (try k_fold)))
local macro_rules | `(tactic| walk_at "eval ListComp") => `(tactic| (refine Held.out ?_))
local macro_rules | `(tactic| walk_at "pyIter ref") => `(tactic| ((with_reducible show wpAny _ _ (pyIter _) (SrcSays _ _ _ _ _ _ _ _ _ _) _ _); refine Held.out ?_))
local macro_rules | `(tactic| walk_at "call type:int") => `(tactic| ((with_reducible show wpAny _ _ (call (Value.type "int") [Value.str _ _, Value.int _ _]) _ _ _); refine Held.out ?_))
local macro_rules | `(tactic| walk_at "compareOp Eq ref ref") => `(tactic| (refine Held.out ?_))
local macro_rules | `(tactic| walk_at "call type:list") => `(tactic| ((with_reducible show wpAny _ _ (call (Value.type "list") [Value.bytes _ _]) _ _ _); refine Held.out ?_))
theorem bytes_back : ∀ {bs : List UInt8} {ys : List Value}, ys.length = bs.length → (∀ (j : Nat) (y : Value), ys[j]? = some y → ∃ c, bs[j]? = some c ∧ ∃ t, y = .int (c.toNat : Int) t) → IntsAre ys (bs.map fun c => (c.toNat : Int))
  | [], [], _, _ => .nil
  | c :: bs, y :: ys, hl, h => by
    obtain ⟨c', hc, t, rfl⟩ := h 0 y rfl
    cases hc
    exact .cons _ _ (bytes_back (by simpa using hl) fun j z hz => h (j + 1) z hz)
  | [], _ :: _, hl, _ => by simp at hl
  | _ :: _, [], hl, _ => by simp at hl
set_option maxRecDepth 100000 in
set_option maxHeartbeats 8000000 in
theorem same_bytes {w : World} {mean : ExcName → Option Value} {mg mb : Str → Option Value} {bs : List UInt8} (hb : bs.length ≤ 5) {x : Str} (hx : x = ⟨(92 :: 120 :: hexCodes bs).toArray⟩) (hxl : x.length ≤ 20) (hs2 : (Txt.slice x none (some 2) == Str.ofString "\\x") = true) {t u v : Tok} {news : List (Addr × Obj)} :
    Tel w mean mg mb 146 12 [.int 2 t, .bytes bs.toArray u, .str x v] news isTrue_ := by
  unfold Tel
  k_fill
  k_with_none
  w_top off
  intro dp un gd cn cs a ccd cl outer A₀ base h₀ L m s Q E B F X N T hk hd hu hret
  refine wpAny_call ?_
  k_dflt (walk_at "my cells")
  have hxl2 : x.length = 2 + 2 * bs.length := by subst hx; simp [Str.length, hex_len]; omega
  k_steps
  refine Held.into ?_
  rename Frag.In _ _ => X1
  rename Top _ _ _ _ _ _ => T1
  rename _ = Data.cell (some (Value.str x v)) => hoc1
  with_unfolding_all refine' comp_exprW (fun i tl y => ∃ c, bs[i]? = some c ∧ ∃ t, y = .int (c.toNat : Int) t) ?hclos ?hcell ?hkind ?hnames ?hx ?hs ?hh
  case hclos => rfl
  case hcell => decide
  case hkind => rfl
  case hnames => decide
  case hx => rfl
  case hs => intro x; rfl
  case hh =>
    k_steps
    refine Held.into ?_
    rename IsRange _ _ _ _ _ _ _ _ => hr
    rename Fr _ _ _ _ => F4
    rename News _ _ _ _ => N4
    with_unfolding_all refine' range_says2 (n := bs.length) (R := fun i tl y => ∃ c, bs[i]? = some c ∧ ∃ t, y = .int (c.toNat : Int) t) ?r1 ?r2 ?r3 ?r4 (fun _ _ _ _ _ h => h) ?r5 ?r6
    case r1 => rfl
    case r2 => exact hr
    case r3 => rw [hxl2]; omega
    case r4 => omega
    case r5 =>
      intro C i tv s₃ m₃ E' hC hi hns3 hm hk9
      have F5 := Fr.keeps F4 hk9
      have N5 := News.grown N4 hk9
      obtain ⟨c, hc⟩ : ∃ c, bs[i]? = some c := ⟨bs[i], List.getElem?_eq_getElem hi⟩
      have hc256 : c.toNat < 256 := c.toNat_lt
      refine elt_open2 hns3 X1 T1 F5 N5 (Nat.lt_trans F4.ns.lt hC) (fun q hq => Nat.lt_trans (Heap.lt_size (N4 q hq).1) hC) ?_
      intro g' yg Fc Nc Xc Tc toL fin toN
      simp only [List.cons_append] at Nc
      clear F5 N5 F4 N4
      k_with "eval Name" => (first
        | (k_dflt (refine' wpAny_Name (wpAny_loadName_cell ?a ?b ?c ⟨_, News.get ?n ?k, hoc1⟩ ?_) ?e; (case a => exact rfl); (case b => with_unfolding_all exact rfl); (case c => with_unfolding_all exact rfl); (case e => exact rfl); (case n => assumption); (case k => k_mem)))
        | (k_dflt (refine' wpAny_Name (wpAny_loadName_local ?a ?b (Fr.ns ?f) hm ?_) ?e; (case a => exact rfl); (case b => with_unfolding_all exact rfl); (case e => exact rfl); (case f => assumption))))
      k_steps
      refine Held.into ?_
      rw [hex_slice hx hc]
      refine call_hex (by omega) (by omega) ?_
      rename News g' C _ _ => N8
      rename Fr g' C _ _ => F8
      have ec : 16 * (c.toNat / 16) + c.toNat % 16 = c.toNat := by omega
      exact .plain ⟨c, hc, _, by rw [ec]⟩ (fin _ _ _ F8 N8 (fun p hp => hp))
    case r6 =>
      intro Dl h' tk ys tl hDl hpl hyl htl hR hk9
      obtain ⟨kk, N5⟩ := new_list F4 N4 hDl hpl hk9
      have F5 := Fr.keeps F4 hk9
      have hI := bytes_back hyl hR
      clear F4 N4 hk9
      k_steps
      refine Held.into ?_
      refine list_bytes rfl _ _ (fun h5 tk5 acc c5 hk5 hg5 hitems => ?_) (by rw [List.size_toArray, sizeLine_eq]; omega)
      obtain ⟨kk5, N6⟩ := new_list (ys := acc.toList) F5 N5 (Nat.le_refl _) ⟨c5, by rw [Array.toArray_toList]; exact hg5⟩ hk5
      have F6 := Fr.keeps F5 hk5
      have hI2 : IntsAre acc.toList (bs.map fun c => (c.toNat : Int)) := bytes_back (by have := hitems.1; simpa using this) (fun j y hy => by
        obtain ⟨c, t', h1, h2⟩ := hitems.2 j y (by simpa using hy)
        exact ⟨c, by simpa using h1, t', h2⟩)
      have hsz5 : (bs.map fun c => (c.toNat : Int)).length ≤ 5 := by rw [List.length_map]; exact hb
      clear F5 N5 hk5 hitems
      k_steps
      refine Held.into ?_
      refine eq_intsK (News.isList N6 (.tail _ (.head _))) hI (News.isList N6 (.head _)) hI2 ?_ ?_
      · ktr_units
      k_steps
      rename News h₀ _ _ _ => N9
      rename Fr h₀ _ _ _ => F9
      rename GSub s.heap _ _ => G1
      exact hret _ [] _ _ F9 (fun p hp => N9 p (by rw [List.append_nil] at hp; repeat (first | exact hp | refine List.Mem.tail _ ?_))) (stays_end G1 N F6 N6 (fun p hp => by repeat (first | exact hp | refine List.Mem.tail _ ?_))) (fun _ _ _ h => nomatch h) ⟨rfl, congrArg Value.bool (decide_eq_true rfl)⟩
end Mine
end
section
open PySem PySem.W PySem.Calls PyProof.Rows
namespace Mine
theorem leaf_fine {k : Int} {d : PV} (h : Leaf k d) : d.Fine := by
  cases d with
  | none => unfold PV.Fine; trivial
  | bool b => unfold PV.Fine; trivial
  | int n => unfold PV.Fine; exact h.2
  | str w => unfold PV.Fine; have := h.2.len; omega
  | bytes bs => unfold PV.Fine; have := h.2; omega
  | list xs => exact h.elim
theorem fines_of : ∀ {xs : List PV}, (∀ x ∈ xs, x.Fine) → PV.Fines xs
  | [], _ => by unfold PV.Fines; trivial
  | x :: r, h => by unfold PV.Fines; exact ⟨h x (.head _), fines_of fun y hy => h y (.tail _ hy)⟩
theorem made_fine {k : Int} : ∀ (n : Nat) {d : PV}, Made k n d → d.Fine
  | 0, d, h => leaf_fine h
  | n + 1, d, h => by
    obtain ⟨xs, rfl, hl, hx⟩ := h
    unfold PV.Fine
    exact ⟨by omega, fines_of fun x hm => made_fine n (hx x hm)⟩
theorem deps_le {m : Nat} (hm : 1 ≤ m) : ∀ {xs : List PV}, (∀ x ∈ xs, x.dep ≤ m) → PV.deps xs ≤ m
  | [], _ => by unfold PV.deps; exact hm
  | x :: r, h => by
    unfold PV.deps
    have h1 := h x (.head _)
    have h2 := deps_le hm (xs := r) fun y hy => h y (.tail _ hy)
    omega
theorem made_dep {k : Int} : ∀ (n : Nat) {d : PV}, Made k n d → d.dep ≤ n + 1
  | 0, d, h => by
    cases d with
    | list xs => exact h.elim
    | none => unfold PV.dep; omega
    | bool b => unfold PV.dep; omega
    | int n => unfold PV.dep; omega
    | str w => unfold PV.dep; omega
    | bytes bs => unfold PV.dep; omega
  | n + 1, d, h => by
    obtain ⟨xs, rfl, hl, hx⟩ := h
    unfold PV.dep
    have := deps_le (m := n + 1) (by omega) fun x hm => made_dep n (hx x hm)
    omega
theorem escAll_le2 (w : List Nat) : (escAll w).length ≤ 2 * w.length := escAll_le w
theorem leaf_codes {k : Int} {d : PV} (h : Leaf k d) : d.src.codes.length ≤ 40 := by
  cases d with
  | none => unfold PV.src Src.codes; decide
  | bool b => unfold PV.src Src.codes; cases b <;> decide
  | int n =>
    have := dec_len h.2.1
    unfold PV.src Src.codes
    simp only [Bool.false_eq_true, if_false]
    omega
  | str w =>
    have h5 := h.2.len
    have he := escAll_le w
    unfold PV.src Src.codes
    split
    · rw [List.length_cons, List.length_append]; simp only [List.length_cons, List.length_nil]; omega
    · omega
  | bytes bs =>
    have h5 := h.2
    have he := escAll_le (92 :: 120 :: hexCodes bs)
    rw [List.length_cons, List.length_cons, hex_len] at he
    unfold PV.src Src.codes
    rw [if_pos rfl, List.length_cons, List.length_append]
    simp only [List.length_cons, List.length_nil]
    omega
  | list xs => exact h.elim
theorem codesIn_len {B : Nat} : ∀ {xs : List Src}, (∀ x ∈ xs, x.codes.length ≤ B) → (Src.codesTl xs).length ≤ xs.length * (B + 1)
  | [], _ => by simp [Src.codesTl]
  | x :: r, h => by
    have h1 := h x (.head _)
    have h2 := codesIn_len (xs := r) fun y hy => h y (.tail _ hy)
    unfold Src.codesTl
    rw [List.length_cons, List.length_append, List.length_cons, Nat.succ_mul]
    omega
theorem list_len {B : Nat} {xs : List Src} (h : ∀ x ∈ xs, x.codes.length ≤ B) (hl : xs.length ≤ 27) : (Src.list xs).codes.length ≤ 2 + 27 * (B + 1) := by
  rw [Src.codes_list, List.length_cons, List.length_append, List.length_singleton]
  have h1 := codesIn_len h
  have h2 : (Src.codesIn xs).length ≤ (Src.codesTl xs).length := by
    cases xs with
    | nil => simp [Src.codesIn]
    | cons x r =>
      show (x.codes ++ Src.codesTl r).length ≤ (44 :: (x.codes ++ Src.codesTl r)).length
      rw [List.length_cons]; omega
  have h3 : xs.length * (B + 1) ≤ 27 * (B + 1) := Nat.mul_le_mul_right _ hl
  omega
def bound : Nat → Nat
  | 0 => 40
  | n + 1 => 2 + 27 * (bound n + 1)
theorem made_codes {k : Int} : ∀ (n : Nat) {d : PV}, Made k n d → d.src.codes.length ≤ bound n
  | 0, d, h => leaf_codes h
  | n + 1, d, h => by
    obtain ⟨xs, rfl, hl, hx⟩ := h
    unfold PV.src
    refine list_len (fun x hm => ?_) (by rw [PV.srcs_eq, List.length_map]; exact hl)
    rw [PV.srcs_eq] at hm
    obtain ⟨y, hy, rfl⟩ := List.mem_map.mp hm
    exact made_codes n (hx y hy)
theorem bound3 : bound 3 ≤ 1000000 := by decide
theorem upper_map {u : Nat → Nat} {w : List Nat} (h : ∀ c ∈ w, Unicode.upperOf c = [u c]) : Txt.upper ⟨w.toArray⟩ = ⟨(w.map u).toArray⟩ := by
  refine str_ext ?_
  have gen : ∀ (l : List Nat), (∀ c ∈ l, Unicode.upperOf c = [u c]) → (l.map fun c => Unicode.upperOf c).flatten = l.map u := by
    intro l
    induction l with
    | nil => intro h; rfl
    | cons c r ih =>
      intro h
      rw [List.map_cons, List.flatten_cons, h c (.head _), ih fun d hd => h d (.tail _ hd)]
      rfl
  have := gen w h
  unfold Txt.upper PySem.placed
  simp only [List.mapIdx_toArray, Array.toList_flatten]
  have e : (List.map (fun (x : Nat × Nat) => Unicode.upperOf x.fst) w.zipIdx) = w.map fun c => Unicode.upperOf c := by
    have h1 : (w.zipIdx).map Prod.fst = w := List.zipIdx_map_fst _ _
    calc _ = ((w.zipIdx).map Prod.fst).map (fun c => Unicode.upperOf c) := by rw [List.map_map]; rfl
      _ = _ := by rw [h1]
  rw [← e] at this
  simpa [List.mapIdx_eq_zipIdx_map, Function.comp_def] using this
def upOne (c : Nat) : Nat := (Unicode.upperOf c).headD c
theorem plain_ok {w : List Nat} (hne : w ≠ []) (hp : ∀ c ∈ w, plainSign c) (hu : ∀ c ∈ w, Unicode.upperOf c = [upOne c]) (hl : w.length ≤ 400000) (hn : Txt.upper ⟨w.toArray⟩ = Str.ofString "NULL" → w = nullCodes) : (Src.elem false w).Ok := by
  unfold Src.Ok
  refine ⟨hl, fun _ => ⟨hp, fun e => ?_, hn⟩⟩
  rw [upper_map hu] at e
  have := congrArg (fun s : Str => s.cps.toList) e
  have z : (Str.ofString "").cps.toList = [] := by decide
  simp only [z] at this
  exact hne (by simpa using this)
theorem digit_up : ∀ c, (c = 45 ∨ (48 ≤ c ∧ c ≤ 57)) → Unicode.upperOf c = [upOne c] ∧ upOne c = c ∧ plainSign c := by
  intro c h
  have : c = 45 ∨ c = 48 ∨ c = 49 ∨ c = 50 ∨ c = 51 ∨ c = 52 ∨ c = 53 ∨ c = 54 ∨ c = 55 ∨ c = 56 ∨ c = 57 := by omega
  unfold plainSign
  rcases this with rfl | rfl | rfl | rfl | rfl | rfl | rfl | rfl | rfl | rfl | rfl <;> decide +kernel
theorem sign_up : ∀ c ∈ lawSigns, Unicode.upperOf c = [upOne c] := by decide +kernel
theorem dec_signs (n : Int) : (∀ c ∈ decCodes n, c = 45 ∨ (48 ≤ c ∧ c ≤ 57)) ∧ decCodes n ≠ [] := by
  cases n with
  | ofNat m =>
    obtain ⟨h1, h2, _⟩ := digits_of_nat m
    have e : decCodes (Int.ofNat m) = (Nat.toDigits 10 m).map Char.toNat := dec_nat m
    rw [e]
    exact ⟨fun c hc => .inr (h1 c hc), h2⟩
  | negSucc m =>
    obtain ⟨h1, h2, _⟩ := digits_of_nat (m + 1)
    rw [dec_neg]
    exact ⟨fun c hc => by
      rcases List.mem_cons.mp hc with rfl | hc
      · exact .inl rfl
      · exact .inr (h1 c hc), by simp⟩
theorem blank_space : ∀ c ∈ lawSigns, Unicode.isSpace c = false → c ∉ blankCodes := by decide +kernel
theorem leaf_ok {k : Int} {d : PV} (h : Leaf k d) : d.src.Ok := by
  cases d with
  | none =>
    unfold PV.src
    exact plain_ok (by decide) (by unfold plainSign; decide +kernel) (by decide +kernel) (by decide) (fun _ => rfl)
  | bool b =>
    unfold PV.src
    cases b
    · exact plain_ok (by decide) (by unfold plainSign; decide +kernel) (by decide +kernel) (by decide) (fun e => absurd e (by decide +kernel))
    · exact plain_ok (by decide) (by unfold plainSign; decide +kernel) (by decide +kernel) (by decide) (fun e => absurd e (by decide +kernel))
  | int n =>
    unfold PV.src
    obtain ⟨h1, h2⟩ := dec_signs n
    have hl := dec_len h.2.1
    refine plain_ok h2 (fun c hc => (digit_up c (h1 c hc)).2.2) (fun c hc => (digit_up c (h1 c hc)).1) (by omega) (fun e => ?_)
    rw [upper_map fun c hc => (digit_up c (h1 c hc)).1] at e
    have e2 := congrArg (fun s : Str => s.cps.toList) e
    have z : (Str.ofString "NULL").cps.toList = [78, 85, 76, 76] := by decide +kernel
    simp only [z] at e2
    have h78 : 78 ∈ (decCodes n).map upOne := by
      have : (decCodes n).map upOne = [78, 85, 76, 76] := by simpa using e2
      rw [this]; decide
    obtain ⟨c, hc, hc2⟩ := List.mem_map.mp h78
    have := (digit_up c (h1 c hc)).2.1
    have := h1 c hc
    omega
  | str w =>
    unfold PV.src
    have hw := h.2
    cases hq : needsQ w with
    | true =>
      unfold Src.Ok
      exact ⟨by have := hw.len; omega, fun e => by cases e⟩
    | false =>
      have hid := escAll_id hq
      unfold needsQ at hq
      rw [hid] at hq
      simp only [Bool.or_eq_false_iff] at hq
      obtain ⟨⟨⟨hz, _⟩, hsp⟩, hin⟩ := hq
      have hne : w ≠ [] := fun e => by rw [e] at hz; simp at hz
      have hno : ∀ x ∈ [123, 125, 44, 92], x ∉ w := fun x hx hm => by
        have : ([123, 125, 44, 92].any fun c => decide (c ∈ w)) = true := List.any_eq_true.mpr ⟨x, hx, decide_eq_true hm⟩
        rw [hin] at this; cases this
      refine plain_ok hne (fun c hc => ?_) (fun c hc => sign_up c (hw.signs c hc)) (by have := hw.len; omega) hw.null
      have hspc : Unicode.isSpace c = false := by
        cases q : Unicode.isSpace c with
        | false => rfl
        | true => have : w.any Unicode.isSpace = true := List.any_eq_true.mpr ⟨c, hc, q⟩; rw [hsp] at this; cases this
      refine ⟨fun e => hno 123 (by decide) (e ▸ hc), fun e => hno 125 (by decide) (e ▸ hc), fun e => ?_, fun e => hno 44 (by decide) (e ▸ hc), fun e => hno 92 (by decide) (e ▸ hc), blank_space c (hw.signs c hc) hspc⟩
      subst e
      refine hno 92 (by decide) ?_
      rw [← hid]
      exact List.mem_flatMap.mpr ⟨34, hc, by decide⟩
  | bytes bs =>
    unfold PV.src Src.Ok
    have := h.2
    exact ⟨by rw [List.length_cons, List.length_cons, hex_len]; omega, fun e => by cases e⟩
  | list xs => exact h.elim
theorem okAll_of : ∀ {xs : List Src}, (∀ x ∈ xs, x.Ok) → Src.OkAll xs
  | [], _ => by unfold Src.OkAll; trivial
  | x :: r, h => by unfold Src.OkAll; exact ⟨h x (.head _), okAll_of fun y hy => h y (.tail _ hy)⟩
theorem made_ok {k : Int} : ∀ (n : Nat) {d : PV}, Made k n d → d.src.Ok
  | 0, d, h => leaf_ok h
  | n + 1, d, h => by
    obtain ⟨xs, rfl, hl, hx⟩ := h
    unfold PV.src Src.Ok
    refine ⟨by rw [PV.srcs_eq, List.length_map]; omega, okAll_of fun x hm => ?_⟩
    rw [PV.srcs_eq] at hm
    obtain ⟨y, hy, rfl⟩ := List.mem_map.mp hm
    exact made_ok n (hx y hy)
theorem sdeps_le {m : Nat} (hm : 1 ≤ m) : ∀ {xs : List Src}, (∀ x ∈ xs, x.dep ≤ m) → Src.deps xs ≤ m
  | [], _ => by unfold Src.deps; exact hm
  | x :: r, h => by
    unfold Src.deps
    have h1 := h x (.head _)
    have h2 := sdeps_le hm (xs := r) fun y hy => h y (.tail _ hy)
    omega
theorem made_sdep {k : Int} : ∀ (n : Nat) {d : PV}, Made k n d → d.src.dep ≤ n + 1
  | 0, d, h => by
    cases d with
    | list xs => exact h.elim
    | none => unfold PV.src Src.dep; omega
    | bool b => unfold PV.src Src.dep; omega
    | int n => unfold PV.src Src.dep; omega
    | str w => unfold PV.src Src.dep; omega
    | bytes bs => unfold PV.src Src.dep; omega
  | n + 1, d, h => by
    obtain ⟨xs, rfl, hl, hx⟩ := h
    unfold PV.src Src.dep
    have := sdeps_le (m := n + 1) (by omega) (xs := PV.srcs xs) fun x hm => by
      rw [PV.srcs_eq] at hm
      obtain ⟨y, hy, rfl⟩ := List.mem_map.mp hm
      exact made_sdep n (hx y hy)
    omega
end Mine
end
section
open PySem PySem.W PySem.Calls PyProof.Rows
namespace Mine
section
variable {prog : Program} {w : World} {A : Around} {E : Value → Shared → Prop} {s : Shared} {R : Result → Shared → Prop}
/-- the turns of a list comprehension whose target is a tuple -/
theorem comp_loopT {elt target iter : Expr} {scope : Scope} {pos : Pos} {it acc : Value} {env : Env} (I : Nat → Shared → Prop)
    (turn : ∀ n s, I n s → wpAny (model prog w) A (pyNext it) (fun r s₁ => match r with
      | none => R (.ok .next) s₁
      | some v => wpAny (model prog w) A (letOwnedTupleGo target it v) (fun _ s₀ => wpAny (model prog w) A (assign target env v) (fun _ s₂ =>
          wpAny (model prog w) A (eval elt env) (fun x s₄ =>
              wpAny (model prog w) A (call (.builtin "list.append") [acc, x]) (fun _ s₅ => ∃ m, m < n ∧ I m s₅) (notedBy (model prog w) A env fun e s' => R (.error e) s') s₄) (notedBy (model prog w) A env fun e s' => R (.error e) s') s₂)
            (notedBy (model prog w) A env fun e s' => R (.error e) s') s₀) (notedBy (model prog w) A env fun e s' => R (.error e) s') s₁) (notedBy (model prog w) A env fun e s' => R (.error e) s') s)
    (n : Nat) (h : I n s) :
    codeAny (model prog w) A (.compLoop (.ListComp elt [⟨target, iter, [], 0⟩] scope pos) 0 it acc env) R s := by
  refine codeAny_loop rfl I (fun n s hI => ?_) n h
  show wpAny _ A ((compTurn (.ListComp elt [⟨target, iter, [], 0⟩] scope pos) 0 it acc env).onRaise (fun x => do noteFrame x env; theTreesLotGoes x)) _ _ s
  refine wpAny_noted ?_
  rw [compTurn_list]
  refine wpAny_bind (wpAny_standAt (wpAny_bind (wpAny_mono (turn n s hI) (fun r s₁ h₁ => ?_) fun _ _ h' => h')))
  cases r with
  | none => exact wpAny_pure h₁
  | some v =>
    refine wpAny_bind (wpAny_mono h₁ (fun _ s₀ h₀ => ?_) fun _ _ h' => h')
    refine wpAny_bind (wpAny_mono h₀ (fun _ s₂ h₂ => wpAny_bind (wpAny_tests_nil ?_)) fun _ _ h' => h')
    exact wpAny_bind (wpAny_bind (wpAny_mono h₂ (fun x s₄ h₄ => wpAny_bind (wpAny_mono h₄ (fun _ s₅ h₅ => wpAny_pure (wpAny_pure ⟨rfl, h₅⟩)) fun _ _ h' => h')) fun _ _ h' => h'))
end
end Mine
end
section
open PySem PySem.W PySem.Calls PyProof.Rows
namespace Mine
section
variable {prog : Program} {w : World} {A : Around} {E : Value → Shared → Prop} {s : Shared} {env : Env}
/-- the turns of a comprehension whose elements may make objects: the i-th result is as R says, over objects made later than the block's own names -/
theorem comp_turnsT {elt iter : Expr} {xa xb : Str} {pa pb pt : Pos} {kt : Nat} {scope : Scope} {pos : Pos} {I D : Addr} {fp wr : List Addr} {n : Nat} {P : Nat → Array Value → Prop} {St : Nat → Heap → Prop} {Mid : Nat → Addr → Heap → Prop} {cenv : Env} {m : Str → Option Value} {Rr : Result → Shared → Prop}
    (W : WalksU prog w A I fp wr n P St Mid) (hh : A.handled = none) (hPt : ∀ i vals, P i vals → ∃ va vb, vals = #[va, vb]) (hab : xa ≠ xb) (R : Nat → List (Addr × Obj) → Value → Prop) (mono : ∀ i tl tl' y, (∀ p ∈ tl, p ∈ tl') → R i tl y → R i tl' y)
    (hxa : cenv.kindOf xa = some .local) (hxb : cenv.kindOf xb = some .local) (hp : (cenv.scope.kind == .class || (cenv.scope.kind == .module && cenv.locals != cenv.globals)) = false) (hDC : D < cenv.locals) (hfp : ∀ b ∈ fp, b < D)
    (hst : St 0 s.heap) (hacc : s.heap.PlainList D #[]) (hn : s.heap.Ns cenv.locals m)
    (helt : ∀ i va vb s₂ m₂ (E' : Value → Shared → Prop), i < n → P i #[va, vb] → s₂.heap.Ns cenv.locals m₂ → m₂ xa = some va → m₂ xb = some vb → (∀ b o, b ≠ cenv.locals → b ∉ wr → b ≠ D → s.heap.get? b = some o → s₂.heap.get? b = some o) →
      wpAny (model prog w) A (eval elt cenv) (fun y s₃ => (∃ tl : List (Addr × Obj), (∀ p ∈ tl, cenv.locals < p.1 ∧ s₃.heap.get? p.1 = some p.2) ∧ R i tl y) ∧ KeepsC cenv.locals m₂ s₂ s₃) E' s₂)
    (hR : ∀ h' tk m' (ys : List Value) (tl : List (Addr × Obj)), h'.Ns cenv.locals m' → h'.PlainList D ys.toArray → ys.length = n → (∀ p ∈ tl, cenv.locals < p.1 ∧ h'.get? p.1 = some p.2) → (∀ j y, ys[j]? = some y → R j tl y) →
      (∀ b o, b ≠ cenv.locals → b ∉ wr → b ≠ D → s.heap.get? b = some o → h'.get? b = some o) → Rr (.ok .next) { s with heap := h', toks := tk })
    (hsz : n ≤ sizeLine) : codeAny (model prog w) A (.compLoop (.ListComp elt [⟨.Tuple [.Name xa pa, .Name xb pb] kt pt, iter, [], 0⟩] scope pos) 0 (.ref I) (.ref D) cenv) Rr s := by
  have hCw : cenv.locals ∉ wr := fun h => absurd (Nat.lt_trans (hfp _ (W.sub _ h)) hDC) (Nat.lt_irrefl _)
  have hDw : D ∉ wr := fun h => absurd (hfp _ (W.sub _ h)) (Nat.lt_irrefl _)
  have hne : D ≠ cenv.locals := Nat.ne_of_lt hDC
  refine comp_loopT (fun k s' => ∃ h' tk m', ∃ ys : List Value, ∃ tl : List (Addr × Obj), s' = { s with heap := h', toks := tk } ∧ St ys.length h' ∧ h'.PlainList D ys.toArray ∧ h'.Ns cenv.locals m' ∧
      (∀ p ∈ tl, cenv.locals < p.1 ∧ h'.get? p.1 = some p.2) ∧ (∀ j y, ys[j]? = some y → R j tl y) ∧ ys.length ≤ n ∧ k = n + 1 - ys.length ∧
      (∀ b o, b ≠ cenv.locals → b ∉ wr → b ≠ D → s.heap.get? b = some o → h'.get? b = some o)) ?_ (n + 1)
    ⟨s.heap, s.toks, m, [], [], rfl, hst, hacc, hn, (fun _ hp => nomatch hp), (fun j y hy => by simp at hy), Nat.zero_le _, rfl, fun _ _ _ _ _ e => e⟩
  rintro k s' ⟨H, tk, m', ys, tl, rfl, hst', hacc', hn', htl, hRs, hle, rfl, hk⟩
  by_cases hlt : ys.length < n
  · refine W.item ys.length _ _ _ hlt hst' fun T vals h₁ tk₁ hPv hT₁ hmid hk₁ => ?_
    obtain ⟨va, vb, rfl⟩ := hPt _ vals hPv
    refine W.go _ _ _ ys.length T _ _ _ hmid fun h₁' hst₁ hk₁' => ?_
    have hT₁' : h₁'.IsTuple T #[va, vb] := let ⟨o, e, r⟩ := hT₁; ⟨o, hk₁' _ o (W.apart _ T _ hmid) e, r⟩
    refine wpAny_assign_Tuple hh hT₁' rfl rfl fun h₁'' hx₁ => ?_
    replace hx₁ : Heap.ExtBut h₁'.objs.size h₁' h₁'' := hx₁
    have old₁ : ∀ b o, h₁'.get? b = some o → h₁''.get? b = some o := fun b o e => hx₁ b o (Nat.ne_of_lt (Heap.lt_size e)) e
    show wpAny _ _ (do holding [vb] (assign (.Name xa pa) cenv va); do holding [] (assign (.Name xb pb) cenv vb); pure ()) _ _ _
    refine wpAny_bind (wpAny_holding (wpAny_assign_Name (wpAny_storeName_local hxa (hn'.at' fun o e => old₁ _ o (hk₁' _ o hCw (hk₁ _ o hCw e))) (fun h₂a hn₂a hs₂a => ?_) hp)))
    replace hs₂a : Heap.SameBut cenv.locals h₁'' h₂a := hs₂a
    refine wpAny_bind (wpAny_holding (wpAny_assign_Name (wpAny_storeName_local hxb hn₂a (fun h₂ hn₂ hs₂ => wpAny_pure ?_) hp)))
    replace hs₂ : Heap.SameBut cenv.locals h₂a h₂ := hs₂
    have up : ∀ b o, b ≠ cenv.locals → b ∉ wr → H.get? b = some o → h₂.get? b = some o := fun b o hbC hbw e => hs₂.extBut b o hbC (hs₂a.extBut b o hbC (old₁ b o (hk₁' b o hbw (hk₁ b o hbw e))))
    have hfC : ∀ b ∈ fp, b ≠ cenv.locals := fun b hb h => absurd (Nat.lt_trans (hfp b hb) (h ▸ hDC)) (Nat.lt_irrefl _)
    have hst₂ : St (ys.length + 1) h₂ := W.frame _ _ _ hst₁ fun b hb o e => hs₂.extBut b o (hfC b hb) (hs₂a.extBut b o (hfC b hb) (old₁ b o e))
    refine wpAny_mono (helt ys.length va vb _ _ _ hlt hPv hn₂ (by simp [hab]) (by simp) (fun b o hbC hbw hbD e => up b o hbC hbw (hk b o hbC hbw hbD e))) (fun y s₄ h₄ => ?_) fun _ _ e => e
    obtain ⟨⟨tl', htl', hRy⟩, h₄, tk₄, rfl, hk₄, hn₄⟩ := h₄
    have hys : ys.toArray.size ≤ sizeLine := by rw [List.size_toArray]; omega
    refine wpAny_list_append_plain (hsz := hys) ((hacc'.at fun o e => up D o hne hDw e).at fun o e => hk₄ _ o hne e) fun h₅ hl₅ hs₅ => ?_
    rw [List.push_toArray] at hl₅
    have tlow : ∀ p : Addr × Obj, cenv.locals < p.1 → p.1 ≠ cenv.locals ∧ p.1 ∉ wr ∧ p.1 ≠ D := fun p h =>
      ⟨Nat.ne_of_gt h, fun hm => absurd (Nat.lt_trans (Nat.lt_trans (hfp _ (W.sub _ hm)) hDC) h) (Nat.lt_irrefl _), Nat.ne_of_gt (Nat.lt_trans hDC h)⟩
    refine ⟨n + 1 - (ys.length + 1), by omega, h₅, tk₄, _, ys ++ [y], tl ++ tl', rfl, ?_, hl₅, hn₄.sameBut hs₅ (Ne.symm hne), ?_, ?_, (by rw [List.length_append, List.length_singleton]; exact hlt),
      (by rw [List.length_append, List.length_singleton]), fun b o hbC hbw hbD e => hs₅.extBut b o hbD (hk₄ b o hbC (up b o hbC hbw (hk b o hbC hbw hbD e)))⟩
    · have := W.frame _ _ h₅ hst₂ fun b hb o e => hs₅.extBut b o (fun h => absurd (h ▸ hfp b hb) (Nat.lt_irrefl _)) (hk₄ b o (fun h => absurd (Nat.lt_trans (hfp b hb) (h ▸ hDC)) (Nat.lt_irrefl _)) e)
      simpa using this
    · intro p hp
      rcases List.mem_append.mp hp with hp | hp
      · obtain ⟨a1, a2⟩ := htl p hp
        obtain ⟨b1, b2, b3⟩ := tlow p a1
        exact ⟨a1, hs₅.extBut _ _ b3 (hk₄ _ _ b1 (up _ _ b1 b2 a2))⟩
      · obtain ⟨a1, a2⟩ := htl' p hp
        obtain ⟨b1, b2, b3⟩ := tlow p a1
        exact ⟨a1, hs₅.extBut _ _ b3 a2⟩
    · intro j z hz
      rcases Nat.lt_trichotomy j ys.length with h | h | h
      · rw [List.getElem?_append_left h] at hz
        exact mono _ _ _ _ (fun p hp => List.mem_append.mpr (.inl hp)) (hRs j z hz)
      · subst h
        simp at hz
        subst hz
        exact mono _ _ _ _ (fun p hp => List.mem_append.mpr (.inr hp)) hRy
      · rw [List.getElem?_eq_none (by rw [List.length_append, List.length_singleton]; omega)] at hz
        cases hz
  · have hin : ys.length = n := by omega
    refine W.done _ _ _ (hin ▸ hst') fun h₁ tk₁ hk₁ => ?_
    refine hR h₁ tk₁ m' ys tl (hn'.at' fun o e => hk₁ _ o hCw e) (hacc'.at fun o e => hk₁ _ o hDw e) hin (fun p hp => ?_) hRs fun b o hbC hbw hbD e => hk₁ b o hbw (hk b o hbC hbw hbD e)
    obtain ⟨a1, a2⟩ := htl p hp
    exact ⟨a1, hk₁ _ _ (fun hm => absurd (Nat.lt_trans (Nat.lt_trans (hfp _ (W.sub _ hm)) hDC) a1) (Nat.lt_irrefl _)) a2⟩
/-- one block of a comprehension over what is walked -/
structure CompSaysT (prog : Program) (w : World) (A : Around) (env : Env) (scope : Scope) (cl : List (Str × Addr)) (xa xb : Str) (elt : Expr) (wr : List Addr) (n : Nat) (P : Nat → Array Value → Prop) (R : Nat → List (Addr × Obj) → Value → Prop) (s₂ : Shared) : Prop where
  mono : ∀ i tl tl' y, (∀ p ∈ tl, p ∈ tl') → R i tl y → R i tl' y
  elt : ∀ C i va vb s₃ m₃ (E' : Value → Shared → Prop), s₂.heap.objs.size < C → i < n → P i #[va, vb] → s₃.heap.Ns C m₃ → m₃ xa = some va → m₃ xb = some vb → (∀ b o, b ∉ wr → s₂.heap.get? b = some o → s₃.heap.get? b = some o) →
    wpAny (model prog w) A (eval elt (compEnvC scope cl C env)) (fun y s₄ => (∃ tl : List (Addr × Obj), (∀ p ∈ tl, C < p.1 ∧ s₄.heap.get? p.1 = some p.2) ∧ R i tl y) ∧ KeepsC C m₃ s₃ s₄) E' s₃
theorem comp_blockT {elt iter : Expr} {xa xb : Str} {pa pb pt : Pos} {kt : Nat} {scope : Scope} {cl : List (Str × Addr)} {pos : Pos} {s₂ : Shared} {I : Addr} {fp wr : List Addr} {n : Nat} {P : Nat → Array Value → Prop} {St : Nat → Heap → Prop} {Mid : Nat → Addr → Heap → Prop}
    (W : WalksU prog w A I fp wr n P St Mid) (hh : A.handled = none) (hPt : ∀ i vals, P i vals → ∃ va vb, vals = #[va, vb]) (hab : xa ≠ xb) (hsz : n ≤ sizeLine) {R : Nat → List (Addr × Obj) → Value → Prop} {RR : Value → Addr → Result → Shared → Prop}
    (hcell : ∀ y ∈ scope.names, y.2 ≠ .cell) (hkind : scope.kind = .function) (hxa : scope.names.lookup xa = some .local) (hxb : scope.names.lookup xb = some .local) (hst : St 0 s₂.heap) (hfp : ∀ b ∈ fp, b < s₂.heap.objs.size)
    (hq : CompSaysT prog w A env scope cl xa xb elt wr n P R s₂)
    (hRR : ∀ C h' tk m' (ys : List Value) (tl : List (Addr × Obj)), s₂.heap.objs.size < C → h'.Ns C m' → h'.PlainList s₂.heap.objs.size ys.toArray → ys.length = n → (∀ p ∈ tl, C < p.1 ∧ h'.get? p.1 = some p.2) → (∀ j y, ys[j]? = some y → R j tl y) →
      (∀ b o, b ∉ wr → s₂.heap.get? b = some o → h'.get? b = some o) → RR (.ref s₂.heap.objs.size) C (.ok .next) { s₂ with heap := h', toks := tk }) :
    wpAny (model prog w) A (newList []) (fun acc s₃ => wpAny (model prog w) A (newFunctionEnv scope env.globals cl [] env.qual none .none (some env)) (fun cenv s₄ =>
      codeAny (model prog w) A (.compStart (.ListComp elt [⟨.Tuple [.Name xa pa, .Name xb pb] kt pt, iter, [], 0⟩] scope pos) 0 (.ref I) acc { cenv with scope := relabel scope env }) (RR acc cenv.locals) s₄) E s₃) E s₂ := by
  refine wpAny_newObj_type (wpAny_newFunctionEnv hcell (by intro y hy; simp at hy) (fun h₁ hns₁ hsb₁ => ?_) hkind)
  dsimp only at hns₁ hsb₁ ⊢
  generalize hH : s₂.heap.push { cls := .type "list", dict := none, data := .seq ([] : List Value).toArray } = H at hns₁ hsb₁ ⊢
  have hC : H.objs.size = s₂.heap.objs.size + 1 := by rw [← hH, Heap.size_push]
  have hDC : s₂.heap.objs.size < H.objs.size := by rw [hC]; exact Nat.lt_succ_self _
  have small : ∀ b, b < s₂.heap.objs.size → b ≠ H.objs.size ∧ b ≠ s₂.heap.objs.size := fun b hb => ⟨Nat.ne_of_lt (Nat.lt_trans hb hDC), Nat.ne_of_lt hb⟩
  have old : ∀ b o, s₂.heap.get? b = some o → h₁.get? b = some o := fun b o e => hsb₁.extBut b o (small b (Heap.lt_size e)).1 (Heap.get?_push_of_some _ (hH ▸ Heap.get?_push_of_some _ e))
  have hacc : h₁.PlainList s₂.heap.objs.size #[] := ⟨_, hsb₁.extBut _ _ (Nat.ne_of_lt hDC) (Heap.get?_push_of_some _ (hH ▸ Heap.get?_push_size _ rfl))⟩
  have hst₁ : St 0 h₁ := W.frame _ _ _ hst fun b _ o e => old b o e
  have up : ∀ (h₂ : Heap), (∀ b o, b ≠ H.objs.size → b ∉ wr → b ≠ s₂.heap.objs.size → h₁.get? b = some o → h₂.get? b = some o) → ∀ b o, b ∉ wr → s₂.heap.get? b = some o → h₂.get? b = some o :=
    fun h₂ hk b o hb e => hk b o (small b (Heap.lt_size e)).1 hb (small b (Heap.lt_size e)).2 (old b o e)
  have loop : ∀ s₃ : Shared, s₃ = { s₂ with heap := h₁, toks := s₂.toks + ([] : List (Str × Value)).length } →
      codeAny (model prog w) A (.compLoop (.ListComp elt [⟨.Tuple [.Name xa pa, .Name xb pb] kt pt, iter, [], 0⟩] scope pos) 0 (.ref I) (.ref s₂.heap.objs.size) (compEnvC scope cl H.objs.size env)) (RR (.ref s₂.heap.objs.size) H.objs.size) s₃ := by
    rintro s₃ rfl
    refine comp_turnsT (cenv := compEnvC scope cl H.objs.size env) W hh hPt hab R hq.mono (lookup_relabel_local hxa) (lookup_relabel_local hxb) (by simp [compEnvC, relabel, hkind]) hDC hfp hst₁ hacc hns₁
      (fun i va vb s₃ m₃ E' hi hv hn hm hm2 hk => hq.elt _ i va vb s₃ m₃ E' hDC hi hv hn hm hm2 (up _ hk)) (fun h' tk m' ys tl hn hpl hlen htl hRs hk => ?_) hsz
    exact hRR _ h' tk m' ys tl hDC hn hpl hlen htl hRs (up _ hk)
  exact codeAny_compStart_list (loop _ rfl) (W.self 0 _ _ _ hst₁ (loop _ rfl))
/-- what a comprehension needs of what is walked -/
def SrcSaysT (prog : Program) (w : World) (A : Around) (env : Env) (scope : Scope) (cl : List (Str × Addr)) (xa xb : Str) (elt : Expr) (R : Nat → List (Addr × Obj) → Value → Prop) (Q : Value → Shared → Prop) (it : Value) (s₂ : Shared) : Prop :=
  ∃ I fp wr n P St Mid, it = .ref I ∧ WalksU prog w A I fp wr n P St Mid ∧ (∀ i vals, P i vals → ∃ va vb, vals = #[va, vb]) ∧ n ≤ sizeLine ∧ St 0 s₂.heap ∧ (∀ b ∈ fp, b < s₂.heap.objs.size) ∧
      CompSaysT prog w A env scope cl xa xb elt wr n P R s₂ ∧
      (∀ h' tk (ys : List Value) (tl : List (Addr × Obj)), h'.PlainList s₂.heap.objs.size ys.toArray → ys.length = n → (∀ p ∈ tl, s₂.heap.objs.size < p.1 ∧ h'.get? p.1 = some p.2) → (∀ j y, ys[j]? = some y → R j tl y) →
        (∀ b o, b ∉ wr → s₂.heap.get? b = some o → h'.get? b = some o) → Q (.ref s₂.heap.objs.size) { s₂ with heap := h', toks := tk })
/-- a comprehension as an expression -/
theorem comp_exprT {elt iter : Expr} {xa xb : Str} {pa pb pt : Pos} {kt : Nat} {scope : Scope} {cl : List (Str × Addr)} {pos : Pos} {Q : Value → Shared → Prop} (R : Nat → List (Addr × Obj) → Value → Prop)
    (hh : A.handled = none) (hab : xa ≠ xb) (hclos : closureFor scope env = pure cl) (hcell : ∀ y ∈ scope.names, y.2 ≠ .cell) (hkind : scope.kind = .function) (hnames : ∀ y ∈ scope.names, y.2 = .local → scope.names.lookup y.1 = some .local) (hxa : scope.names.lookup xa = some .local) (hxb : scope.names.lookup xb = some .local)
    (hs : ∀ x, foldedSetIterable iter env x = pure x)
    (h : wpAny (model prog w) A (eval iter env) (fun xv s₁ => wpAny (model prog w) A (pyIter xv) (SrcSaysT prog w A env scope cl xa xb elt R Q) E s₁) E s) :
    wpAny (model prog w) A (eval (.ListComp elt [⟨.Tuple [.Name xa pa, .Name xb pb] kt pt, iter, [], 0⟩] scope pos) env) Q E s := by
  rw [eval_ListComp]
  refine wpAny_comprehension_free (use := none) rfl hs hclos hkind hnames (wpAny_mono h (fun xv s₁ h₁ => wpAny_mono h₁ (fun it s₂ h₂ => ?_) fun _ _ e => e) fun _ _ e => e)
  obtain ⟨I, fp, wr, n, P, St, Mid, rfl, W, hPt, hsz, hst, hfp, hq, hQ⟩ := h₂
  refine comp_blockT (RR := fun acc C => compPost (model prog w) A E none Q acc C) W hh hPt hab hsz hcell hkind hxa hxb hst hfp hq ?_
  intro C h' tk m' ys tl hDC hn hpl hlen htl hRs hk
  have hlow : ∀ b, b < C → b ≠ C := fun b hb => Nat.ne_of_lt hb
  refine ⟨m', hn, fun h'' hs'' => hQ h'' tk ys tl ?_ hlen (fun p hp => ?_) hRs fun b o hbw e => ?_⟩
  · obtain ⟨k, e⟩ := hpl
    exact ⟨k, hs''.extBut _ _ (Nat.ne_of_lt hDC) e⟩
  · obtain ⟨a1, a2⟩ := htl p hp
    exact ⟨Nat.lt_trans hDC a1, hs''.extBut _ _ (Nat.ne_of_gt a1) a2⟩
  · exact hs''.extBut b o (Nat.ne_of_lt (Nat.lt_trans (Heap.lt_size e) hDC)) (hk b o hbw e)
end
end Mine
end
section
open PySem PySem.W PySem.Calls PyProof.Rows
namespace Mine
theorem zip_apart (n l1 l2 : Nat) (h1 : l1 < n) (h2 : l2 < n) : ZipApart (n + 4) (n + 2) (n + 3) n (n + 1) l1 l2 := by
  constructor <;> (show @Ne Nat _ _) <;> omega
section
variable {prog : Program} {w : World} {A : Around} {E : Value → Shared → Prop} {s : Shared} {env : Env}
theorem zip_says {elt : Expr} {xa xb : Str} {scope : Scope} {cl : List (Str × Addr)} {Q : Value → Shared → Prop} {R : Nat → List (Addr × Obj) → Value → Prop} {l1 l2 : Addr} {xs ys : List Value}
    (hh : A.handled = none) (hl1 : s.heap.IsList l1 xs.toArray) (hl2 : s.heap.IsList l2 ys.toArray) (hlen : xs.length = ys.length) (hsz : xs.length ≤ 1000)
    (mono : ∀ i tl tl' y, (∀ p ∈ tl, p ∈ tl') → R i tl y → R i tl' y)
    (helt : ∀ C (i : Nat) va vb s₃ m₃ (E' : Value → Shared → Prop), s.heap.objs.size < C → xs[i]? = some va → ys[i]? = some vb → s₃.heap.Ns C m₃ → m₃ xa = some va → m₃ xb = some vb → (∀ b o, s.heap.get? b = some o → s₃.heap.get? b = some o) →
      wpAny (model prog w) A (eval elt (compEnvC scope cl C env)) (EltPost C m₃ s₃ (R i)) E' s₃)
    (fin : ∀ Dl h' tk (zs : List Value) (tl : List (Addr × Obj)), s.heap.objs.size ≤ Dl → h'.PlainList Dl zs.toArray → zs.length = xs.length → (∀ p ∈ tl, Dl < p.1 ∧ h'.get? p.1 = some p.2) → (∀ j y, zs[j]? = some y → R j tl y) →
      (∀ b o, s.heap.get? b = some o → h'.get? b = some o) → Q (.ref Dl) { s with heap := h', toks := tk }) :
    wpAny (model prog w) A (call (.type "zip") [.ref l1, .ref l2]) (fun xv s₁ => wpAny (model prog w) A (pyIter xv) (SrcSaysT prog w A env scope cl xa xb elt R Q) E s₁) E s := by
  refine call_zip_2 hl1 hl2 fun h' hz hTI hTO hi1 hi2 hsize hk => ?_
  refine wpAny_pyIter_zip hz ?_
  have a1 : l1 < s.heap.objs.size := by obtain ⟨_, e, _⟩ := hl1; exact Heap.lt_size e
  have a2 : l2 < s.heap.objs.size := by obtain ⟨_, e, _⟩ := hl2; exact Heap.lt_size e
  have W := (WalksT.zip2 (prog := prog) (w := w) (A := A) hh _ _ _ _ _ l1 l2 (zip_apart s.heap.objs.size l1 l2 a1 a2) xs.toArray ys.toArray).toU
  have hmin : min xs.toArray.size ys.toArray.size = xs.length := by rw [List.size_toArray, List.size_toArray, hlen, Nat.min_self]
  have hnw : ∀ b o, s.heap.get? b = some o → b ∉ [s.heap.objs.size + 4, s.heap.objs.size + 3, s.heap.objs.size, s.heap.objs.size + 1] := fun b o e hm => by
    have hb : @LT.lt Nat _ b s.heap.objs.size := Heap.lt_size e
    simp only [List.mem_cons, List.not_mem_nil, or_false] at hm
    rcases hm with h | h | h | h <;> (have h2 : @Eq Nat b _ := h; omega)
  refine ⟨_, _, _, _, _, _, _, rfl, W, (fun i vals hv => by obtain ⟨x, y, _, _, e⟩ := hv; exact ⟨x, y, e⟩), by rw [hmin, sizeLine_eq]; omega,
    ⟨hz, hTI, ⟨_, _, hTO⟩, hi1, hi2, hl1.at fun o e => hk _ _ e, hl2.at fun o e => hk _ _ e⟩, ?_, ⟨mono, ?_⟩, ?_⟩
  · intro b hb
    show @LT.lt Nat _ b h'.objs.size
    rw [hsize]
    have a1' : @LT.lt Nat _ l1 s.heap.objs.size := a1
    have a2' : @LT.lt Nat _ l2 s.heap.objs.size := a2
    simp only [List.mem_cons, List.not_mem_nil, or_false] at hb
    rcases hb with h | h | h | h | h | h | h <;> (have h2 : @Eq Nat b _ := h; omega)
  · rintro C i va vb s₃ m₃ E' hC hi ⟨x, y, hx, hy, e⟩ hns hm hm2 hk3
    obtain ⟨e1, e2⟩ : va = x ∧ vb = y := by simpa using congrArg Array.toList e
    subst e1 e2
    have hC' : s.heap.objs.size < C := by
      have h0 : @LT.lt Nat _ h'.objs.size C := hC
      rw [hsize] at h0
      show @LT.lt Nat _ s.heap.objs.size C
      omega
    exact helt C i va vb s₃ m₃ E' hC' (by simpa using hx) (by simpa using hy) hns hm hm2 fun b o e => hk3 b o (hnw b o e) (hk _ _ e)
  · intro h9 tk zs tl hpl hzl htl hR hk9
    refine fin _ h9 tk zs tl ?_ hpl (by rw [hzl, hmin]) htl hR fun b o e => hk9 b o (hnw b o e) (hk _ _ e)
    show @LE.le Nat _ s.heap.objs.size h'.objs.size
    rw [hsize]; omega
end
end Mine
end
section
open PySem PySem.W PySem.Calls PyProof.Rows
namespace Mine
theorem Tel.more {w : World} {mean : ExcName → Option Value} {mg mb : Str → Option Value} {f : Addr} {need need' : Nat} {vs : List Value} {news : List (Addr × Obj)} {Out : List (Addr × Obj) → Value → Prop} (C : Tel w mean mg mb f need vs news Out) (hn : need ≤ need') :
    Tel w mean mg mb f need' vs news Out := fun _ _ _ _ _ _ _ _ _ _ _ _ _ _ _ _ _ B F X N T hk hd hu ret => C.use B F X N T hk (by omega) (by omega) ret
theorem slash_x (l : List Nat) : (Txt.slice (⟨(92 :: 120 :: l).toArray⟩ : Str) none (some 2) == Str.ofString "\\x") = true := by
  have e := eq_of_beq (slice_closes_toL (x := ⟨(92 :: 120 :: l).toArray⟩) (j := 2) (by decide) (by simp [Str.length]; omega))
  rw [e, bs_x]
  simp
theorem same_leaf {w : World} {mean : ExcName → Option Value} {mg mb : Str → Option Value} {kind : Int} {d : PV} (h : Leaf kind d) {v u : Value} {t : Tok} {na nb news : List (Addr × Obj)} (hv : d.At na v) (hu : d.src.At nb u) :
    Tel w mean mg mb 146 12 [.int kind t, v, u] news isTrue_ := by
  cases d with
  | none =>
    unfold PV.At at hv
    unfold PV.src Src.At at hu
    rw [if_pos (by decide)] at hu
    subst hv hu
    exact same_none.more (by omega)
  | bool b =>
    unfold PV.At at hv
    unfold PV.src Src.At at hu
    rw [if_neg (by cases b <;> decide)] at hu
    obtain ⟨t', rfl⟩ := hu
    subst hv
    have hk : kind = 3 := h
    subst hk
    cases b
    · have e : (⟨([102, 97, 108, 115, 101] : List Nat).toArray⟩ : Str) = Str.ofString "false" := by decide +kernel
      simp only [Bool.false_eq_true, if_false, e]
      exact (same_false (u := 0)).more (by omega)
    · have e : (⟨([116, 114, 117, 101] : List Nat).toArray⟩ : Str) = Str.ofString "true" := by decide +kernel
      simp only [if_true, e]
      exact (same_true (u := 0)).more (by omega)
  | int n =>
    unfold PV.At at hv
    unfold PV.src Src.At at hu
    have hnn : decCodes n ≠ nullCodes := fun e => by
      have := (dec_signs n).1 78 (by rw [e]; decide)
      omega
    rw [if_neg (by simp [hnn])] at hu
    obtain ⟨t1, rfl⟩ := hv
    obtain ⟨t2, rfl⟩ := hu
    obtain ⟨rfl, h2, _⟩ := h
    rw [dec_str]
    exact (same_int h2).more (by omega)
  | str wd =>
    unfold PV.At at hv
    unfold PV.src Src.At at hu
    have hq : ¬ ((!needsQ wd && decide (wd = nullCodes)) = true) := by
      intro e
      simp only [Bool.and_eq_true, Bool.not_eq_true', decide_eq_true_eq] at e
      obtain ⟨e1, e2⟩ := e
      subst e2
      exact absurd e1 (by decide +kernel)
    rw [if_neg hq] at hu
    obtain ⟨t1, rfl⟩ := hv
    obtain ⟨t2, rfl⟩ := hu
    obtain ⟨rfl, _⟩ := h
    exact same_str.more (by omega)
  | bytes bs =>
    unfold PV.At at hv
    unfold PV.src Src.At at hu
    rw [if_neg (by simp)] at hu
    obtain ⟨t1, rfl⟩ := hv
    obtain ⟨t2, rfl⟩ := hu
    obtain ⟨rfl, h2⟩ := h
    exact same_bytes h2 rfl (by simp [Str.length, hex_len]; omega) (slash_x _)
  | list xs => exact h.elim
end Mine
end
section
open PySem PySem.W PySem.Calls PyProof.Rows
namespace Mine
section
variable {prog : Program} {w : World} {A : Around} {E : Value → Shared → Prop} {s : Shared}
theorem all_trues {D : Addr} {zs : List Value} {Q : Value → Shared → Prop} (hh : A.handled = none) (hl : s.heap.IsList D zs.toArray) (hz : ∀ (j : Nat) y, zs[j]? = some y → y = .bool true)
    (h : ∀ h' tk, (∀ b o, s.heap.get? b = some o → h'.get? b = some o) → Q (.bool true) { s with heap := h', toks := tk }) : wpAny (model prog w) A (call (.builtin "all") [.ref D]) Q E s := by
  have hlt : D < s.heap.objs.size := by obtain ⟨_, e, _⟩ := hl; exact Heap.lt_size e
  refine call_all_walkS (wpAny_pyIter_list hl ?_)
  refine ⟨_, _, _, _, _, _, _, fun _ => true, rfl, (Walks.list (A := A.in1) hh _ _ (Nat.ne_of_lt hlt) zs.toArray).toS, ⟨⟨_, Heap.get?_push_size _ rfl, rfl, rfl⟩, hl.push _⟩, ?_, fun s' hm => ?_⟩
  · intro i v s Q E hv hQ
    have := hz i v (by simpa using hv)
    subst this
    exact wpAny_pure hQ
  · rw [Moved.eq_with hm]
    have e : (List.range zs.toArray.size).all (fun _ => true) = true := by simp
    rw [e]
    exact h _ _ fun b o eb => hm.heap b o (fun hmem => Nat.ne_of_lt (Heap.lt_size eb) (List.mem_singleton.mp hmem)) (Heap.get?_push_of_some _ eb)
end
end Mine
end
section
open PySem PySem.W PySem.Calls PyProof.Rows
namespace Mine
local macro_rules | `(tactic| walk_at "my cells") => `(tactic| (refine' code_cells ?k1 ?k2 ?k3 ?k4 ?k5 ?kA ?kF ?kK ?k6 ?k7 ?k8 ?k9 ?kB ?kD ?_ ?c2 ?c3 ?c4; (case kA => exact rfl); (case kF => exact rfl); (case kK => assumption); (case k1 => k_asm); (case k2 => k_asm); (case k3 => k_asm); (case k4 => k_asm); (case k5 => k_asm); (case k6 => k_is); (case k7 => k_is); (case k8 => ktr_room); (case k9 => exact BindsTo.of_eq rfl); (case kB => exact rfl); (case kD => decide +kernel); (case c2 => exact rfl); (case c3 => exact rfl); (case c4 => exact rfl); k_whole; intro g' L' h' tk' cells' FG' F' N' Y' B' X' T' G1 l1; (try k_lt l1); k_cells Y'; (try simp only [List.cons_append, List.nil_append] at N'); (try dsimp only); (try k_fold)))
local macro_rules | `(tactic| walk_at "call builtin:len") => `(tactic| (k_here; (with_reducible show wpAny _ _ (call (Value.builtin "len") [Value.ref _]) _ _ _); k_dflt (refine' my_len ?k1 ?k2 ?_; (case k1 => exact News.isList (by k_asm) (by k_mem)); (case k2 => (simp only [List.size_toArray, List.length_append, List.length_cons, List.length_nil]; omega)); k_whole); intro _ _; (try simp only [List.size_toArray, List.length_append, List.length_cons, List.length_nil])))
local macro_rules | `(tactic| walk_at "eval ListComp") => `(tactic| (refine Held.out ?_))
local macro_rules | `(tactic| walk_at "call type:zip") => `(tactic| (refine Held.out ?_))
local macro_rules | `(tactic| walk_at "call builtin:all") => `(tactic| (refine Held.out ?_))
theorem cons2_app {x y p : Addr × Obj} {news yg : List (Addr × Obj)} (h : p ∈ x :: y :: news) : p ∈ x :: y :: (news ++ yg) := by
  rcases List.mem_cons.mp h with rfl | h
  · exact .head _
  · rcases List.mem_cons.mp h with rfl | h
    · exact .tail _ (.head _)
    · exact .tail _ (.tail _ (List.mem_append.mpr (.inl h)))
set_option maxRecDepth 100000 in
set_option maxHeartbeats 8000000 in
theorem same_list {w : World} {mean : ExcName → Option Value} {mg mb : Str → Option Value} {kind : Int} (need : Nat) {its us : List Value} {n1 n2 : Nat} {a b : Addr} (hlen : its.length = us.length) (hl : its.length ≤ 27) {t : Tok} {news : List (Addr × Obj)}
    (ih : ∀ (i : Nat) v u, its[i]? = some v → us[i]? = some u → ∀ t', Tel w mean mg mb 146 need [.int kind t', v, u] ((a, W.listOf its.toArray n1) :: (b, W.listOf us.toArray n2) :: news) isTrue_) :
    Tel w mean mg mb 146 (need + 1) [.int kind t, .ref a, .ref b] ((a, W.listOf its.toArray n1) :: (b, W.listOf us.toArray n2) :: news) isTrue_ := by
  unfold Tel
  k_fill
  k_with_none
  w_top off
  intro dp un gd cn cs a9 ccd cl outer A₀ base h₀ L m s Q E B F X N T hk hd hu hret
  have hl1 : its.length ≤ 1048576 := by omega
  have hl2 : us.length ≤ 1048576 := by omega
  have hle : (((its.length : Nat) : Int) == ((us.length : Nat) : Int)) = true := by rw [hlen]; simp
  refine wpAny_call ?_
  k_dflt (walk_at "my cells")
  k_steps
  refine Held.into ?_
  rename Fr _ _ _ _ => F3
  rename News _ _ _ _ => N3
  rename Frag.In _ _ => X1
  rename Top _ _ _ _ _ _ => T1
  rename _ = Data.cell (some (Value.int kind t)) => hoc1
  have h12 : (Str.ofString "one") ≠ (Str.ofString "two") := by decide
  with_unfolding_all refine' comp_exprT (fun i tl y => y = .bool true) ?hhA ?hab ?hclos ?hcell ?hkind ?hnames ?hxa ?hxb ?hs ?hh
  case hhA => rfl
  case hab => exact h12
  case hclos => rfl
  case hcell => decide
  case hkind => rfl
  case hnames => decide
  case hxa => rfl
  case hxb => rfl
  case hs => intro x; rfl
  case hh =>
    k_steps
    refine Held.into ?_
    have F4 := F3
    have N4 := N3
    with_unfolding_all refine' zip_says (R := fun i tl y => y = .bool true) ?r1 (News.isList N4 (by k_mem)) (News.isList N4 (by k_mem)) hlen ?r4 (fun _ _ _ _ _ h => h) ?r5 ?r6
    case r1 => rfl
    case r4 => omega
    case r5 =>
      intro C i va vb s₃ m₃ E' hC hva hvb hns3 hm hm2 hk9
      have F5 := Fr.keeps F4 hk9
      have N5 := News.grown N4 hk9
      refine elt_open2 hns3 X1 T1 F5 N5 (Nat.lt_trans F4.ns.lt hC) (fun q hq => Nat.lt_trans (Heap.lt_size (N4 q hq).1) hC) ?_
      intro g' yg Fc Nc Xc Tc toL fin toN
      simp only [List.cons_append] at Nc
      clear F5 N5 F4 N4
      k_with "eval Name" => (first
        | (k_dflt (refine' wpAny_Name (wpAny_loadName_cell ?a ?b ?c ⟨_, News.get ?n ?k, hoc1⟩ ?_) ?e; (case a => exact rfl); (case b => with_unfolding_all exact rfl); (case c => with_unfolding_all exact rfl); (case e => exact rfl); (case n => assumption); (case k => k_mem)))
        | (k_dflt (refine' wpAny_Name (wpAny_loadName_local ?a ?b (Fr.ns ?f) hm ?_) ?e; (case a => exact rfl); (case b => with_unfolding_all exact rfl); (case e => exact rfl); (case f => assumption)))
        | (k_dflt (refine' wpAny_Name (wpAny_loadName_local ?a ?b (Fr.ns ?f) hm2 ?_) ?e; (case a => exact rfl); (case b => with_unfolding_all exact rfl); (case e => exact rfl); (case f => assumption))))
      k_steps
      rename Fr g' C _ _ => F8
      rename News g' C _ _ => N8
      k_dflt (refine' Tel.use (ih i va vb hva hvb _) ?z1 (toL _ F8.keep) X1 (toN _ _ (fun p hp => N8 p (.tail _ (.tail _ (cons2_app hp))))) T1 ?zK ?zd ?zu ?_; (case z1 => k_asm); (case zK => exact rfl); (case zd => ktr_room); (case zu => ktr_units))
      intro r tl h9 tk9 F9 N9 hs9 ho9 hout9
      obtain ⟨_, rfl⟩ := hout9
      exact .plain rfl (fin _ _ _ (Fr.keeps F8 hs9) (News.grown N8 hs9) (fun p hp => hp))
    case r6 =>
      intro Dl h' tk zs tl hDl hpl hzl htl hR hk9
      obtain ⟨kk, N5⟩ := new_list F4 N4 hDl hpl hk9
      have F5 := Fr.keeps F4 hk9
      clear F4 N4 hk9
      k_steps
      refine Held.into ?_
      refine all_trues rfl (plain_list hpl) hR fun h5 tk5 hk5 => ?_
      have F6 := Fr.keeps F5 hk5
      have N6 := News.grown N5 hk5
      clear F5 N5 hk5
      k_steps
      rename News h₀ _ _ _ => N9
      rename Fr h₀ _ _ _ => F9
      rename GSub s.heap _ _ => G1
      exact hret _ [] _ _ F9 (fun p hp => N9 p (by rw [List.append_nil] at hp; repeat (first | exact hp | refine List.Mem.tail _ ?_))) (stays_end G1 N F6 N6 (fun p hp => by repeat (first | exact hp | refine List.Mem.tail _ ?_))) (fun _ _ _ h => nomatch h) ⟨rfl, rfl⟩
theorem srcats_get {nx : List (Addr × Obj)} : ∀ {xs : List Src} {vs : List Value}, Src.Ats nx xs vs → ∀ (i : Nat) (v : Value), vs[i]? = some v → ∃ x, xs[i]? = some x ∧ x.At nx v
  | [], vs, k, i, v, e => by unfold Src.Ats at k; subst k; simp at e
  | y :: r, vs, k, i, v, e => by
    unfold Src.Ats at k
    obtain ⟨u, vs', rfl, k1, k2⟩ := k
    cases i with
    | zero => simp at e; subst e; exact ⟨y, rfl, k1⟩
    | succ i =>
      obtain ⟨x, hx, ha⟩ := srcats_get k2 i v (by simpa using e)
      exact ⟨x, by simpa using hx, ha⟩
theorem same_spec {w : World} {mean : ExcName → Option Value} {mg mb : Str → Option Value} {kind : Int} : ∀ (n : Nat) {d : PV}, Made kind n d → ∀ {v u : Value} {t : Tok} {news : List (Addr × Obj)}, d.At news v → d.src.At news u →
    Tel w mean mg mb 146 (12 + n) [.int kind t, v, u] news isTrue_
  | 0, d, h, v, u, t, news, hv, hu => same_leaf h hv hu
  | n + 1, d, h, v, u, t, news, hv, hu => by
    obtain ⟨xs, rfl, hl, hx⟩ := h
    unfold PV.At at hv
    unfold PV.src Src.At at hu
    obtain ⟨a, its, n1, rfl, ha, hats⟩ := hv
    obtain ⟨b, us, n2, rfl, hb, hbts⟩ := hu
    have e1 : its.length = xs.length := PV.Ats.len hats
    have e2 : us.length = xs.length := by rw [Src.Ats.len hbts, PV.srcs_eq, List.length_map]
    have key := same_list (w := w) (mean := mean) (mg := mg) (mb := mb) (kind := kind) (12 + n) (its := its) (us := us) (n1 := n1) (n2 := n2) (a := a) (b := b) (by omega) (by omega) (t := t) (news := news) (fun i v u hv hu t' => by
      obtain ⟨x, hx1, hx2⟩ := PV.Ats.get hats i v hv
      obtain ⟨y, hy1, hy2⟩ := srcats_get hbts i u hu
      rw [PV.srcs_eq, List.getElem?_map, hx1] at hy1
      cases hy1
      exact same_spec n (hx x (List.mem_of_getElem? hx1)) (PV.At.mono (fun p hp => .tail _ (.tail _ hp)) hx2) (Src.At.mono (fun p hp => .tail _ (.tail _ hp)) hy2))
    intro dp un gd cn cs a9 ccd cl outer A₀ base h₀ L m s Q E B F X N T hk hd hu ret
    refine key.use B F X (fun p hp => N p ?_) T hk (by omega) (by omega) fun r tl h' tk' F' N' hs hord ho => ret r tl h' tk' F' (fun p hp => N' p ?_) hs (fun q hq => hord q (.tail _ (.tail _ hq))) ho
    · rcases List.mem_cons.mp hp with rfl | hp
      · exact ha
      · rcases List.mem_cons.mp hp with rfl | hp
        · exact hb
        · exact hp
    · exact .tail _ (.tail _ hp)
end Mine
end
section
open PySem PySem.W PySem.Calls PyProof.Rows
namespace Mine
local macro_rules | `(tactic| walk_at "my enter") => `(tactic| (refine' code_defG ?k1 ?k2 ?k3 ?k4 ?k5 ?kA ?kF ?kK ?k6 ?k7 ?k8 ?k9 ?kB ?_ ?c2 ?c3 ?c4 ?c5; (case kA => exact rfl); (case kF => exact rfl); (case kK => assumption); (case k1 => k_asm); (case k2 => k_asm); (case k3 => k_asm); (case k4 => k_asm); (case k5 => k_asm); (case k6 => k_is); (case k7 => k_is); (case k8 => ktr_room); (case k9 => exact BindsTo.of_eq rfl); (case c5 => decide); (case kB => exact locs rfl); (case c2 => exact rfl); (case c3 => exact rfl); (case c4 => exact rfl); k_whole; intro g' L' h' FG' F' N' B' X' T' G'; (try dsimp only); (try k_fold)))
set_option maxRecDepth 100000 in
set_option maxHeartbeats 8000000 in
theorem kind_list {w : World} {mean : ExcName → Option Value} {mg mb : Str → Option Value} {a : Addr} {its : List Value} {n : Nat} {news : List (Addr × Obj)} :
    Tel w mean mg mb 21 1 [.ref a] ((a, W.listOf its.toArray n) :: news) (litIs "list") := by
  unfold Tel
  k_fill
  k_with_none
  w_top off
  intro dp un gd cn cs a9 ccd cl outer A₀ base h₀ L m s Q E B F X N T hk hd hu hret
  refine wpAny_call ?_
  k_dflt (walk_at "my enter")
  rename_i g L1 h1 FG F1 N1 B1 X1 T1 G1
  k_steps
  · rename News h₀ _ _ _ => N9
    rename Fr h₀ _ _ _ => F9
    exact hret _ [] _ _ F9 (fun p hp => N9 p (by rw [List.append_nil] at hp; repeat (first | exact hp | refine List.Mem.tail _ ?_))) (stays_end G1 N (by assumption) (by assumption) (fun p hp => by repeat (first | exact hp | refine List.Mem.tail _ ?_))) (fun _ _ _ h => nomatch h) ⟨rfl, _, rfl⟩
set_option maxRecDepth 100000 in
set_option maxHeartbeats 8000000 in
theorem mp_list {w : World} {mean : ExcName → Option Value} {mg mb : Str → Option Value} (nn : Nat) (d : PV) {a : Addr} {its : List Value} {n : Nat} {news : List (Addr × Obj)} {l : List Nat}
    (ho : ∀ news', (∀ p ∈ (a, W.listOf its.toArray n) :: news, p ∈ news') → TelG w mean mg mb 75 nn [.ref a] news' (textIs l)) :
    TelG w mean mg mb 88 (nn + 2) [.ref 81, .ref a] ((a, W.listOf its.toArray n) :: news) (textIs l) := by
  unfold TelG
  k_fill
  k_with_none
  intro dp un gd cn cs a9 ccd cl outer A₀ base h₀ L m s ps Q E B F X N T hk hd hu htr hbare hne hret
  refine wpAny_call ?_
  k_dflt (walk_at "my enter")
  rename_i g L1 h1 FG F1 N1 B1 X1 T1 G1
  k_with "call ref" => (first
    | (k_dflt (refine' Tel.use1 (kind_list) ?z1 ?z2 ?z3 ?z4 ?z5 ?zK ?zd ?zu (fun _ _ e => e) ?_; (case z1 => k_asm); (case z2 => k_asm); (case z3 => k_asm); (case z4 => exact news_swap (by k_asm)); (case z5 => k_asm); (case zK => first | exact rfl | assumption); (case zd => ktr_room); (case zu => ktr_units)); intro r9 h9 tk9 F9 N9 hs9 hout9; (obtain ⟨t9, hr9⟩ := hout9); subst hr9; (replace N9 := news_swap N9); (try dsimp only); (try k_fold))
    | (k_dflt (refine' TelG.use (ho _ ?zo) ?y1 ?y2 ?y3 ?y4 ?y5 ?yK ?yd ?yu ?yt ?yb ?yn ?_; (case y1 => k_asm); (case y2 => k_asm); (case y3 => k_asm); (case y4 => k_asm); (case y5 => k_asm); (case yK => first | exact rfl | assumption); (case yd => ktr_room); (case yu => ktr_units); (case yt => assumption); (case yb => assumption); (case yn => exact hne); (case zo => exact fun p hp => hp)); intro r9 tl9 s9 ps9 F9 N9 ht9 hb9 ho9 hk9 hl9 hout9; (try dsimp only); (try k_fold)))
  k_steps
  rename Fr h₀ _ _ _ => F8
  rename News h₀ _ _ _ => N8
  exact hret r9 tl9 s9 ps9 F8 N8 ht9 hb9 ho9 (stays_but G1 N F9 N9 fun p hp => .tail _ (List.mem_append.mpr (.inl hp))) hl9 hout9
end Mine
end
section
open PySem PySem.W PySem.Calls PyProof.Rows
namespace Mine
section
variable {prog : Program} {w : World} {A : Around} {E : Value → Shared → Prop} {s : Shared}
/-- a call of a def of the text's by its name, in a block, on a name of the frame's around and the block's own -/
theorem call_here2 {K : Frag} {g : Heap} {cenv : Env} {f x y : Str} {fa c : Addr} {oc' : Obj} {np xp yp pos : Pos} {mg mb : Str → Option Value} {p : Program} {loose : List Str} {mean : ExcName → Option Value} {m : Str → Option Value} {v u oc : Value} {od : Option Addr} {fd : FuncData} {sl : Array (Option Value)} {Q : Value → Shared → Prop}
    (X : K.In g) (T : Top p loose mean mg mb g) (hk : ∀ b o, g.get? b = some o → s.heap.get? b = some o) (e : nsIn K mainGlobals f = some (some (.ref fa))) (hf : K.lookup fa = some ⟨oc, od, .func fd, sl⟩)
    (hG : cenv.globals = mainGlobals) (hkf : cenv.scope.kind = .function) (hx : cenv.kindOf f = some .globalImplicit) (hl : cenv.kindOf x = some .local) (hn : s.heap.Ns cenv.locals m) (hm : m x = some v) (hd : (f == ("__debug__" : Str)) = false) (hd2 : (x == ("__debug__" : Str)) = false)
    (hy : cenv.kindOf y = some .cell) (hcl : cenv.cells.lookup y = some c) (hc : s.heap.get? c = some oc') (hc2 : oc'.data = .cell (some u)) (hd3 : (y == ("__debug__" : Str)) = false)
    (h : wpAny (model prog w) A (call (.ref fa) [u, v]) Q E s) : wpAny (model prog w) A (eval (.Call (.Name f np) [.Name y yp, .Name x xp] [] pos) cenv) Q E s := by
  refine wpAny_Call_NameR ?_
  refine Name_function_global hkf hx (loadGlobal_global (env := cenv) (by rw [hG]; exact T.g.keeps hk) (mg_of X T.g e) ?_) hd
  refine callWith_def (o := ⟨oc, od, .func fd, sl⟩) rfl ?_ rfl
  exact wpAny_items_cons (wpAny_Name (wpAny_loadName_cell hkf hy hcl ⟨oc', hc, hc2⟩ (wpAny_items_cons (wpAny_Name (wpAny_loadName_local hkf hl hn hm (wpAny_items_nil ⟨hk _ _ (X _ _ hf), h⟩)) hd2))) hd3)
end
def paramsOut (text word : Str) (tl : List (Addr × Obj)) (r : Value) : Prop := ∃ (D : Addr) (k : Nat) (t1 t2 : Tok), r = .ref D ∧ (D, ({ cls := .type "tuple", data := .seq #[.str text t1, .str word t2, .none] k } : Obj)) ∈ tl
def parR (text word : Str) (i : Nat) (_ : List (Addr × Obj)) (y : Value) : Prop := (i = 0 → ∃ t, y = .str text t) ∧ (i = 1 → ∃ t, y = .str word t) ∧ (i = 2 → y = .none)
theorem par_all {text word : Str} {tl : List (Addr × Obj)} {ys : List Value} (hl : ys.length = 3) (h : ∀ (j : Nat) y, ys[j]? = some y → parR text word j tl y) : ∃ t1 t2, ys = [.str text t1, .str word t2, .none] := by
  match ys, hl, h with
  | [a, b, c], _, h =>
    obtain ⟨t1, h1⟩ := (h 0 a rfl).1 rfl
    obtain ⟨t2, h2⟩ := (h 1 b rfl).2.1 rfl
    have h3 := (h 2 c rfl).2.2 rfl
    exact ⟨t1, t2, by rw [h1, h2, h3]⟩
theorem par_back {x a b t p : Addr × Obj} {news : List (Addr × Obj)} (h : p ∈ t :: (news ++ [x])) : p ∈ x :: a :: b :: t :: news := by
  rcases List.mem_cons.mp h with rfl | h
  · exact .tail _ (.tail _ (.tail _ (.head _)))
  · rcases List.mem_append.mp h with h | h
    · exact .tail _ (.tail _ (.tail _ (.tail _ h)))
    · rw [List.mem_singleton.mp h]; exact .head _
local macro_rules | `(tactic| walk_at "my cells") => `(tactic| (refine' code_cells ?k1 ?k2 ?k3 ?k4 ?k5 ?kA ?kF ?kK ?k6 ?k7 ?k8 ?k9 ?kB ?kD ?_ ?c2 ?c3 ?c4; (case kA => exact rfl); (case kF => exact rfl); (case kK => assumption); (case k1 => k_asm); (case k2 => k_asm); (case k3 => k_asm); (case k4 => k_asm); (case k5 => k_asm); (case k6 => k_is); (case k7 => k_is); (case k8 => ktr_room); (case k9 => exact BindsTo.of_eq rfl); (case kB => exact rfl); (case kD => decide +kernel); (case c2 => exact rfl); (case c3 => exact rfl); (case c4 => exact rfl); k_whole; intro g' L' h' tk' cells' FG' F' N' Y' B' X' T' G1 l1; (try k_lt l1); k_cells Y'; (try simp only [List.cons_append, List.nil_append] at N'); (try dsimp only); (try k_fold)))
local macro_rules | `(tactic| walk_at "eval ListComp") => `(tactic| (refine Held.out ?_))
set_option maxRecDepth 100000 in
set_option maxHeartbeats 8000000 in
theorem params_spec {w : World} {mean : ExcName → Option Value} {mg mb : Str → Option Value} (nn : Nat) (d : PV) (hdep : d.dep ≤ nn) (hfine : d.Fine) (hlen : d.src.codes.length ≤ 1000000) {va a : Addr} {its : List Value} {n k : Nat} {word : Str} {tw : Tok} {news : List (Addr × Obj)}
    (hm0 : (a, W.listOf its.toArray n) ∈ news) (hat : d.At news (.ref a)) :
    TelG w mean mg mb 93 (nn + 9) [.ref 81, .ref va] ((va, W.listOf #[.ref a, .str word tw, .none] k) :: news) (paramsOut ⟨d.src.codes.toArray⟩ word) := by
  unfold TelG
  k_fill
  k_with_none
  w_top off
  intro dp un gd cn cs a9 ccd cl outer A₀ base h₀ L m s ps Q E B F X N T hk hd hu htr hbare hne hret
  refine wpAny_call ?_
  k_dflt (walk_at "my cells")
  k_steps
  refine Held.into ?_
  rename_i g L1 h2 tk2 FG F9 B1 X1 T1 G1 hL1 oc hoc N9
  replace F9 : Fr g L1 h2 (fmi [("values", .ref va)]) := by with_unfolding_all exact F9
  replace hoc : oc.data = .cell (some (.ref 81)) := by rw [hoc]; with_unfolding_all rfl
  have h65 := N9 (65, tabObj ps) (.tail _ (.head _))
  have hva := N9 (va, W.listOf #[.ref a, .str word tw, .none] k) (.tail _ (.tail _ (.head _)))
  have hlist := News.isList N9 (.tail _ (.tail _ (.head _)))
  have hL65 : L1 ≠ 65 := fun e => h65.2.1 e.symm
  have hva65 : va ≠ 65 := hne _ (.head _)
  have hcell := N9 (L1 + 1, oc) (.head _)
  have hc65 : L1 + 1 ≠ 65 := Nat.ne_of_gt (Nat.lt_succ_of_lt hL1.1)
  have hne9 : ∀ p ∈ [(L1 + 1, oc)] ++ ((va, W.listOf #[.ref a, .str word tw, .none] k) :: news), p.1 ≠ 65 := fun p hp => by
    rcases List.mem_append.mp hp with hp | hp
    · rw [List.mem_singleton.mp hp]; exact hc65
    · exact hne p hp
  with_unfolding_all refine' comp_exprG (parR ⟨d.src.codes.toArray⟩ word) ?hclos ?hcell ?hkind ?hnames ?hx ?hs ?hh
  case hclos => rfl
  case hcell => decide
  case hkind => rfl
  case hnames => decide
  case hx => rfl
  case hs => intro x; rfl
  case hh =>
    refine wpAny_Name (wpAny_loadName_local rfl rfl F9.ns rfl ?_) rfl
    refine wpAny_pyIter_list hlist ?_
    have hlt0 : va < h2.objs.size := Heap.lt_size hva.1
    have hI65 : 65 < h2.objs.size := Heap.lt_size h65.1
    have hLs : L1 < h2.objs.size := F9.ns.lt
    refine ⟨h2.objs.size, [h2.objs.size, va], [h2.objs.size], 3, _, _, rfl, Walks.list rfl _ _ (Nat.ne_of_lt hlt0) #[.ref a, .str word tw, .none], ?_, ⟨hbare, ps, Heap.get?_push_of_some _ h65.1, htr⟩, by decide, ⟨⟨_, Heap.get?_push_size _ rfl, rfl, rfl⟩, hlist.push _⟩, ?_, ⟨?_, ?_⟩, ?_⟩
    · intro hm
      rcases List.mem_cons.mp hm with e | hm
      · exact Nat.ne_of_lt hI65 e
      · exact hva65 (List.mem_singleton.mp hm).symm
    · intro b hb
      show b < (h2.push _).objs.size
      rw [Heap.size_push]
      rcases List.mem_cons.mp hb with rfl | hb
      · exact Nat.lt_succ_self _
      · rw [List.mem_singleton.mp hb]; exact Nat.lt_succ_of_lt hlt0
    · rintro i tl tl' y _ h
      exact h
    · intro C i v s₃ m₃ E' hC hi hv hok3 hos3 hns3 hm3 hk3
      obtain ⟨hb3, ps3, hP3, ht3⟩ := hok3
      have keep3 : ∀ b o, b ≠ 65 → h2.get? b = some o → s₃.heap.get? b = some o := fun b o hb e => hk3 b o hb (fun hm => Nat.ne_of_lt (Heap.lt_size e) (List.mem_singleton.mp hm)) (Heap.get?_push_of_some _ e)
      obtain ⟨F3, N3⟩ := after_gen (nx := [(L1 + 1, oc)]) (nz := (va, W.listOf #[.ref a, .str word tw, .none] k) :: news) F9 N9 hne9 keep3 hP3
      have N4 : News g L1 s₃.heap ((65, tabObj ps3) :: (a, W.listOf its.toArray n) :: news) := fun p hp => N3 p (by
        rcases List.mem_cons.mp hp with rfl | hp
        · exact .tail _ (.head _)
        · rcases List.mem_cons.mp hp with rfl | hp
          · exact .tail _ (.tail _ (.tail _ hm0))
          · exact .tail _ (.tail _ (.tail _ hp)))
      have hne4 : ∀ q ∈ (a, W.listOf its.toArray n) :: news, q.1 ≠ 65 := fun q hq => by
        rcases List.mem_cons.mp hq with rfl | hq
        · exact hne _ (.tail _ hm0)
        · exact hne q (.tail _ hq)
      with_unfolding_all refine' call_here2 (c := L1 + 1) (oc' := oc) (u := .ref 81) X1 T1 F3.keep ?e1 ?e2 rfl rfl rfl rfl hns3 hm3 rfl rfl rfl ?e3 ?e4 hoc rfl ?_
      case e1 => with_unfolding_all rfl
      case e2 => with_unfolding_all rfl
      case e3 => with_unfolding_all rfl
      case e4 => exact (N3 _ (.head _)).1
      have hcases : (i = 0 ∧ v = .ref a) ∨ (i = 1 ∧ v = .str word tw) ∨ (i = 2 ∧ v = .none) := by
        match i, hi, hv with
        | 0, _, hv => exact .inl ⟨rfl, by simpa using hv.symm⟩
        | 1, _, hv => exact .inr (.inl ⟨rfl, by simpa using hv.symm⟩)
        | 2, _, hv => exact .inr (.inr ⟨rfl, by simpa using hv.symm⟩)
      rcases hcases with ⟨rfl, rfl⟩ | ⟨rfl, rfl⟩ | ⟨rfl, rfl⟩
      · k_dflt (refine' TelG.use (mp_list (nn + 5) d (l := d.src.codes) fun news' hsub => out_spec nn d hdep hfine hlen (hat.mono fun p hp => hsub p (.tail _ hp))) ?z1 F3 X1 N4 T1 ?zK ?zd ?zu ht3 hb3 hne4 ?_; (case z1 => k_asm); (case zK => exact rfl); (case zd => ktr_room); (case zu => ktr_units))
        intro r tl s' ps' F' N' ht' hb' hos' hkeep hord hout
        exact ⟨⟨[], (fun _ h => nomatch h), (fun _ => hout), (fun e => nomatch e), fun e => nomatch e⟩, ⟨hos', hkeep, fun _ => ⟨hb', ps', (N' _ (.head _)).1, ht'⟩⟩⟩
      · k_dflt (refine' Tel.use mp_str ?z1 F3 X1 N4 T1 ?zK ?zd ?zu ?_; (case z1 => k_asm); (case zK => exact rfl); (case zd => ktr_room); (case zu => ktr_units))
        intro r tl h' tk' F' N' hkeep hord hout
        exact ⟨⟨[], (fun _ h => nomatch h), (fun e => nomatch e), (fun _ => hout.2), fun e => nomatch e⟩, .of ⟨h', tk', rfl, hkeep⟩⟩
      · k_dflt (refine' Tel.use mp_none ?z1 F3 X1 N4 T1 ?zK ?zd ?zu ?_; (case z1 => k_asm); (case zK => exact rfl); (case zd => ktr_room); (case zu => ktr_units))
        intro r tl h' tk' F' N' hkeep hord hout
        exact ⟨⟨[], (fun _ h => nomatch h), (fun e => nomatch e), (fun e => nomatch e), fun _ => hout.2⟩, .of ⟨h', tk', rfl, hkeep⟩⟩
    · intro s' ys tl hok' hos' hpl hyl htl hR hk'
      obtain ⟨hb', ps', hP', ht'⟩ := hok'
      obtain ⟨t1, t2, rfl⟩ := par_all hyl hR
      obtain ⟨kk, hD⟩ := hpl
      have keep' : ∀ b o, b ≠ 65 → h2.get? b = some o → s'.heap.get? b = some o := fun b o hb e => hk' b o hb (fun hm => Nat.ne_of_lt (Heap.lt_size e) (List.mem_singleton.mp hm)) (Heap.get?_push_of_some _ e)
      obtain ⟨F', N3⟩ := after_gen (nx := [(L1 + 1, oc)]) (nz := (va, W.listOf #[.ref a, .str word tw, .none] k) :: news) F9 N9 hne9 keep' hP'
      have hDs : (h2.push { cls := .type "list_iterator", data := .fields #[.ref va, .int 0 0] }).objs.size = h2.objs.size + 1 := Heap.size_push _ _
      generalize hDe : (h2.push { cls := .type "list_iterator", data := .fields #[.ref va, .int 0 0] }).objs.size = D at *
      have hD1 : h2.objs.size < D := by rw [hDs]; exact Nat.lt_succ_self _
      have N' : News g L1 s'.heap ((D, W.listOf #[.str ⟨d.src.codes.toArray⟩ t1, .str word t2, .none] kk) :: (L1 + 1, oc) :: (65, tabObj ps') :: (va, W.listOf #[.ref a, .str word tw, .none] k) :: news) := fun p hp => by
        rcases List.mem_cons.mp hp with rfl | hp
        · refine ⟨hD, Nat.ne_of_gt (Nat.lt_trans hLs hD1), ?_⟩
          cases q : g.get? D with
          | none => rfl
          | some o => exact absurd (Heap.lt_size (F9.keep _ _ q)) (Nat.not_lt.mpr (Nat.le_of_lt hD1))
        · exact N3 p hp
      have hltD : ∀ q ∈ ((65, tabObj ps) :: (va, W.listOf #[.ref a, .str word tw, .none] k) :: news : List (Addr × Obj)), q.1 < D := fun q hq => Nat.lt_trans (Heap.lt_size (N9 q (.tail _ hq)).1) hD1
      have hltn : ∀ q ∈ news, q.1 < D := fun q hq => hltD q (.tail _ (.tail _ hq))
      have hltc : L1 + 1 < D := Nat.lt_trans (Heap.lt_size hcell.1) hD1
      clear N3 hk' hR htl hltn
      clear F9 N9
      dsimp only
      k_steps
      rename Fr h₀ _ _ _ => F8
      rename News h₀ _ _ _ => N8
      rename Fr g _ _ _ => F7
      rename News g _ _ _ => N7
      rename _ ∧ _ => l1
      exact hret _ [(_, _)] _ ps' F8 (fun p hp => N8 p (par_back hp)) ht' hb' hos' (stays_but G1 N F7 N7 (fun p hp => .tail _ (.tail _ (.tail _ (.tail _ hp))))) (fun q hq p hp => by
        rw [List.mem_singleton.mp hp]
        exact ktn_ltOf (l := (65, tabObj ps) :: (va, W.listOf #[.ref a, .str word tw, .none] k) :: news) l1.2.2 q hq) ⟨_, 0, t1, t2, rfl, .head _⟩
end Mine
end
section
open PySem PySem.W PySem.Calls PyProof.Rows
namespace Mine
/-- a value that the law makes, a list at its top -/
def madeAny (k : Int) (x : Addr × Obj) (tl : List (Addr × Obj)) (r : Value) : Prop := ∃ n d, n ≤ 2 ∧ Made k (n + 1) d ∧ d.At (x :: tl) r
theorem shaped_any {w : World} {mean : ExcName → Option Value} {mg mb : Str → Option Value} (kind : Int) {fa sa : Addr} {its sits : List Value} {fn sn : Nat} {zs : List Int} {news : List (Addr × Obj)} (hl : Leaves kind its) (hzs : Sizes zs) (hi : IntsAre sits zs) :
    Tel w mean mg mb 129 3 [.ref fa, .ref sa] ((fa, W.listOf its.toArray fn) :: (sa, W.listOf sits.toArray sn) :: news) (madeAny kind (fa, W.listOf its.toArray fn)) := by
  obtain ⟨t, rfl, _⟩ | ⟨z, t, rfl, hz⟩ | ⟨z, y, t, u, rfl, hz1, hz2, hy⟩ | ⟨z, y, x, t, u, v, rfl, hz1, hz2, hy1, hy2, hx⟩ := sizes_cases hzs hi
  · exact (shaped1 kind hl).imp (by omega) fun tl r ⟨d, h1, h2⟩ => ⟨0, d, by omega, h1, h2⟩
  · exact (shaped1 kind hl).imp (by omega) fun tl r ⟨d, h1, h2⟩ => ⟨0, d, by omega, h1, h2⟩
  · exact (shaped2 kind hl ⟨hz1, hz2⟩).imp (by omega) fun tl r ⟨d, h1, h2⟩ => ⟨1, d, by omega, h1, h2⟩
  · exact (shaped3 kind hl ⟨hz1, hz2⟩ ⟨hy1, hy2⟩).imp (by omega) fun tl r ⟨d, h1, h2⟩ => ⟨2, d, by omega, h1, h2⟩
theorem draw_ok (k : Int) : 0 ≤ (if k < 0 then -k else k).fmod (10 ^ Int.toNat 9) ∧ (if k < 0 then -k else k).fmod (10 ^ Int.toNat 9) < 10 ^ 9 := fmod_lt _ (by decide)
/-- the law's numbers -/
theorem draws_of (xs : List Int) : Draws (List.map (fun k => (if k < 0 then -k else k).fmod (10 ^ Int.toNat 9)) (List.take 14 xs) ++ List.drop ((xs.length : Int)).toNat [13, 216, 40]) where
  lo := by
    simp only [List.length_append, List.length_map, List.length_take, List.length_drop, List.length_cons, List.length_nil]; omega
  hi := by
    simp only [List.length_append, List.length_map, List.length_take, List.length_drop, List.length_cons, List.length_nil]; omega
  range := fun n hn => by
    rcases List.mem_append.mp hn with h | h
    · obtain ⟨k, _, rfl⟩ := List.mem_map.mp h
      exact draw_ok k
    · have := List.mem_of_mem_drop h
      simp only [List.mem_cons, List.not_mem_nil, or_false] at this
      omega
theorem draw_get {ns : List Int} (h : Draws ns) (i : Nat) : 0 ≤ ns.getD i 0 ∧ ns.getD i 0 < 10 ^ 9 := draw_at h.range
theorem made_list {k : Int} {n : Nat} {d : PV} {nx : List (Addr × Obj)} {v : Value} (hm : Made k (n + 1) d) (h : d.At nx v) : ∃ (a : Addr) (its : List Value) (m : Nat), v = .ref a ∧ (a, W.listOf its.toArray m) ∈ nx := by
  obtain ⟨xs, rfl, _, _⟩ := hm
  unfold PV.At at h
  obtain ⟨a, its, m, rfl, h1, _⟩ := h
  exact ⟨a, its, m, rfl, h1⟩
theorem news_of {g h : Heap} {L : Addr} {nx ny : List (Addr × Obj)} (N : News g L h nx) (hs : ∀ p ∈ ny, p ∈ nx) : News g L h ny := fun p hp => N p (hs p hp)
theorem at_ne {P : Addr} {x : Addr × Obj} {r : List (Addr × Obj)} (h : x.1 ≠ P) (hr : ∀ q ∈ r, q.1 ≠ P) : ∀ q ∈ x :: r, q.1 ≠ P := fun q hq => by
  rcases List.mem_cons.mp hq with rfl | hq
  · exact h
  · exact hr q hq
theorem leaves_in {k : Int} {ds : List PV} {its : List Value} (h : PV.Ats [] ds its) (hl : ∀ d ∈ ds, Leaf k d) (hn : ds.length ≤ 27) : Leaves k its := by
  refine ⟨by rw [PV.Ats.len h]; exact hn, fun y hy => ?_⟩
  obtain ⟨j, hj⟩ := List.getElem?_of_mem hy
  obtain ⟨d, hd, ha⟩ := PV.Ats.get h j y hj
  exact ⟨d, hl d (List.mem_of_getElem? hd), ha⟩
theorem made_bound {k : Int} {n : Nat} {d : PV} (hn : n ≤ 2) (h : Made k (n + 1) d) : d.src.codes.length ≤ 1000000 := by
  refine Nat.le_trans (made_codes (n + 1) h) ?_
  match n, hn with
  | 0, _ => decide
  | 1, _ => decide
  | 2, _ => decide
theorem perm3 {a b c p : Addr × Obj} {r : List (Addr × Obj)} (h : p ∈ c :: a :: r) : p ∈ a :: b :: c :: r := by
  rcases List.mem_cons.mp h with rfl | h
  · exact .tail _ (.tail _ (.head _))
  · rcases List.mem_cons.mp h with rfl | h
    · exact .head _
    · exact .tail _ (.tail _ (.tail _ h))
theorem brace_1 (l : List Nat) : (Txt.slice (⟨(123 :: l).toArray⟩ : Str) none (some 1) == Str.ofString "{") = true := by
  have e := eq_of_beq (slice_closes_toL (x := ⟨(123 :: l).toArray⟩) (j := 1) (by decide) (by simp [Str.length]; omega))
  rw [e, open_lit]
  simp
theorem src_at_list {nx : List (Addr × Obj)} {xs : List Src} {la : Addr} {its : List Value} {n : Nat} (hm : (la, W.listOf its.toArray n) ∈ nx) (h : Src.Ats nx xs its) : (Src.list xs).At nx (.ref la) := by
  unfold Src.At
  exact ⟨la, its, n, rfl, hm, h⟩
section
variable {prog : Program} {w : World} {A : Around} {E : Value → Shared → Prop} {s : Shared}
/-- two tuples of two texts and None -/
theorem same_three {l b : Addr} {x y : Str} {t1 t2 t3 t4 : Tok} {Q : Value → Shared → Prop} (hl : s.heap.IsTuple l #[.str x t1, .str y t2, .none]) (hb : s.heap.IsTuple b #[.str x t3, .str y t4, .none]) (hu : A.units < cLine) (h : Q (.bool true) s) :
    wpAny (model prog w) A (compareOp .Eq (.ref l) (.ref b)) Q E s := by
  refine SeqAt.eq_tupleAt (e := fun _ => true) hl hb hu (fun j h1 h2 => ?_) (by with_unfolding_all exact h)
  match j, h1, h2 with
  | 0, _, _ => have e := SeqAt.EqAt.str_str (A := A.in1) (s := s) x t1 x t3; rw [beq_self_eq_true] at e; exact e
  | 1, _, _ => have e := SeqAt.EqAt.str_str (A := A.in1) (s := s) y t2 y t4; rw [beq_self_eq_true] at e; exact e
  | 2, _, _ => exact SeqAt.EqAt.same _
end
/-- the law's end: it tells True, the machine stands as it stood, but for the table of one code -/
def LawEnd (s₁ : Shared) (r : Result) (s' : Shared) : Prop := r = .ok (.ret (.bool true)) ∧ (∀ b o, b ≠ 65 → s₁.heap.get? b = some o → s'.heap.get? b = some o) ∧ s'.os = s₁.os ∧ AllBare s'.gens ∧ GrownAt 65 s'.heap
theorem law_post {M : Model} {A : Around} {cd : Code} {s s₁ : Shared} {cw : ClaimW} {cl : Str → Option Addr} {mean : ExcName → Option Value} {args : List WData} (hT : TabsAt [(69, 65)] s₁.heap) (hr : ∀ x, cw.raises args x = false) (hp : cw.post args (.bool true) args = true)
    (h : codeAny M A cd (LawEnd s₁) s) : codeAny M A cd (GoodWG cw cl mean args s₁) s :=
  codeAny_mono h fun r s' ⟨hv, hk, hos, hg, hgr⟩ => by
    have hT1 := hT (69, 65) (.head _)
    refine ⟨.inl ⟨.bool true, .bool true, [], hv, hr, ReadsW.bool true, hp, fun _ => ⟨List.nodup_nil, fun _ hm => nomatch hm⟩⟩, ⟨fun b o e => ?_, fun b o e => ?_⟩, hos, hg⟩
    · by_cases hb : b = 65
      · subst hb
        have e2 := hT1.2
        rw [e] at e2
        obtain ⟨ps, hP⟩ := hgr
        have e3 := Option.some.inj e2
        subst e3
        exact .inr (.inl ⟨(hT1.1.tab hT1.2).isCodeTable, rfl, #[], ps, rfl, by rw [Array.empty_append]; exact hP⟩)
      · exact .inl (hk b o hb e)
    · by_cases hb : b = 65
      · subst hb
        obtain ⟨ps, hP⟩ := hgr
        exact ⟨_, hP⟩
      · exact ⟨o, hk b o hb e⟩
end Mine
end
section
open PySem PySem.W PySem.Calls PyProof.Rows
namespace Mine
local macro_rules | `(tactic| walk_at "subscriptTail List cons Slice ref ref") => `(tactic| (k_here; k_dflt (refine kba_turn (value' := PySem.Expr.Name (PySem.Str.ofString "_") ⟨0, 0, 0, 0⟩) (fun _ => rfl) ?_); k_dflt (refine' kmk_slice_ints ?F ?N ?l ?p ?q ?i ?m ?c ?_ ?s ?t ?z; (case F => k_asm); (case N => k_asm); (case l => kmk_list); (case p => kmk_part); (case q => kmk_part); (case i => l_ints); (case m => exact kmk_from (by l_ints) (Int.natCast_nonneg _)); (case c => kmk_len); (case s => with_unfolding_all rfl); (case t => kmk_pure); (case z => kmk_size)); intro D' ws' h' F' N' l1 hI' hC' hL'; (try k_lt l1)))
set_option maxRecDepth 100000 in
set_option maxHeartbeats 8000000 in
theorem law_walk : PySem.Challenge.rw_ew0017_01.Holds := by
  refine Mine.hd ?_
  k_fill
  k_with_none
  intro w s₀ s₁ mg mb G Y fa o pm cd doc dV kV ho hd hcd hD hmg hg args vals as hpre hlay hrd hwl hlo
  have KX := kIn_of Y
  have X := (Ground.X G).1
  have V := (Ground.X G).2
  refine Ground.open G ?_
  intro T B D TE TW
  try (refine guard_noD D (by decide +kernel) ?_; clear D)
  have hT9 : TabsAt ([(69, 65)] : List (Addr × Addr)) _ := List.forall_mem_cons.mpr ⟨tab_of (x := PySem.Str.ofString "array_string_escape") (c := 69) (P := 65) T KX rfl (by kernel_rfl), fun _ h => nomatch h⟩
  clear hmg
  wrow_args hpre hlay hrd hwl hlo
  first | refine callC_kw (enter_call ?_) | refine enter_call ?_
  w_top on
  refine law_post hT9 (fun _ => rfl) ?_ ?_
  · wrow_post
  w_call any ho hd hcd hD T F
  clear hd
  kn_ghosts F T
  k_drop
  rename Top topProg _ _ _ _ _ => T1
  replace T1 := gl_top T1
  clear G Y ho hcd X V T B TE TW hD
  k_with "eval Tuple" => (refine Held.out ?_)
  k_steps
  k_with_none
  refine Held.into ?_
  rename IntsAre _ (_ ++ _) => hI1
  rename Fr _ _ _ _ => F1
  rename News _ _ _ _ => N1
  rename Frag.In _ _ => X1
  rename Below _ _ _ _ => K1
  rename_i D ws h8 lD h9
  obtain ⟨ns, hdr, hI2⟩ : ∃ ns, Draws ns ∧ IntsAre ws ns := ⟨_, draws_of _, hI1⟩
  have N2 : News _ _ h9 [(D, W.listOf ws.toArray 0), (65, tabObj #[])] := news_of N1 (List.forall_mem_cons.mpr ⟨by k_mem, List.forall_mem_cons.mpr ⟨by k_mem, fun _ h => nomatch h⟩⟩)
  have hD65 : 65 < D := lD.2.2.2.2
  clear hI1 N1 lD
  have hn3 : 3 ≤ ns.length := hdr.lo
  have hn20 : ns.length ≤ 20 := hdr.hi
  have hg0 := draw_get hdr 0
  have hg1 := draw_get hdr 1
  k_with "call ref" => (k_dflt (refine' Tel.use (sizes_spec (ns.getD 0 0) (draw_get hdr 0).1 (draw_get hdr 0).2) ?z1 ?z2 ?z3 ?z4 ?z5 ?zK ?zd ?zu ?_; (case z1 => k_asm); (case z2 => k_asm); (case z3 => k_asm); (case z4 => k_asm); (case z5 => k_asm); (case zK => first | exact rfl | assumption); (case zd => ktr_room); (case zu => ktr_units)); intro r9 tl9 h10 tk9 F9 N9 hs9 ho9 hout9; refine Held.out ?_)
  k_steps
  k_with_none
  refine Held.into ?_
  obtain ⟨sa, sits, sn, zs, rfl, hms, hIs, hSz⟩ := hout9
  have N3 : News _ _ h10 [(sa, W.listOf sits.toArray sn), (D, W.listOf ws.toArray 0), (65, tabObj #[])] := news_of N9 (List.forall_mem_cons.mpr ⟨List.mem_append.mpr (.inr hms), List.forall_mem_cons.mpr ⟨List.mem_append.mpr (.inl (.head _)), List.forall_mem_cons.mpr ⟨List.mem_append.mpr (.inl (.tail _ (.head _))), fun _ h => nomatch h⟩⟩⟩)
  have hDsa : D < sa := ho9 (D, _) (.head _) _ hms
  have hsa65 : 65 < sa := Nat.lt_trans hD65 hDsa
  clear N9 N2 hs9 ho9 hms
  obtain ⟨kind, hkd⟩ : ∃ kind, kind = Int.fmod (ns.getD (Int.toNat 0) 0) 4 := ⟨_, rfl⟩
  have hk4 : 0 ≤ kind ∧ kind < 4 := hkd ▸ fmod_lt _ (by decide)
  rw [← hkd]
  clear hkd
  k_with "call ref" => (k_dflt (refine' Tel.use (flat_spec ns zs hdr hSz kind hk4.1 (Int.le_of_lt_add_one hk4.2) hI2 hIs (nn := 0) (sn := sn) (news := [(65, tabObj #[])])) ?z1 ?z2 ?z3 ?z4 ?z5 ?zK ?zd ?zu ?_; (case z1 => k_asm); (case z2 => k_asm); (case z3 => k_asm); (case z4 => exact news_of (by k_asm) (List.forall_mem_cons.mpr ⟨by k_mem, List.forall_mem_cons.mpr ⟨by k_mem, List.forall_mem_cons.mpr ⟨by k_mem, fun _ h => nomatch h⟩⟩⟩)); (case z5 => k_asm); (case zK => first | exact rfl | assumption); (case zd => ktr_room); (case zu => ktr_units)); intro r9 tl9 h11 tk9 F9 N9 hs9 ho9 hout9; refine Held.out ?_)
  k_steps
  k_with_none
  refine Held.into ?_
  obtain ⟨fl, fits, fn, ds, rfl, hmf, hAf, hLf, hnf⟩ := hout9
  have hLv := leaves_in hAf hLf hnf
  have N4 : News _ _ h11 [(fl, W.listOf fits.toArray fn), (sa, W.listOf sits.toArray sn), (D, W.listOf ws.toArray 0), (65, tabObj #[])] := news_of N9 (List.forall_mem_cons.mpr ⟨List.mem_append.mpr (.inr hmf), List.forall_mem_cons.mpr ⟨List.mem_append.mpr (.inl (.tail _ (.head _))), List.forall_mem_cons.mpr ⟨List.mem_append.mpr (.inl (.head _)), List.forall_mem_cons.mpr ⟨List.mem_append.mpr (.inl (.tail _ (.tail _ (.head _)))), fun _ h => nomatch h⟩⟩⟩⟩)
  have hfl65 : 65 < fl := ho9 (65, tabObj #[]) (.tail _ (.tail _ (.head _))) _ hmf
  clear N9 hs9 ho9 hmf hAf hLf hnf
  k_with "call ref" => (k_dflt (refine' Tel.use (shaped_any kind hLv hSz hIs (fn := fn) (sn := sn) (news := [(D, W.listOf ws.toArray 0), (65, tabObj #[])])) ?z1 ?z2 ?z3 ?z4 ?z5 ?zK ?zd ?zu ?_; (case z1 => k_asm); (case z2 => k_asm); (case z3 => k_asm); (case z4 => k_asm); (case z5 => k_asm); (case zK => first | exact rfl | assumption); (case zd => ktr_room); (case zu => ktr_units)); intro r9 tl12 h12 tk9 F9 N9 hs9 ho9 hout9; refine Held.out ?_)
  k_steps
  k_with_none
  refine Held.into ?_
  obtain ⟨dn, d, hdn, hMd, hAt⟩ := hout9
  obtain ⟨va, vits, vn, rfl, hmv⟩ := made_list hMd hAt
  have hbig : ∀ q ∈ (fl, W.listOf fits.toArray fn) :: tl12, q.1 ≠ 65 := at_ne (Nat.ne_of_gt hfl65) fun q hq => Nat.ne_of_gt (ho9 (65, tabObj #[]) (.tail _ (.tail _ (.tail _ (.head _)))) q hq)
  have N5 : News _ _ h12 ((fl, W.listOf fits.toArray fn) :: tl12) := news_of N9 fun p hp => by
    rcases List.mem_cons.mp hp with rfl | hp
    · exact .head _
    · exact List.mem_append.mpr (.inr hp)
  generalize (fl, W.listOf fits.toArray fn) :: tl12 = big at hbig N5 hAt hmv
  have N6 : News _ _ h12 ((va, W.listOf vits.toArray vn) :: (D, W.listOf ws.toArray 0) :: (65, tabObj #[]) :: big) := List.forall_mem_cons.mpr ⟨N5 _ hmv, List.forall_mem_cons.mpr ⟨N9 _ (.tail _ (.tail _ (.head _))), List.forall_mem_cons.mpr ⟨N9 _ (.tail _ (.tail _ (.tail _ (.head _)))), N5⟩⟩⟩
  have hva65 : va ≠ 65 := hbig _ hmv
  clear N9 N5 hs9 ho9 N4
  have hq5 := fdiv_range hg1 (d := 5) (by decide)
  k_with "call ref" => (k_dflt (refine' Tel.use (text_spec ((ns.getD 1 0).fdiv 5) hq5.1 hq5.2) ?z1 ?z2 ?z3 ?z4 ?z5 ?zK ?zd ?zu ?_; (case z1 => k_asm); (case z2 => k_asm); (case z3 => k_asm); (case z4 => k_asm); (case z5 => k_asm); (case zK => first | exact rfl | assumption); (case zd => ktr_room); (case zu => ktr_units)); intro r9 tl13 h13 tk9 F9 N9 hs9 ho9 hout9; refine Held.out ?_)
  k_steps
  k_with_none
  refine Held.into ?_
  obtain ⟨rfl, wd, tw, hwd, rfl⟩ := hout9
  rw [List.append_nil] at N9
  clear hs9 ho9
  have hdep : d.dep ≤ 4 := by have := made_dep (dn + 1) hMd; omega
  have hcod := made_bound hdn hMd
  have hok := made_ok (dn + 1) hMd
  k_with "call ref" => (k_dflt (refine' TelG.use (out_spec 4 d hdep (made_fine (dn + 1) hMd) hcod (news := (va, W.listOf vits.toArray vn) :: big) (hAt.mono fun p hp => .tail _ hp)) (ps := #[]) ?z1 ?z2 ?z3 ?z4 ?z5 ?zK ?zd ?zu ?zt ?zb ?zn ?_; (case z1 => k_asm); (case z2 => k_asm); (case z3 => k_asm); (case z4 => exact news_of (by k_asm) (fun p hp => perm3 hp)); (case z5 => k_asm); (case zK => first | exact rfl | assumption); (case zd => ktr_room); (case zu => ktr_units); (case zt => exact True.intro); (case zb => exact AllBare.of_eq hg); (case zn => exact at_ne hva65 hbig)); intro r9 tl14 s14 ps14 F9 N9 ht14 hb14 ho14 hk9 hl9 hout9; refine Held.out ?_)
  k_steps
  k_with_none
  refine Held.into ?_
  obtain ⟨t14, rfl⟩ := hout9
  clear hk9 hl9
  have N7 : News _ _ s14.heap ((65, tabObj ps14) :: (va, W.listOf vits.toArray vn) :: big) := news_of N9 fun p hp => by
    rcases List.mem_cons.mp hp with rfl | hp
    · exact .head _
    · exact .tail _ (List.mem_append.mpr (.inl hp))
  clear N9
  obtain ⟨xs, hdx, _, _⟩ : ∃ xs, d = .list xs ∧ True ∧ True := by obtain ⟨xs, h, _, _⟩ := hMd; exact ⟨xs, h, trivial, trivial⟩
  have hsrc : d.src = .list (PV.srcs xs) := by rw [hdx]; unfold PV.src; rfl
  have hlen : (Str.mk d.src.codes.toArray).length ≤ 1000000 := by simpa [Str.length] using hcod
  have hsd : 1 + Src.deps (PV.srcs xs) ≤ 4 := by
    have h := made_sdep (dn + 1) hMd
    rw [hsrc] at h
    unfold Src.dep at h
    omega
  have hdrop : (Str.mk d.src.codes.toArray).cps.toList.drop 0 = (Src.list (PV.srcs xs)).codes ++ [] := by rw [← hsrc]; simp
  k_with "call ref" => (k_dflt (refine' Tel.use (list_spec 4 (PV.srcs xs) hsd (hsrc ▸ hok) (i := 0) (rest := []) (k := 0) rfl hlen hdrop) ?z1 ?z2 ?z3 ?z4 ?z5 ?zK ?zd ?zu ?_; (case z1 => k_asm); (case z2 => k_asm); (case z3 => k_asm); (case z4 => k_asm); (case z5 => k_asm); (case zK => first | exact rfl | assumption); (case zd => ktr_room); (case zu => ktr_units)); intro r9 tl15 h15 tk9 F9 N9 hs9 ho9 hout9; refine Held.out ?_)
  k_steps
  k_with_none
  refine Held.into ?_
  obtain ⟨ta, t15, tm, la, lits, ln, kv, rfl, hmt, hml, hAts, hkv⟩ := hout9
  have hbig2 : ∀ q ∈ big ++ tl15, q.1 ≠ 65 := fun q hq => by
    rcases List.mem_append.mp hq with hq | hq
    · exact hbig q hq
    · exact Nat.ne_of_gt (ho9 (65, tabObj ps14) (.head _) q hq)
  have hAt2 : d.At (big ++ tl15) (.ref va) := hAt.mono fun p hp => List.mem_append.mpr (.inl hp)
  have hSrc2 : d.src.At (big ++ tl15) (.ref la) := by rw [hsrc]; exact src_at_list (List.mem_append.mpr (.inr hml)) (hAts.mono fun p hp => List.mem_append.mpr (.inr hp))
  have hmv2 : (va, W.listOf vits.toArray vn) ∈ big ++ tl15 := List.mem_append.mpr (.inl hmv)
  have hend : kv = ((Str.mk d.src.codes.toArray).length : Int) := by rw [hkv, ← hsrc, Nat.zero_add]; simp [Str.length]
  have hsl : (Txt.slice (⟨d.src.codes.toArray⟩ : Str) none (some 1) == Str.ofString "{") = true := by rw [hsrc, Src.codes_list]; exact brace_1 _
  have hsl2 : (Txt.slice (⟨d.src.codes.toArray⟩ : Str) none (some 1) != Str.ofString "{") = false := by rw [bne, hsl]; rfl
  have hend2 : (kv != ((Str.mk d.src.codes.toArray).length : Int)) = false := by rw [hend, bne_self_eq_false]
  have N8 : News _ _ h15 ((ta, ({ cls := .type "tuple", data := .seq #[.ref la, .int kv t15] tm } : Obj)) :: (65, tabObj ps14) :: (big ++ tl15)) := List.forall_mem_cons.mpr ⟨N9 _ (List.mem_append.mpr (.inr hmt)), List.forall_mem_cons.mpr ⟨N9 _ (.head _), news_of N9 fun p hp => by
    rcases List.mem_append.mp hp with hp | hp
    · exact .tail _ (.tail _ (List.mem_append.mpr (.inl hp)))
    · exact List.mem_append.mpr (.inr hp)⟩⟩
  clear N9 hs9 ho9 hmt hml hAts hkv hdrop hsd hok hbig hAt hmv
  rename News _ _ _ ((65, _) :: _ :: big) => N7
  clear N7
  generalize big ++ tl15 = big2 at hbig2 hAt2 hSrc2 hmv2 N8
  k_with "call ref" => (k_dflt (refine' Tel.use1 (same_spec (dn + 1) hMd hAt2 hSrc2) ?z1 ?z2 ?z3 ?z4 ?z5 ?zK ?zd ?zu (fun _ _ e => e) ?_; (case z1 => k_asm); (case z2 => k_asm); (case z3 => k_asm); (case z4 => exact news_of (by k_asm) (fun p hp => .tail _ (.tail _ hp))); (case z5 => k_asm); (case zK => first | exact rfl | assumption); (case zd => ktr_room); (case zu => ktr_units)); intro r9 h16 tk9 F9 N9 hs9 hr9; refine Held.out ?_)
  k_steps
  k_with_none
  refine Held.into ?_
  subst hr9
  clear N9
  rename News _ _ _ ((_, _) :: _) => N9
  have N10 := News.grown N9 hs9
  clear N9 hs9
  k_with "call ref" => (k_dflt (refine' TelG.use (params_spec 4 d hdep (made_fine (dn + 1) hMd) hcod hmv2 hAt2) (ps := ps14) ?z1 ?z2 ?z3 ?z4 ?z5 ?zK ?zd ?zu ?zt ?zb ?zn ?_; (case z1 => k_asm); (case z2 => k_asm); (case z3 => k_asm); (case z4 => exact news_of (by k_asm) (fun p hp => perm3 hp)); (case z5 => k_asm); (case zK => first | exact rfl | assumption); (case zd => ktr_room); (case zu => ktr_units); (case zt => exact ht14); (case zb => exact hb14); (case zn => rename _ ∧ _ ∧ AllLt _ big2 => lv; exact at_ne (Nat.ne_of_gt lv.2.1) hbig2)); intro r9 tl17 s17 ps17 F9 N9 ht17 hb17 ho17 hk9 hl9 hout9; refine Held.out ?_)
  k_steps
  k_with_none
  refine Held.into ?_
  obtain ⟨pd, pk, t1, t2, rfl, hmp⟩ := hout9
  have N12 : News _ _ s17.heap ((pd, ({ cls := .type "tuple", data := .seq #[.str ⟨d.src.codes.toArray⟩ t1, .str ⟨wd.toArray⟩ t2, .none] pk } : Obj)) :: (65, tabObj ps17) :: big2) := List.forall_mem_cons.mpr ⟨N9 _ (.tail _ (List.mem_append.mpr (.inr hmp))), List.forall_mem_cons.mpr ⟨N9 _ (.head _), fun p hp => N9 p (.tail _ (List.mem_append.mpr (.inl (.tail _ hp))))⟩⟩
  clear N9 hk9 hl9 hmp
  k_with "compareOp Eq ref ref" => (refine Held.out ?_)
  k_steps
  k_with_none
  refine Held.into ?_
  rename News _ _ _ (_ :: _) => N13
  rename Fr _ _ _ _ => F13
  refine same_three ⟨_, (N13 _ (.tail _ (.head _))).1, rfl, _, rfl⟩ ⟨_, (N13 _ (.head _)).1, rfl, _, rfl⟩ (Nat.lt_of_le_of_lt (Nat.le_add_right _ 64) (by ke_room)) ?_
  exact ⟨rfl, fun b o hb e => F13.keep b o (ghost_ne e (by simpa using hb)), ho17.trans ho14, hb17, ⟨ps17, (N13 _ (.tail _ (.tail _ (.head _)))).1⟩⟩
end Mine
end
theorem PySem.Challenge.cw_ew0017_01_holds : PySem.Challenge.rw_ew0017_01.Holds := by
  exact Mine.law_walk
