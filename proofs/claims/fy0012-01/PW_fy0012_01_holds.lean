import PyProof.Rows.All
import Wide.All
import OpenK.AllK
import Wide.FinOn
import PyProof.GenQ
import PyProof.InstEq
import PyProof.NeKinds
import KE.KDictIter
import KE.KEqDict
import Lean
import PySem.Challenge.RW_fy0012_01
set_option Elab.async false
set_option maxRecDepth 100000
namespace Mine
section
open PySem PySem.W PyProof.Rows
set_option maxHeartbeats 8000000 in
open_top hd for PySem.Challenge.rw_fy0012_01
end
end Mine
namespace Mine
section
open PySem PySem.W PyProof.Rows PySem.Calls
theorem rstP1 {M : Model} {A : Around} {env : Env} {Q : Flow → Shared → Prop} {E : Value → Shared → Prop} {s : Shared} (h : wpAny M A (execs [] env) Q E s) : wpAny M A (execs [] env) Q E s := by
  w_top off
  (try (walk1; fail))
  exact h
abbrev pr : Program := PySem.Challenge.rw_fy0012_01.row.prog
theorem fill : PySem.Challenge.rw_fy0012_01.row.prog = PySem.Challenge.rw_fy0012_01.row.prog ∧ hd.heap_39 = hd.heap_39 := by
  k_fill
  exact ⟨rfl, rfl⟩
abbrev up (outer : List Env) : Around := Around.mk none 400 (some outer) (some []) 300
abbrev scF (nms : List (Str × NameKind)) (gen co : Bool) (mr : List (Str × Const)) : Scope := { kind := .function, names := nms, isGenerator := gen, isCoroutine := co, more := mr }
abbrev cObj (sc : Addr) (i v : Int) (t1 t2 : Tok) (n : Nat) : Obj := W.listOf #[.ref sc, .int i t1, .int v t2] n

theorem fm0 {a b : Int} (h : 0 < b) : 0 ≤ a.fmod b := Int.fmod_nonneg_of_pos a h
theorem fm1 {a b : Int} (h : 0 < b) : a.fmod b < b := Int.fmod_lt_of_pos a h
theorem fd0 {a b : Int} (ha : 0 ≤ a) (h : 0 < b) : 0 ≤ a.fdiv b := Int.fdiv_nonneg ha (Int.le_of_lt h)
set_option maxHeartbeats 4000000 in
theorem take_spec {w : World} {A₀ : Around} {base h₀ : Heap} {outer : List Env} {L fa : Addr} {cd : Value} {nm : Str} {nms gen co mr} {m : Str → Option Value} {p : Program} {loose mean mg mb} {s : Shared} {E : Value → Shared → Prop} {Q : Value → Shared → Prop}
    {c sc : Addr} {i v many : Int} {t1 t2 tk : Tok} {n : Nat} {ns : List Int} {vs : List Value} {rest : List (Addr × Obj)}
    (B : Below A₀ base outer h₀) (X : (hd.heap_39 w.params).In h₀) (T : Top p loose mean mg mb h₀) (F : Fr h₀ L s.heap m)
    (N : News h₀ L s.heap ((c, cObj sc i v t1 t2 n) :: rest)) (hoff : OwnOff rest [c])
    (hl : base.IsList sc vs.toArray) (hi : IntsAre vs ns)
    (hlen : ¬ ((63 : Nat) : Int) < (ns.length : Int))
    (hi0 : 0 ≤ i) (hv0 : 0 ≤ v) (hm0 : 0 < many) (hm : many ≤ 10)
    (h : ∀ (d i' v' : Int) (a b e : Tok) (n' : Nat) (h' : Heap) (tk' : Nat), 0 ≤ d → d < many → 0 ≤ i' → 0 ≤ v' → Fr h₀ L h' m → News h₀ L h' ((c, cObj sc i' v' a b n') :: rest) →
      Q (.int d e) { s with heap := h', toks := tk' }) :
    wpAny (model PySem.Challenge.rw_fy0012_01.row.prog w) ((up outer).deeper (envOf nm (scF nms gen co mr) L fa cd)) (call (.ref 354) [.ref c, .int many tk]) Q E s := by
  have lifted := stays_list B.stays hl
  refine wpAny_call ?_
  k_enter
  k_steps
  all_goals (refine h _ _ _ _ _ _ _ _ _ (fm0 hm0) (fm1 hm0) ?_ (fd0 ?_ hm0) (by assumption) (by assumption))
  all_goals (first | omega | exact fm0 (by decide) | decide)

theorem up_of {α : Type} {M : Model} {A A' : Around} {t : Sem α} {Q : α → Shared → Prop} {E : Value → Shared → Prop} {s : Shared} (h : wpAny M A' t Q E s)
    (hh : A.handled = A'.handled) (hd : A.depth ≤ A'.depth) (hf : A.frames = A'.frames) (hg : A.guards = A'.guards) (hu : A.units ≤ A'.units) : wpAny M A t Q E s := fun Γ p hΓ =>
  h Γ p ⟨hΓ.1.trans hh, Nat.le_trans hΓ.2.1 hd, hf ▸ hΓ.2.2.1, hg ▸ hΓ.2.2.2.1, Nat.le_trans hΓ.2.2.2.2 hu⟩

theorem take_call {w : World} {A A₀ : Around} {base h₀ : Heap} {outer : List Env} {L fa : Addr} {cd : Value} {nm : Str} {nms gen co mr} {m : Str → Option Value} {p : Program} {loose mean mg mb} {s : Shared} {E : Value → Shared → Prop} {Q : Value → Shared → Prop}
    {c sc : Addr} {i v many : Int} {t1 t2 tk : Tok} {n : Nat} {ns : List Int} {vs : List Value} {news : List (Addr × Obj)} {g : Obj → List (Addr × Obj)}
    (B : Below A₀ base outer h₀) (X : (hd.heap_39 w.params).In h₀) (T : Top p loose mean mg mb h₀) (F : Fr h₀ L s.heap m)
    (N : News h₀ L s.heap news) (U : UpdF c (cObj sc i v t1 t2 n) news g)
    (hl : base.IsList sc vs.toArray) (hi : IntsAre vs ns) (hlen : ¬ ((63 : Nat) : Int) < (ns.length : Int))
    (hi0 : 0 ≤ i) (hv0 : 0 ≤ v) (hm0 : 0 < many) (hm : many ≤ 10)
    (hh : A.handled = none) (hf : A.frames = some (envOf nm (scF nms gen co mr) L fa cd :: outer)) (hg : A.guards = some []) (hd : A.depth ≤ 400) (hu : A.units ≤ 300)
    (h : ∀ (d i' v' : Int) (a b e : Tok) (n' : Nat) (h' : Heap) (tk' : Nat), 0 ≤ d → d < many → 0 ≤ i' → 0 ≤ v' → Fr h₀ L h' m → News h₀ L h' (g (cObj sc i' v' a b n')) →
      Q (.int d e) { s with heap := h', toks := tk' }) :
    wpAny (model PySem.Challenge.rw_fy0012_01.row.prog w) A (call (.ref 354) [.ref c, .int many tk]) Q E s := by
  obtain ⟨pre, post, rfl, hgo, hp, hq⟩ := U.split
  refine up_of (A' := (up outer).deeper (envOf nm (scF nms gen co mr) L fa cd)) (take_spec (t1 := t1) (t2 := t2) (n := n) (rest := pre ++ post) B X T F (fun x hx => N x ?_) ?_ hl hi hlen hi0 hv0 hm0 hm fun d i' v' a b e n' h' tk' h1 h2 h3 h4 F' N' => h d i' v' a b e n' h' tk' h1 h2 h3 h4 F' ?_) hh (by show A.depth ≤ 401; omega) hf hg (by show A.units ≤ 303; omega)
  · simp only [List.mem_cons, List.mem_append] at hx ⊢
    rcases hx with hx | hx | hx
    · exact .inr (.inl hx)
    · exact .inl hx
    · exact .inr (.inr hx)
  · intro x hx b hb
    rw [List.mem_singleton.mp hb]
    rcases List.mem_append.mp hx with hx | hx
    · exact hp x hx
    · exact hq x hx
  · rw [hgo]
    intro x hx
    refine N' x ?_
    simp only [List.mem_cons, List.mem_append] at hx ⊢
    rcases hx with hx | hx | hx
    · exact .inr (.inl hx)
    · exact .inl hx
    · exact .inr (.inr hx)
end
end Mine
namespace Mine
section
open PySem PySem.W PyProof.Rows PySem.Calls
theorem rstP3 {M : Model} {A : Around} {env : Env} {Q : Flow → Shared → Prop} {E : Value → Shared → Prop} {s : Shared} (h : wpAny M A (execs [] env) Q E s) : wpAny M A (execs [] env) Q E s := by
  w_top off
  (try (walk1; fail))
  exact h
theorem UnrPost.mono {h₀ : Heap} {L : Addr} {s₁ : Shared} {I : Addr} {it : Obj} {r r' : (Str → Option Value) → List (Addr × Obj) → Prop} {Q : Flow → Shared → Prop} {f : Flow} {s₂ : Shared}
    (h : UnrPost h₀ L s₁ I it r Q f s₂) (k : ∀ m n, (∀ p ∈ n, p.1 ≠ I) → r m n → r' m n) : UnrPost h₀ L s₁ I it r' Q f s₂ := by
  cases f with
  | ret v => exact h
  | brk => exact h
  | next => obtain ⟨h', tk, m', news', a, b, c, d, e⟩ := h; exact ⟨h', tk, m', news', a, b, c, d, k _ _ d e⟩
  | cont => obtain ⟨h', tk, m', news', a, b, c, d, e⟩ := h; exact ⟨h', tk, m', news', a, b, c, d, k _ _ d e⟩

theorem range_for {prog : Program} {w : World} {A : Around} {E : Value → Shared → Prop} {s : Shared} {env : Env} {h₀ : Heap} {x : Str} {body : List Stmt} {Q : Flow → Shared → Prop} {d : Int} {e : Tok} {m : Str → Option Value} {news : List (Addr × Obj)}
    (Inv : Nat → (Str → Option Value) → List (Addr × Obj) → Prop)
    (hh : A.handled = none) (F : Fr h₀ env.locals s.heap m) (N : News h₀ env.locals s.heap news) (h0 : 0 ≤ d) (h1 : d < 2 ^ 40) (hI : Inv 0 m news)
    (step : ∀ (i : Nat) m₁ nx I t h tk, (i : Int) < d → Inv i m₁ nx → (∀ p ∈ nx, p.1 ≠ I) → Fr h₀ env.locals h (fun y => if y = x then some (.int (i : Int) t) else m₁ y) →
      News h₀ env.locals h ((I, itR (((i + 1 : Nat) : Int)) (d - ((i + 1 : Nat) : Int))) :: nx) →
      wpAny (model prog w) A (execs body env) (UnrPost h₀ env.locals { s with heap := h, toks := tk } I (itR (((i + 1 : Nat) : Int)) (d - ((i + 1 : Nat) : Int))) (Inv (i + 1)) Q) E { s with heap := h, toks := tk })
    (done : ∀ m₁ nx h tk, Inv d.toNat m₁ nx → Fr h₀ env.locals h m₁ → News h₀ env.locals h nx → Q .next { s with heap := h, toks := tk }) :
    wpAny (model prog w) A (call (.type "range") [.int d e]) (fun xv s₁ => wpAny (model prog w) A (pyIter xv) (fun it s₂ => LoopAtV prog w A h₀ env x body Q E it s₂) E s₁) E s := by
  obtain ⟨n, rfl⟩ := Int.eq_ofNat_of_zero_le h0
  refine range1_rows F N fun h' tk t₁ u₁ v₁ hr F' N' _ => ?_
  refine iter_rangeUnr hh hr (small_one (by decide) (by decide) (by omega) (by omega)) (by rw [rangeSize_nat]) F' N' fun I hlt => ?_
  have key : ∀ (k i : Nat) (m₁ : Str → Option Value) (nx : List (Addr × Obj)), k + i = n → Inv i m₁ nx → (∀ p ∈ nx, p.1 ≠ I) →
      RangeRest prog w A E h₀ env x body Q { s with heap := h', toks := tk } I 0 n k i m₁ nx := by
    intro k
    induction k with
    | zero =>
      intro i m₁ nx hk hi _ h tk' F₁ N₁
      have : i = n := by omega
      subst this
      exact done m₁ nx h tk' (by simpa using hi) F₁ N₁
    | succ k ih =>
      intro i m₁ nx hk hi hn t h tk' F₁ N₁
      simp only [Int.zero_add] at F₁ N₁ ⊢
      exact wpAny_mono (step i m₁ nx I t h tk' (by omega) hi hn F₁ N₁) (fun f s₂ p => UnrPost.mono p fun m' n' a b => ih (i + 1) m' n' (by omega) b a) fun _ _ e => e
  exact key n 0 m news (by omega) hI fun p hp => Nat.ne_of_lt (hlt p hp)

/-- names of a frame, written out -/
theorem fr_name {h₀ h : Heap} {L : Addr} {m : Str → Option Value} (F : Fr h₀ L h m) (a : Str) {v : Value} (e : m a = some v) : Fr h₀ L h (fun y => if y = a then some v else m y) := by
  have : (fun y => if y = a then some v else m y) = m := by
    funext y
    by_cases q : y = a
    · subst q; rw [if_pos rfl, e]
    · rw [if_neg q]
  rw [this]; exact F
theorem allLt_mem {d : Nat} : ∀ {l : List (Addr × Obj)}, AllLt d l → ∀ p ∈ l, p.1 < d
  | [], _, _, h => nomatch h
  | _ :: _, x, p, h => by
    rcases List.mem_cons.mp h with rfl | h
    · exact x.1
    · exact allLt_mem x.2 p h

abbrev Tg := Int × Str
abbrev tupO (t : Tg) (a b : Tok) : Obj := { cls := .type "tuple", data := .seq #[.int t.1 a, .str t.2 b] }
def TagIn (S : List (Addr × Obj)) (v : Value) (t : Tg) : Prop := ∃ a x y, v = .ref a ∧ (a, tupO t x y) ∈ S
inductive AllIn {α : Type} (R : Value → α → Prop) : List Value → List α → Prop
  | nil : AllIn R [] []
  | cons {v vs d ds} : R v d → AllIn R vs ds → AllIn R (v :: vs) (d :: ds)
theorem AllIn.mono {α : Type} {R R' : Value → α → Prop} (k : ∀ v d, R v d → R' v d) {vs : List Value} {ds : List α} (h : AllIn R vs ds) : AllIn R' vs ds := by
  induction h with
  | nil => exact .nil
  | cons a _ ih => exact .cons (k _ _ a) ih
theorem AllIn.length {α : Type} {R : Value → α → Prop} {vs : List Value} {ds : List α} (h : AllIn R vs ds) : vs.length = ds.length := by
  induction h with
  | nil => rfl
  | cons _ _ ih => rw [List.length_cons, List.length_cons, ih]
theorem AllIn.append {α : Type} {R : Value → α → Prop} {vs ws : List Value} {ds es : List α} (h : AllIn R vs ds) (k : AllIn R ws es) : AllIn R (vs ++ ws) (ds ++ es) := by
  induction h with
  | nil => exact k
  | cons a _ ih => exact .cons a ih
theorem AllIn.get {α : Type} {R : Value → α → Prop} {vs : List Value} {ds : List α} (h : AllIn R vs ds) : ∀ {i : Nat} {v : Value}, vs[i]? = some v → ∃ d, ds[i]? = some d ∧ R v d := by
  induction h with
  | nil => intro i v e; cases e
  | cons a _ ih =>
    intro i v e
    cases i with
    | zero => cases e; exact ⟨_, rfl, a⟩
    | succ i => exact ih (by simpa using e)
theorem TagIn.mono {S S' : List (Addr × Obj)} (k : ∀ p ∈ S, p ∈ S') {v : Value} {t : Tg} (h : TagIn S v t) : TagIn S' v t := let ⟨a, x, y, e, q⟩ := h; ⟨a, x, y, e, k _ q⟩
abbrev RowsIn (S : List (Addr × Obj)) : List Value → List Tg → Prop := AllIn (TagIn S)
end
end Mine
namespace Mine
section
open PySem PySem.W PyProof.Rows PySem.Calls
theorem rstP2 {M : Model} {A : Around} {env : Env} {Q : Flow → Shared → Prop} {E : Value → Shared → Prop} {s : Shared} (h : wpAny M A (execs [] env) Q E s) : wpAny M A (execs [] env) Q E s := by
  w_top off
  (try (walk1; fail))
  exact h
abbrev upB (outer : List Env) : Around := Around.mk none 390 (some outer) (some []) 290
def tagGood (t : Tg) : Prop := t.2 ∈ (["SECTION", "HEADER", "ENTITIES", "OBJECTS", "ENDSEC", "LINE", "0", "$A", "EOF", "CIRCLE"] : List Str)
def menuTags : List Tg := [(0, "SECTION"), (2, "HEADER"), (2, "ENTITIES"), (0, "ENDSEC"), (0, "LINE"), (8, "0"), (9, "$A"), (0, "EOF"), (0, "CIRCLE"), (2, "HEADER")]
/-- what holds between the statements that draw: the cursor c, the list of rows r, all else within tl -/
def DInv (c sc mn : Addr) (keep : List (Addr × Obj)) (bound : Nat) (m : Str → Option Value) (nx : List (Addr × Obj)) : Prop :=
  ∃ (r : Addr) (rvs : List Value) (tags : List Tg) (kr n : Nat) (i v : Int) (a b : Tok) (tl : List (Addr × Obj)),
    m "c" = some (.ref c) ∧ m "menu" = some (.ref mn) ∧ m "rows" = some (.ref r) ∧ nx = (c, cObj sc i v a b n) :: (r, W.listOf rvs.toArray kr) :: tl ∧
    RowsIn tl rvs tags ∧ tags.length ≤ bound ∧ (∀ t ∈ tags, tagGood t) ∧ 0 ≤ i ∧ 0 ≤ v ∧ OwnOff tl [c, r] ∧ @Ne Nat r c ∧ ∀ p ∈ keep, p ∈ tl

theorem menu_item {prog : Program} {w : World} {A : Around} {E : Value → Shared → Prop} {s : Shared} {value slice : PySem.Expr} {h₀ : Heap} {L : Addr} {news : List (Addr × Obj)} {l : Addr} {vs : List Value} {n : Nat} {k : Int} {u : Tok} {Q : Value → Shared → Prop}
    (N : News h₀ L s.heap news) (hm : (l, W.listOf vs.toArray n) ∈ news) (h0 : 0 ≤ k) (h1 : k < (vs.length : Int)) (h2 : vs.length ≤ 1000) (h : ∀ v, vs[k.toNat]? = some v → Q v s)
    (hs : subscripted slice false (.ref l) (.int k u) = operate [.ref l, .int k u] (getItem (.ref l) (.int k u)) := by with_unfolding_all rfl) :
    wpAny (model prog w) A (subscriptTail value slice (.ref l) (.int k u)) Q E s := by
  have hl : s.heap.IsList l vs.toArray := ⟨_, (N _ hm).1, rfl, n, rfl⟩
  have hlt : k.toNat < vs.length := by omega
  exact tail_any hl.typeIs slot_list_getitem.lookup (wpAny_getItem_list hl h0 (by omega) (by simpa using List.getElem?_eq_getElem hlt) (h _ (List.getElem?_eq_getElem hlt))) hs

theorem news_ne {h₀ h : Heap} {L : Addr} {all : List (Addr × Obj)} (N : News h₀ L h all) {a b : Addr} {o o' : Obj} (ha : (a, o) ∈ all) (hb : (b, o') ∈ all) (ne : o ≠ o') : a ≠ b := fun e => by
  have h1 := (N _ ha).1
  have h2 := (N _ hb).1
  dsimp only at h1 h2
  rw [e, h2] at h1
  exact ne (Option.some.inj h1).symm
theorem own_cons {l : List (Addr × Obj)} {a c : Addr} {o : Obj} (h : a ≠ c) (k : OwnOff l [c]) : OwnOff ((a, o) :: l) [c] := fun p hp b hb => by
  rcases List.mem_cons.mp hp with rfl | hp
  · rw [List.mem_singleton.mp hb]; exact h
  · exact k p hp b hb
theorem own_of {l : List (Addr × Obj)} {c : Addr} (h : ∀ p ∈ l, p.1 ≠ c) : OwnOff l [c] := fun p hp b hb => by rw [List.mem_singleton.mp hb]; exact h p hp
theorem own_at {l : List (Addr × Obj)} {c : Addr} (h : OwnOff l [c]) : ∀ p ∈ l, p.1 ≠ c := fun p hp => h p hp c (List.mem_singleton.mpr rfl)
theorem own_two {l : List (Addr × Obj)} {c r : Addr} (h : OwnOff l [c]) (k : OwnOff l [r]) : OwnOff l [c, r] := fun p hp b hb => by
  rcases List.mem_cons.mp hb with rfl | hb
  · exact h p hp _ (.head _)
  · exact k p hp b hb
theorem tup_ne_list {t : Tg} {a b : Tok} {x : Array Value} {n : Nat} : tupO t a b ≠ W.listOf x n := fun e => by
  have := congrArg Obj.cls e
  simp [W.listOf] at this

theorem dinv_start {g h : Heap} {L : Addr} {all rest : List (Addr × Obj)} {m : Str → Option Value} {c sc r mn : Addr} {i v : Int} {a b : Tok} {n k1 k2 : Nat} {d0 d1 d2 d3 d4 d5 d6 d7 d8 d9 : Addr} {x0 x1 x2 x3 x4 x5 x6 x7 x8 x9 y0 y1 y2 y3 y4 y5 y6 y7 y8 y9 : Tok}
    (_F : Fr g L h m) (N : News g L h all) (hc : (c, cObj sc i v a b n) ∈ all) (hr : (r, W.listOf #[] k1) ∈ all)
    (hm : (mn, W.listOf #[.ref d0, .ref d1, .ref d2, .ref d3, .ref d4, .ref d5, .ref d6, .ref d7, .ref d8, .ref d9] k2) ∈ all)
    (h0 : (d0, tupO (0, "SECTION") x0 y0) ∈ all) (h1 : (d1, tupO (2, "HEADER") x1 y1) ∈ all) (h2 : (d2, tupO (2, "ENTITIES") x2 y2) ∈ all) (h3 : (d3, tupO (0, "ENDSEC") x3 y3) ∈ all) (h4 : (d4, tupO (0, "LINE") x4 y4) ∈ all)
    (h5 : (d5, tupO (8, "0") x5 y5) ∈ all) (h6 : (d6, tupO (9, "$A") x6 y6) ∈ all) (h7 : (d7, tupO (0, "EOF") x7 y7) ∈ all) (h8 : (d8, tupO (0, "CIRCLE") x8 y8) ∈ all) (h9 : (d9, tupO (2, "HEADER") x9 y9) ∈ all)
    (hrest : ∀ p ∈ rest, p ∈ all) (oc : OwnOff rest [c]) (or : ∀ p ∈ rest, p.1 ≠ r) (mc : m "c" = some (.ref c)) (mm : m "menu" = some (.ref mn)) (mr : m "rows" = some (.ref r)) (hi : 0 ≤ i) (hv : 0 ≤ v) :
    ∃ (kp : List (Addr × Obj)) (mvs : List Value) (nx : List (Addr × Obj)), News g L h nx ∧ DInv c sc mn kp 0 m nx ∧ (mn, W.listOf mvs.toArray k2) ∈ kp ∧ RowsIn kp mvs menuTags ∧ ∀ p ∈ rest, p ∈ kp := by
  let kp : List (Addr × Obj) := (mn, W.listOf #[.ref d0, .ref d1, .ref d2, .ref d3, .ref d4, .ref d5, .ref d6, .ref d7, .ref d8, .ref d9] k2) :: (d0, tupO (0, "SECTION") x0 y0) :: (d1, tupO (2, "HEADER") x1 y1) :: (d2, tupO (2, "ENTITIES") x2 y2) ::
    (d3, tupO (0, "ENDSEC") x3 y3) :: (d4, tupO (0, "LINE") x4 y4) :: (d5, tupO (8, "0") x5 y5) :: (d6, tupO (9, "$A") x6 y6) :: (d7, tupO (0, "EOF") x7 y7) :: (d8, tupO (0, "CIRCLE") x8 y8) :: (d9, tupO (2, "HEADER") x9 y9) :: rest
  have hsz : cObj sc i v a b n ≠ W.listOf #[] k1 := fun e => by injection e with _ _ e; injection e with e; cases e
  have hmr : W.listOf #[Value.ref d0, .ref d1, .ref d2, .ref d3, .ref d4, .ref d5, .ref d6, .ref d7, .ref d8, .ref d9] k2 ≠ W.listOf #[] k1 := fun e => by injection e with _ _ e; injection e with e; cases e
  have hmc : W.listOf #[Value.ref d0, .ref d1, .ref d2, .ref d3, .ref d4, .ref d5, .ref d6, .ref d7, .ref d8, .ref d9] k2 ≠ cObj sc i v a b n := fun e => by injection e with _ _ e; injection e with e; cases e
  have hsub : ∀ p ∈ kp, p ∈ all := by
    intro p hp
    simp only [kp, List.mem_cons] at hp
    rcases hp with rfl | rfl | rfl | rfl | rfl | rfl | rfl | rfl | rfl | rfl | rfl | hp <;> first | assumption | exact hrest _ hp
  refine ⟨kp, [.ref d0, .ref d1, .ref d2, .ref d3, .ref d4, .ref d5, .ref d6, .ref d7, .ref d8, .ref d9], (c, cObj sc i v a b n) :: (r, W.listOf [].toArray k1) :: kp, fun p hp => N p ?_,
    ⟨r, [], [], k1, n, i, v, a, b, kp, mc, mm, mr, rfl, .nil, Nat.le_refl _, (fun _ h => nomatch h), hi, hv, own_two ?_ ?_, ?_, fun _ h => h⟩, .head _, ?_, fun p hp => ?_⟩
  · rcases List.mem_cons.mp hp with rfl | hp
    · exact hc
    · rcases List.mem_cons.mp hp with rfl | hp
      · exact hr
      · exact hsub p hp
  · have q : ∀ {d : Addr} {t x y}, (d, tupO t x y) ∈ all → d ≠ c := fun hd => news_ne N hd hc tup_ne_list
    exact own_cons (news_ne N hm hc hmc) (own_cons (q h0) (own_cons (q h1) (own_cons (q h2) (own_cons (q h3) (own_cons (q h4) (own_cons (q h5) (own_cons (q h6) (own_cons (q h7) (own_cons (q h8) (own_cons (q h9) oc))))))))))
  · have q : ∀ {d : Addr} {t x y}, (d, tupO t x y) ∈ all → d ≠ r := fun hd => news_ne N hd hr tup_ne_list
    exact own_cons (news_ne N hm hr hmr) (own_cons (q h0) (own_cons (q h1) (own_cons (q h2) (own_cons (q h3) (own_cons (q h4) (own_cons (q h5) (own_cons (q h6) (own_cons (q h7) (own_cons (q h8) (own_cons (q h9) (own_of or)))))))))))
  · exact (news_ne N hc hr hsz).symm
  · have q : ∀ {d : Addr} {t x y}, (d, tupO t x y) ∈ kp → TagIn kp (.ref d) t := fun hd => ⟨_, _, _, rfl, hd⟩
    exact .cons (q (by k_mem)) (.cons (q (by k_mem)) (.cons (q (by k_mem)) (.cons (q (by k_mem)) (.cons (q (by k_mem)) (.cons (q (by k_mem)) (.cons (q (by k_mem)) (.cons (q (by k_mem)) (.cons (q (by k_mem)) (.cons (q (by k_mem)) .nil)))))))))
  · simp only [kp, List.mem_cons]
    exact .inr (.inr (.inr (.inr (.inr (.inr (.inr (.inr (.inr (.inr (.inr hp))))))))))

theorem menu_item10 {prog : Program} {w : World} {A : Around} {E : Value → Shared → Prop} {s : Shared} {value slice : PySem.Expr} {h₀ : Heap} {L : Addr} {news tl : List (Addr × Obj)} {l : Addr} {vs : List Value} {n : Nat} {k : Int} {u : Tok} {Q : Value → Shared → Prop}
    (N : News h₀ L s.heap news) (hm : (l, W.listOf vs.toArray n) ∈ tl) (hs' : ∀ p ∈ tl, p ∈ news) (hl : vs.length = 10) (h0 : 0 ≤ k) (h1 : k < 10) (h : ∀ v, vs[k.toNat]? = some v → Q v s)
    (hs : subscripted slice false (.ref l) (.int k u) = operate [.ref l, .int k u] (getItem (.ref l) (.int k u)) := by with_unfolding_all rfl) :
    wpAny (model prog w) A (subscriptTail value slice (.ref l) (.int k u)) Q E s := menu_item N (hs' _ hm) h0 (by rw [hl]; exact h1) (by rw [hl]; decide) h hs
theorem add_rows {prog : Program} {w : World} {A : Around} {E : Value → Shared → Prop} {s : Shared} {h₀ : Heap} {L : Addr} {m : Str → Option Value} {news : List (Addr × Obj)} {l b : Addr} {vs ws : List Value} {n k : Nat} {Q : Value → Shared → Prop}
    (F : Fr h₀ L s.heap m) (N : News h₀ L s.heap news) (ha : (l, W.listOf vs.toArray n) ∈ news) (hb : (b, W.listOf ws.toArray k) ∈ news) (hsz : vs.length + ws.length ≤ 1000)
    (h : ∀ D h', Fr h₀ L h' m → News h₀ L h' ((D, W.listOf (vs ++ ws).toArray 0) :: news) → (∀ p ∈ news, p.1 < D) → Q (.ref D) { s with heap := h' }) :
    wpAny (model prog w) A (binaryOp .Add (.ref l) (.ref b)) Q E s :=
  add_lists F N ⟨_, (N _ ha).1, rfl, n, rfl⟩ ⟨_, (N _ hb).1, rfl, k, rfl⟩ (fun h' F' N' => h _ h' F' N' fun p hp => Heap.lt_size (N p hp).1) (by have : sizeLine = 16777216 := rfl; omega)
theorem itR_ne_list {x y : Int} {a : Array Value} {n : Nat} : itR x y ≠ W.listOf a n := fun e => by
  have := congrArg Obj.cls e
  simp [itR] at this
theorem itR_ne_tup {x y : Int} {t : Tg} {a b : Tok} : itR x y ≠ tupO t a b := fun e => by
  have := congrArg Obj.cls e
  simp [itR] at this
theorem rows_filter {g h : Heap} {L : Addr} {all tl : List (Addr × Obj)} {I : Addr} {x y : Int} (N : News g L h all) (hI : (I, itR x y) ∈ all) (hs : ∀ p ∈ tl, p ∈ all) {vs : List Value} {tags : List Tg} (hr : RowsIn tl vs tags) :
    RowsIn (tl.filter fun p => !(Nat.beq p.1 I)) vs tags := by
  refine AllIn.mono (fun v t ht => ?_) hr
  obtain ⟨a, p, q, rfl, hm⟩ := ht
  refine ⟨a, p, q, rfl, List.mem_filter.mpr ⟨hm, ?_⟩⟩
  have : I ≠ a := news_ne N hI (hs _ hm) itR_ne_tup
  cases hb : Nat.beq a I with
  | true => exact absurd (Nat.eq_of_beq_eq_true hb).symm this
  | false => rfl
theorem unr_end {g h : Heap} {L : Addr} {all tl keep : List (Addr × Obj)} {m : Str → Option Value} {c sc mn r I : Addr} {x y i v : Int} {a b : Tok} {n kr tk bound : Nat} {rvs : List Value} {tags : List Tg} {s₁ : Shared}
    (F : Fr g L h m) (N : News g L h all) (hI : (I, itR x y) ∈ all) (hc : (c, cObj sc i v a b n) ∈ all) (hr : (r, W.listOf rvs.toArray kr) ∈ all) (htl : ∀ p ∈ tl, p ∈ all) (hrows : RowsIn tl rvs tags)
    (hlen : tags.length ≤ bound) (hgood : ∀ t ∈ tags, tagGood t) (hi : 0 ≤ i) (hv : 0 ≤ v) (oc : OwnOff tl [c, r]) (rc : @Ne Nat r c) (hk : ∀ p ∈ keep, p ∈ tl) (hkI : ∀ p ∈ keep, p.1 ≠ I)
    (mc : m "c" = some (.ref c)) (mm : m "menu" = some (.ref mn)) (mr : m "rows" = some (.ref r)) :
    UnrEnd g L s₁ I (itR x y) (DInv c sc mn keep bound) { s₁ with heap := h, toks := tk } := by
  have cI : c ≠ I := (news_ne N hI hc itR_ne_list).symm
  have rI : r ≠ I := (news_ne N hI hr itR_ne_list).symm
  have fI : ∀ p ∈ tl.filter (fun p => !(Nat.beq p.1 I)), p ∈ tl ∧ p.1 ≠ I := fun p hp => by
    obtain ⟨h1, h2⟩ := List.mem_filter.mp hp
    refine ⟨h1, fun e => ?_⟩
    rw [e, Nat.beq_refl] at h2
    cases h2
  refine ⟨h, tk, m, (c, cObj sc i v a b n) :: (r, W.listOf rvs.toArray kr) :: tl.filter (fun p => !(Nat.beq p.1 I)), rfl, F, fun p hp => N p ?_, fun p hp => ?_, r, rvs, tags, kr, n, i, v, a, b, _, mc, mm, mr, rfl, rows_filter N hI htl hrows, hlen, hgood, hi, hv,
    fun p hp => oc p (fI p hp).1, rc, fun p hp => List.mem_filter.mpr ⟨hk p hp, ?_⟩⟩
  · rcases List.mem_cons.mp hp with rfl | hp
    · exact hI
    · rcases List.mem_cons.mp hp with rfl | hp
      · exact hc
      · rcases List.mem_cons.mp hp with rfl | hp
        · exact hr
        · exact htl p (fI p hp).1
  · rcases List.mem_cons.mp hp with rfl | hp
    · exact cI
    · rcases List.mem_cons.mp hp with rfl | hp
      · exact rI
      · exact (fI p hp).2
  · cases hb : Nat.beq p.1 I with
    | true => exact absurd (Nat.eq_of_beq_eq_true hb) (hkI p hp)
    | false => rfl
theorem two_more {g h : Heap} {L : Addr} {all tl : List (Addr × Obj)} {c sc r r' d0 d1 : Addr} {i v : Int} {a b x0 y0 x1 y1 : Tok} {n kr : Nat} {arr : Array Value} {rvs : List Value} {tags : List Tg} {t0 t1 : Tg}
    (N : News g L h all) (hc : (c, cObj sc i v a b n) ∈ all) (hr : (r', W.listOf arr kr) ∈ all) (h0 : (d0, tupO t0 x0 y0) ∈ all) (h1 : (d1, tupO t1 x1 y1) ∈ all) (htl : ∀ p ∈ tl, p ∈ all)
    (hrows : RowsIn tl rvs tags) (oc : OwnOff tl [c, r]) (hr' : ∀ p ∈ tl, p.1 ≠ r') :
    RowsIn ((d0, tupO t0 x0 y0) :: (d1, tupO t1 x1 y1) :: tl) (rvs ++ [Value.ref d0, Value.ref d1]) (tags ++ [t0, t1]) ∧ OwnOff ((d0, tupO t0 x0 y0) :: (d1, tupO t1 x1 y1) :: tl) [c, r'] ∧ ∀ p ∈ (d0, tupO t0 x0 y0) :: (d1, tupO t1 x1 y1) :: tl, p ∈ all := by
  refine ⟨AllIn.append (hrows.mono fun _ _ ht => ht.mono fun p hp => .tail _ (.tail _ hp)) (.cons ⟨d0, x0, y0, rfl, .head _⟩ (.cons ⟨d1, x1, y1, rfl, .tail _ (.head _)⟩ .nil)), own_two (own_cons (news_ne N h0 hc tup_ne_list) (own_cons (news_ne N h1 hc tup_ne_list) ?_)) (own_cons (news_ne N h0 hr tup_ne_list) (own_cons (news_ne N h1 hr tup_ne_list) (own_of hr'))), fun p hp => ?_⟩
  · exact fun p hp q hq => oc p hp q (by rw [List.mem_singleton.mp hq]; exact .head _)
  · rcases List.mem_cons.mp hp with rfl | hp
    · exact h0
    · rcases List.mem_cons.mp hp with rfl | hp
      · exact h1
      · exact htl p hp
theorem one_more {g h : Heap} {L : Addr} {all tl : List (Addr × Obj)} {c sc r d0 : Addr} {i v : Int} {a b x0 y0 : Tok} {n kr : Nat} {arr : Array Value} {rvs : List Value} {tags : List Tg} {t0 : Tg}
    (N : News g L h all) (hc : (c, cObj sc i v a b n) ∈ all) (hr : (r, W.listOf arr kr) ∈ all) (h0 : (d0, tupO t0 x0 y0) ∈ all) (htl : ∀ p ∈ tl, p ∈ all)
    (hrows : RowsIn tl rvs tags) (oc : OwnOff tl [c, r]) :
    RowsIn ((d0, tupO t0 x0 y0) :: tl) (rvs ++ [Value.ref d0]) (tags ++ [t0]) ∧ OwnOff ((d0, tupO t0 x0 y0) :: tl) [c, r] ∧ ∀ p ∈ (d0, tupO t0 x0 y0) :: tl, p ∈ all := by
  refine ⟨AllIn.append (hrows.mono fun _ _ ht => ht.mono fun p hp => .tail _ hp) (.cons ⟨d0, x0, y0, rfl, .head _⟩ .nil), own_two (own_cons (news_ne N h0 hc tup_ne_list) ?_) (own_cons (news_ne N h0 hr tup_ne_list) ?_), fun p hp => ?_⟩
  · exact fun p hp q hq => oc p hp q (by rw [List.mem_singleton.mp hq]; exact .head _)
  · exact fun p hp q hq => oc p hp q (by rw [List.mem_singleton.mp hq]; exact .tail _ (.head _))
  · rcases List.mem_cons.mp hp with rfl | hp
    · exact h0
    · exact htl p hp
theorem pair_good {x : Str} (hx : x ∈ (["LINE", "CIRCLE"] : List Str)) : ∀ t ∈ ([(0, x), (8, "0")] : List Tg), tagGood t := by
  simp only [List.mem_cons, List.not_mem_nil, or_false] at hx
  rcases hx with rfl | rfl <;> simp [tagGood]
theorem endsec_good : ∀ t ∈ ([(0, "ENDSEC")] : List Tg), tagGood t := by simp [tagGood]
theorem eof_good : ∀ t ∈ ([(0, "EOF")] : List Tg), tagGood t := by simp [tagGood]
theorem news_pick2 {g h : Heap} {L : Addr} {all tl : List (Addr × Obj)} {c r : Addr} {oc or : Obj} (N : News g L h all) (hc : (c, oc) ∈ all) (hr : (r, or) ∈ all) (htl : ∀ p ∈ tl, p ∈ all) : News g L h ((c, oc) :: (r, or) :: tl) := fun p hp => N p (by
  rcases List.mem_cons.mp hp with rfl | hp
  · exact hc
  · rcases List.mem_cons.mp hp with rfl | hp
    · exact hr
    · exact htl p hp)
theorem good_app {l r : List Tg} (h : ∀ t ∈ l, tagGood t) (k : ∀ t ∈ r, tagGood t) : ∀ t ∈ l ++ r, tagGood t := fun t ht => (List.mem_append.mp ht).elim (h t) (k t)
theorem menu_good : ∀ t ∈ menuTags, tagGood t := by simp [menuTags, tagGood]
theorem dinv_A {g h : Heap} {L : Addr} {all tl kp : List (Addr × Obj)} {m : Str → Option Value} {c sc mn r r' I d0 d1 : Addr} {x y i v : Int} {a b x0 y0 x1 y1 : Tok} {n kr bound : Nat} {rvs : List Value} {tags : List Tg} {nm : Str}
    (_F : Fr g L h m) (N : News g L h all) (hr : (r', W.listOf (rvs ++ [Value.ref d0, Value.ref d1]).toArray kr) ∈ all) (h0 : (d0, tupO (0, "SECTION") x0 y0) ∈ all) (h1 : (d1, tupO (2, nm) x1 y1) ∈ all) (hI : (I, itR x y) ∈ all) (hc : (c, cObj sc i v a b n) ∈ all)
    (htl : ∀ p ∈ tl, p ∈ all) (hrows : RowsIn tl rvs tags) (hlen : tags.length ≤ bound) (hgood : ∀ t ∈ tags, tagGood t) (hnm : nm ∈ (["HEADER", "ENTITIES", "OBJECTS"] : List Str)) (hi : 0 ≤ i) (hv : 0 ≤ v) (oc : OwnOff tl [c, r]) (hr' : ∀ p ∈ tl, p.1 ≠ r') (rc : @Ne Nat r' c)
    (hk : ∀ p ∈ kp, p ∈ tl) (mc : m "c" = some (.ref c)) (mm : m "menu" = some (.ref mn)) (mr : m "rows" = some (.ref r')) :
    ∃ nx, News g L h nx ∧ DInv c sc mn ((I, itR x y) :: kp) (bound + 2) m nx := by
  obtain ⟨q1, q2, q3⟩ := two_more N hc hr h0 h1 htl hrows oc hr'
  have rI : I ≠ r' := news_ne N hI hr itR_ne_list
  have cI : I ≠ c := news_ne N hI hc itR_ne_list
  refine ⟨(c, cObj sc i v a b n) :: (r', W.listOf (rvs ++ [Value.ref d0, Value.ref d1]).toArray kr) :: (I, itR x y) :: (d0, tupO (0, "SECTION") x0 y0) :: (d1, tupO (2, nm) x1 y1) :: tl, fun p hp => N p ?_,
    r', _, _, kr, n, i, v, a, b, _, mc, mm, mr, rfl, q1.mono fun _ _ ht => ht.mono fun p hp => .tail _ hp, ?_, good_app hgood ?_, hi, hv, ?_, rc, fun p hp => ?_⟩
  · rcases List.mem_cons.mp hp with rfl | hp
    · exact hc
    · rcases List.mem_cons.mp hp with rfl | hp
      · exact hr
      · rcases List.mem_cons.mp hp with rfl | hp
        · exact hI
        · exact q3 p hp
  · rw [List.length_append]; exact Nat.add_le_add_right hlen 2
  · intro t ht
    rcases List.mem_cons.mp ht with rfl | ht
    · simp [tagGood]
    · rw [List.mem_singleton.mp ht]
      simp only [tagGood, List.mem_cons, List.not_mem_nil, or_false] at hnm ⊢
      rcases hnm with h | h | h <;> simp [h]
  · intro p hp q hq
    rcases List.mem_cons.mp hp with rfl | hp
    · rcases List.mem_cons.mp hq with rfl | hq
      · exact cI
      · rw [List.mem_singleton.mp hq]; exact rI
    · exact q2 p hp q hq
  · rcases List.mem_cons.mp hp with rfl | hp
    · exact .head _
    · exact .tail _ (.tail _ (.tail _ (hk p hp)))
theorem str_item3 {prog : Program} {w : World} {A : Around} {E : Value → Shared → Prop} {s : Shared} {value slice : PySem.Expr} {h₀ : Heap} {L : Addr} {news : List (Addr × Obj)} {l : Addr} {x0 x1 x2 : Str} {t0 t1 t2 : Tok} {n : Nat} {k : Int} {u : Tok} {Q : Value → Shared → Prop}
    (N : News h₀ L s.heap news) (hm : (l, W.listOf #[.str x0 t0, .str x1 t1, .str x2 t2] n) ∈ news) (h0 : 0 ≤ k) (h1 : k < 3) (h : ∀ x t, x ∈ [x0, x1, x2] → Q (.str x t) s)
    (hs : subscripted slice false (.ref l) (.int k u) = operate [.ref l, .int k u] (getItem (.ref l) (.int k u)) := by with_unfolding_all rfl) :
    wpAny (model prog w) A (subscriptTail value slice (.ref l) (.int k u)) Q E s := by
  refine menu_item (vs := [.str x0 t0, .str x1 t1, .str x2 t2]) N hm h0 (by simpa using h1) (by simp) (fun v hv => ?_) hs
  obtain ⟨j, rfl⟩ := Int.eq_ofNat_of_zero_le h0
  have hj : j < 3 := by omega
  simp only [Int.toNat_natCast] at hv
  rcases j with _ | _ | _ | j
  · cases hv; exact h _ _ (.head _)
  · cases hv; exact h _ _ (.tail _ (.head _))
  · cases hv; exact h _ _ (.tail _ (.tail _ (.head _)))
  · omega
theorem str_item2 {prog : Program} {w : World} {A : Around} {E : Value → Shared → Prop} {s : Shared} {value slice : PySem.Expr} {h₀ : Heap} {L : Addr} {news : List (Addr × Obj)} {l : Addr} {x0 x1 : Str} {t0 t1 : Tok} {n : Nat} {k : Int} {u : Tok} {Q : Value → Shared → Prop}
    (N : News h₀ L s.heap news) (hm : (l, W.listOf #[.str x0 t0, .str x1 t1] n) ∈ news) (h0 : 0 ≤ k) (h1 : k < 2) (h : ∀ x t, x ∈ [x0, x1] → Q (.str x t) s)
    (hs : subscripted slice false (.ref l) (.int k u) = operate [.ref l, .int k u] (getItem (.ref l) (.int k u)) := by with_unfolding_all rfl) :
    wpAny (model prog w) A (subscriptTail value slice (.ref l) (.int k u)) Q E s := by
  refine menu_item (vs := [.str x0 t0, .str x1 t1]) N hm h0 (by simpa using h1) (by simp) (fun v hv => ?_) hs
  obtain ⟨j, rfl⟩ := Int.eq_ofNat_of_zero_le h0
  have hj : j < 2 := by omega
  simp only [Int.toNat_natCast] at hv
  rcases j with _ | _ | j
  · cases hv; exact h _ _ (.head _)
  · cases hv; exact h _ _ (.tail _ (.head _))
  · omega

local macro_rules | `(tactic| kd_p1) => `(tactic| (first | (k_unfold; (try dsimp only)) | (k_end; wrow_close) | walk1 | (dsimp only; walk1) | (leave1; walk_say "STEP leave1"; try dsimp only) | fail "no step"))
local macro_rules | `(tactic| kd_addB) => `(tactic| fail_if_success (with_reducible show wpAny _ _ (call (Value.type "range") _) _ _ _))
local macro_rules | `(tactic| walk_at "subscriptTail") => `(tactic| (k_here; (with_reducible show wpAny _ _ (subscriptTail (Expr.Name (PySem.Str.ofString "menu") _) _ (Value.ref _) (Value.int _ _)) _ _ _); k_dflt ((rename News _ _ _ _ => nM'); (with_unfolding_all refine' menu_item10 nM' ?hm ?hsub ?hl ?h0 ?h1 ?_ ?hs); (case hm => assumption); (case hsub => (intro p9 hp9; repeat (first | exact hp9 | refine List.mem_cons_of_mem _ ?_))); (case hl => assumption); (case h0 => assumption); (case h1 => assumption); (case hs => with_unfolding_all rfl); k_whole; intro v' hv')))
local macro_rules | `(tactic| walk_at "binaryOp Add ref ref") => `(tactic| (k_here; (with_reducible show wpAny _ _ (binaryOp _ (Value.ref _) (Value.ref _)) _ _ _); k_dflt ((with_unfolding_all refine' add_rows ?F ?N ?ha ?hb ?hz ?_); (case F => k_asm); (case N => k_asm); (case ha => k_mem); (case hb => k_mem); (case hz => (simp only [List.length_cons, List.length_nil, List.length_append]; omega)); k_whole; intro D' h' F' N' l1; (try k_lt l1); (try k_sweep))))
local macro_rules | `(tactic| walk_at "subscriptTail") => `(tactic| (k_here; (with_reducible show wpAny _ _ (subscriptTail (Expr.Name (PySem.Str.ofString "_") _) _ (Value.ref _) (Value.int _ _)) _ _ _); k_dflt ((rename News _ _ _ _ => nM'); (first | (with_unfolding_all refine' str_item3 nM' ?hm ?h0 ?h1 ?_ ?hs); (case hm => k_mem) | (with_unfolding_all refine' str_item2 nM' ?hm ?h0 ?h1 ?_ ?hs); (case hm => k_mem)); (case h0 => assumption); (case h1 => assumption); (case hs => with_unfolding_all rfl); k_whole; intro x' u' hx')))
local macro_rules | `(tactic| walk_at "call ref") => `(tactic| (k_here; (with_reducible show wpAny _ _ (call (Value.ref 354) _) _ _ _); k_dflt ((with_unfolding_all refine' take_call ?B ?X ?T ?F ?N ?U ?hl ?hi ?hlen ?i0 ?v0 ?m0 ?mm ?hh ?hf ?hg ?hd ?hu ?_); (case B => k_asm); (case X => k_asm); (case T => k_asm); (case F => k_asm); (case N => k_asm); (case U => k_updF); (case hl => k_asm); (case hi => k_asm); (case hlen => k_asm); (case i0 => omega); (case v0 => omega); (case m0 => decide); (case mm => decide); (case hh => rfl); (case hf => rfl); (case hg => rfl); (case hd => exact Nat.le_of_ble_eq_true rfl); (case hu => exact Nat.le_of_ble_eq_true rfl); k_whole; intro d' i' v' a' b' e' n' h' tk' q1 q2 q3 q4 F' N'; (try k_sweep))))

set_option maxHeartbeats 4000000 in
theorem drawn_spec {w : World} {A₀ : Around} {base h₀ : Heap} {outer : List Env} {L fa : Addr} {cd : Value} {nm : Str} {nms gen co mr} {m : Str → Option Value} {p : Program} {loose mean mg mb} {s : Shared} {E : Value → Shared → Prop} {Q : Value → Shared → Prop}
    {c sc : Addr} {i v : Int} {t1 t2 : Tok} {n : Nat} {ns : List Int} {vs : List Value} {rest : List (Addr × Obj)}
    (B : Below A₀ base outer h₀) (X : (hd.heap_39 w.params).In h₀) (T : Top p loose mean mg mb h₀) (F : Fr h₀ L s.heap m)
    (N : News h₀ L s.heap ((c, cObj sc i v t1 t2 n) :: rest)) (hoff : OwnOff rest [c])
    (hl : base.IsList sc vs.toArray) (hi : IntsAre vs ns) (hlen : ¬ ((63 : Nat) : Int) < (ns.length : Int))
    (hi0 : 0 ≤ i) (hv0 : 0 ≤ v)
    (h : ∀ (r : Addr) (rvs : List Value) (tags : List Tg) (kr n' : Nat) (i' v' : Int) (a b : Tok) (tl : List (Addr × Obj)) (h' : Heap) (tk' : Nat), Fr h₀ L h' m →
      News h₀ L h' ((c, cObj sc i' v' a b n') :: (r, W.listOf rvs.toArray kr) :: tl) → RowsIn tl rvs tags → tags.length ≤ 57 → (∀ t ∈ tags, tagGood t) → 0 ≤ i' → 0 ≤ v' → OwnOff tl [c, r] → @Ne Nat r c → (∀ p ∈ rest, p ∈ tl) →
      Q (.ref r) { s with heap := h', toks := tk' }) :
    wpAny (model PySem.Challenge.rw_fy0012_01.row.prog w) ((upB outer).deeper (envOf nm (scF nms gen co mr) L fa cd)) (call (.ref 361) [.ref c]) Q E s := by
  have lifted := stays_list B.stays hl
  refine wpAny_call ?_
  k_enter
  repeat' (kd_addB; kd_p1)
  rename Fr _ _ _ _ => F9
  rename News _ _ _ _ => N9
  rename _ ∧ _ => lt9
  obtain ⟨kp, mvs, nx0, N0, D0, hmn, hmv, hkp⟩ := dinv_start F9 N9 (c := c) (sc := sc) (rest := rest) (by k_mem) (by k_mem) (by k_mem) (by k_mem) (by k_mem) (by k_mem) (by k_mem) (by k_mem) (by k_mem) (by k_mem) (by k_mem) (by k_mem) (by k_mem)
    (by intro p9 hp9; repeat (first | exact hp9 | refine List.mem_cons_of_mem _ ?_)) hoff (fun p hp => Nat.ne_of_lt (allLt_mem (by simp only [lt9]) p hp)) (by rfl) (by rfl) (by rfl) (by assumption) (by assumption)
  clear N9 lt9
  refine range_for (fun k => DInv c sc _ kp (7 * k)) rfl F9 N0 (by assumption) (by omega) D0 ?step ?done
  case step =>
    rintro j m₁ nx I t h tk hid ⟨r, rvs, tags, kr, n, i1, v1, a, b, tl, mc, mm, mr, rfl, hrows, hlen', hgood, hi1, hv1, ocr, hrc, hkeep⟩ hnI F₁ N₁
    clear F9 N0 D0
    have F₂ := fr_name (fr_name (fr_name F₁ "rows" (v := .ref r) (by exact mr)) "menu" (v := .ref _) (by exact mm)) "c" (v := .ref c) (by exact mc)
    clear F₁
    have mlen : mvs.length = 10 := by rw [hmv.length]; rfl
    have hrl := hrows.length
    have hmn' := hkeep _ hmn
    have o1 : @Ne Nat c I := hnI _ (.head _)
    have o2 : @Ne Nat r I := hnI _ (.tail _ (.head _))

    dsimp only
    show wpAny _ _ _ _ _ _
    k_fold
    repeat' (kd_addB; kd_p1)
    · -- a whole section
      rename Fr _ _ _ _ => F7
      rename News _ _ _ _ => N7
      rename _ ∧ _ => lt7
      obtain ⟨nx7, N8, D8⟩ := dinv_A F7 N7 (kp := kp) (tl := tl) (by k_mem) (by k_mem) (by k_mem) (by k_mem) (by k_mem) (by intro p9 hp9; repeat (first | exact hp9 | refine List.mem_cons_of_mem _ ?_)) hrows hlen' hgood (by assumption) (by assumption) (by assumption) ocr
        (fun p hp => Nat.ne_of_lt (allLt_mem (by simp only [lt7]) p hp)) (by omega) hkeep (by rfl) (by rfl) (by rfl)
      clear N7 lt7
      refine range_for (fun k => DInv c sc _ ((I, itR (((j + 1 : Nat) : Int)) _) :: kp) (7 * j + 2 + 2 * k)) rfl F7 N8 (by assumption) (by omega) D8 ?step2 ?done2
      case step2 =>
        rintro k m₂ nx2 I2 t2 h2 tk2 hid2 ⟨r2, rvs2, tags2, kr2, n2, i2, v2, a2, b2, tl2, mc2, mm2, mr2, rfl, hrows2, hlen2, hgood2, hi2, hv2, ocr2, hrc2, hkeep2⟩ hnI2 F₃ N₃
        clear F7 N8 D8
        have F₄ := fr_name (fr_name (fr_name F₃ "rows" (v := .ref r2) (by exact mr2)) "menu" (v := .ref _) (by exact mm2)) "c" (v := .ref c) (by exact mc2)
        clear F₃
        have hrl2 := hrows2.length
        have o3 : @Ne Nat c I2 := hnI2 _ (.head _)
        have o4 : @Ne Nat r2 I2 := hnI2 _ (.tail _ (.head _))
        dsimp only
        show wpAny _ _ _ _ _ _
        k_fold
        repeat' (kd_addB; kd_p1)
        rename Fr _ _ _ _ => F7
        rename News _ _ _ _ => N7
        rename _ ∧ _ => lt7
        rename Str => x7
        rename x7 ∈ (["LINE", "CIRCLE"] : List Str) => hx7
        obtain ⟨z1, z2, z3⟩ := two_more (tl := tl2) (t0 := (0, x7)) (t1 := (8, "0")) N7 (c := c) (by k_mem) (by k_mem) (by k_mem) (by k_mem) (by intro p9 hp9; repeat (first | exact hp9 | refine List.mem_cons_of_mem _ ?_)) hrows2 ocr2 (fun p hp => Nat.ne_of_lt (allLt_mem (by simp only [lt7]) p hp))
        exact unr_end F7 N7 (by k_mem) (by k_mem) (by k_mem) z3 z1 (by rw [List.length_append]; show tags2.length + 2 ≤ _; omega) (good_app hgood2 (pair_good hx7)) (by assumption) (by assumption) z2 (by omega) (fun p hp => .tail _ (.tail _ (hkeep2 p hp))) (fun p hp => hnI2 _ (.tail _ (.tail _ (hkeep2 p hp)))) (by rfl) (by rfl) (by rfl)
      case done2 =>
        rintro m₂ nx2 h2 tk2 ⟨r2, rvs2, tags2, kr2, n2, i2, v2, a2, b2, tl2, mc2, mm2, mr2, rfl, hrows2, hlen2, hgood2, hi2, hv2, ocr2, hrc2, hkeep2⟩ F₃ N₃
        clear F7 N8 D8
        have F₄ := fr_name (fr_name (fr_name F₃ "rows" (v := .ref r2) (by exact mr2)) "menu" (v := .ref _) (by exact mm2)) "c" (v := .ref c) (by exact mc2)
        clear F₃
        have hrl2 := hrows2.length
        dsimp only
        show wpAny _ _ _ _ _ _
        k_fold
        repeat' (kd_addB; kd_p1)
        rename Fr _ _ _ _ => F7
        rename News _ _ _ _ => N7
        simp only [List.push_toArray] at N7
        obtain ⟨z1, z2, z3⟩ := one_more (tl := tl2) (t0 := (0, "ENDSEC")) N7 (c := c) (r := r2) (by k_mem) (by k_mem) (by k_mem) (by intro p9 hp9; repeat (first | exact hp9 | refine List.mem_cons_of_mem _ ?_)) hrows2 ocr2
        exact unr_end F7 N7 (z3 _ (.tail _ (hkeep2 _ (.head _)))) (by k_mem) (by k_mem) z3 z1 (by rw [List.length_append]; show tags2.length + 1 ≤ _; omega) (good_app hgood2 endsec_good) (by assumption) (by assumption) z2 (by assumption) (fun p hp => .tail _ (hkeep2 p (.tail _ hp))) (fun p hp => hnI _ (.tail _ (.tail _ (hkeep p hp)))) (by rfl) (by rfl) (by rfl)
    · -- one tag of the menu
      rename Fr _ _ _ _ => F7
      rename News _ _ _ _ => N7
      rename mvs[_]? = some _ => hv7
      simp only [List.push_toArray] at N7
      obtain ⟨t7, ht7, hR7⟩ := hmv.get hv7
      exact unr_end F7 N7 (by k_mem) (by k_mem) (by k_mem) (tl := tl) (by intro p9 hp9; repeat (first | exact hp9 | refine List.mem_cons_of_mem _ ?_)) (hrows.append (.cons (hR7.mono hkeep) .nil)) (by rw [List.length_append]; show tags.length + 1 ≤ _; omega)
        (good_app hgood (by intro t ht; rw [List.mem_singleton.mp ht]; exact menu_good _ (List.mem_of_getElem? ht7))) (by assumption) (by assumption) ocr hrc hkeep (fun p hp => hnI _ (.tail _ (.tail _ (hkeep p hp)))) (by rfl) (by rfl) (by rfl)
  case done =>
    rintro m₂ nx2 h2 tk2 ⟨r2, rvs2, tags2, kr2, n2, i2, v2, a2, b2, tl2, mc2, mm2, mr2, rfl, hrows2, hlen2, hgood2, hi2, hv2, ocr2, hrc2, hkeep2⟩ F₃ N₃
    clear F9 N0 D0
    have F₄ := fr_name (fr_name (fr_name F₃ "rows" (v := .ref r2) (by exact mr2)) "menu" (v := .ref _) (by exact mm2)) "c" (v := .ref c) (by exact mc2)
    clear F₃
    have hrl2 := hrows2.length
    dsimp only
    show wpAny _ _ _ _ _ _
    try k_fold
    repeat' (kd_addB; kd_p1)
    · rename Fr _ _ _ _ => F7
      rename News _ _ _ _ => N7
      simp only [List.push_toArray] at N7
      obtain ⟨z1, z2, z3⟩ := one_more (tl := tl2) (t0 := (0, "EOF")) N7 (c := c) (r := r2) (by k_mem) (by k_mem) (by k_mem) (by intro p9 hp9; repeat (first | exact hp9 | refine List.mem_cons_of_mem _ ?_)) hrows2 ocr2
      exact h _ _ _ _ _ _ _ _ _ _ _ _ F7 (news_pick2 (c := c) (r := r2) N7 (by k_mem) (by k_mem) z3) z1 (by rw [List.length_append]; show tags2.length + 1 ≤ _; omega) (good_app hgood2 eof_good) (by assumption) (by assumption) z2 hrc2 (fun p hp => .tail _ (hkeep2 _ (hkp p hp)))
    · rename Fr _ _ _ _ => F7
      rename News _ _ _ _ => N7
      exact h _ _ _ _ _ _ _ _ _ _ _ _ F7 N7 hrows2 (by omega) hgood2 (by assumption) (by assumption) ocr2 hrc2 (fun p hp => hkeep2 _ (hkp p hp))
end
end Mine
namespace Mine
section
open PySem PySem.W PyProof.Rows PySem.Calls PySem.W.X
theorem rstP4 {M : Model} {A : Around} {env : Env} {Q : Flow → Shared → Prop} {E : Value → Shared → Prop} {s : Shared} (h : wpAny M A (execs [] env) Q E s) : wpAny M A (execs [] env) Q E s := by
  w_top off
  (try (walk1; fail))
  exact h
abbrev Keeps (h h' : Heap) : Prop := ∀ b o, h.get? b = some o → h'.get? b = some o
theorem fr_keep {g h h' : Heap} {L : Addr} {m : Str → Option Value} (F : Fr g L h m) (k : Keeps h h') : Fr g L h' m := ⟨F.ns.keeps k, fun b o e => k b o (F.keep b o e), F.above⟩
theorem news_keep {g h h' : Heap} {L : Addr} {l : List (Addr × Obj)} (N : News g L h l) (k : Keeps h h') : News g L h' l := fun p hp => ⟨k _ _ (N p hp).1, (N p hp).2⟩
theorem mem_keeps {h h' : Heap} {news : List (Addr × Obj)} (D : Mem h h' [] news) : Keeps h h' := fun b o e => D.keep b o e (by rw [show away [] b = true from rfl, Bool.or_true])
theorem mem_news {g h h' : Heap} {L : Addr} {m : Str → Option Value} {l news : List (Addr × Obj)} (F : Fr g L h m) (N : News g L h l) (D : Mem h h' [] news) : News g L h' (news ++ l) := fun p hp => by
  rcases List.mem_append.mp hp with hp | hp
  · obtain ⟨h1, h2⟩ := D.nw p hp
    refine ⟨h1, fun e => ?_, ?_⟩
    · obtain ⟨oL, _, _, hL, _⟩ := F.ns
      rw [e, hL] at h2
      cases h2
    · cases q : g.get? p.1 with
      | none => rfl
      | some o => rw [F.keep _ _ q] at h2; cases h2
  · exact news_keep N (mem_keeps D) p hp
theorem up_none {α : Type} {M : Model} {A A' : Around} {t : Sem α} {Q : α → Shared → Prop} {E : Value → Shared → Prop} {s : Shared} (h : wpAny M A' t Q E s)
    (hh : A.handled = A'.handled) (hd : A.depth ≤ A'.depth) (hf : A'.frames = none) (hg : A'.guards = none) (hu : A.units ≤ A'.units) : wpAny M A t Q E s := fun Γ p hΓ =>
  h Γ p ⟨hΓ.1.trans hh, Nat.le_trans hΓ.2.1 hd, fun l hl => (by rw [hf] at hl; cases hl), fun l hl => (by rw [hg] at hl; cases hl), Nat.le_trans hΓ.2.2.2.2 hu⟩
abbrev tagO (dx : Addr) (t : Tg) (a b : Tok) : Obj := ⟨.ref 149, some dx, .plain, #[some (.int t.1 a), some (.str t.2 b)]⟩
section
variable {prog : Program} {w : World} {A : Around} {s : Shared} {K : Frag} {h₀ : Heap} {L : Addr} {m : Str → Option Value}
theorem code_free {R : Result → Shared → Prop} {name qual : Str} {params : Arguments} {body : List Stmt} {scope : Scope} {dV kV doc pm cdv ct oc : Value} {an od : Option Addr} {osl : Array (Option Value)} {f : Addr} {args : Args} {binds : List (Str × Value)}
    (X : K.In s.heap) (hl : s.heap.NoLimit) (ho : K.lookup f = some ⟨oc, od, .func (fnOf name qual params body scope dV kV doc pm an cdv ct), osl⟩) (hcd : codeIn K cdv qual = true) (hroom : A.depth < recursionLimit)
    (hbind : BindsTo s (fnOf name qual params body scope dV kV doc pm an cdv ct) args binds) (hloc : ∀ y ∈ binds, scope.names.lookup y.1 = some .local)
    (h : ∀ Lz h₁, Fr s.heap Lz h₁ (fun x => binds.reverse.lookup x) →
      wpAny (model prog w) (A.deeper (envOf qual scope Lz f cdv)) (execs body (envOf qual scope Lz f cdv)) (fun fl s' => R (.ok (.ret (match fl with | .ret v => v | _ => .none))) s') (fun _ _ => False) { s with heap := h₁, toks := s.toks + binds.length })
    (hco : scope.isCoroutine = false) (hgen : scope.isGenerator = false) (hk : scope.kind = .function) (hcell : ∀ x ∈ scope.names, x.2 ≠ .cell) : codeAny (model prog w) A (.call (.ref f) args) R s :=
  codeAny_call_def (fd := fnOf name qual params body scope dV kV doc pm an cdv ct) hroom (X _ _ ho) rfl hl (codeRec_of X hcd) rfl hbind hcell hloc
    (fun h₁ hns hk₁ => wpAny_mono (h s.heap.objs.size h₁ ⟨hns, hk₁, Nat.le_refl _⟩) (fun _ _ x => x) fun _ _ x => x.elim) hco hgen hk
theorem get_propS {expr : Bool} {E : Value → Shared → Prop} {Q : Value → Shared → Prop} {x p fget C : Addr} {ox od : Obj} {name : Str} {rest : List Value} (F : Fr h₀ L s.heap m) (X₀ : K.In h₀) (I : InstAt s.heap x ox C (some od)) (hg : plainGet K C name = true) (hh : isClsIn K C = true)
    (ha : findIn K (.ref C) name = some (some (.ref p))) (hn : specialIn K (.ref p) "__get__" = some (some (.builtin "property.__get__"))) (ht : takesIn K (.ref p) = some true) (hp : recIn K p "property" = some (.ref fget :: rest))
    (h : codeAny (model prog w) A.in1 (.call (.ref fget) ⟨[.ref x], []⟩) (fun r s' => match r with | .ok (.ret v) => wpAny (model prog w) A (handedOut v) Q E s' | .ok _ => False | .error e => wpAny (model prog w) A (noteIf true (.ref x) (.str name s.toks) e) (fun _ s'' => E e s'') E s') { s with toks := s.toks + 1 }) :
    wpAny (model prog w) A (getAttr (.ref x) name expr) Q E s :=
  get_bind (X₀.keeps F.keep) I (plainGet_of hg).1 (findObj_data hh ha hn ht) (plainGet_of hg).2 (wpAny_call (prop_get (s := { s with toks := s.toks + 1 }) (X₀.keeps F.keep) hp h))
end
local macro_rules | `(tactic| kd_p1) => `(tactic| (first | (k_unfold; (try dsimp only)) | (k_end; wrow_close) | walk1 | (dsimp only; walk1) | (leave1; walk_say "STEP leave1"; try dsimp only) | fail "no step"))
local macro_rules | `(tactic| k_room) => `(tactic| (show (_ : Nat) < 1000; (try simp only [depth_under_make, depth_under_kw, depth_in1, depth_deeper, depth_caller]); omega))
set_option maxHeartbeats 4000000 in
theorem tag_code {w : World} {A : Around} {h₀ : Heap} {L : Addr} {m : Str → Option Value} {s : Shared} {E : Value → Shared → Prop} {Q : Value → Shared → Prop} {ex : Bool}
    {t : Tg} {a b : Tok} {x dx : Addr} {od : Obj} (X : (hd.heap_39 w.params).In h₀) (T : h₀.NoLimit) (F : Fr h₀ L s.heap m) (hA : A.depth ≤ 450)
    (h1 : s.heap.get? x = some (tagO dx t a b)) (h2 : s.heap.get? dx = some od)
    (h : ∀ h' tk, Keeps s.heap h' → Q (.int t.1 a) { s with heap := h', toks := tk }) :
    wpAny (model PySem.Challenge.rw_fy0012_01.row.prog w) A (getAttr (.ref x) (PySem.Str.ofString "code") ex) Q E s := by
  have I : InstAt s.heap x (tagO dx t a b) 149 (some od) := ⟨h1, rfl, rfl, h2⟩
  (refine' get_propS F X I ?k4 ?k5 ?k6 ?k7 ?k8 ?k9 ?_; (case k4 => k_is); (case k5 => k_is); (case k6 => k_is); (case k7 => k_is); (case k8 => k_is); (case k9 => k_is))
  (refine' code_free (X.keeps F.keep) (T.keeps F.keep) ?k6 ?k7 ?k8 ?k9 ?kB ?_ ?c2 ?c3 ?c4 ?c5; (case k6 => k_is); (case k7 => k_is); (case k8 => k_room); (case k9 => exact BindsTo.of_eq rfl); (case kB => exact locs rfl); (case c2 => exact rfl); (case c3 => exact rfl); (case c4 => exact rfl); (case c5 => decide))
  intro Lz h₁ F₁
  have I₁ : InstAt h₁ x (tagO dx t a b) 149 (some od) := ⟨F₁.keep _ _ h1, rfl, rfl, F₁.keep _ _ h2⟩
  dsimp only
  repeat' kd_p1
  (refine' get_slot F₁ (X.keeps F.keep) I₁ ?k4 ?k5 ?k6 ?k7 ?k8 ?k9 ?k10 ?k11 ?_; (case k4 => k_is); (case k5 => k_is); (case k6 => k_is); (case k7 => k_is); (case k8 => k_is); (case k9 => k_is); (case k10 => exact rfl); (case k11 => k_handed))
  exact handed_on rfl (h _ _ F₁.keep)
set_option maxHeartbeats 4000000 in
theorem tag_value {w : World} {A : Around} {h₀ : Heap} {L : Addr} {m : Str → Option Value} {s : Shared} {E : Value → Shared → Prop} {Q : Value → Shared → Prop} {ex : Bool}
    {t : Tg} {a b : Tok} {x dx : Addr} {od : Obj} (X : (hd.heap_39 w.params).In h₀) (T : h₀.NoLimit) (F : Fr h₀ L s.heap m) (hA : A.depth ≤ 450)
    (h1 : s.heap.get? x = some (tagO dx t a b)) (h2 : s.heap.get? dx = some od)
    (h : ∀ h' tk, Keeps s.heap h' → Q (.str t.2 b) { s with heap := h', toks := tk }) :
    wpAny (model PySem.Challenge.rw_fy0012_01.row.prog w) A (getAttr (.ref x) (PySem.Str.ofString "value") ex) Q E s := by
  have I : InstAt s.heap x (tagO dx t a b) 149 (some od) := ⟨h1, rfl, rfl, h2⟩
  (refine' get_propS F X I ?k4 ?k5 ?k6 ?k7 ?k8 ?k9 ?_; (case k4 => k_is); (case k5 => k_is); (case k6 => k_is); (case k7 => k_is); (case k8 => k_is); (case k9 => k_is))
  (refine' code_free (X.keeps F.keep) (T.keeps F.keep) ?k6 ?k7 ?k8 ?k9 ?kB ?_ ?c2 ?c3 ?c4 ?c5; (case k6 => k_is); (case k7 => k_is); (case k8 => k_room); (case k9 => exact BindsTo.of_eq rfl); (case kB => exact locs rfl); (case c2 => exact rfl); (case c3 => exact rfl); (case c4 => exact rfl); (case c5 => decide))
  intro Lz h₁ F₁
  have I₁ : InstAt h₁ x (tagO dx t a b) 149 (some od) := ⟨F₁.keep _ _ h1, rfl, rfl, F₁.keep _ _ h2⟩
  dsimp only
  repeat' kd_p1
  (refine' get_slot F₁ (X.keeps F.keep) I₁ ?k4 ?k5 ?k6 ?k7 ?k8 ?k9 ?k10 ?k11 ?_; (case k4 => k_is); (case k5 => k_is); (case k6 => k_is); (case k7 => k_is); (case k8 => k_is); (case k9 => k_is); (case k10 => exact rfl); (case k11 => k_handed))
  exact handed_on rfl (h _ _ F₁.keep)
theorem mem_eq {h h' : Heap} {c n n' : List (Addr × Obj)} (D : Mem h h' c n) (e : n = n') : Mem h h' c n' := e ▸ D
abbrev AX : Around := Around.mk none 500 none none 500
local macro_rules | `(tactic| x_close) => `(tactic| first
  | (with_reducible rename ∀ (_ _ _ : Addr) (_ : Obj) (_ : Heap) (_ : Nat), Mem _ _ _ _ → _ => hq9; refine hq9 _ _ _ _ _ _ (mem_eq (by assumption) (by first | rfl | with_unfolding_all rfl | kernel_rfl)))
  | (with_reducible rename ∀ (_ _ : Addr) (_ : Nat) (_ : Heap) (_ : Nat), Mem _ _ _ _ → _ => hq9; exact hq9 _ _ _ _ _ (by assumption)))
set_option maxHeartbeats 8000000 in
theorem mk_tag0 {w : World} {h₀ : Heap} {g : Array GenState} {d : Drawn} {k : Nat} {os : OsState} (X : (hd.heap_39 w.params).In h₀) {Q E : Value → Shared → Prop} {t : Tg} {a b : Tok}
    (h : ∀ (x dx fr : Addr) (o : Obj) (h' : Heap) (tk : Nat), Mem h₀ h' [] [(fr, o), (x, tagO dx t a b), (dx, dictOf [] 0)] → Q (.ref x) ⟨h', g, d, tk, os⟩) :
    wpAny (model PySem.Challenge.rw_fy0012_01.row.prog w) AX (call (.ref 149) [.int t.1 a, .str t.2 b]) Q E ⟨h₀, g, d, k, os⟩ := by
  obtain ⟨c, x⟩ := t
  dsimp only at h ⊢
  x_run
abbrev tagsO (dg : Addr) (vs : List Value) (n : Nat) : Obj := ⟨.ref 327, some dg, .seq vs.toArray n, #[]⟩
set_option maxHeartbeats 8000000 in
theorem mk_tags0 {w : World} {h₀ : Heap} {g : Array GenState} {d : Drawn} {k : Nat} {os : OsState} (X : (hd.heap_39 w.params).In h₀) {Q E : Value → Shared → Prop} {l v : Addr} (hl : h₀.get? l = some ⟨.type "list", none, .seq #[.ref v] 0, #[]⟩)
    (h : ∀ (x dx : Addr) (n : Nat) (h' : Heap) (tk : Nat), Mem h₀ h' [] [(x, tagsO dx [.ref v] n), (dx, dictOf [] 0)] → Q (.ref x) ⟨h', g, d, tk, os⟩) :
    wpAny (model PySem.Challenge.rw_fy0012_01.row.prog w) AX (call (.ref 327) [.ref l]) Q E ⟨h₀, g, d, k, os⟩ := by
  x_run
theorem mk_tag {w : World} {A : Around} {g : Heap} {L : Addr} {m : Str → Option Value} {news : List (Addr × Obj)} {s : Shared} {E : Value → Shared → Prop} {Q : Value → Shared → Prop} {t : Tg} {a b : Tok}
    (X : (hd.heap_39 w.params).In g) (F : Fr g L s.heap m) (N : News g L s.heap news) (hh : A.handled = none) (hA : A.depth ≤ 500) (hu : A.units ≤ 500)
    (h : ∀ (x dx fr : Addr) (o : Obj) (h' : Heap) (tk : Nat), Fr g L h' m → News g L h' ((fr, o) :: (x, tagO dx t a b) :: (dx, dictOf [] 0) :: news) → OwnOff news [fr, x, dx] → Q (.ref x) { s with heap := h', toks := tk }) :
    wpAny (model PySem.Challenge.rw_fy0012_01.row.prog w) A (call (.ref 149) [.int t.1 a, .str t.2 b]) Q E s := by
  refine up_none (A' := AX) (mk_tag0 (X.keeps F.keep) fun x dx fr o h' tk D => h x dx fr o h' tk (fr_keep F (mem_keeps D)) (mem_news F N D) (fun p hp b hb e => ?_)) hh hA rfl rfl hu
  have h1 := (N p hp).1
  have h2 : s.heap.get? b = none := by
    rcases List.mem_cons.mp hb with rfl | hb
    · exact (D.nw _ (.head _)).2
    · rcases List.mem_cons.mp hb with rfl | hb
      · exact (D.nw _ (.tail _ (.head _))).2
      · rw [List.mem_singleton.mp hb]; exact (D.nw _ (.tail _ (.tail _ (.head _)))).2
  rw [← e] at h2
  exact absurd (h1.symm.trans h2) (by simp)
theorem mk_tags {w : World} {A : Around} {g : Heap} {L : Addr} {m : Str → Option Value} {news : List (Addr × Obj)} {s : Shared} {E : Value → Shared → Prop} {Q : Value → Shared → Prop} {l v : Addr}
    (X : (hd.heap_39 w.params).In g) (F : Fr g L s.heap m) (N : News g L s.heap news) (hl : s.heap.get? l = some ⟨.type "list", none, .seq #[.ref v] 0, #[]⟩) (hh : A.handled = none) (hA : A.depth ≤ 500) (hu : A.units ≤ 500)
    (h : ∀ (x dx : Addr) (n : Nat) (h' : Heap) (tk : Nat), Fr g L h' m → News g L h' ((x, tagsO dx [.ref v] n) :: (dx, dictOf [] 0) :: news) → OwnOff news [x, dx] → @Ne Nat dx x → Q (.ref x) { s with heap := h', toks := tk }) :
    wpAny (model PySem.Challenge.rw_fy0012_01.row.prog w) A (call (.ref 327) [.ref l]) Q E s := by
  refine up_none (A' := AX) (mk_tags0 (X.keeps F.keep) hl fun x dx n h' tk D => h x dx n h' tk (fr_keep F (mem_keeps D)) (mem_news F N D) (fun p hp b hb e => ?_) (Nat.ne_of_lt ?_)) hh hA rfl rfl hu
  · have h1 := (N p hp).1
    have h2 : s.heap.get? b = none := by
      rcases List.mem_cons.mp hb with rfl | hb
      · exact (D.nw _ (.head _)).2
      · rw [List.mem_singleton.mp hb]; exact (D.nw _ (.tail _ (.head _))).2
    rw [← e] at h2
    exact absurd (h1.symm.trans h2) (by simp)
  · have := D.ord
    simp only [List.map_cons, List.map_nil, List.pairwise_cons] at this
    exact this.1 _ (.head _)
end
end Mine
namespace Mine
section
open PySem PySem.W PyProof.Rows PySem.Calls
theorem rstP5 {M : Model} {A : Around} {env : Env} {Q : Flow → Shared → Prop} {E : Value → Shared → Prop} {s : Shared} (h : wpAny M A (execs [] env) Q E s) : wpAny M A (execs [] env) Q E s := by
  w_top off
  (try (walk1; fail))
  exact h
section
variable {M : Model} {A : Around} {R : GenEnd} {Y : Protocol} {n : Nat} {s₀ : Shared} {c : Code} {fs : List Frame} {s : Shared} {env : Env}
  {K : Flow → Sem Fin} {H : Value → Sem Fin} {gd : Bool → Bool} {lv : List Value → List Value}
abbrev NoE : Value → Shared → Prop := fun _ _ => False
/-- the context in which every piece of the generator's body is walked -/
abbrev AG : Around := Around.mk none 440 none none 440
theorem seg_plain {st : Stmt} (hA : ∀ {Q : Flow → Shared → Prop}, wpAny M AG (exec st env) Q NoE s → wpAny M (A.over c fs) (exec st env) Q NoE s)
    (h : wpAny M AG (exec st env) (fun f s' => Seg M A R Y n s₀ c (K f) fs s') NoE s) : Seg M A R Y n s₀ c ((exec st env).wrap K H gd lv) fs s :=
  seg_wrap (wpAny_mono (hA h) (fun _ _ x => x) fun _ _ x => x.elim)
theorem seg_If {test : Expr} {body orelse : List Stmt} {pos : Pos} (hA : ∀ {Q : Bool → Shared → Prop} {s : Shared}, wpAny M AG (isTrue test env (eval test env)) Q NoE s → wpAny M (A.over c fs) (isTrue test env (eval test env)) Q NoE s)
    (h : wpAny M AG (isTrue test env (eval test env)) (fun b s' => Seg M A R Y n s₀ c ((execs (if b then body else orelse) env).wrap K H gd lv) fs s') NoE s) :
    Seg M A R Y n s₀ c ((exec (.If test body orelse pos) env).wrap K H gd lv) fs s := by
  show Seg M A R Y n s₀ c (.at pos fun _ => ((isTrue test env (eval test env)) >>= fun b => if b then execs body env else execs orelse env).wrap K H gd lv) fs s
  refine seg_at ?_
  rw [Sem.bind_eq_wrap', Sem.wrap_wrap]
  refine seg_wrap (wpAny_mono (hA h) (fun b s' h' => ?_) fun _ _ x => x.elim)
  cases b <;> exact h'
theorem seg_For {target iter : Expr} {body orelse : List Stmt} {pos : Pos}
    (hA : ∀ {α : Type} {t : Sem α} {Q : α → Shared → Prop} {s : Shared}, wpAny M AG t Q NoE s → wpAny M (A.over c fs) t Q NoE s)
    (hs : ∀ x, foldedSetIterable iter env x = pure x)
    (h : wpAny M AG (eval iter env) (fun x s₁ => wpAny M AG (pyIter x) (fun it s₂ => ∀ p, Seg M A R Y n s₀ (.forLoop target it body orelse env) (M.den (.forLoop target it body orelse env))
      (.ret (fun r => ((match r with | .ok f => (.pure f : Sem Flow) | .error e => .raise e).onRaise fun (x : Value) => do
        if (← field x 1) == Value.none then unsupported "frame.own-activation:exception-without-traceback"
        setFlight x env.frame).wrap K H gd lv) none (gd false) (lv []) c p [] :: fs) s₂) NoE s₁) NoE s) :
    Seg M A R Y n s₀ c ((exec (.For target iter body orelse pos) env).wrap K H gd lv) fs s := by
  rw [exec_For]
  show Seg M A R Y n s₀ c (.at pos fun _ => (eval iter env >>= fun x => foldedSetIterable iter env x >>= fun x => standAt iter.pos >>= fun _ => holding [x] (pyIter x) >>= fun it => runOwn (.forLoop target it body orelse env) env).wrap K H gd lv) fs s
  refine seg_at ?_
  rw [Sem.bind_eq_wrap', Sem.wrap_wrap]
  refine seg_wrap (wpAny_mono (hA h) (fun x s₁ h₁ => ?_) fun _ _ x => x.elim)
  rw [hs x]
  show Seg M A R Y n s₀ c (.at iter.pos fun _ => (holding [x] (pyIter x) >>= fun it => runOwn (.forLoop target it body orelse env) env).wrap K H gd lv) fs s₁
  refine seg_at ?_
  rw [Sem.bind_eq_wrap', Sem.wrap_wrap]
  refine seg_wrap (wpAny_holding (wpAny_mono (hA h₁) (fun it s₂ h₂ => ?_) fun _ _ x => x.elim))
  exact seg_call h₂
end
section
variable {prog : Program} {w : World} {A : Around} {R : GenEnd} {Y : Protocol} {n : Nat} {s₀ : Shared} {fs : List Frame} {s : Shared} {env : Env}
theorem seg_turn {target : Expr} {it : Value} {body : List Stmt}
    (hA : ∀ {α : Type} {t : Sem α} {Q : α → Shared → Prop} {s : Shared}, wpAny (model prog w) AG t Q NoE s → wpAny (model prog w) (A.over (.forLoop target it body [] env) fs) t Q NoE s)
    (ht : ∀ v, letOwnedTupleGo target it v = pure ())
    (h : wpAny (model prog w) AG (pyNext it) (fun r s' => match r with
      | none => Seg (model prog w) A R Y n s₀ (.block [] env) (leafOf (.ok .next)) fs s'
      | some v => wpAny (model prog w) AG (assign target env v) (fun _ s'' => Seg (model prog w) A R Y n s₀ (.forLoop target it body [] env) ((execs body env).wrap (fun f => match f with
            | .next | .cont => .pure (.again (.forLoop target it body [] env))
            | .brk => .pure (.done .next)
            | .ret v => .pure (.done (.ret v))) (fun e => (do noteFrame e env; theTreesLotGoes e : Sem Unit).wrap (fun _ => .raise e) .raise id id) id id) fs s'') NoE s') NoE s) :
    Seg (model prog w) A R Y n s₀ (.forLoop target it body [] env) ((model prog w).den (.forLoop target it body [] env)) fs s := by
  show Seg _ A R Y n s₀ _ ((forTurn target it body [] env).onRaise (fun x => do noteFrame x env; theTreesLotGoes x)) fs s
  unfold forTurn
  rw [Sem.onRaise_eq_wrap]
  show Seg _ A R Y n s₀ _ (.at target.pos fun _ => (((pyNext it).onRaise (fun _ => standAt { target.pos with line := 0 })) >>= _).wrap _ _ id id) fs s
  refine seg_at ?_
  rw [Sem.bind_eq_wrap', Sem.wrap_wrap, Sem.onRaise_eq_wrap, Sem.wrap_wrap]
  refine seg_wrap (wpAny_mono (hA h) (fun r s' h' => ?_) fun _ _ x => x.elim)
  cases r with
  | none =>
    refine seg_again rfl ?_
    exact h'
  | some v =>
    dsimp only at h'
    show Seg _ A R Y n s₀ _ ((letOwnedTupleGo target it v >>= fun _ => assign target env v >>= _).wrap _ _ id id) fs s'
    rw [ht v]
    show Seg _ A R Y n s₀ _ ((assign target env v >>= _).wrap _ _ id id) fs s'
    rw [Sem.bind_eq_wrap', Sem.wrap_wrap]
    refine seg_wrap (wpAny_mono (hA h') (fun _ s'' h'' => ?_) fun _ _ x => x.elim)
    rw [Sem.bind_eq_wrap', Sem.wrap_wrap]
    rw [Sem.wrap_congr (execs body env) _ _ (K' := fun f => match f with
            | .next | .cont => .pure (.again (.forLoop target it body [] env))
            | .brk => .pure (.done .next)
            | .ret v => .pure (.done (.ret v))) (H' := (fun e => (do noteFrame e env; theTreesLotGoes e : Sem Unit).wrap (fun _ => .raise e) .raise id id))
        (fun f => by cases f <;> rfl)
        (fun e => by first | exact Sem.bind_eq_wrap _ _ | rfl)]
    exact h''
end
end
end Mine
namespace Mine
section
open PySem PySem.W PyProof.Rows PySem.Calls PySem.W.X
theorem rstP6 {M : Model} {A : Around} {env : Env} {Q : Flow → Shared → Prop} {E : Value → Shared → Prop} {s : Shared} (h : wpAny M A (execs [] env) Q E s) : wpAny M A (execs [] env) Q E s := by
  w_top off
  (try (walk1; fail))
  exact h
section
variable {prog : Program} {w : World} {A : Around} {s : Shared} {K : Frag} {h₀ : Heap} {L : Addr} {m : Str → Option Value} {E : Value → Shared → Prop}
theorem check_sub {x C : Addr} {ox : Obj} {od : Option Obj} {id owner n : String} {rest : List Value} {kw : List (Str × Value)} {Q : Unit → Shared → Prop} (X : K.In s.heap) (I : InstAt s.heap x ox C od)
    (hm : mroIn K C (.type owner) = some true) (hsplit : splitId id = some (owner, n))
    (hkind : (Manifest.find? owner).bind (·.attrs.lookup n) = some .slot ∨ (Manifest.find? owner).bind (·.attrs.lookup n) = some .method)
    (ha : argsOk id ⟨.ref x :: rest, kw⟩) (hQ : Q () s) : wpAny (model prog w) A (checkBuiltinCall id ⟨.ref x :: rest, kw⟩) Q E s := by
  have hk : builtinKind id = (Manifest.find? owner).bind (·.attrs.lookup n) := by simp only [builtinKind, hsplit]
  have S : Looks (model prog w) s.heap (isInstance (.ref x) (.type owner)) true := I.type.andThen (looks_mroIn X hm)
  rcases hkind with h | h <;>
  · simp only [checkBuiltinCall, hk, h, hsplit]
    refine wpAny_bind (S.here ?_)
    simp only [Bool.not_true, Bool.false_eq_true, if_false]
    cases hsig : Manifest.signature? id with
    | none => exact wpAny_pure hQ
    | some sig =>
      simp only [argsOk, hsig] at ha
      have h2 : Bind.checkArgs id sig ⟨.ref x :: rest, kw⟩ = pure () := ha
      show wpAny _ A (Bind.checkArgs id sig ⟨.ref x :: rest, kw⟩) Q E s
      rw [h2]; exact wpAny_pure hQ
theorem code_sub {x C : Addr} {ox : Obj} {od : Option Obj} {id owner n : String} {b : Builtin} {rest : List Value} {R : Result → Shared → Prop} (X : K.In s.heap) (I : InstAt s.heap x ox C od)
    (hm : mroIn K C (.type owner) = some true) (hsplit : splitId id = some (owner, n))
    (hkind : (Manifest.find? owner).bind (·.attrs.lookup n) = some .slot ∨ (Manifest.find? owner).bind (·.attrs.lookup n) = some .method)
    (ha : argsOk id ⟨.ref x :: rest, []⟩) (hq : plainId id = true) (hb : entryFor table id = some b)
    (hc : wpAny (model prog w) A.in1 (b ⟨.ref x :: rest, []⟩) (fun fin s' => ∃ v, fin = .done (.ret v) ∧ R (.ok (.ret v)) s') (fun e s' => R (.error e) s') s) :
    codeAny (model prog w) A (.call (.builtin id) ⟨.ref x :: rest, []⟩) R s := by
  refine codeAny_call_builtin hq hb (check_sub X I hm hsplit hkind ha (wpAny_mono hc (fun fin s' h' => ?_) fun _ _ h' => h'))
  obtain ⟨v, rfl, hv⟩ := h'; exact hv
theorem bm_call {b : Addr} {id : String} {bi : Builtin} {self : Value} {pos : List Value} {R : Result → Shared → Prop} (ho : s.heap.get? b = some ⟨.type "builtin_function_or_method", none, .fields #[.builtin id, self], #[]⟩)
    (hck : Looks (model prog w) s.heap (checkBoundCall id ⟨self :: pos, []⟩) ()) (hb : entryFor table id = some bi) (hq : plainId id = true)
    (hc : wpAny (model prog w) A.in1 (bi ⟨self :: pos, []⟩) (fun fin s' => ∃ v, fin = .done (.ret v) ∧ R (.ok (.ret v)) s') (fun e s' => R (.error e) s') s) : codeAny (model prog w) A (.call (.ref b) ⟨pos, []⟩) R s := by
  refine codeAny_of_tree ?_
  obtain ⟨hh, g, dr, t, os⟩ := s
  show wpAny _ _ (callAny (.ref b) _) _ _ _
  dsimp only at ho
  refine nd_load ho ?_
  refine wpAny_bind (wpAny_pure ?_)
  show wpAny _ _ (do checkBoundCall id ⟨self :: pos, []⟩; again (.builtin id ⟨self :: pos, []⟩)) _ _ _
  refine wpAny_bind (hck.at (wpAny_pure (And.intro (plainId_quiet hq _) (codeAny_builtin hb ?_))))
  rw [Around.under_plainId hq]
  refine wpAny_mono hc (fun fin s' h' => ?_) fun _ _ h' => h'
  obtain ⟨v, rfl, hv⟩ := h'
  exact hv
theorem looks_bound {x C : Addr} {ox : Obj} {od : Option Obj} {v : Value} {vs : Array Value} {n : Nat} {h : Heap} (X : K.In h) (I : InstAt h x ox C od) (hd : ox.data = .seq vs n) (hm : mroIn K C (.type "module") = some false) (hc : (clsIn K C).map (·.qualname) = some (PySem.Str.ofString "Tags"))
    (ht : typeIn K (.ref C) = some (.type "type")) : Looks (model prog w) h (checkBoundCall "list.append" ⟨[.ref x, v], []⟩) () := by
  obtain ⟨cd, hc, hqn⟩ := Option.map_eq_some_iff.mp hc
  obtain ⟨sig, hs⟩ := Option.isSome_iff_exists.mp (show (Manifest.signature? "list.append").isSome = true by decide +kernel)
  have hk : builtinKind "list.append" = some .method := by decide +kernel
  have hv : Manifest.varargsMethods.contains "list.append" = false := by decide +kernel
  have ha : ∀ a b, (match Manifest.signature? "list.append" with | some sig => Bind.checkArgs "list.append" { sig with full := s!"{(PySem.Str.ofString "Tags").toString}.{Bind.lastOf "list.append"}" } ⟨[a, b], []⟩ | none => pure ()) = pure () := by intro a b; kernel_rfl
  simp only [hs] at ha
  unfold checkBoundCall
  simp only [hs, hk, hv, Bool.false_or]
  have S : Looks (model prog w) h (isInstance (.ref x) (.type "module")) false := I.type.andThen (looks_mroIn X hm)
  have Ty : Looks (model prog w) h (PySem.isType (.ref x)) false := by
    refine (Looks.ld I.at_).andThen ?_
    rw [hd]; exact .now
  have Tc : Looks (model prog w) h (typeOf (.ref C)) (.type "type") := looks_typeIn X ht
  refine (show Looks (model prog w) h _ () from S.andThen ?_)
  simp only [Bool.false_eq_true, if_false]
  refine Ty.andThen ?_
  simp only [Bool.false_eq_true, if_false]
  refine I.type.andThen ?_
  refine (looks_clsIn X hc).andThen ?_
  refine Tc.andThen ?_
  simp only [beq_self_eq_true, if_true]
  rw [hqn]
  exact Looks.of_pure (ha _ _)
end
abbrev bmO (G : Addr) : Obj := ⟨.type "builtin_function_or_method", none, .fields #[.builtin "list.append", .ref G], #[]⟩
theorem tags_append {w : World} {A : Around} {g : Heap} {L : Addr} {m : Str → Option Value} {news : List (Addr × Obj)} {s : Shared} {E : Value → Shared → Prop} {Q : Value → Shared → Prop} {G dg b v : Addr} {od : Obj} {its : List Value} {n : Nat} {f : Obj → List (Addr × Obj)}
    (X : (hd.heap_39 w.params).In g) (F : Fr g L s.heap m) (N : News g L s.heap news) (hb : (b, bmO G) ∈ news) (hG : (G, tagsO dg its n) ∈ news) (h2 : (dg, od) ∈ news) (U : UpdF G (tagsO dg its n) news f) (hsz : its.length ≤ 1000)
    (h : ∀ (n' : Nat) (h' : Heap), Fr g L h' m → News g L h' (f (tagsO dg (its ++ [.ref v]) n')) → Q .none { s with heap := h' }) :
    wpAny (model PySem.Challenge.rw_fy0012_01.row.prog w) A (call (.ref b) [.ref v]) Q E s := by
  have hG' := N _ hG
  have I : InstAt s.heap G (tagsO dg its n) 327 (some od) := ⟨hG'.1, rfl, rfl, (N _ h2).1⟩
  refine wpAny_call (bm_call (N _ hb).1 (looks_bound (X.keeps F.keep) I rfl ?k1 ?k2 ?k3) entry_list_append ?k5 ?_)
  case k1 => k_is
  case k2 => kernel_rfl
  case k3 => k_is
  case k5 => decide +kernel
  show wpAny _ _ (updateSeq G (·.push (.ref v)) >>= fun _ => ret .none) _ _ s
  refine wpAny_bind ?_
  have hd' : (tagsO dg its n).data = .seq its.toArray n := rfl
  have hz : its.toArray.size ≤ 1000 := by rw [List.size_toArray]; exact hsz
  have e16 : sizeLine = 16777216 := rfl
  refine wpAny_updateSeq hG'.1 hd' (wpAny_pure ⟨.none, rfl, ?_⟩) (by omega) (by rw [Array.size_push]; omega)
  obtain ⟨pre, post, rfl, hf, p1, p2⟩ := U.split
  obtain ⟨n', hd2⟩ := Obj.data_mapSeq hd' (·.push (.ref v))
  have ho' : (s.heap.update G (Obj.mapSeq fun x => x.push (.ref v))).get? G = some (tagsO dg (its ++ [.ref v]) n') := by
    rw [Heap.get?_update_self _ hG'.1 (Obj.isFreed_of_seq hd2)]
    have : (tagsO dg its n).mapSeq (fun x => x.push (.ref v)) = ⟨.ref 327, some dg, ((tagsO dg its n).mapSeq (fun x => x.push (.ref v))).data, #[]⟩ := rfl
    rw [this, hd2]
    show some _ = some _
    rw [List.push_toArray]
  refine h n' _ (F.change (Heap.SameBut.update ..) hG'.2.1 hG'.2.2) ?_
  rw [hf]
  exact news_set N p1 p2 (Heap.SameBut.update ..) ho'
section
variable {prog : Program} {w : World} {A : Around} {E : Value → Shared → Prop} {s : Shared} {K : Frag} {x C : Addr} {ox : Obj} {od : Option Obj} {name : Str} {expr : Bool} {Q : Value → Shared → Prop}
/-- an attribute of an object whose class derives from list -/
theorem get_list {P : Value → Shared → Prop} (X : K.In s.heap) (I : InstAt s.heap x ox C od) (hga : findIn K (.ref C) "__getattribute__" = some (some (.builtin "list.__getattribute__"))) (hk : findIn K (.ref C) "__getattr__" = some none)
    (h : wpAny (model prog w) A (call (.builtin "list.__getattribute__") [.ref x, .str name s.toks]) P (fun _ _ => False) { s with toks := s.toks + 1 }) (hP : ∀ v s', P v s' → handedIn v = true ∧ Q v s') :
    wpAny (model prog w) A (getAttr (.ref x) name expr) Q E s := by
  obtain ⟨hh, gg, d, t, os⟩ := s
  have L0 := I.type (M := model prog w)
  have L1 := looks_findIn (M := model prog w) X hga
  have L3 := looks_findIn (M := model prog w) X hk
  unfold getAttr getAttrBy
  refine wpAny_bind (wpAny_mkText (wpAny_holding (wpAny_bind (L0.at (wpAny_bind (L1.at ?_))))))
  show wpAny _ _ (getAttrByItsOwn (.ref x) (.str name t) (.ref C) (.builtin "list.__getattribute__") true expr) _ _ _
  unfold getAttrByItsOwn hookBefore callGetattribute boundAndCalled
  refine wpAny_bind (show wpAny _ _ (typeLookup (.ref C) "__getattr__") _ _ _ from L3.at ?_)
  refine wpAny_bind (wpAny_attempt (wpAny_holding ?_))
  have e1 : (expr && onTheHeap (.builtin "list.__getattribute__")) = false := by cases expr <;> rfl
  rw [e1, if_neg Bool.false_ne_true]
  refine wpAny_bind (wpAny_of_eq (F.slot_list_getattribute.bind (.ref x)) ?_)
  refine wpAny_mono h (fun v s' hv => ?_) fun _ _ z => z.elim
  obtain ⟨h1, h2⟩ := hP v s' hv
  exact handed_on h1 h2
end
local macro_rules | `(tactic| x_close) => `(tactic| 
   (with_reducible rename ∀ (_ : Addr) (_ : Heap) (_ : Nat), Mem _ _ _ _ → _ => hq9; refine hq9 _ _ _ (mem_eq (by assumption) (by kernel_rfl))))
set_option maxHeartbeats 8000000 in
theorem mk_bm0 {w : World} {h₀ : Heap} {g : Array GenState} {d : Drawn} {t k : Nat} {os : OsState} (X : (hd.heap_39 w.params).In h₀) {Q E : Value → Shared → Prop} {G dg : Addr} {its : List Value} {n : Nat}
   (h1 : h₀.get? G = some ⟨.ref 327, some dg, .seq its.toArray n, #[]⟩) (h2 : h₀.get? dg = some ⟨.type "dict", none, .dict #[] 0, #[]⟩)
   (h : ∀ (b : Addr) (h' : Heap) (tk : Nat), Mem h₀ h' [] [(b, bmO G)] → Q (.ref b) ⟨h', g, d, tk, os⟩) :
    wpAny (model PySem.Challenge.rw_fy0012_01.row.prog w) AX (call (.builtin "list.__getattribute__") [.ref G, .str (PySem.Str.ofString "append") k]) Q E ⟨h₀, g, d, t, os⟩ := by
  x_run
theorem mk_bm {w : World} {A : Around} {g : Heap} {L : Addr} {m : Str → Option Value} {news : List (Addr × Obj)} {s : Shared} {E : Value → Shared → Prop} {Q : Value → Shared → Prop} {G dg : Addr} {its : List Value} {n : Nat} {ex : Bool}
    (X : (hd.heap_39 w.params).In g) (F : Fr g L s.heap m) (N : News g L s.heap news) (hG : (G, tagsO dg its n) ∈ news) (h2 : (dg, dictOf [] 0) ∈ news) (hh : A.handled = none) (hA : A.depth ≤ 500) (hu : A.units ≤ 500)
    (h : ∀ (b : Addr) (h' : Heap) (tk : Nat), Fr g L h' m → News g L h' ((b, bmO G) :: news) → (∀ p ∈ news, p.1 ≠ b) → Q (.ref b) { s with heap := h', toks := tk }) :
    wpAny (model PySem.Challenge.rw_fy0012_01.row.prog w) A (getAttr (.ref G) (PySem.Str.ofString "append") ex) Q E s := by
  have I : InstAt s.heap G (tagsO dg its n) 327 (some (dictOf [] 0)) := ⟨(N _ hG).1, rfl, rfl, (N _ h2).1⟩
  refine get_list (P := fun v s' => handedIn v = true ∧ Q v s') (X.keeps F.keep) I ?k1 ?k3 ?_ fun _ _ z => z
  case k1 => k_is
  case k3 => k_is
  refine up_none (A' := AX) (mk_bm0 (X.keeps F.keep) (N _ hG).1 (N _ h2).1 fun b h' tk D => ?_) hh hA rfl rfl hu
  refine ⟨rfl, h b h' tk (fr_keep F (mem_keeps D)) (mem_news F N D) fun p hp e => ?_⟩
  have h1 := (D.nw _ (.head _)).2
  have h2 := (N p hp).1
  rw [e] at h2
  exact absurd (h2.symm.trans h1) (by simp)
end
end Mine
namespace Mine
section
open PySem PySem.W PyProof.Rows PySem.Calls
theorem rstP7 {M : Model} {A : Around} {env : Env} {Q : Flow → Shared → Prop} {E : Value → Shared → Prop} {s : Shared} (h : wpAny M A (execs [] env) Q E s) : wpAny M A (execs [] env) Q E s := by
  w_top off
  (try (walk1; fail))
  exact h
/-- a seal: the walk stops here -/
structure Hold (P : Prop) : Prop where
  out : P
abbrev It1 := Value × Tg
def isHead (x : It1) : Bool := decide (x.2.1 = 0)
def grpF {α : Type} (p : α → Bool) : List α → Option (List α) → List (List α)
  | [], none => []
  | [], some c => [c]
  | x :: xs, none => if p x then grpF p xs (some [x]) else grpF p xs none
  | x :: xs, some c => if p x then c :: grpF p xs (some [x]) else grpF p xs (some (c ++ [x]))
def Oth (g2 : Heap) (Lg It : Addr) (h : Heap) (oth : List (Addr × Obj)) : Prop := ∀ b o, b ≠ Lg → b ≠ 334 → b ≠ It → h.get? b = some o → g2.get? b = some o ∨ (b, o) ∈ oth
def KeepG (Lg It : Addr) (h h' : Heap) : Prop := ∀ b o, b ≠ Lg → b ≠ 334 → b ≠ It → h.get? b = some o → h'.get? b = some o
theorem oth_make {g2 h : Heap} (hk : Keeps g2 h) (Lg It : Addr) : ∃ oth, Oth g2 Lg It h oth ∧ News g2 Lg h oth ∧ OwnOff oth [It, 334] := by
  let f : Nat → Option (Addr × Obj) := fun b => if b = Lg ∨ b = 334 ∨ b = It then none else match g2.get? b, h.get? b with | none, some o => some (b, o) | _, _ => none
  have inv : ∀ b q, f b = some q → q.1 = b ∧ b ≠ Lg ∧ b ≠ 334 ∧ b ≠ It ∧ g2.get? b = none ∧ h.get? b = some q.2 := fun b q e => by
    dsimp only [f] at e
    split at e
    · cases e
    · rename_i hn
      split at e
      · rename_i e1 e2
        cases e
        exact ⟨rfl, fun z => hn (.inl z), fun z => hn (.inr (.inl z)), fun z => hn (.inr (.inr z)), e1, e2⟩
      · cases e
  refine ⟨(List.range h.objs.size).filterMap f, fun b o h1 h2 h3 e => ?_, fun p hp => ?_, fun p hp q hq => ?_⟩
  · cases e2 : g2.get? b with
    | some o' => exact .inl ((hk _ _ e2).symm.trans e)
    | none =>
      refine .inr (List.mem_filterMap.mpr ⟨b, List.mem_range.mpr (Heap.lt_size e), ?_⟩)
      dsimp only [f]
      rw [if_neg (by rintro (z | z | z) <;> contradiction), e2, e]
  · obtain ⟨b, _, e⟩ := List.mem_filterMap.mp hp
    obtain ⟨rfl, h1, _, _, h4, h5⟩ := inv b p e
    exact ⟨h5, h1, h4⟩
  · obtain ⟨b, _, e⟩ := List.mem_filterMap.mp hp
    obtain ⟨rfl, h1, h2, h3, h4, h5⟩ := inv b p e
    rcases List.mem_cons.mp hq with rfl | hq
    · exact h3
    · rw [List.mem_singleton.mp hq]; exact h2
theorem keepG_of {g2 h h' : Heap} {Lg It : Addr} {m : Str → Option Value} {oth : List (Addr × Obj)} (F : Fr g2 Lg h' m) (N : News g2 Lg h' oth) (O : Oth g2 Lg It h oth) : KeepG Lg It h h' := fun b o h1 h2 h3 e =>
  (O b o h1 h2 h3 e).elim (fun x => F.keep _ _ x) fun x => (N _ x).1
def TagH (h : Heap) (v : Value) (t : Tg) : Prop := ∃ x dx a b od, v = .ref x ∧ h.get? x = some (tagO dx t a b) ∧ h.get? dx = some od
theorem TagH.keeps {h h' : Heap} {v : Value} {t : Tg} (k : Keeps h h') (H : TagH h v t) : TagH h' v t := let ⟨x, dx, a, b, od, e, h1, h2⟩ := H; ⟨x, dx, a, b, od, e, k _ _ h1, k _ _ h2⟩
def GY (g2 : Heap) (Lg : Addr) (gs : List (List It1)) : Protocol := fun m s₀ v s' kap =>
  ∃ (G dg It : Addr) (cnt : Nat) (grp : List It1) (oL oI : Obj) (ps : Array Value),
    v = .ref G ∧ 1 ≤ m ∧ m ≤ gs.length ∧ gs[gs.length - m]? = some grp ∧
    s'.heap.get? G = some (tagsO dg (grp.map (·.1)) cnt) ∧ s'.heap.get? dg = some (dictOf [] 0) ∧ (∀ o, s₀.heap.get? G = some o → False) ∧ (∀ o, s₀.heap.get? dg = some o → False) ∧
    @LT.lt Nat _ Lg It ∧ g2.get? It = none ∧ (∀ o, s₀.heap.get? It = some o → o.cls = .type "list_iterator") ∧
    s'.heap.get? Lg = some oL ∧ s'.heap.get? It = some oI ∧ oI.cls = .type "list_iterator" ∧ s'.heap.get? 334 = some (tabObj ps) ∧ KeepG Lg It s₀.heap s'.heap ∧ s' = { s₀ with heap := s'.heap, toks := s'.toks } ∧
    ∀ s'' : Shared, s''.heap.get? Lg = some oL → s''.heap.get? It = some oI → s''.heap.get? 334 = some (tabObj ps) → Keeps g2 s''.heap → kap (.send .none) s''
def GP (g2 : Heap) (Lg : Addr) : Nat → Shared → Shared → Prop := fun n s₀ s' =>
  n = 1 ∧ ∃ (It : Addr) (ps : Array Value), @LT.lt Nat _ Lg It ∧ g2.get? It = none ∧ (∀ o, s₀.heap.get? It = some o → o.cls = .type "list_iterator") ∧ s'.heap.get? 334 = some (tabObj ps) ∧ KeepG Lg It s₀.heap s'.heap ∧ s' = { s₀ with heap := s'.heap, toks := s'.toks }
abbrev GR (g2 : Heap) (Lg : Addr) : GenEnd := fun n s₀ r s' => r = .ok (.ret .none) ∧ GP g2 Lg n s₀ s'
section
variable {prog : Program} {w : World} {A : Around} {s : Shared} {K : Frag}
/-- calling a generator function -/
theorem gen_make {R : Result → Shared → Prop} {name qual : Str} {params : Arguments} {body : List Stmt} {scope : Scope} {dV kV doc pm cdv ct oc : Value} {an od : Option Addr} {osl : Array (Option Value)} {f : Addr} {args : Args} {binds : List (Str × Value)}
    (X : K.In s.heap) (hl : s.heap.NoLimit) (ho : K.lookup f = some ⟨oc, od, .func (fnOf name qual params body scope dV kV doc pm an cdv ct), osl⟩) (hcd : codeIn K cdv qual = true) (hroom : A.depth < recursionLimit)
    (hbind : BindsTo s (fnOf name qual params body scope dV kV doc pm an cdv ct) args binds) (hloc : ∀ y ∈ binds, scope.names.lookup y.1 = some .local)
    (h : ∀ (G Lg : Addr) (h' : Heap) (tk : Nat) (oL : Obj), s.heap.objs.size ≤ Lg → Lg < G → h'.get? Lg = some oL → h'.Ns Lg (fun x => binds.reverse.lookup x) → Keeps s.heap h' → h'.IsGen G s.gens.size →
      R (.ok (.ret (.ref G))) { s with heap := h', toks := tk, gens := s.gens.push (.fresh (.func body (envOf qual scope Lg f cdv))) })
    (hco : scope.isCoroutine = false) (hgen : scope.isGenerator = true) (hk : scope.kind = .function) (hcell : ∀ x ∈ scope.names, x.2 ≠ .cell) : codeAny (model prog w) A (.call (.ref f) args) R s := by
  refine codeAny_call_generator hroom (X _ _ ho) rfl hco hgen rfl (codeRec_of X hcd) (hbind _ _ _ _ ?_)
  refine wpAny_newFunctionEnv hcell hloc (fun h₁ hns hsb => ⟨hl.fresh _ hsb, ?_⟩) hk
  have hk₁ : Keeps s.heap h₁ := fun b o e => hsb.extBut b o (Nat.ne_of_lt (Heap.lt_size e)) (Heap.get?_push_of_some _ e)
  obtain ⟨oL, a1, a2, hL, a3⟩ := hns
  have hlt : s.heap.objs.size < h₁.objs.size := Heap.lt_size hL
  refine h _ s.heap.objs.size _ _ oL (Nat.le_refl _) hlt (Heap.get?_push_of_some _ hL) (Heap.Ns.push ⟨oL, a1, a2, hL, a3⟩ _) (fun b o e => Heap.get?_push_of_some _ (hk₁ b o e)) ⟨_, _, _, Heap.get?_push_size _ rfl, rfl, rfl, rfl⟩
end
theorem seg_loop {M : Model} {A : Around} {R : GenEnd} {Y : Protocol} {C : Code} {fs : List Frame} (hq : C.quiet = true) (P : Nat → Nat → Shared → Shared → Prop)
    (step : ∀ r n s₀ s, P r n s₀ s → (∀ r' n' s₀' s', r' < r → P r' n' s₀' s' → Seg M A R Y n' s₀' C (.pure (.again C)) fs s') → Seg M A R Y n s₀ C (M.den C) fs s) :
    ∀ r n s₀ s, P r n s₀ s → Seg M A R Y n s₀ C (M.den C) fs s := by
  intro r
  induction r using Nat.strongRecOn with
  | ind r ih => intro n s₀ s hp; exact step r n s₀ s hp fun r' n' s₀' s' hr hp' => seg_again hq (ih r' hr n' s₀' s' hp')
def Noop (prog : Program) (w : World) (g2 : Heap) (fa : Addr) (obj : List (Addr × Obj)) : Prop := ∀ (s : Shared) (v : Value) (Q : Value → Shared → Prop), (∀ p ∈ obj, s.heap.get? p.1 = some p.2) → Keeps g2 s.heap →
  (∀ h' tk, Keeps s.heap h' → Q .none { s with heap := h', toks := tk }) → wpAny (model prog w) AG (call (.ref fa) [v]) Q NoE s
def FnIn (q : Addr) (obj : List (Addr × Obj)) : Prop := ∃ oc od fd sl, (q, (⟨oc, od, .func fd, sl⟩ : Obj)) ∈ obj
/-- the group under way -/
def CurSt (prog : Program) (w : World) (g2 : Heap) (s₀ : Shared) (m : Str → Option Value) (oth : List (Addr × Obj)) : Option (List It1) → List (Addr × Obj) → Prop
  | none, obj => m "group" = some .none ∧ ∃ fa, m "append" = some (.ref fa) ∧ Noop prog w g2 fa obj ∧ FnIn fa obj
  | some grp, obj => ∃ G dg b cnt, m "group" = some (.ref G) ∧ m "append" = some (.ref b) ∧ obj = [(b, bmO G), (G, tagsO dg (grp.map (·.1)) cnt), (dg, dictOf [] 0)] ∧ OwnOff oth [G] ∧ @Ne Nat b G ∧ @Ne Nat dg G ∧
      (∀ o, s₀.heap.get? G = some o → False) ∧ (∀ o, s₀.heap.get? dg = some o → False)
def LoopP (prog : Program) (w : World) (g2 : Heap) (Lg lst It : Addr) (items : List It1) (r n : Nat) (s₀ s : Shared) : Prop :=
  ∃ (k : Nat) (cur : Option (List It1)) (m : Str → Option Value) (oI : Obj) (ps : Array Value) (oth obj : List (Addr × Obj)) (tk : Tok) (h : Heap) (t : Nat),
    s = { s₀ with heap := h, toks := t } ∧ k + r = items.length ∧ n = (grpF isHead (items.drop k) cur).length + 1 ∧ (∃ done, grpF isHead items none = done ++ grpF isHead (items.drop k) cur) ∧
    Fr g2 Lg h m ∧ News g2 Lg h ((It, oI) :: (334, tabObj ps) :: (obj ++ oth)) ∧ oI.cls = .type "list_iterator" ∧ oI.data = .fields #[.ref lst, .int k 0] ∧ @LT.lt Nat _ Lg It ∧ (∀ o, s₀.heap.get? It = some o → o.cls = .type "list_iterator") ∧
    OwnOff (obj ++ oth) [It, 334] ∧ @Ne Nat It 334 ∧ Oth g2 Lg It s₀.heap oth ∧ m "splitcode" = some (.int 0 tk) ∧ CurSt prog w g2 s₀ m oth cur obj ∧ ∀ grp, cur = some grp → grp.length ≤ k
theorem gy_intro {g2 : Heap} {Lg It G dg : Addr} {gs done rem : List (List It1)} {grp : List It1} {n : Nat} {s₀ s' : Shared} {m : Str → Option Value} {oI : Obj} {ps : Array Value} {oth all : List (Addr × Obj)} {cnt : Nat} {kap : Resume → Shared → Prop}
    (hgs : gs = done ++ grp :: rem) (hn : n = rem.length + 1) (F : Fr g2 Lg s'.heap m) (N : News g2 Lg s'.heap all) (h1 : (It, oI) ∈ all) (h2 : (334, tabObj ps) ∈ all) (h3 : (G, tagsO dg (grp.map (·.1)) cnt) ∈ all) (h4 : (dg, dictOf [] 0) ∈ all) (h5 : ∀ p ∈ oth, p ∈ all)
    (hc : oI.cls = .type "list_iterator") (hlt : @LT.lt Nat _ Lg It) (hIt : ∀ o, s₀.heap.get? It = some o → o.cls = .type "list_iterator") (O : Oth g2 Lg It s₀.heap oth) (hG : ∀ o, s₀.heap.get? G = some o → False) (hdg : ∀ o, s₀.heap.get? dg = some o → False)
    (hs : s' = { s₀ with heap := s'.heap, toks := s'.toks })
    (hk : ∀ s'' : Shared, Fr g2 Lg s''.heap m → News g2 Lg s''.heap [(It, oI), (334, tabObj ps)] → kap (.send .none) s'') : GY g2 Lg gs n s₀ (.ref G) s' kap := by
  obtain ⟨oL, a1, a2, hL, a3⟩ := F.ns
  refine ⟨G, dg, It, cnt, grp, oL, oI, ps, rfl, by omega, ?_, ?_, (N _ h3).1, (N _ h4).1, hG, hdg, hlt, (N _ h1).2.2, hIt, hL, (N _ h1).1, hc, (N _ h2).1, keepG_of F (fun p hp => N p (h5 p hp)) O, hs, fun s'' e1 e2 e3 k2 => ?_⟩
  · rw [hgs, List.length_append, List.length_cons]; omega
  · rw [hgs, List.length_append, List.length_cons, hn, show done.length + (rem.length + 1) - (rem.length + 1) = done.length by omega, List.getElem?_append_right (Nat.le_refl _), Nat.sub_self]; rfl
  · refine hk s'' ⟨⟨oL, a1, a2, e1, a3⟩, k2, F.above⟩ fun p hp => ?_
    rcases List.mem_cons.mp hp with rfl | hp
    · exact ⟨e2, (N _ h1).2⟩
    · rw [List.mem_singleton.mp hp]; exact ⟨e3, (N _ h2).2⟩
section
variable {w : World} {A : Around} {s : Shared} {g : Heap} {L : Addr} {m : Str → Option Value} {news : List (Addr × Obj)} {E : Value → Shared → Prop} {Q : Value → Shared → Prop}
theorem tag_codeK {ex : Bool} {t : Tg} {a b : Tok} {x dx : Addr} {od : Obj} (X : (hd.heap_39 w.params).In g) (T : g.NoLimit) (F : Fr g L s.heap m) (N : News g L s.heap news) (hA : A.depth ≤ 450)
    (h1 : s.heap.get? x = some (tagO dx t a b)) (h2 : s.heap.get? dx = some od) (h : ∀ h' tk, Fr g L h' m → News g L h' news → Q (.int t.1 a) { s with heap := h', toks := tk }) :
    wpAny (model PySem.Challenge.rw_fy0012_01.row.prog w) A (getAttr (.ref x) (PySem.Str.ofString "code") ex) Q E s := tag_code X T F hA h1 h2 fun h' tk k => h h' tk (fr_keep F k) (news_keep N k)
theorem tag_valueK {ex : Bool} {t : Tg} {a b : Tok} {x dx : Addr} {od : Obj} (X : (hd.heap_39 w.params).In g) (T : g.NoLimit) (F : Fr g L s.heap m) (N : News g L s.heap news) (hA : A.depth ≤ 450)
    (h1 : s.heap.get? x = some (tagO dx t a b)) (h2 : s.heap.get? dx = some od) (h : ∀ h' tk, Fr g L h' m → News g L h' news → Q (.str t.2 b) { s with heap := h', toks := tk }) :
    wpAny (model PySem.Challenge.rw_fy0012_01.row.prog w) A (getAttr (.ref x) (PySem.Str.ofString "value") ex) Q E s := tag_value X T F hA h1 h2 fun h' tk k => h h' tk (fr_keep F k) (news_keep N k)
theorem noopK {g2 : Heap} {fa : Addr} {v : Value} {obj : List (Addr × Obj)} {prog : Program} (H : Noop prog w g2 fa obj) (F : Fr g2 L s.heap m) (N : News g2 L s.heap news) (ho : ∀ p ∈ obj, p ∈ news)
    (h : ∀ h' tk, Fr g2 L h' m → News g2 L h' news → Q .none { s with heap := h', toks := tk }) : wpAny (model prog w) AG (call (.ref fa) [v]) Q E s :=
  wpAny_mono (H s v Q (fun p hp => (N p (ho p hp)).1) F.keep fun h' tk k => h h' tk (fr_keep F k) (news_keep N k)) (fun _ _ x => x) fun _ _ x => x.elim
theorem list_next_end {A : Around} {prog : Program} {it l : Addr} {i : Nat} {items : Array Value} {Q : Option Value → Shared → Prop} (hh : A.handled = none)
    (hit : s.heap.IsListIter it l i) (hl : s.heap.IsList l items) (hx : items[i]? = none)
    (hQ : ∀ h', (∃ o, h'.get? it = some o ∧ o.cls = .type "list_iterator") → Heap.ExtBut it s.heap h' → Q none { s with heap := h' }) : wpAny (model prog w) A (pyNext (.ref it)) Q E s := by
  obtain ⟨o, ho, hc, hd⟩ := id hit
  obtain ⟨ol, hol, _, nl, hdl⟩ := hl
  unfold pyNext
  refine wpAny_bind (wpAny_attempt (wpAny_callSpecial?_slot (name := Str.ofString "__next__") hit.typeIs slot_listiter_next
    (wpAny_call_entry slot_listiter_next hit.typeIs entry_listiter_next ?_ (args_listiter_next _))))
  show wpAny _ _ (field (.ref it) 0 >>= _) _ _ s
  refine wpAny_bind (wpAny_field ho hd (x := .ref l) rfl ?_)
  show wpAny _ _ (if (Value.ref l == Value.none) = true then _ else _) _ _ s
  rw [if_neg (show ¬ ((Value.ref l == Value.none) = true) from Bool.false_ne_true)]
  show wpAny _ _ (field (.ref it) 1 >>= _) _ _ s
  refine wpAny_bind (wpAny_field ho hd (x := .int i 0) rfl ?_)
  show wpAny _ _ (seqItems? (.ref l) >>= _) _ _ s
  refine wpAny_bind (wpAny_seqItems hol hdl ?_)
  simp only [Int.toNat_natCast, hx]
  refine wpAny_bind (wpAny_rule (wpAny_bind (wpAny_setField ho hd (by simp) ?_)))
  show wpAny _ _ (newExc (.type "StopIteration") [] >>= _) _ _ _
  refine wpAny_bind ?_
  simp only [newExc, newTuple]
  refine wpAny_bind (wpAny_newObj_type ?_ (by size_fits))
  refine wpAny_bind (m := firstArgMember _ _) (wpAny_of_eq (a := Value.none) (by first | rfl | (simp only [firstArgMember]; rfl)) ?_)
  refine wpAny_newObj_type ?_ (by size_fits)
  simp only [raiseNew]
  refine wpAny_bind (wpAny_handled ?_)
  rw [show A.in1.handled = none from hh]
  refine wpAny_bind (wpAny_pure (wpAny_throw ?_))
  refine wpAny_bind (wpAny_isInstance (T := "StopIteration") (b := true) ⟨_, Heap.get?_push_size _ rfl, rfl⟩ isSubtype_stop ?_)
  refine wpAny_pure (hQ _ ⟨_, Heap.get?_push_of_some _ (Heap.get?_push_of_some _ (Heap.get?_update_self _ ho (Obj.isFreed_of_fields (Obj.data_mapFields hd _)))), (Obj.cls_mapFields ..).trans hc⟩ (((Heap.SameBut.update ..).extBut.push _).push _))
theorem noop_news {g2 h : Heap} {prog : Program} {name qual : Str} {params : Arguments} {scope : Scope} {doc pm ct : Value} {c' f : Addr} {oc : Obj} {pos : Pos} {l : List (Addr × Obj)} (_N : News g2 L h ((f, fnMade name qual params [.Pass pos] scope [] doc pm c' ct) :: (c', oc) :: l))
    (H : ∀ obj, (f, fnMade name qual params [.Pass pos] scope [] doc pm c' ct) ∈ obj → (c', oc) ∈ obj → Noop prog w g2 f obj) (h1 : @Ne Nat f 334) (h2 : @Ne Nat c' 334) :
    ∃ obj oth, (f, fnMade name qual params [.Pass pos] scope [] doc pm c' ct) :: (c', oc) :: l = obj ++ oth ∧ oth = l ∧ (Noop prog w g2 f obj ∧ FnIn f obj) ∧ OwnOff obj [334] :=
  ⟨[_, _], l, rfl, rfl, ⟨H _ (.head _) (.tail _ (.head _)), _, _, _, _, .head _⟩, fun p hp b hb => by
    rw [List.mem_singleton.mp hb]
    rcases List.mem_cons.mp hp with rfl | hp
    · exact h1
    · rw [List.mem_singleton.mp hp]; exact h2⟩
theorem noop_make {g2 : Heap} {prog : Program} {name qual : Str} {params : Arguments} {scope : Scope} {doc pm ct : Value} {c' f : Addr} {oc : Obj} {vs : Array Value} {t : Tok} {pos : Pos} {obj : List (Addr × Obj)} (T : g2.NoLimit)
    (hf : (f, fnMade name qual params [.Pass pos] scope [] doc pm c' ct) ∈ obj) (hc : (c', oc) ∈ obj) (hd : oc.data = .fields vs) (hv : vs[1]? = some (.str qual t))
    (hbind : ∀ (s : Shared) (v : Value), ∃ binds, BindsTo s (fnX name qual params [.Pass pos] scope [] .none .none doc pm none (.ref c') ct) ⟨[v], []⟩ binds ∧ ∀ y ∈ binds, scope.names.lookup y.1 = some .local)
    (hcell : ∀ x ∈ scope.names, x.2 ≠ .cell) (hco : scope.isCoroutine = false := by rfl) (hgen : scope.isGenerator = false := by rfl) (hk : scope.kind = .function := by rfl) : Noop prog w g2 f obj := by
  intro s v Q ho hk2 h
  obtain ⟨binds, hb, hl⟩ := hbind s v
  refine wpAny_call (codeAny_call_def (fd := fnX name qual params [.Pass pos] scope [] .none .none doc pm none (.ref c') ct) (by decide) (ho _ hf) rfl (T.keeps hk2) ⟨c', oc, vs, t, rfl, ho _ hc, hd, hv⟩ rfl hb hcell hl (fun h₁ hns hk₁ => ?_) hco hgen hk)
  refine wpAny_mono (Q := fun f s' => f = .next ∧ s' = { s with heap := h₁, toks := s.toks + binds.length }) (E := fun _ _ => False) ?_ (fun f s' hf => ?_) fun _ _ z => z.elim
  · rw [execs_cons]
    exact wpAny_bind (wpAny_bind (wpAny_standAt (wpAny_pure (wpAny_execs_nil ⟨rfl, rfl⟩))))
  · obtain ⟨rfl, rfl⟩ := hf
    exact h _ _ hk₁
end
theorem loop_start {prog : Program} {w : World} {g2 h : Heap} {Lg lst : Addr} {items : List It1} {s₀ : Shared} {m : Str → Option Value} {ps : Array Value} {oth obj : List (Addr × Obj)} {tk : Tok} {t : Nat} {fa : Addr}
    (F : Fr g2 Lg h m) (N : News g2 Lg h (obj ++ (334, tabObj ps) :: oth)) (O : Oth g2 Lg Lg s₀.heap oth) (oo : OwnOff oth [Lg, 334]) (ob : OwnOff obj [334])
    (msp : m "splitcode" = some (.int 0 tk)) (mg : m "group" = some .none) (ma : m "append" = some (.ref fa)) (hno : Noop prog w g2 fa obj ∧ FnIn fa obj) :
    LoopP prog w g2 Lg lst h.objs.size items items.length ((grpF isHead items none).length + 1) s₀ { s₀ with heap := h.push { cls := .type "list_iterator", data := .fields #[.ref lst, .int 0 0] }, toks := t } := by
  have lt : ∀ p ∈ obj ++ (334, tabObj ps) :: oth, p.1 < h.objs.size := fun p hp => Heap.lt_size (N p hp).1
  have h334 : (334 : Nat) < h.objs.size := lt _ (List.mem_append.mpr (.inr (.head _)))
  have hL : @LT.lt Nat _ Lg h.objs.size := F.ns.lt
  have N' := N.push F { cls := .type "list_iterator", data := .fields #[.ref lst, .int 0 0] }
  refine ⟨0, none, m, { cls := .type "list_iterator", data := .fields #[.ref lst, .int 0 0] }, ps, oth, obj, tk, h.push { cls := .type "list_iterator", data := .fields #[.ref lst, .int 0 0] }, t, ?_, by omega, rfl, ⟨[], rfl⟩, F.push _, fun p hp => N' p ?_, rfl, rfl, hL, fun o e => ?_, ?_, Nat.ne_of_gt h334, fun b o h1 h2 _ e => O b o h1 h2 h1 e, msp, ⟨mg, fa, ma, hno.1, hno.2⟩, fun _ e => nomatch e⟩
  · rfl
  · simp only [List.mem_cons, List.mem_append] at hp ⊢
    rcases hp with h | h | h | h
    · exact .inl h
    · exact .inr (.inr (.inl h))
    · exact .inr (.inl h)
    · exact .inr (.inr (.inr h))
  · have : h.get? h.objs.size = some o := (O _ o (Nat.ne_of_gt hL) (Nat.ne_of_gt h334) (Nat.ne_of_gt hL) e).elim (fun x => F.keep _ _ x) fun x => (N _ (List.mem_append.mpr (.inr (.tail _ x)))).1
    exact absurd (Heap.lt_size this) (Nat.lt_irrefl _)
  · intro p hp b hb
    have hlt : p.1 < h.objs.size := lt p (by
      rcases List.mem_append.mp hp with h | h
      · exact List.mem_append.mpr (.inl h)
      · exact List.mem_append.mpr (.inr (.tail _ h)))
    rcases List.mem_cons.mp hb with rfl | hb
    · exact Nat.ne_of_lt hlt
    · rcases List.mem_append.mp hp with h | h
      · exact ob p h b hb
      · exact oo p h b (.tail _ hb)
/-- the state within one turn of the generator's loop -/
def St (g2 : Heap) (Lg : Addr) (s₁ : Shared) (led : List (Addr × Obj)) (tk : Tok) (gv av tv : Value) (s' : Shared) : Prop :=
  ∃ (h3 : Heap) (tk3 : Nat) (m3 : Str → Option Value), s' = { s₁ with heap := h3, toks := tk3 } ∧ Fr g2 Lg h3 m3 ∧ News g2 Lg h3 led ∧ m3 "splitcode" = some (.int 0 tk) ∧ m3 "group" = some gv ∧ m3 "append" = some av ∧ m3 "tag" = some tv
theorem St.names {g2 : Heap} {Lg : Addr} {s₁ s' : Shared} {led : List (Addr × Obj)} {tk : Tok} {gv av tv : Value} (H : St g2 Lg s₁ led tk gv av tv s') :
    ∃ (h3 : Heap) (tk3 : Nat) (m3 : Str → Option Value), s' = { s₁ with heap := h3, toks := tk3 } ∧ News g2 Lg h3 led ∧
      Fr g2 Lg h3 (fun y => if y = "splitcode" then some (.int 0 tk) else if y = "group" then some gv else if y = "append" then some av else if y = "tag" then some tv else m3 y) := by
  obtain ⟨h3, tk3, m3, e, F, N, e1, e2, e3, e4⟩ := H
  exact ⟨h3, tk3, m3, e, N, fr_name (fr_name (fr_name (fr_name F "tag" e4) "append" e3) "group" e2) "splitcode" e1⟩
theorem seg_if_yield {M : Model} {A : Around} {R : GenEnd} {Y : Protocol} {n : Nat} {s₀ : Shared} {c : Code} {fs : List Frame} {s : Shared} {env : Env} {K : Flow → Sem Fin} {H : Value → Sem Fin} {gd : Bool → Bool} {lv : List Value → List Value}
    {test e : Expr} {ypos pos pos2 : Pos} (hY : ∀ m s₀ v s' (kap kap' : Resume → Shared → Prop), (∀ r s'', kap r s'' → kap' r s'') → Y m s₀ v s' kap → Y m s₀ v s' kap') (Mid : Nat → Shared → Shared → Prop)
    (hA : ∀ {α : Type} {t : Sem α} {Q : α → Shared → Prop} {s : Shared}, wpAny M AG t Q NoE s → wpAny M (A.over c fs) t Q NoE s) (hfs : splitAtGen fs = none) (hgd : gd false = false) (hfg : fs.any Frame.guarded = false)
    (htest : wpAny M AG (isTrue test env (eval test env)) (fun b s' => (b = false ∧ Mid n s₀ s') ∨ (b = true ∧ ∃ n1, n = n1 + 1 ∧ wpAny M AG (eval e env) (fun v s'' => Y n1 s₀ v s'' (fun r s3 => r = .send .none ∧ Mid n1 s3 s3)) NoE s')) NoE s)
    (tail : ∀ n' sA s', Mid n' sA s' → Seg M A R Y n' sA c (K .next) fs s') (hco : env.scope.isCoroutine = false := by rfl) (hi : interactive env = false := by rfl) :
    Seg M A R Y n s₀ c ((exec (.If test [.Expr (.Yield (some e) ypos) pos2] [] pos) env).wrap K H gd lv) fs s := by
  refine seg_If hA (wpAny_mono htest (fun b s' hb => ?_) fun _ _ z => z)
  rcases hb with ⟨rfl, hm⟩ | ⟨rfl, n1, rfl, hw⟩
  · rw [if_neg Bool.false_ne_true]
    exact seg_execs_nil (tail _ _ _ hm)
  · rw [if_pos rfl]
    refine seg_execs_cons (seg_Expr_Yield hfs hgd hfg (wpAny_mono (hA hw) (fun v s'' hy kap hk => ?_) fun _ _ z => z.elim) hco hi)
    refine hY _ _ _ _ _ _ (fun r s3 hr => ?_) hy
    obtain ⟨rfl, hm⟩ := hr
    exact hk .none s3 (seg_execs_nil (tail _ _ _ hm))
theorem gy_mono (g2 : Heap) (Lg : Addr) (gs : List (List It1)) : ∀ m s₀ v s' (kap kap' : Resume → Shared → Prop), (∀ r s'', kap r s'' → kap' r s'') → GY g2 Lg gs m s₀ v s' kap → GY g2 Lg gs m s₀ v s' kap' := by
  rintro m s₀ v s' kap kap' h ⟨G, dg, It, cnt, grp, oL, oI, ps, h1, h2, h3, h4, h5, h6, h7, h8, h9, h10, h11, h12, h13, h14, h15, h16, h17, h18⟩
  exact ⟨G, dg, It, cnt, grp, oL, oI, ps, h1, h2, h3, h4, h5, h6, h7, h8, h9, h10, h11, h12, h13, h14, h15, h16, h17, fun s'' a b c d => h _ _ (h18 s'' a b c d)⟩
theorem grp_step_none {x : It1} {l : List It1} : grpF isHead (x :: l) none = if isHead x then grpF isHead l (some [x]) else grpF isHead l none := rfl
theorem grp_step_some {x : It1} {l c : List It1} : grpF isHead (x :: l) (some c) = if isHead x then c :: grpF isHead l (some [x]) else grpF isHead l (some (c ++ [x])) := rfl
theorem drop_at {α : Type} {l : List α} {k : Nat} {x : α} (h : l[k]? = some x) : l.drop k = x :: l.drop (k + 1) := by
  obtain ⟨hk, e⟩ := List.getElem?_eq_some_iff.mp h
  rw [← e]; exact List.drop_eq_getElem_cons hk
/-- a fresh group begun -/
theorem loop_begun {prog : Program} {w : World} {g2 : Heap} {Lg lst It : Addr} {items : List It1} {k r n : Nat} {x : It1} {xa : Addr} {sA s' : Shared} {led oth : List (Addr × Obj)} {oI' : Obj} {ps : Array Value} {tk : Tok} {G dg b : Addr} {cnt : Nat} {l' : Addr × Obj} (ev : x.1 = .ref xa)
    (S : St g2 Lg sA ((b, bmO G) :: (G, tagsO dg [.ref xa] cnt) :: (dg, dictOf [] 0) :: l' :: led) tk (.ref G) (.ref b) (.ref xa) s') (h1 : (It, oI') ∈ led) (h2 : (334, tabObj ps) ∈ led) (h3 : ∀ p ∈ oth, p ∈ led) (oo : OwnOff oth [It, 334]) (O : Oth g2 Lg It sA.heap oth) (ni : @Ne Nat It 334)
    (hIt : ∀ o, sA.heap.get? It = some o → o.cls = .type "list_iterator") (hn : n = (grpF isHead (items.drop (k + 1)) (some [x])).length + 1) (hd : ∃ dn, grpF isHead items none = dn ++ grpF isHead (items.drop (k + 1)) (some [x]))
    (hkr : k + 1 + r = items.length) (c1 : oI'.cls = .type "list_iterator") (d1 : oI'.data = .fields #[.ref lst, .int ((k + 1 : Nat) : Int) 0]) (hLI : @LT.lt Nat _ Lg It)
    (og : OwnOff led [G, dg]) (nd : @Ne Nat dg G) (ob : ∀ p ∈ (G, tagsO dg [.ref xa] cnt) :: (dg, dictOf [] 0) :: l' :: led, p.1 ≠ b) : LoopP prog w g2 Lg lst It items r n sA s' := by
  obtain ⟨h, t, m, rfl, F, N, e1, e2, e3, e4⟩ := S
  have hG := N (G, tagsO dg [.ref xa] cnt) (.tail _ (.head _))
  have hD := N (dg, dictOf [] 0) (.tail _ (.tail _ (.head _)))
  have gI : It ≠ G := og _ h1 G (.head _)
  have g3 : (334 : Nat) ≠ G := og _ h2 G (.head _)
  have dI : It ≠ dg := og _ h1 dg (.tail _ (.head _))
  have d3 : (334 : Nat) ≠ dg := og _ h2 dg (.tail _ (.head _))
  have bI : It ≠ b := ob _ (.tail _ (.tail _ (.tail _ h1)))
  have b3 : (334 : Nat) ≠ b := ob _ (.tail _ (.tail _ (.tail _ h2)))
  have fresh : ∀ a, a ∈ [G, dg] → g2.get? a = none → a ≠ Lg → ∀ o, sA.heap.get? a = some o → False := fun a ha hn hL o e => by
    have a1 : a ≠ It := fun z => og _ h1 a ha z.symm
    have a2 : a ≠ 334 := fun z => og _ h2 a ha z.symm
    rcases O a o hL a2 a1 e with q | q
    · rw [hn] at q; cases q
    · exact og _ (h3 _ q) a ha rfl
  refine ⟨k + 1, some [x], m, oI', ps, oth, [(b, bmO G), (G, tagsO dg ([x].map (·.1)) cnt), (dg, dictOf [] 0)], tk, h, t, rfl, hkr, hn, hd, F, fun p hp => N p ?_, c1, d1, hLI, hIt, ?_, ni, O, e1, ⟨G, dg, b, cnt, e2, e3, rfl, fun p hp q hq => ?_, (ob _ (.head _)).symm, nd, fresh G (.head _) hG.2.2 hG.2.1, fresh dg (.tail _ (.head _)) hD.2.2 hD.2.1⟩, fun grp e => ?_⟩
  · have ex : [x].map (·.1) = [Value.ref xa] := by rw [List.map_cons, ev]; rfl
    rw [ex] at hp
    simp only [List.mem_cons, List.mem_append, List.not_mem_nil, or_false] at hp ⊢
    rcases hp with rfl | rfl | (h | h | h) | h
    · exact .inr (.inr (.inr (.inr h1)))
    · exact .inr (.inr (.inr (.inr h2)))
    · exact .inl h
    · exact .inr (.inl h)
    · exact .inr (.inr (.inl h))
    · exact .inr (.inr (.inr (.inr (h3 p h))))
  · intro p hp q hq
    rcases List.mem_append.mp hp with hp | hp
    · have hq' : q = It ∨ q = 334 := by
        rcases List.mem_cons.mp hq with rfl | hq
        · exact .inl rfl
        · exact .inr (List.mem_singleton.mp hq)
      rcases List.mem_cons.mp hp with rfl | hp
      · rcases hq' with rfl | rfl
        · exact bI.symm
        · exact b3.symm
      · rcases List.mem_cons.mp hp with rfl | hp
        · rcases hq' with rfl | rfl
          · exact gI.symm
          · exact g3.symm
        · rw [List.mem_singleton.mp hp]
          rcases hq' with rfl | rfl
          · exact dI.symm
          · exact d3.symm
    · exact oo p hp q hq
  · rw [List.mem_singleton.mp hq]; exact og _ (h3 p hp) G (.head _)
  · cases e; exact Nat.le_add_left 1 k
theorem St.led {g2 : Heap} {Lg : Addr} {s₁ s' : Shared} {led : List (Addr × Obj)} {tk : Tok} {gv av tv : Value} (H : St g2 Lg s₁ led tk gv av tv s') : ∃ (h3 : Heap) (t : Nat) (m : Str → Option Value), s' = { s₁ with heap := h3, toks := t } ∧ Fr g2 Lg h3 m ∧ News g2 Lg h3 led ∧ m "splitcode" = some (.int 0 tk) ∧ m "group" = some gv ∧ m "append" = some av :=
  let ⟨h, t, m, e, F, N, e1, e2, e3, _⟩ := H; ⟨h, t, m, e, F, N, e1, e2, e3⟩
def CallAt (q : Addr) (h : Heap) : Prop := ∃ k, (k = Keeper.frame ∨ k = Keeper.machine ∨ k = Keeper.boundFrame) ∧ ∀ M, Looks M h (keeperOf (.ref q)) k
theorem CallAt.of_bm {g h : Heap} {L q G : Addr} {news : List (Addr × Obj)} (N : News g L h news) (hm : (q, bmO G) ∈ news) : CallAt q h := ⟨.machine, .inr (.inl rfl), fun _ => (Looks.ld (part := none) (N _ hm).1).andThen .now⟩
theorem CallAt.of_fn {g h : Heap} {L q : Addr} {news obj : List (Addr × Obj)} (N : News g L h news) (H : FnIn q obj) (ho : ∀ p ∈ obj, p ∈ news) : CallAt q h := by
  obtain ⟨oc, od, fd, sl, hm⟩ := H
  exact ⟨.frame, .inl rfl, fun _ => (Looks.ld (part := none) (N _ (ho _ hm)).1).andThen .now⟩
theorem callWith_B {M : Model} {A : Around} {E : Value → Shared → Prop} {s : Shared} {env : Env} {pos : Pos} {first : List Value} {Q : Value → Shared → Prop} {q : Addr} {e : Expr} {rest : List Expr}
    (h : wpAny M A (spliced (backTo pos (starEach (e :: rest) env))) (fun vs s₁ => CallAt q s₁.heap ∧ wpAny M A (call (.ref q) (first ++ vs)) Q E s₁) E s)
    (he : starEach (e :: rest) env = (false, eval e env) :: starEach rest env := by rfl) (hplain : (backTo pos (starEach rest env)).any (·.1) = false := by rfl) :
    wpAny M A (callWith pos (.ref q) first (backTo pos (starEach (e :: rest) env)) []) Q E s := by
  rw [he] at h ⊢
  exact callWith_of (by show ((false || (backTo pos (starEach rest env)).any (·.1)) || false) = false; rw [hplain]; rfl) (fun h (X : CallAt q h) => let ⟨k, a, b⟩ := X; ⟨k, a, b M⟩) (evalArgs_plain h)
theorem over_func_d {A : Around} {b : List Stmt} {env : Env} (h : A.depth ≤ 430) : (A.over (.func b env) []).depth ≤ 440 := by
  show A.depth + 0 + 1 ≤ 440
  omega
theorem over_func_u {A : Around} {b : List Stmt} {env : Env} (h : A.units ≤ 430) : (A.over (.func b env) []).units ≤ 440 := by
  show A.units + 0 + 3 ≤ 440
  omega
theorem over_for_d {A : Around} {b b2 b3 : List Stmt} {env env2 : Env} {t : Expr} {it : Value} {k : Result → Sem Fin} {p : Pos} {h9 : Option Value} {g9 : Bool} {l9 kp} (h : A.depth ≤ 430) : (A.over (.forLoop t it b2 b3 env2) [.ret k h9 g9 l9 (.func b env) p kp]).depth ≤ 440 := by
  show A.depth + (1 + 0) + 0 ≤ 440
  omega
theorem over_for_u {A : Around} {b b2 b3 : List Stmt} {env env2 : Env} {t : Expr} {it : Value} {k : Result → Sem Fin} {p : Pos} {h9 : Option Value} {g9 : Bool} {l9 kp} (h : A.units ≤ 430) : (A.over (.forLoop t it b2 b3 env2) [.ret k h9 g9 l9 (.func b env) p kp]).units ≤ 440 := by
  show A.units + (3 + 0) + 0 ≤ 440
  omega
end
end Mine
namespace Mine
section
open PySem PySem.W PyProof.Rows PySem.Calls
theorem rstP8 {M : Model} {A : Around} {env : Env} {Q : Flow → Shared → Prop} {E : Value → Shared → Prop} {s : Shared} (h : wpAny M A (execs [] env) Q E s) : wpAny M A (execs [] env) Q E s := by
  w_top off
  (try (walk1; fail))
  exact h
local macro_rules | `(tactic| kd_p1) => `(tactic| (first | (k_unfold; (try dsimp only)) | (k_end; wrow_close) | walk1 | (dsimp only; walk1) | (leave1; walk_say "STEP leave1"; try dsimp only) | fail "no step"))
local macro_rules | `(tactic| k_room) => `(tactic| (show (_ : Nat) < 1000; (try simp only [depth_under_make, depth_under_kw, depth_in1, depth_deeper, depth_caller]); omega))
local macro_rules | `(tactic| walk_at "getAttr ref") => `(tactic| (k_here; (with_reducible show wpAny _ _ (getAttr (Value.ref _) (PySem.Str.ofString "code") _) _ _ _); k_dflt ((refine' tag_codeK ?X ?T ?F ?N ?d ?h1 ?h2 ?_); (case X => k_asm); (case T => exact Top.nolimit (by k_asm)); (case F => k_asm); (case N => k_asm); (case d => exact Nat.le_of_ble_eq_true rfl); (case h1 => exact Fr.keep (by k_asm) _ _ (by assumption)); (case h2 => exact Fr.keep (by k_asm) _ _ (by assumption)); k_whole; intro h' tk' F' N'; (try k_sweep))))
local macro_rules | `(tactic| walk_at "getAttr ref") => `(tactic| (k_here; (with_reducible show wpAny _ _ (getAttr (Value.ref _) (PySem.Str.ofString "append") _) _ _ _); k_dflt ((refine' mk_bm ?X ?F ?N ?g ?h2 ?hh ?hd ?hu ?_); (case X => k_asm); (case F => k_asm); (case N => k_asm); (case g => k_mem); (case h2 => k_mem); (case hh => rfl); (case hd => exact Nat.le_of_ble_eq_true rfl); (case hu => exact Nat.le_of_ble_eq_true rfl); k_whole; intro b' h' tk' F' N' l1; (try k_sweep))))
local macro_rules | `(tactic| walk_at "callWith ref") => `(tactic| (k_here; refine callWith_B ?_))
local macro_rules | `(tactic| walk_at "And") => `(tactic| ((with_reducible show CallAt _ _ ∧ _); refine ⟨by first | exact CallAt.of_bm (by k_asm) (by k_mem) | exact CallAt.of_fn (by k_asm) (by assumption) (by intro p9 hp9; exact List.mem_cons_of_mem _ (List.mem_cons_of_mem _ (List.mem_append_left _ hp9))), ?_⟩; try dsimp only [List.nil_append, List.cons_append]))
local macro_rules | `(tactic| walk_at "call ref") => `(tactic| (k_here; (with_reducible show wpAny _ _ (call (Value.ref _) [Value.ref _]) _ _ _); k_dflt (first
  | ((refine' noopK ?H ?F ?N ?o ?_); (case H => assumption); (case F => k_asm); (case N => k_asm); (case o => (intro p9 hp9; exact List.mem_cons_of_mem _ (List.mem_cons_of_mem _ (List.mem_append_left _ hp9)))); k_whole; intro h' tk' F' N'; (try k_sweep))
  | ((refine' tags_append ?X ?F ?N ?hb ?hG ?h2 ?U ?z ?_); (case U => assumption); (case X => k_asm); (case F => k_asm); (case N => k_asm); (case hb => k_mem); (case hG => k_mem); (case h2 => k_mem); (case z => (rw [List.length_map]; omega)); k_whole; intro n' h' F' N'; (try k_sweep)))))
local macro_rules | `(tactic| walk_at "call ref") => `(tactic| (k_here; (with_reducible show wpAny _ _ (call (Value.ref 327) [Value.ref _]) _ _ _); k_dflt ((refine' mk_tags ?X ?F ?N ?g ?hh ?hd ?hu ?_); (case X => k_asm); (case F => k_asm); (case N => k_asm); (case g => exact (show News _ _ _ _ by k_asm).get (by k_mem)); (case hh => rfl); (case hd => exact Nat.le_of_ble_eq_true rfl); (case hu => exact Nat.le_of_ble_eq_true rfl); k_whole; intro x' dx' n' h' tk' F' N' oo' ne'; (try k_sweep))))
theorem over_AG {α : Type} {M : Model} {A : Around} {c : Code} {fs : List Frame} {t : Sem α} {Q : α → Shared → Prop} {s : Shared} (hh : (A.over c fs).handled = none) (hd : (A.over c fs).depth ≤ 440) (hu : (A.over c fs).units ≤ 440)
    (h : wpAny M AG t Q NoE s) : wpAny M (A.over c fs) t Q NoE s := up_none h hh hd rfl rfl hu
set_option maxHeartbeats 4000000 in
theorem group_call {w : World} {A : Around} {g2 : Heap} {loose mean mg mb} {p : Program} {s : Shared} {E : Value → Shared → Prop} {Q : Value → Shared → Prop} {lst : Addr} {items : List It1}
    (X : (hd.heap_39 w.params).In g2) (T : Top p loose mean mg mb g2) (hk2 : Keeps g2 s.heap) (hsz : g2.objs.size ≤ s.heap.objs.size) (h334 : g2.get? 334 = none) (hlst : g2.IsList lst (items.map (·.1)).toArray)
    (hit : ∀ (i : Nat) (x : It1), items[i]? = some x → TagH g2 x.1 x.2) (hlen : items.length ≤ 57) (hA : A.depth ≤ 400)
    (h : ∀ (c : Code) (G Lg : Addr) (h' : Heap) (tk : Nat) (oL : Obj), s.heap.objs.size ≤ Lg → Lg < G → h'.get? Lg = some oL → Keeps s.heap h' → h'.IsGen G s.gens.size →
      (∀ (A' : Around) (s₀ : Shared), A'.handled = none → A'.depth ≤ 430 → A'.units ≤ 430 → s₀.heap.get? Lg = some oL → s₀.heap.get? 334 = some (tabObj #[]) → Keeps g2 s₀.heap →
        Seg (model PySem.Challenge.rw_fy0012_01.row.prog w) A' (GR g2 Lg) (GY g2 Lg (grpF isHead items none)) ((grpF isHead items none).length + 1) s₀ c ((model PySem.Challenge.rw_fy0012_01.row.prog w).den c) [] s₀) →
      Q (.ref G) { s with heap := h', toks := tk, gens := s.gens.push (.fresh c) }) :
    wpAny (model PySem.Challenge.rw_fy0012_01.row.prog w) A (call (.ref 339) [.ref lst]) Q E s := by
  refine wpAny_call ?_
  refine' gen_make (K := hd.heap_39 w.params) (X.keeps hk2) (T.nolimit.keeps hk2) ?k6 ?k7 ?k8 ?k9 ?kB ?_ ?c2 ?c3 ?c4 ?c5
  case k6 => k_is
  case k7 => k_is
  case k8 => k_room
  case k9 => first | exact BindsTo.of_eq rfl | exact binds_K (X.keeps hk2) rfl (by k_is) rfl rfl rfl
  case kB => exact locs rfl
  case c2 => exact rfl
  case c3 => exact rfl
  case c4 => exact rfl
  case c5 => decide
  intro G Lg h' tk oL l1 l2 hL hns hk' hG
  refine h _ G Lg h' tk oL l1 l2 hL hk' hG fun A' s₀ hh hd hu e1 e2 k2 => ?_
  clear h
  obtain ⟨oth, O, No, oo⟩ := oth_make k2 Lg Lg
  have F₀ : Fr g2 Lg s₀.heap _ := ⟨(let ⟨o, a1, a2, ho, a3⟩ := hns; ⟨o, a1, a2, by rw [ho] at hL; rw [Option.some.inj hL]; exact e1, a3⟩), k2, Nat.le_trans hsz l1⟩
  have N₀ : News g2 Lg s₀.heap ((334, tabObj #[]) :: oth) := fun p hp => by
    rcases List.mem_cons.mp hp with rfl | hp
    · refine ⟨e2, fun e => ?_, h334⟩
      obtain ⟨o9, a9, b9, ho9, hd9, _⟩ := hns
      have e : 334 = Lg := e
      rw [← e] at ho9 hL e1
      rw [e2] at e1
      rw [ho9, ← e1] at hL
      cases hL
      cases hd9
    · exact No p hp
  dsimp only at F₀ ⊢
  refine seg_func ?_
  refine seg_execs_cons (seg_plain (over_AG ?ah ?ad ?au) ?_)
  case ah => exact hh
  case ad => first | exact over_func_d hd | exact over_for_d hd
  case au => first | exact over_func_u hu | exact over_for_u hu
  have codeHd : CodeHd g2 338 334 := codeHd_of_K X (by kernel_rfl)
  repeat' kd_p1
  rename News _ _ _ _ => N1
  rename Fr _ _ _ _ => F1
  refine seg_execs_cons (seg_plain (over_AG ?ah ?ad ?au) ?_)
  case ah => exact hh
  case ad => first | exact over_func_d hd | exact over_for_d hd
  case au => first | exact over_func_u hu | exact over_for_u hu
  repeat' kd_p1
  rename News _ _ _ _ => N2
  rename Fr _ _ _ _ => F2
  dsimp only
  obtain ⟨obj, oth0, eo, rfl, hno, ob⟩ := noop_news (w := w) (prog := PySem.Challenge.rw_fy0012_01.row.prog) N2 (fun obj a b => noop_make T.nolimit a b (by assumption) (by assumption) (fun s v => ⟨_, BindsTo.of_eq rfl, locs rfl⟩) (by decide)) (by omega) (by omega)
  rw [eo] at N2
  have Nobj := N2
  clear eo
  refine seg_execs_cons (seg_For (over_AG ?ah ?ad ?au) (fun _ => rfl) ?_)
  case ah => exact hh
  case ad => first | exact over_func_d hd | exact over_for_d hd
  case au => first | exact over_func_u hu | exact over_for_u hu
  repeat' kd_p1
  rename Fr _ _ _ _ => F3
  rename News _ _ _ _ => N3
  refine wpAny_pyIter_list (items := (items.map (·.1)).toArray) (let ⟨o, ho, r⟩ := hlst; ⟨o, F3.keep _ _ ho, r⟩) ?_
  intro pos3
  have start := fun t => loop_start (items := items) (lst := lst) (s₀ := s₀) (t := t) F3 N3 O oo ob (by rfl) (by rfl) (by rfl) hno
  dsimp only at start ⊢
  generalize Array.size (Heap.objs _) = It at start ⊢
  refine seg_loop rfl (LoopP PySem.Challenge.rw_fy0012_01.row.prog w g2 Lg lst It items) ?step _ _ _ _ (start _)
  case step =>
    clear start F3 N3 N2 hno ob
    rintro r n s₁ s ⟨k, cur, m, oI, ps1, oth1, obj1, tk1, h0, t0, rfl, hkr, hn, ⟨dn, hdn⟩, F, N, hI1, hI2, hLI, hIt, oo1, ni, O1, msp, hcur, hlk⟩ ih
    refine seg_turn (over_AG ?ah ?ad ?au) (fun _ => rfl) ?_
    case ah => exact hh
    case ad => first | exact over_func_d hd | exact over_for_d hd
    case au => first | exact over_func_u hu | exact over_for_u hu
    have hl0 : h0.IsList lst (items.map (·.1)).toArray := let ⟨o, ho, r⟩ := hlst; ⟨o, F.keep _ _ ho, r⟩
    have hit0 : h0.IsListIter It lst k := ⟨oI, (N _ (.head _)).1, hI1, hI2⟩
    have nL : It ≠ Lg := (N _ (.head _)).2.1
    rcases Nat.lt_or_ge k items.length with hk | hk
    · have hx := List.getElem?_eq_getElem hk
      generalize items[k] = x at hx
      obtain ⟨xa, dx, ta, tb, od, ev, hx1, hx2⟩ := hit k x hx
      refine wpAny_pyNext_list_item hit0 hl0 (x := x.1) (by rw [List.getElem?_toArray, List.getElem?_map, hx]; rfl) fun h' hi' hsb => ?_
      obtain ⟨oI', e1', c1, d1⟩ := hi'
      have F1 := F.change hsb nL (N _ (.head _)).2.2
      have N1 : News g2 Lg h' ((It, oI') :: (334, tabObj ps1) :: (obj1 ++ oth1)) := news_set (pre := []) N (fun _ h => nomatch h) (fun p hp => by
        rcases List.mem_cons.mp hp with rfl | hp
        · exact ni.symm
        · exact oo1 p hp It (.head _)) hsb e1'
      rw [ev]
      dsimp only
      clear N F e1' hsb hl0 hit0
      refine wpAny_assign_Name (stN F1 N1 fun h2 F2 N2 => ?_)
      clear F1 N1
      dsimp only
      obtain ⟨gv, av, mg1, ma1⟩ : ∃ gv av, m "group" = some gv ∧ m "append" = some av := by
        cases cur with
        | none => obtain ⟨a1, fa, a2, _⟩ := hcur; exact ⟨_, _, a1, a2⟩
        | some grp => obtain ⟨G, dg, b, cnt, a1, a2, _⟩ := hcur; exact ⟨_, _, a1, a2⟩
      have S0 : St g2 Lg s₁ ((It, oI') :: (334, tabObj ps1) :: (obj1 ++ oth1)) tk1 gv av (.ref xa) { s₁ with heap := h2, toks := t0 + 1 } := ⟨h2, _, _, rfl, F2, N2, msp, mg1, ma1, rfl⟩
      clear F2 N2
      refine seg_execs_cons (seg_If (over_AG ?ah ?ad ?au) ?_)
      case ah => exact hh
      case ad => first | exact over_func_d hd | exact over_for_d hd
      case au => first | exact over_func_u hu | exact over_for_u hu
      refine wpAny_mono (Q := fun b s' => b = decide (x.2.1 = 0) ∧ St g2 Lg s₁ ((It, oI') :: (334, tabObj ps1) :: (obj1 ++ oth1)) tk1 gv av (.ref xa) s') (E := NoE) ?walk ?cont fun _ _ z => z.elim
      case walk =>
        clear ih hcur
        obtain ⟨h3, tk3, m3, e, N3, F3⟩ := S0.names
        rw [e]
        clear e S0
        repeat' kd_p1
        all_goals (rename Fr _ _ _ _ => F9; rename News _ _ _ _ => N9; exact ⟨_, _, _, rfl, F9, N9, rfl, rfl, rfl, rfl⟩)
      case cont =>
        rintro _ s2 ⟨rfl, S1⟩
        clear S0
        have hdr := drop_at hx
        rw [hdr] at hn hdn
        by_cases hz : x.2.1 = 0
        · rw [decide_eq_true hz, if_pos rfl]
          have hh1 : isHead x = true := decide_eq_true hz
          refine seg_execs_cons (seg_if_yield (gy_mono _ _ _) (fun n' sA s' => ∃ (led : List (Addr × Obj)) (gv av : Value) (oth' : List (Addr × Obj)), St g2 Lg sA led tk1 gv av (.ref xa) s' ∧ (It, oI') ∈ led ∧ (334, tabObj ps1) ∈ led ∧ (∀ p ∈ oth', p ∈ led) ∧ OwnOff oth' [It, 334] ∧
            Oth g2 Lg It sA.heap oth' ∧ (∀ o, sA.heap.get? It = some o → o.cls = .type "list_iterator") ∧ n' = (grpF isHead (items.drop (k + 1)) (some [x])).length + 1 ∧ ∃ dn, grpF isHead items none = dn ++ grpF isHead (items.drop (k + 1)) (some [x])) (over_AG ?ah ?ad ?au) rfl rfl rfl ?ts9 ?tl9)
          case ah => exact hh
          case ad => first | exact over_func_d hd | exact over_for_d hd
          case au => first | exact over_func_u hu | exact over_for_u hu
          case ts9 =>
            clear ih
            cases cur with
            | none =>
              obtain ⟨g1, fa, ga, hno, hfn⟩ := hcur
              have : gv = .none := Option.some.inj (mg1.symm.trans g1)
              subst this
              obtain ⟨h3, tk3, m3, e, N3, F3⟩ := S1.names
              rw [e]
              rw [grp_step_none, if_pos hh1] at hn hdn
              refine wpAny_mono (Q := fun b s' => b = false ∧ St g2 Lg s₁ ((It, oI') :: (334, tabObj ps1) :: (obj1 ++ oth1)) tk1 .none av (.ref xa) s') (E := NoE) ?_ (fun b s' hb => .inl ⟨hb.1, _, _, _, oth1, hb.2, .head _, .tail _ (.head _), fun p hp => .tail _ (.tail _ (List.mem_append_right _ hp)), fun p hp => oo1 p (List.mem_append_right _ hp), O1, hIt, hn, dn, hdn⟩) fun _ _ z => z.elim
              clear e S1
              repeat' kd_p1
              all_goals (rename Fr _ _ _ _ => F9; rename News _ _ _ _ => N9; exact ⟨_, _, _, rfl, F9, N9, rfl, rfl, rfl, rfl⟩)
            | some grp =>
              obtain ⟨G0, dg0, b0, cnt0, g1, g2', eo, ooG, nb, nd, fG, fd⟩ := hcur
              subst eo
              have : gv = .ref G0 := Option.some.inj (mg1.symm.trans g1)
              subst this
              obtain ⟨h3, tk3, m3, e, N3, F3⟩ := S1.names
              rw [e]
              rw [grp_step_some, if_pos hh1] at hn hdn
              refine wpAny_mono (Q := fun b s' => b = true ∧ St g2 Lg s₁ ((It, oI') :: (334, tabObj ps1) :: ([(b0, bmO G0), (G0, tagsO dg0 (grp.map (·.1)) cnt0), (dg0, dictOf [] 0)] ++ oth1)) tk1 (.ref G0) av (.ref xa) s') (E := NoE) ?_ (fun b s' hb => .inr ⟨hb.1, _, hn, ?_⟩) fun _ _ z => z.elim
              · clear e S1
                repeat' kd_p1
                all_goals (rename Fr _ _ _ _ => F9; rename News _ _ _ _ => N9; exact ⟨_, _, _, rfl, F9, N9, rfl, rfl, rfl, rfl⟩)
              · obtain ⟨h4, tk4, m4, e4, N4, F4⟩ := hb.2.names
                rw [e4]
                refine wpAny_mono (Q := fun v s' => v = .ref G0 ∧ St g2 Lg s₁ ((It, oI') :: (334, tabObj ps1) :: ([(b0, bmO G0), (G0, tagsO dg0 (grp.map (·.1)) cnt0), (dg0, dictOf [] 0)] ++ oth1)) tk1 (.ref G0) av (.ref xa) s') (E := NoE) ?_ (fun v s' hv => ?_) fun _ _ z => z.elim
                · clear e4 e S1 hb
                  repeat' kd_p1
                  all_goals (rename Fr _ _ _ _ => F9; rename News _ _ _ _ => N9; exact ⟨_, _, _, rfl, F9, N9, rfl, rfl, rfl, rfl⟩)
                · obtain ⟨rfl, h5, tk5, m5, rfl, F5, N5, q1, q2, q3, q4⟩ := hv
                  refine gy_intro hdn rfl F5 N5 (.head _) (.tail _ (.head _)) (.tail _ (.tail _ (.tail _ (.head _)))) (.tail _ (.tail _ (.tail _ (.tail _ (.head _))))) (fun p hp => .tail _ (.tail _ (List.mem_append_right _ hp))) c1 hLI hIt O1 fG fd rfl fun s3 F6 N6 => ⟨rfl, ?_⟩
                  obtain ⟨oth3, O3, No3, oo3⟩ := oth_make F6.keep Lg It
                  refine ⟨(It, oI') :: (334, tabObj ps1) :: oth3, .ref G0, av, oth3, ⟨s3.heap, s3.toks, m5, rfl, F6, fun p hp => ?_, q1, q2, q3, q4⟩, .head _, .tail _ (.head _), fun p hp => .tail _ (.tail _ hp), oo3, O3, fun o e => ?_, rfl, dn ++ [grp], ?_⟩
                  · rcases List.mem_cons.mp hp with rfl | hp
                    · exact N6 _ (.head _)
                    · rcases List.mem_cons.mp hp with rfl | hp
                      · exact N6 _ (.tail _ (.head _))
                      · exact No3 p hp
                  · have := (N6 _ (.head _)).1
                    dsimp only at this
                    rw [e] at this
                    cases this; exact c1
                  · rw [hdn, List.append_assoc]; rfl
          case tl9 =>
            rintro n' sA s' ⟨led, gv', av', oth', S2, m1, m2, m3, oo2, O2, hIt2, hn2, hdn2⟩
            dsimp only
            refine seg_execs_cons (seg_plain (over_AG ?ah ?ad ?au) ?_)
            case ah => exact hh
            case ad => first | exact over_func_d hd | exact over_for_d hd
            case au => first | exact over_func_u hu | exact over_for_u hu
            refine wpAny_mono (Q := fun f s' => Hold (f = .next ∧ ∃ G dg cnt l', St g2 Lg sA ((G, tagsO dg [.ref xa] cnt) :: (dg, dictOf [] 0) :: l' :: led) tk1 (.ref G) av' (.ref xa) s' ∧ OwnOff (l' :: led) [G, dg] ∧ @Ne Nat dg G)) (E := NoE) ?_ (fun f s' hf => ?_) fun _ _ z => z.elim
            · obtain ⟨h3, tk3, m3, e, N3, F3⟩ := S2.names
              rw [e]
              clear e S2 ih
              repeat' kd_p1
              all_goals (rename Fr _ _ _ _ => F9; rename News _ _ _ _ => N9; exact ⟨⟨by first | rfl | trivial, _, _, _, _, ⟨_, _, _, rfl, F9, N9, rfl, rfl, rfl, rfl⟩, by assumption, by assumption⟩⟩)
            · obtain ⟨rfl, G, dg, cnt, l', S3, og, nd⟩ := hf.out
              dsimp only
              refine seg_execs_cons (seg_plain (over_AG ?ah ?ad ?au) ?_)
              case ah => exact hh
              case ad => first | exact over_func_d hd | exact over_for_d hd
              case au => first | exact over_func_u hu | exact over_for_u hu
              refine wpAny_mono (Q := fun f s' => Hold (f = .next ∧ ∃ b, St g2 Lg sA ((b, bmO G) :: (G, tagsO dg [.ref xa] cnt) :: (dg, dictOf [] 0) :: l' :: led) tk1 (.ref G) (.ref b) (.ref xa) s' ∧ ∀ p ∈ (G, tagsO dg [.ref xa] cnt) :: (dg, dictOf [] 0) :: l' :: led, p.1 ≠ b)) (E := NoE) ?_ (fun f s' hf => ?_) fun _ _ z => z.elim
              · obtain ⟨h3, tk3, m3, e, N3, F3⟩ := S3.names
                rw [e]
                clear e S3 ih
                repeat' kd_p1
                all_goals (rename Fr _ _ _ _ => F9; rename News _ _ _ _ => N9; exact ⟨⟨by first | rfl | trivial, _, ⟨_, _, _, rfl, F9, N9, rfl, rfl, rfl, rfl⟩, by assumption⟩⟩)
              · obtain ⟨rfl, b, S4, ob⟩ := hf.out
                exact ih (r - 1) n' sA _ (by omega) (loop_begun ev S4 m1 m2 m3 oo2 O2 ni hIt2 hn2 hdn2 (by omega) c1 d1 hLI (fun p hp => og p (.tail _ hp)) nd ob)
        · rw [decide_eq_false hz, if_neg Bool.false_ne_true]
          have hh1 : isHead x = false := decide_eq_false hz
          refine seg_execs_cons (seg_plain (over_AG ?ah ?ad ?au) ?_)
          case ah => exact hh
          case ad => first | exact over_func_d hd | exact over_for_d hd
          case au => first | exact over_func_u hu | exact over_for_u hu
          cases cur with
          | none =>
            obtain ⟨g1, fa, ga, hno, hfn⟩ := hcur
            have : gv = .none := Option.some.inj (mg1.symm.trans g1)
            subst this
            have : av = .ref fa := Option.some.inj (ma1.symm.trans ga)
            subst this
            rw [grp_step_none, if_neg (by rw [hh1]; exact Bool.false_ne_true)] at hn hdn
            refine wpAny_mono (Q := fun f s' => Hold (f = .next ∧ St g2 Lg s₁ ((It, oI') :: (334, tabObj ps1) :: (obj1 ++ oth1)) tk1 .none (.ref fa) (.ref xa) s')) (E := NoE) ?_ (fun f s' hf => ?_) fun _ _ z => z.elim
            · obtain ⟨h3, tk3, m3, e, N3, F3⟩ := S1.names
              rw [e]
              clear e S1 ih
              repeat' kd_p1
              all_goals (rename Fr _ _ _ _ => F9; rename News _ _ _ _ => N9; exact ⟨⟨by first | rfl | trivial, _, _, _, rfl, F9, N9, rfl, rfl, rfl, rfl⟩⟩)
            · obtain ⟨rfl, S3⟩ := hf.out
              obtain ⟨h3, t3, m3, rfl, F3, N3, q1, q2, q3⟩ := S3.led
              exact ih (r - 1) n s₁ _ (by omega) ⟨k + 1, none, m3, oI', ps1, oth1, obj1, tk1, h3, t3, rfl, by omega, hn, ⟨dn, hdn⟩, F3, N3, c1, d1, hLI, hIt, oo1, ni, O1, q1, ⟨q2, fa, q3, hno, hfn⟩, fun _ e => nomatch e⟩
          | some grp =>
            obtain ⟨G0, dg0, b0, cnt0, g1, g2', eo, ooG, nb, nd, fG, fd⟩ := hcur
            subst eo
            have : gv = .ref G0 := Option.some.inj (mg1.symm.trans g1)
            subst this
            have : av = .ref b0 := Option.some.inj (ma1.symm.trans g2')
            subst this
            rw [grp_step_some, if_neg (by rw [hh1]; exact Bool.false_ne_true)] at hn hdn
            have hlk' := hlk grp rfl
            have U0 : UpdF G0 (tagsO dg0 (grp.map (·.1)) cnt0) ((It, oI') :: (334, tabObj ps1) :: (b0, bmO G0) :: (G0, tagsO dg0 (grp.map (·.1)) cnt0) :: (dg0, dictOf [] 0) :: oth1) (fun o' => (It, oI') :: (334, tabObj ps1) :: (b0, bmO G0) :: (G0, o') :: (dg0, dictOf [] 0) :: oth1) :=
              .tail (oo1 (G0, _) (.tail _ (.head _)) It (.head _)).symm (.tail (oo1 (G0, _) (.tail _ (.head _)) 334 (.tail _ (.head _))).symm (.tail nb (.head fun p hp => by
                rcases List.mem_cons.mp hp with rfl | hp
                · exact nd
                · exact ooG p hp G0 (.head _))))
            refine wpAny_mono (Q := fun f s' => Hold (f = .next ∧ ∃ n', St g2 Lg s₁ ((It, oI') :: (334, tabObj ps1) :: (b0, bmO G0) :: (G0, tagsO dg0 (grp.map (·.1) ++ [.ref xa]) n') :: (dg0, dictOf [] 0) :: oth1) tk1 (.ref G0) (.ref b0) (.ref xa) s')) (E := NoE) ?_ (fun f s' hf => ?_) fun _ _ z => z.elim
            · obtain ⟨h3, tk3, m3, e, N3, F3⟩ := S1.names
              rw [e]
              clear e S1 ih
              simp only [List.cons_append, List.nil_append] at N3
              repeat' kd_p1
              all_goals first | exact CallAt.of_bm N3 (.tail _ (.tail _ (.head _))) | (rename Fr _ _ _ _ => F9; rename News _ _ _ _ => N9; exact ⟨⟨by first | rfl | trivial, _, _, _, _, rfl, F9, N9, rfl, rfl, rfl, rfl⟩⟩)
            · obtain ⟨rfl, n', S3⟩ := hf.out
              obtain ⟨h3, t3, m3, rfl, F3, N3, q1, q2, q3⟩ := S3.led
              have ex : (grp ++ [x]).map (·.1) = grp.map (·.1) ++ [Value.ref xa] := by rw [List.map_append, List.map_cons, ev]; rfl
              exact ih (r - 1) n s₁ _ (by omega) ⟨k + 1, some (grp ++ [x]), m3, oI', ps1, oth1, [(b0, bmO G0), (G0, tagsO dg0 ((grp ++ [x]).map (·.1)) n'), (dg0, dictOf [] 0)], tk1, h3, t3, rfl, by omega, hn, ⟨dn, hdn⟩, F3, by rw [ex]; exact N3, c1, d1, hLI, hIt,
                (fun p hp q hq => by
                  rcases List.mem_append.mp hp with hp | hp
                  · rcases List.mem_cons.mp hp with rfl | hp
                    · exact oo1 (b0, _) (.head _) q hq
                    · rcases List.mem_cons.mp hp with rfl | hp
                      · exact oo1 (G0, _) (.tail _ (.head _)) q hq
                      · rw [List.mem_singleton.mp hp]; exact oo1 (dg0, _) (.tail _ (.tail _ (.head _))) q hq
                  · exact oo1 p (List.mem_append_right _ hp) q hq), ni, O1, q1, ⟨G0, dg0, b0, n', q2, q3, rfl, ooG, nb, nd, fG, fd⟩, fun g e => by cases e; rw [List.length_append]; exact Nat.succ_le_succ hlk'⟩
    · have hke : k = items.length := by omega
      have hdr : items.drop k = [] := List.drop_eq_nil_of_le hk
      rw [hdr] at hn hdn
      refine list_next_end rfl hit0 hl0 (by rw [List.getElem?_toArray, List.getElem?_map, List.getElem?_eq_none hk]; rfl) fun h' hi' hx => ?_
      obtain ⟨oI', e1', c1⟩ := hi'
      have F1 : Fr g2 Lg h' m := ⟨F.ns.extBut hx nL.symm, fun b o e => hx b o (fun q => by rw [q, (N _ (.head _)).2.2] at e; cases e) (F.keep b o e), F.above⟩
      have N1 : News g2 Lg h' ((It, oI') :: (334, tabObj ps1) :: (obj1 ++ oth1)) := fun p hp => by
        rcases List.mem_cons.mp hp with rfl | hp
        · exact ⟨e1', (N _ (.head _)).2⟩
        · have ne : p.1 ≠ It := by
            rcases List.mem_cons.mp hp with rfl | hp
            · exact ni.symm
            · exact oo1 p hp It (.head _)
          exact ⟨hx _ _ ne (N _ (.tail _ hp)).1, (N _ (.tail _ hp)).2⟩
      clear N F e1' hx hl0 hit0 ih
      dsimp only
      refine seg_leaf (.ok .next) ?_
      dsimp only
      show Seg _ _ _ _ _ _ _ ((execs _ _).wrap _ _ _ _) _ _
      refine seg_execs_cons (seg_if_yield (gy_mono _ _ _) (GP g2 Lg) (over_AG ?ah ?ad ?au) rfl rfl rfl ?ts9 ?tl9)
      case ah => exact hh
      case ad => first | exact over_func_d hd | exact over_for_d hd
      case au => first | exact over_func_u hu | exact over_for_u hu
      case ts9 =>
        cases cur with
        | none =>
          obtain ⟨g1, fa, ga, hno, hfn⟩ := hcur
          have F2 := fr_name F1 "group" g1
          refine wpAny_mono (Q := fun b s' => Hold (b = false ∧ ∃ h3 t3 m3, s' = { s₁ with heap := h3, toks := t3 } ∧ Fr g2 Lg h3 m3 ∧ News g2 Lg h3 ((It, oI') :: (334, tabObj ps1) :: (obj1 ++ oth1)))) (E := NoE) ?_ (fun b s' hb => ?_) fun _ _ z => z.elim
          · clear F1
            repeat' kd_p1
            all_goals (rename Fr _ _ _ _ => F9; rename News _ _ _ _ => N9; exact ⟨⟨by first | rfl | trivial, _, _, _, rfl, F9, N9⟩⟩)
          · obtain ⟨rfl, h3, t3, m3, rfl, F3, N3⟩ := hb.out
            exact .inl ⟨rfl, hn, It, ps1, hLI, (N3 _ (.head _)).2.2, hIt, (N3 _ (.tail _ (.head _))).1, keepG_of F3 (fun p hp => N3 p (.tail _ (.tail _ (List.mem_append_right _ hp)))) O1, rfl⟩
        | some grp =>
          obtain ⟨G0, dg0, b0, cnt0, g1, g2', eo, ooG, nb, nd, fG, fd⟩ := hcur
          subst eo
          have F2 := fr_name F1 "group" g1
          refine wpAny_mono (Q := fun b s' => Hold (b = true ∧ ∃ (h3 : Heap) (t3 : Nat) (m3 : Str → Option Value), s' = { s₁ with heap := h3, toks := t3 } ∧ Fr g2 Lg h3 (fun y => if y = "group" then some (.ref G0) else m3 y) ∧ News g2 Lg h3 ((It, oI') :: (334, tabObj ps1) :: ([(b0, bmO G0), (G0, tagsO dg0 (grp.map (·.1)) cnt0), (dg0, dictOf [] 0)] ++ oth1)))) (E := NoE) ?_ (fun b s' hb => ?_) fun _ _ z => z.elim
          · clear F1
            repeat' kd_p1
            all_goals (rename Fr _ _ _ _ => F9; rename News _ _ _ _ => N9; exact ⟨⟨by first | rfl | trivial, _, _, _, rfl, F9, N9⟩⟩)
          · obtain ⟨rfl, h3, t3, m3, rfl, F3, N3⟩ := hb.out
            refine .inr ⟨rfl, _, hn, ?_⟩
            refine wpAny_mono (Q := fun v s' => Hold (v = .ref G0 ∧ ∃ h4 t4 m4, s' = { s₁ with heap := h4, toks := t4 } ∧ Fr g2 Lg h4 m4 ∧ News g2 Lg h4 ((It, oI') :: (334, tabObj ps1) :: ([(b0, bmO G0), (G0, tagsO dg0 (grp.map (·.1)) cnt0), (dg0, dictOf [] 0)] ++ oth1)))) (E := NoE) ?_ (fun v s' hv => ?_) fun _ _ z => z.elim
            · clear F1 N1 F2 hb
              repeat' kd_p1
              all_goals (rename Fr _ _ _ _ => F9; rename News _ _ _ _ => N9; exact ⟨⟨by first | rfl | trivial, _, _, _, rfl, F9, N9⟩⟩)
            · obtain ⟨rfl, h5, t5, m5, rfl, F5, N5⟩ := hv.out
              exact gy_intro hdn rfl F5 N5 (.head _) (.tail _ (.head _)) (.tail _ (.tail _ (.tail _ (.head _)))) (.tail _ (.tail _ (.tail _ (.tail _ (.head _))))) (fun p hp => .tail _ (.tail _ (List.mem_append_right _ hp))) c1 hLI hIt O1 fG fd rfl fun s3 F6 N6 => ⟨rfl, rfl, It, ps1, hLI, (N6 _ (.head _)).2.2, (fun o e => by
                have := (N6 _ (.head _)).1
                dsimp only at this
                rw [e] at this
                cases this; exact c1), (N6 _ (.tail _ (.head _))).1, fun _ _ _ _ _ e => e, rfl⟩
      case tl9 =>
        intro n' sA s' hm
        exact seg_end (.ok (.ret .none)) ⟨rfl, hm⟩
end
end Mine
namespace Mine
section
open PySem PySem.W PyProof.Rows PySem.Calls
theorem rstP9 {M : Model} {A : Around} {env : Env} {Q : Flow → Shared → Prop} {E : Value → Shared → Prop} {s : Shared} (h : wpAny M A (execs [] env) Q E s) : wpAny M A (execs [] env) Q E s := by
  w_top off
  (try (walk1; fail))
  exact h
def NsO (o : Obj) (m : Str → Option Value) : Prop := ∀ (h : Heap) (a : Addr), h.get? a = some o → h.Ns a m
theorem ns_obj {h : Heap} {a : Addr} {m : Str → Option Value} (H : h.Ns a m) : ∃ o, h.get? a = some o ∧ NsO o m := by
  obtain ⟨o, es, ep, ho, hr⟩ := H
  exact ⟨o, ho, fun h' b e => ⟨o, es, ep, e, hr⟩⟩
abbrev NoE9 : Value → Shared → Prop := fun _ _ => False
abbrev cenvOf (scope : Scope) (C : Addr) (env : Env) : Env := { newEnv scope C env.globals [] env.qual none .none (some env) builtinsNs with scope := scope }
section
variable {prog : Program} {w : World} {A : Around} {E : Value → Shared → Prop} {g : Heap} {L : Addr} {m : Str → Option Value}
theorem news_upd {h h' : Heap} {D : Addr} {o o' : Obj} {pre post : List (Addr × Obj)} (N : News g L h (pre ++ (D, o) :: post)) (h1 : ∀ p ∈ pre, p.1 ≠ D) (h2 : ∀ p ∈ post, p.1 ≠ D) (hs : Heap.SameBut D h h') (ho : h'.get? D = some o') : News g L h' (pre ++ (D, o') :: post) := news_set N h1 h2 hs ho
theorem compLoop_any {R : Result → Shared → Prop} {s : Shared} {elt target iter : Expr} {scope : Scope} {pos : Pos} {it acc : Value} {env : Env} (I : Nat → Shared → Prop)
    (turn : ∀ n s, I n s → wpAny (model prog w) A (pyNext it) (fun r s₁ => match r with
      | none => R (.ok .next) s₁
      | some v => wpAny (model prog w) A (letOwnedTupleGo target it v) (fun _ s₁' => wpAny (model prog w) A (assign target env v) (fun _ s₂ => wpAny (model prog w) A (eval elt env) (fun x s₃ =>
          wpAny (model prog w) A (call (.builtin "list.append") [acc, x]) (fun _ s₄ => ∃ m, m < n ∧ I m s₄) NoE9 s₃) NoE9 s₂) NoE9 s₁') NoE9 s₁) NoE9 s)
    (n : Nat) (h : I n s) : codeAny (model prog w) A (.compLoop (.ListComp elt [⟨target, iter, [], 0⟩] scope pos) 0 it acc env) R s := by
  refine codeAny_loop rfl I (fun n s hI => ?_) n h
  show wpAny _ _ ((compTurn (.ListComp elt [⟨target, iter, [], 0⟩] scope pos) 0 it acc env).onRaise (fun x => do noteFrame x env; theTreesLotGoes x)) _ _ s
  refine wpAny_onRaise ?_
  rw [compTurn_list1]
  refine wpAny_bind (wpAny_standAt (wpAny_bind (wpAny_mono (turn n s hI) (fun r s₁ h₁ => ?_) fun _ _ z => z.elim)))
  cases r with
  | none => exact wpAny_pure h₁
  | some v =>
    refine wpAny_bind (wpAny_mono h₁ (fun _ s₁' h₁' => ?_) fun _ _ z => z.elim)
    exact wpAny_bind (wpAny_mono h₁' (fun _ s₂ h₂ => wpAny_bind (wpAny_bind (wpAny_mono h₂ (fun x s₃ h₃ => wpAny_bind (wpAny_mono h₃
      (fun _ s₄ h₄ => wpAny_pure (wpAny_pure ⟨rfl, h₄⟩)) fun _ _ z => z.elim)) fun _ _ z => z.elim))) fun _ _ z => z.elim)
theorem comp_gen {s : Shared} {Q : Value → Shared → Prop} {elt target iter : Expr} {scope : Scope} {pos : Pos} {env : Env} {r : Addr} {kr : Nat} {items : List Value} {news : List (Addr × Obj)}
    (hh : A.handled = none) (F : Fr g L s.heap m) (N : News g L s.heap news) (hr : (r, W.listOf items.toArray kr) ∈ news) (hlen : items.length ≤ 1000)
    (hcell : ∀ x ∈ scope.names, x.2 ≠ .cell) (hk : scope.kind = .function) (ht : ∀ (It : Addr) (i : Nat) (v : Value) (s : Shared) (Q : Unit → Shared → Prop), items[i]? = some v → s.heap.IsListIter It r (i + 1) → Q () s → wpAny (model prog w) A (letOwnedTupleGo target (.ref It) v) Q NoE9 s)
    (St : Nat → List Value → List (Addr × Obj) → Prop) (h0 : St 0 [] [])
    (step : ∀ i v acc ex C It D n oC mC oI h tk, items[i]? = some v → St i acc ex → acc.length = i → OwnOff (ex ++ news) [C, It, D] → @Ne Nat C It → @Ne Nat C D → @Ne Nat It D → NsO oC mC → Fr g L h m →
      News g L h ((C, oC) :: (It, oI) :: (D, W.listOf acc.toArray n) :: (ex ++ news)) →
      wpAny (model prog w) A (assign target (cenvOf scope C env) v) (fun _ s₂ => wpAny (model prog w) A (eval elt (cenvOf scope C env)) (fun y s₃ => ∃ h' tk' oC' mC' ex', s₃ = { s with heap := h', toks := tk' } ∧ NsO oC' mC' ∧ Fr g L h' m ∧
        News g L h' ((C, oC') :: (It, oI) :: (D, W.listOf acc.toArray n) :: (ex' ++ news)) ∧ OwnOff ex' [C, It, D] ∧ St (i + 1) (acc ++ [y]) ex') NoE9 s₂) NoE9 { s with heap := h, toks := tk })
    (done : ∀ h' tk D n acc ex, St items.length acc ex → acc.length = items.length → Fr g L h' m → News g L h' ((D, W.listOf acc.toArray n) :: (ex ++ news)) → OwnOff (ex ++ news) [D] → Q (.ref D) { s with heap := h', toks := tk }) :
    wpAny (model prog w) A (pyIter (.ref r)) (fun it s₂ => wpAny (model prog w) A (newList []) (fun acc s₃ =>
      wpAny (model prog w) A (newFunctionEnv scope env.globals [] [] env.qual none .none (some env)) (fun cenv s₄ =>
        codeAny (model prog w) A (.compStart (.ListComp elt [⟨target, iter, [], 0⟩] scope pos) 0 it acc { cenv with scope := scope })
          (fun r s' => ∃ m, s'.heap.Ns cenv.locals m ∧ ∀ h', Heap.SameBut cenv.locals s'.heap h' →
            match r with | .ok _ => Q acc { s' with heap := h' } | .error x => wpAny (model prog w) A (passOn "comprehension.variables-let-go" x { cenv with scope := scope }) Q E { s' with heap := h' }) s₄) E s₃) E s₂) E s := by
  have hl : s.heap.IsList r items.toArray := ⟨_, (N _ hr).1, rfl, kr, rfl⟩
  refine wpAny_pyIter_list hl ?_
  have F1 := F.push { cls := .type "list_iterator", data := .fields #[.ref r, .int 0 0] }
  have N1 := N.push F { cls := .type "list_iterator", data := .fields #[.ref r, .int 0 0] }
  have lt1 : ∀ p ∈ news, p.1 < s.heap.objs.size := fun p hp => Heap.lt_size (N p hp).1
  generalize hI : s.heap.objs.size = It at *
  generalize hh1 : s.heap.push _ = h1 at *
  refine newList_N (s := { s with heap := h1 }) F1 N1 fun h2 F2 N2 => ?_
  have lt2 : ∀ p ∈ (It, _) :: news, p.1 < h1.objs.size := fun p hp => Heap.lt_size (N1 p hp).1
  generalize hD : h1.objs.size = D at *
  refine wpAny_newFunctionEnv hcell (fun _ h => nomatch h) (fun h3 hns hsb => ?_) hk
  have lt3 : ∀ p ∈ (D, _) :: (It, _) :: news, p.1 < h2.objs.size := fun p hp => Heap.lt_size (N2 p hp).1
  have k3 : Keeps h2 h3 := fun b o e => hsb.extBut b o (Nat.ne_of_lt (Heap.lt_size e)) (Heap.get?_push_of_some _ e)
  have hLs : L < h2.objs.size := F2.ns.lt
  obtain ⟨oC, hC, nC⟩ := ns_obj hns
  have F3 := fr_keep F2 k3
  have gC : g.get? h2.objs.size = none := Heap.get?_none_of_le (Nat.le_trans F2.above (Nat.le_of_lt hLs))
  have N3 : News g L h3 ((h2.objs.size, oC) :: (D, W.listOf ([] : List Value).toArray 0) :: (It, { cls := .type "list_iterator", data := .fields #[.ref r, .int 0 0] }) :: news) := fun p hp => by
    rcases List.mem_cons.mp hp with rfl | hp
    · exact ⟨hC, Nat.ne_of_gt hLs, gC⟩
    · exact news_keep N2 k3 p hp
  generalize hCe : h2.objs.size = C at *
  have dI : @Ne Nat C It := (Nat.ne_of_lt (lt3 _ (.tail _ (.head _)))).symm
  have dD : @Ne Nat C D := (Nat.ne_of_lt (lt3 _ (.head _))).symm
  have dE : @Ne Nat It D := Nat.ne_of_lt (lt2 _ (.head _))
  have oo : OwnOff news [C, It, D] := fun p hp b hb => by
    rcases List.mem_cons.mp hb with rfl | hb
    · exact Nat.ne_of_lt (lt3 _ (.tail _ (.tail _ hp)))
    · rcases List.mem_cons.mp hb with rfl | hb
      · exact Nat.ne_of_lt (lt1 _ hp)
      · rw [List.mem_singleton.mp hb]; exact Nat.ne_of_lt (lt2 _ (.tail _ hp))
  have hit : h3.IsListIter It r 0 := ⟨_, (N3 _ (.tail _ (.tail _ (.head _)))).1, rfl, rfl⟩
  suffices main : codeAny (model prog w) A (.compLoop (.ListComp elt [⟨target, iter, [], 0⟩] scope pos) 0 (.ref It) (.ref D) (cenvOf scope C env)) _ _ from codeAny_compStart_list main (wpAny_pyIter_listiter hit main)
  refine compLoop_any (fun k s' => ∃ i acc ex oC mC oI n h tk, s' = { s with heap := h, toks := tk } ∧ i + k = items.length ∧ St i acc ex ∧ acc.length = i ∧ OwnOff (ex ++ news) [C, It, D] ∧ NsO oC mC ∧ Fr g L h m ∧ oI.cls = .type "list_iterator" ∧ oI.data = .fields #[.ref r, .int i 0] ∧
    News g L h ((C, oC) :: (It, oI) :: (D, W.listOf acc.toArray n) :: (ex ++ news))) ?_ items.length ⟨0, [], [], oC, _, { cls := .type "list_iterator", data := .fields #[.ref r, .int 0 0] }, 0, h3, _, rfl, by omega, h0, rfl, oo, nC, F3, rfl, rfl, fun p hp => N3 p ?_⟩
  · rintro k s' ⟨i, acc, ex, oC', mC', oI, n, h, tk, rfl, hik, hst, hal, hoo, hns', F', c1, c2, N'⟩
    have hit' : h.IsListIter It r i := ⟨oI, (N' _ (.tail _ (.head _))).1, c1, c2⟩
    have hl' : h.IsList r items.toArray := ⟨_, (N' _ (.tail _ (.tail _ (.tail _ (List.mem_append_right _ hr))))).1, rfl, kr, rfl⟩
    have nI := N' _ (.tail _ (.head _))
    rcases Nat.lt_or_ge i items.length with hi | hi
    · have hx := List.getElem?_eq_getElem hi
      generalize items[i] = v at hx
      refine wpAny_pyNext_list_item hit' hl' (x := v) (by rw [List.getElem?_toArray]; exact hx) fun h' hi' hsb' => ?_
      obtain ⟨oI', e1, c1', c2'⟩ := id hi'
      have F1 := F'.change hsb' nI.2.1 nI.2.2
      have N1' : News g L h' ((C, oC') :: (It, oI') :: (D, W.listOf acc.toArray n) :: (ex ++ news)) := news_upd (pre := [(C, oC')]) N' (fun p hp => by rw [List.mem_singleton.mp hp]; exact dI) (fun p hp => by
        rcases List.mem_cons.mp hp with rfl | hp
        · exact dE.symm
        · exact hoo p hp It (.tail _ (.head _))) hsb' e1
      refine ht It i v _ _ hx hi' ?_
      refine wpAny_mono (step i v acc ex C It D n oC' mC' oI' h' tk hx hst hal hoo dI dD dE hns' F1 N1') (fun _ s₂ h₂ => ?_) fun _ _ z => z.elim
      refine wpAny_mono h₂ (fun y s₃ h₃ => ?_) fun _ _ z => z.elim
      obtain ⟨h4, tk4, oC4, mC4, ex4, rfl, n4, F4, N4, o4, st4⟩ := h₃
      have oo4 : OwnOff (ex4 ++ news) [C, It, D] := fun p hp b hb => (List.mem_append.mp hp).elim (fun q => o4 p q b hb) fun q => hoo p (List.mem_append_right _ q) b hb
      have hDm := N4 (D, W.listOf acc.toArray n) (.tail _ (.tail _ (.head _)))
      refine append_at (hsz := by rw [List.size_toArray]; have : sizeLine = 16777216 := rfl; omega) hDm.1 fun h5 hs5 ho5 => ⟨k - 1, by omega, i + 1, acc ++ [y], ex4, oC4, mC4, oI', n + 1, h5, tk4, rfl, by omega, st4, by rw [List.length_append]; show acc.length + 1 = _; rw [hal], oo4, n4, F4.change hs5 hDm.2.1 hDm.2.2, c1', c2', ?_⟩
      have := news_upd (pre := [(C, oC4), (It, oI')]) N4 (fun p hp => by
        rcases List.mem_cons.mp hp with rfl | hp
        · exact dD
        · rw [List.mem_singleton.mp hp]; exact dE) (fun p hp => oo4 p hp D (.tail _ (.tail _ (.head _)))) hs5 ho5
      rw [List.push_toArray] at this
      exact this
    · have hie : i = items.length := by omega
      subst hie
      refine wpAny_mono (E := NoE9) (Q := fun r s' => r = none ∧ ∃ h', s' = { s with heap := h', toks := tk } ∧ Heap.ExtBut It h h') (wpAny_pyNext_list_end hh hit' hl' (by rw [List.getElem?_toArray, List.getElem?_eq_none (Nat.le_refl _)]) fun h' hx => ⟨rfl, h', rfl, hx⟩) (fun r s' hr' => ?_) fun _ _ z => z
      obtain ⟨rfl, h', rfl, hx⟩ := hr'
      have keep : ∀ p ∈ (C, oC') :: (D, W.listOf acc.toArray n) :: (ex ++ news), h'.get? p.1 = some p.2 := fun p hp => by
        rcases List.mem_cons.mp hp with rfl | hp
        · exact hx _ _ dI (N' _ (.head _)).1
        · rcases List.mem_cons.mp hp with rfl | hp
          · exact hx _ _ dE.symm (N' _ (.tail _ (.tail _ (.head _)))).1
          · exact hx _ _ (hoo p hp It (.tail _ (.head _))) (N' _ (.tail _ (.tail _ (.tail _ hp)))).1
      have F1 : Fr g L h' m := ⟨F'.ns.extBut hx nI.2.1.symm, fun b o e => hx b o (fun q => by rw [q, nI.2.2] at e; cases e) (F'.keep b o e), F'.above⟩
      have nCC := N' (C, oC') (.head _)
      refine ⟨mC', hns' _ _ (keep _ (.head _)), fun h6 hs6 => ?_⟩
      refine done h6 tk D n acc ex hst hal (F1.change hs6 nCC.2.1 nCC.2.2) (fun p hp => ?_) (fun p hp b hb => by rw [List.mem_singleton.mp hb]; exact hoo p hp D (.tail _ (.tail _ (.head _))))
      rcases List.mem_cons.mp hp with rfl | hp
      · exact ⟨(hs6.2 _ dD.symm).trans (keep _ (.tail _ (.head _))), (N' _ (.tail _ (.tail _ (.head _)))).2⟩
      · exact ⟨(hs6.2 _ (hoo p hp C (.head _))).trans (keep _ (.tail _ (.tail _ hp))), (N' _ (.tail _ (.tail _ (.tail _ hp)))).2⟩
  · simp only [List.nil_append, List.mem_cons] at hp ⊢
    rcases hp with h | h | h | h
    · exact .inl h
    · exact .inr (.inr (.inl h))
    · exact .inr (.inl h)
    · exact .inr (.inr (.inr h))
end
end
end Mine
namespace Mine
section
open PySem PySem.W PyProof.Rows PySem.Calls
theorem rstP10 {M : Model} {A : Around} {env : Env} {Q : Flow → Shared → Prop} {E : Value → Shared → Prop} {s : Shared} (h : wpAny M A (execs [] env) Q E s) : wpAny M A (execs [] env) Q E s := by
  w_top off
  (try (walk1; fail))
  exact h
structure Seal (P : Prop) : Prop where
  out : P
section
variable {M : Model} {A : Around} {E : Value → Shared → Prop} {s : Shared} {g : Heap} {L C : Addr} {m mC : Str → Option Value} {news : List (Addr × Obj)} {scope : Scope} {env : Env} {oC : Obj} {x : Str} {v : Value} {pos : Pos}
theorem nameC_L {Q : Value → Shared → Prop} (N : News g L s.heap news) (hm : (C, oC) ∈ news) (hn : NsO oC mC) (hk : scope.kind = .function) (hl : (cenvOf scope C env).kindOf x = some .local) (hv : mC x = some v) (hd : (x == ("__debug__" : Str)) = false) (h : Q v s) :
    wpAny M A (eval (.Name x pos) (cenvOf scope C env)) Q E s := wpAny_Name (wpAny_loadName_local hk hl (hn _ _ (N _ hm).1) hv h) hd
theorem nameC_G {K : Frag} {mg mb : Str → Option Value} {p : Program} {loose : List Str} {Q : Value → Shared → Prop} (F : Fr g L s.heap m) (X : K.In g) (T : TopRead p loose mg mb g) (e : nsIn K mainGlobals x = some (some v)) (hg : env.globals = mainGlobals) (hk : scope.kind = .function)
    (hx : (cenvOf scope C env).kindOf x = some .globalImplicit) (hd : (x == ("__debug__" : Str)) = false) (h : Q v s) : wpAny M A (eval (.Name x pos) (cenvOf scope C env)) Q E s := nameG_K F X T e h hg hk hx hd
theorem storeC {Q : Unit → Shared → Prop} {rest : List (Addr × Obj)} (F : Fr g L s.heap m) (N : News g L s.heap ((C, oC) :: rest)) (hn : NsO oC mC) (ho : ∀ p ∈ rest, p.1 ≠ C) (hk : scope.kind = .function) (hl : (cenvOf scope C env).kindOf x = some .local)
    (h : ∀ oC' h', NsO oC' (fun y => if y = x then some v else mC y) → Fr g L h' m → News g L h' ((C, oC') :: rest) → Q () { s with heap := h', toks := s.toks + 1 }) : wpAny M A (storeName (cenvOf scope C env) x v) Q E s := by
  refine wpAny_storeName_local hl (hn _ _ (N _ (.head _)).1) (fun h' hn' hs => ?_) (by show (scope.kind == .class || (scope.kind == .module && _)) = false; rw [hk]; rfl)
  obtain ⟨oC', ho', hn2⟩ := ns_obj hn'
  have hC := N _ (.head _)
  exact h oC' h' hn2 (F.change hs hC.2.1 hC.2.2) (news_set (pre := []) N (fun _ h => nomatch h) ho hs ho')
end
theorem kGlob {K : Frag} {x : Str} {v : Value} (e : nsIn K mainGlobals x = some (some v)) : nsIn K mainGlobals x = some (some v) := e
local macro_rules | `(tactic| kd_p1) => `(tactic| (first | (k_unfold; (try dsimp only)) | (k_end; wrow_close) | walk1 | (dsimp only; walk1) | (leave1; walk_say "STEP leave1"; try dsimp only) | fail "no step"))
local macro_rules | `(tactic| walk_at "eval Name") => `(tactic| (k_here; k_dflt (first
 | (refine' nameC_L ?N ?m ?n ?k ?l ?v ?d ?_; (case N => k_asm); (case n => assumption); (case m => k_mem); (case k => assumption); (case l => assumption); (case v => rfl); (case d => decide); k_whole)
 | (refine' nameC_G ?F ?X ?T ?e ?gl ?k ?x ?d ?_; (case F => k_asm); (case X => k_asm); (case T => k_asm); (case e => k_is); (case gl => rfl); (case k => assumption); (case x => assumption); (case d => decide); k_whole))))
theorem mk_tagX {w : World} {A : Around} {g : Heap} {L : Addr} {m : Str → Option Value} {news : List (Addr × Obj)} {s : Shared} {E : Value → Shared → Prop} {Q : Value → Shared → Prop} {c : Int} {z : Str} {a b : Tok}
    (X : (hd.heap_39 w.params).In g) (F : Fr g L s.heap m) (N : News g L s.heap news) (hh : A.handled = none) (hA : A.depth ≤ 400) (hu : A.units ≤ 400)
    (h : ∀ (x dx fr : Addr) (o : Obj) (h' : Heap) (tk : Nat), Fr g L h' m → News g L h' ((fr, o) :: (x, tagO dx (c, z) a b) :: (dx, dictOf [] 0) :: news) → OwnOff news [fr, x, dx] → Q (.ref x) { s with heap := h', toks := tk }) :
    wpAny (model PySem.Challenge.rw_fy0012_01.row.prog w) A (call (.ref 149) [.int c a, .str z b]) Q E s := mk_tag (t := (c, z)) X F N hh (by omega) (by omega) h
local macro_rules | `(tactic| walk_at "call ref") => `(tactic| (k_here; (with_reducible show wpAny _ _ (call (Value.ref 149) [Value.int _ _, Value.str _ _]) _ _ _); k_dflt ((refine' mk_tagX ?X ?F ?N ?hh ?hd ?hu ?_); (case X => k_asm); (case F => k_asm); (case N => k_asm); (case hh => assumption); (case hd => assumption); (case hu => assumption); k_whole; intro x' dx' fr' o' h' tk' F' N' oo'; (try k_sweep))))
/-- a tag among the objects of a ledger -/
def TagL (S : List (Addr × Obj)) (v : Value) (t : Tg) : Prop := ∃ x dx a b, v = .ref x ∧ (x, tagO dx t a b) ∈ S ∧ (dx, dictOf [] 0) ∈ S
theorem TagL.mono {S S' : List (Addr × Obj)} (k : ∀ p ∈ S, p ∈ S') {v : Value} {t : Tg} (h : TagL S v t) : TagL S' v t := let ⟨x, dx, a, b, e, q, r⟩ := h; ⟨x, dx, a, b, e, k _ q, k _ r⟩
set_option maxHeartbeats 4000000 in
theorem comp_tags {w : World} {A : Around} {E : Value → Shared → Prop} {g : Heap} {L fa : Addr} {cd : Value} {nm : Str} {nms gen co mr} {m : Str → Option Value} {s : Shared} {Q : Value → Shared → Prop} {scope : Scope} {pos p1 p2 p3 q1 q2 q3 q4 : Pos} {n1 : Nat} {iter : Expr} {r : Addr} {kr : Nat} {rvs : List Value} {tags : List Tg} {news : List (Addr × Obj)} {p : Program} {loose mean mg mb}
    (hh : A.handled = none) (hA : A.depth ≤ 400) (hu : A.units ≤ 400) (X : (hd.heap_39 w.params).In g) (T : Top p loose mean mg mb g) (F : Fr g L s.heap m) (N : News g L s.heap news) (hr : (r, W.listOf rvs.toArray kr) ∈ news) (hrows : RowsIn news rvs tags) (hlen : tags.length ≤ 57)
    (hcell : ∀ x ∈ scope.names, x.2 ≠ .cell) (hk : scope.kind = .function)
    (hkc : ∀ C, (cenvOf scope C (envOf nm (scF nms gen co mr) L fa cd)).kindOf "code" = some .local) (hkv : ∀ C, (cenvOf scope C (envOf nm (scF nms gen co mr) L fa cd)).kindOf "value" = some .local) (hkd : ∀ C, (cenvOf scope C (envOf nm (scF nms gen co mr) L fa cd)).kindOf "DXFTag" = some .globalImplicit)
    (h : ∀ h' tk D n items ex, AllIn (TagL ex) items tags → Fr g L h' m → News g L h' ((D, W.listOf items.toArray n) :: (ex ++ news)) → OwnOff (ex ++ news) [D] → Q (.ref D) { s with heap := h', toks := tk }) :
    wpAny (model PySem.Challenge.rw_fy0012_01.row.prog w) A (pyIter (.ref r)) (fun it s₂ => wpAny (model PySem.Challenge.rw_fy0012_01.row.prog w) A (newList []) (fun acc s₃ =>
      wpAny (model PySem.Challenge.rw_fy0012_01.row.prog w) A (newFunctionEnv scope (envOf nm (scF nms gen co mr) L fa cd).globals [] [] (envOf nm (scF nms gen co mr) L fa cd).qual none .none (some (envOf nm (scF nms gen co mr) L fa cd))) (fun cenv s₄ =>
        codeAny (model PySem.Challenge.rw_fy0012_01.row.prog w) A (.compStart (.ListComp (.Call (.Name "DXFTag" q1) [.Name "code" q2, .Name "value" q3] [] q4) [⟨.Tuple [.Name "code" p1, .Name "value" p2] n1 p3, iter, [], 0⟩] scope pos) 0 it acc { cenv with scope := scope })
          (fun r s' => ∃ m, s'.heap.Ns cenv.locals m ∧ ∀ h', Heap.SameBut cenv.locals s'.heap h' →
            match r with | .ok _ => Q acc { s' with heap := h' } | .error x => wpAny (model PySem.Challenge.rw_fy0012_01.row.prog w) A (passOn "comprehension.variables-let-go" x { cenv with scope := scope }) Q E { s' with heap := h' }) s₄) E s₃) E s₂) E s := by
  refine comp_gen hh F N hr (by rw [hrows.length]; omega) hcell hk ?_ (fun i acc ex => AllIn (TagL ex) acc (tags.take i)) (by rw [List.take_zero]; exact .nil) ?_ ?_
  · intro It i v s1 Q1 hv hit1 hq
    obtain ⟨t, ht, a, x, y, rfl, hmem⟩ := hrows.get hv
    exact wpAny_letOwnedTupleGo_listiter hit1 hq
  · intro i v acc ex C It D n oC mC oI h0 t0 hv hst hal oo d1 d2 d3 hns F1 N1
    obtain ⟨t, ht, a, x, y, rfl, hmem⟩ := hrows.get hv
    have htup : IsTup h0 a #[.int t.1 x, .str t.2 y] := News.isTup N1 (d := none) (n := 0) (sl := #[]) (.tail _ (.tail _ (.tail _ (List.mem_append_right _ hmem))))
    refine unpackN_ F1 N1 htup hh rfl rfl fun h1 F2 N2 => ?_
    have ho : ∀ p ∈ (It, oI) :: (D, W.listOf acc.toArray n) :: (ex ++ news), p.1 ≠ C := fun p hp => by
      rcases List.mem_cons.mp hp with rfl | hp
      · exact d1.symm
      · rcases List.mem_cons.mp hp with rfl | hp
        · exact d2.symm
        · exact oo p hp C (.head _)
    have hk1 := hkc C
    have hk2 := hkv C
    have hk3 := hkd C
    refine assignInOrder_cons (wpAny_assign_Name (storeC F2 N2 hns ho hk hk1 fun oC1 h2 hns1 F3 N3 => ?_))
    refine assignInOrder_cons (wpAny_assign_Name (storeC F3 N3 hns1 ho hk hk2 fun oC2 h3 hns2 F4 N4 => ?_))
    refine assignInOrder_nil ?_
    clear F1 F2 F3 N1 N2 N3 F N hns hns1
    refine wpAny_mono (Q := fun yv s' => Seal (∃ fr o tx dx h' tk', yv = .ref tx ∧ s' = { s with heap := h', toks := tk' } ∧ Fr g L h' m ∧ News g L h' ((fr, o) :: (tx, tagO dx t x y) :: (dx, dictOf [] 0) :: (C, oC2) :: (It, oI) :: (D, W.listOf acc.toArray n) :: (ex ++ news)) ∧ OwnOff ((C, oC2) :: (It, oI) :: (D, W.listOf acc.toArray n) :: (ex ++ news)) [fr, tx, dx])) (E := NoE9) ?_ (fun yv s' hz => ?_) fun _ _ z => z
    · repeat' kd_p1
      rename Fr _ _ _ _ => F9
      rename News _ _ _ _ => N9
      exact ⟨_, _, _, _, _, _, rfl, rfl, F9, N9, by assumption⟩
    · obtain ⟨fr, o, tx, dx, h', tk', rfl, rfl, F9, N9, o9⟩ := hz.out
      refine ⟨h', tk', oC2, _, (fr, o) :: (tx, tagO dx t x y) :: (dx, dictOf [] 0) :: ex, rfl, hns2, F9, fun p hp => N9 p ?_, ?_, ?_⟩
      · simp only [List.mem_cons, List.mem_append] at hp ⊢
        rcases hp with h | h | h | (h | h | h | h) | h
        · exact .inr (.inr (.inr (.inl h)))
        · exact .inr (.inr (.inr (.inr (.inl h))))
        · exact .inr (.inr (.inr (.inr (.inr (.inl h)))))
        · exact .inl h
        · exact .inr (.inl h)
        · exact .inr (.inr (.inl h))
        · exact .inr (.inr (.inr (.inr (.inr (.inr (.inl h))))))
        · exact .inr (.inr (.inr (.inr (.inr (.inr (.inr h))))))
      · intro p hp b hb
        have key : ∀ q ∈ [fr, tx, dx], q ≠ b := fun q hq e => by
          subst e
          rcases List.mem_cons.mp hb with e | hb
          · exact o9 (C, oC2) (.head _) q hq e.symm
          · rcases List.mem_cons.mp hb with e | hb
            · exact o9 (It, oI) (.tail _ (.head _)) q hq e.symm
            · exact o9 (D, W.listOf acc.toArray n) (.tail _ (.tail _ (.head _))) q hq (List.mem_singleton.mp hb).symm
        rcases List.mem_cons.mp hp with rfl | hp
        · exact key fr (.head _)
        · rcases List.mem_cons.mp hp with rfl | hp
          · exact key tx (.tail _ (.head _))
          · rcases List.mem_cons.mp hp with rfl | hp
            · exact key dx (.tail _ (.tail _ (.head _)))
            · exact oo p (List.mem_append_left _ hp) b hb
      · rw [List.take_succ, ht]
        refine AllIn.append (hst.mono fun _ _ z => z.mono fun p hp => .tail _ (.tail _ (.tail _ hp))) (.cons ⟨tx, dx, x, y, rfl, .tail _ (.head _), .tail _ (.tail _ (.head _))⟩ .nil)
  · intro h' tk D n acc ex hst hal F1 N1 oo
    rw [hrows.length, List.take_length] at hst
    exact h _ _ _ _ _ _ hst F1 N1 oo
end
end Mine
namespace Mine
section
open PySem PySem.W PyProof.Rows PySem.Calls
theorem rstP11 {M : Model} {A : Around} {env : Env} {Q : Flow → Shared → Prop} {E : Value → Shared → Prop} {s : Shared} (h : wpAny M A (execs [] env) Q E s) : wpAny M A (execs [] env) Q E s := by
  w_top off
  (try (walk1; fail))
  exact h
theorem tup_ne_tab {t : Tg} {a b : Tok} {x : Array Value} : tupO t a b ≠ tabObj x := fun e => by
  have := congrArg Obj.cls e
  simp at this
theorem drawn_law {w : World} {A A₀ : Around} {base h₀ : Heap} {outer : List Env} {L fa : Addr} {cd : Value} {nm : Str} {nms gen co mr} {m : Str → Option Value} {p : Program} {loose mean mg mb} {s : Shared} {E : Value → Shared → Prop} {Q : Value → Shared → Prop}
    {c sc : Addr} {i v : Int} {t1 t2 : Tok} {n : Nat} {ns : List Int} {vs : List Value} {x1 x2 : Array Value}
    (B : Below A₀ base outer h₀) (X : (hd.heap_39 w.params).In h₀) (T : Top p loose mean mg mb h₀) (F : Fr h₀ L s.heap m)
    (N : News h₀ L s.heap [(c, cObj sc i v t1 t2 n), (334, tabObj x1), (342, tabObj x2)]) (hc1 : @Ne Nat 334 c) (hc2 : @Ne Nat 342 c)
    (hl : base.IsList sc vs.toArray) (hi : IntsAre vs ns) (hlen : ¬ ((63 : Nat) : Int) < (ns.length : Int)) (hi0 : 0 ≤ i) (hv0 : 0 ≤ v)
    (hh : A.handled = none) (hf : A.frames = some (envOf nm (scF nms gen co mr) L fa cd :: outer)) (hg : A.guards = some []) (hd : A.depth ≤ 390) (hu : A.units ≤ 290)
    (h : ∀ (r : Addr) (rvs : List Value) (tags : List Tg) (kr n' : Nat) (i' v' : Int) (a b : Tok) (tl : List (Addr × Obj)) (h' : Heap) (tk' : Nat), Fr h₀ L h' m →
      News h₀ L h' ((c, cObj sc i' v' a b n') :: (r, W.listOf rvs.toArray kr) :: (334, tabObj x1) :: (342, tabObj x2) :: tl) → RowsIn tl rvs tags → tags.length ≤ 57 → (∀ t ∈ tags, tagGood t) → 0 ≤ i' → 0 ≤ v' → OwnOff tl [c, r, 334, 342] → @Ne Nat r c → @Ne Nat 334 c → @Ne Nat 334 r → @Ne Nat 342 c → @Ne Nat 342 r → Q (.ref r) { s with heap := h', toks := tk' }) :
    wpAny (model PySem.Challenge.rw_fy0012_01.row.prog w) A (call (.ref 361) [.ref c]) Q E s := by
  refine up_of (A' := (upB outer).deeper (envOf nm (scF nms gen co mr) L fa cd)) (drawn_spec (t1 := t1) (t2 := t2) (n := n) B X T F N (fun q hq b hb => ?_) hl hi hlen hi0 hv0 fun r rvs tags kr n' i' v' a b tl h' tk' F' N' hrows hlen' hgood hi' hv' oc hrc hsub => ?_) hh (by show A.depth ≤ 391; omega) hf hg (by show A.units ≤ 293; omega)
  · rw [List.mem_singleton.mp hb]
    rcases List.mem_cons.mp hq with rfl | hq
    · exact hc1
    · rw [List.mem_singleton.mp hq]; exact hc2
  · have m1 := hsub _ (.head _)
    have m2 := hsub _ (.tail _ (.head _))
    have e1 : @Ne Nat 334 r := oc _ m1 r (.tail _ (.head _))
    have e2 : @Ne Nat 342 r := oc _ m2 r (.tail _ (.head _))
    have mem : ∀ q ∈ tl.filter (fun q => !(Nat.beq q.1 334) && !(Nat.beq q.1 342)), q ∈ tl ∧ q.1 ≠ 334 ∧ q.1 ≠ 342 := fun q hq => by
      obtain ⟨h1, h2⟩ := List.mem_filter.mp hq
      refine ⟨h1, fun e => ?_, fun e => ?_⟩
      · rw [e] at h2; simp at h2
      · rw [e] at h2; simp at h2
    refine h r rvs tags kr n' i' v' a b (tl.filter (fun q => !(Nat.beq q.1 334) && !(Nat.beq q.1 342))) h' tk' F' (fun q hq => ?_) (hrows.mono fun u t ht => ?_) hlen' hgood hi' hv' (fun q hq b hb => ?_) hrc hc1 e1 hc2 e2
    · rcases List.mem_cons.mp hq with rfl | hq
      · exact N' _ (.head _)
      · rcases List.mem_cons.mp hq with rfl | hq
        · exact N' _ (.tail _ (.head _))
        · rcases List.mem_cons.mp hq with rfl | hq
          · exact N' _ (.tail _ (.tail _ m1))
          · rcases List.mem_cons.mp hq with rfl | hq
            · exact N' _ (.tail _ (.tail _ m2))
            · exact N' _ (.tail _ (.tail _ (mem q hq).1))
    · obtain ⟨x, y, z, rfl, hm⟩ := ht
      refine ⟨x, y, z, rfl, List.mem_filter.mpr ⟨hm, ?_⟩⟩
      have n1 : x ≠ 334 := news_ne N' (.tail _ (.tail _ hm)) (.tail _ (.tail _ m1)) tup_ne_tab
      have n2 : x ≠ 342 := news_ne N' (.tail _ (.tail _ hm)) (.tail _ (.tail _ m2)) tup_ne_tab
      have b1 : Nat.beq x 334 = false := by
        cases hb : Nat.beq x 334 with
        | false => rfl
        | true => exact absurd (Nat.eq_of_beq_eq_true hb) n1
      have b2 : Nat.beq x 342 = false := by
        cases hb : Nat.beq x 342 with
        | false => rfl
        | true => exact absurd (Nat.eq_of_beq_eq_true hb) n2
      simp only [b1, b2]; rfl
    · obtain ⟨h1, h2, h3⟩ := mem q hq
      rcases List.mem_cons.mp hb with rfl | hb
      · exact oc q h1 _ (.head _)
      · rcases List.mem_cons.mp hb with rfl | hb
        · exact oc q h1 _ (.tail _ (.head _))
        · rcases List.mem_cons.mp hb with rfl | hb
          · exact h2
          · rw [List.mem_singleton.mp hb]; exact h3
end
end Mine
namespace Mine
section
open PySem PySem.W PyProof.Rows PySem.Calls
theorem rstP13 {M : Model} {A : Around} {env : Env} {Q : Flow → Shared → Prop} {E : Value → Shared → Prop} {s : Shared} (h : wpAny M A (execs [] env) Q E s) : wpAny M A (execs [] env) Q E s := by
  w_top off
  (try (walk1; fail))
  exact h
theorem make_g2 {g h : Heap} {L : Addr} {m : Str → Option Value} {tl : List (Addr × Obj)} {o9 : Obj} (F : Fr g L h m) (N : News g L h tl) (h334 : h.get? 334 = some o9) (g334 : g.get? 334 = none) (o334 : ∀ p ∈ tl, p.1 ≠ 334) :
    ∃ g2 : Heap, Keeps g g2 ∧ Keeps g2 h ∧ g2.objs.size ≤ h.objs.size ∧ g2.get? 334 = none ∧ (∀ p ∈ tl, g2.get? p.1 = some p.2) ∧ ∀ b o, g2.get? b = some o → g.get? b = some o ∨ (b, o) ∈ tl := by
  let hid : List Addr := (List.range h.objs.size).filter fun b => (g.get? b).isNone && tl.all fun q => !(Nat.beq q.1 b)
  have hmem : ∀ b, b ∈ hid → g.get? b = none ∧ ∀ p ∈ tl, p.1 ≠ b := fun b hb => by
    obtain ⟨_, h2⟩ := List.mem_filter.mp hb
    obtain ⟨h3, h4⟩ := Bool.and_eq_true_iff.mp h2
    refine ⟨Option.isNone_iff_eq_none.mp h3, fun p hp e => ?_⟩
    have := List.all_eq_true.mp h4 p hp
    rw [e, Nat.beq_refl] at this
    cases this
  have hin : ∀ b o, h.get? b = some o → g.get? b = none → (∀ p ∈ tl, p.1 ≠ b) → b ∈ hid := fun b o e1 e2 e3 => by
    refine List.mem_filter.mpr ⟨List.mem_range.mpr (Heap.lt_size e1), ?_⟩
    rw [e2]
    refine List.all_eq_true.mpr fun p hp => ?_
    cases q : Nat.beq p.1 b with
    | true => exact absurd (Nat.eq_of_beq_eq_true q) (e3 p hp)
    | false => rfl
  refine ⟨hideAll h hid, fun b o e => hideAll_get _ (F.keep _ _ e) fun hb => ?_, fun b o e => of_hideAll _ e, Nat.le_of_eq (hideAll_size _ _), hideAll_none _ (hin _ _ h334 g334 o334), fun p hp => hideAll_get _ (N p hp).1 fun hb => (hmem _ hb).2 p hp rfl, fun b o e => ?_⟩
  · rw [(hmem _ hb).1] at e; cases e
  · have e1 := of_hideAll _ e
    cases q : g.get? b with
    | some o' => exact .inl (by rw [← (F.keep _ _ q), e1])
    | none =>
      by_cases z : ∃ p ∈ tl, p.1 = b
      · obtain ⟨p, hp, rfl⟩ := z
        have := (N p hp).1
        rw [e1] at this
        cases this
        exact .inr hp
      · have : b ∈ hid := hin _ _ e1 q fun p hp e => z ⟨p, hp, e⟩
        rw [hideAll_none _ this] at e; cases e
theorem for_gen {prog : Program} {w : World} {A : Around} {E : Value → Shared → Prop} {s : Shared} {env : Env} {target iter : Expr} {body : List Stmt} {pos : Pos} {Q : Flow → Shared → Prop} (hE : PassesOwn (model prog w) A env E)
    (hs : ∀ x, foldedSetIterable iter env x = pure x) (ht : ∀ it v, letOwnedTupleGo target it v = pure ())
    (h : wpAny (model prog w) A (eval iter env) (fun xv s₁ => wpAny (model prog w) A (pyIter xv) (fun it s₂ => ∃ (I : Nat → Shared → Prop) (n : Nat), I n s₂ ∧ ∀ n s, I n s → wpAny (model prog w) A (pyNext it) (fun r s₁ => match r with
      | none => Q .next s₁
      | some v => wpAny (model prog w) A (assign target env v) (fun _ s₂ => wpAny (model prog w) A (execs body env) (fun f s₃ => match f with
          | .next | .cont => ∃ m, m < n ∧ I m s₃
          | .brk => Q .next s₃
          | .ret v => Q (.ret v) s₃) E s₂) E s₁) E s) E s₁) E s) : wpAny (model prog w) A (exec (.For target iter body [] pos) env) Q E s := by
  refine wpAny_For (wpAny_mono h (fun xv s₁ h₁ => wpAny_mono h₁ (fun it s₂ h₂ => ?_) fun _ _ e => e) fun _ _ e => e) hs
  obtain ⟨I, n, h0, turn⟩ := h₂
  refine codeAny_forLoop (R := fun r s' => match r with | .ok f => Q f s' | .error e => cameBackBy (model prog w) A env E e s') I (fun n s hI => ?_) n h0 (ht it)
  refine wpAny_passesOwn hE (wpAny_mono (turn n s hI) (fun r s₁ h₁ => ?_) fun _ _ e => e)
  cases r with
  | none => exact wpAny_execs_nil h₁
  | some v =>
    refine wpAny_passesOwn hE (wpAny_mono h₁ (fun _ s₂ h₂ => ?_) fun _ _ e => e)
    exact wpAny_passesOwn hE h₂
end
end Mine
namespace Mine
section
open PySem PySem.W PyProof.Rows PySem.Calls
theorem rstP14 {M : Model} {A : Around} {env : Env} {Q : Flow → Shared → Prop} {E : Value → Shared → Prop} {s : Shared} (h : wpAny M A (execs [] env) Q E s) : wpAny M A (execs [] env) Q E s := by
  w_top off
  (try (walk1; fail))
  exact h
section
variable {prog : Program} {w : World} {A : Around} {E : Value → Shared → Prop} {s : Shared}
/-- waking a generator function's object, with what is known of the state left behind -/
theorem gen_next {a : Addr} {g n : Nat} {gs : GenState} {P : Nat → Shared → Shared → Prop} {Y : Protocol} {Q : Option Value → Shared → Prop} (hh : A.handled = none) (hl : s.heap.NoLimit) (hroom : A.depth < recursionLimit) (hg : s.heap.IsGen a g) (hgs : s.gens[g]? = some gs)
    (hgo : gs.Goes (model prog w) A.in1 (fun n s₀ r s₁ => r = .ok (.ret .none) ∧ P n s₀ s₁) Y n (.send .none) (s.setGen g .running))
    (hY : ∀ v s₁ gs', gs'.bare = true → Y (n - 1) (s.setGen g .running) v s₁ (fun r' s'' => match n with
        | 0 => False
        | m + 1 => gs'.Goes (model prog w) A.in1 (fun n s₀ r s₁ => r = .ok (.ret .none) ∧ P n s₀ s₁) Y m r' s'') → Q (some v) (s₁.setGen g gs'))
    (hP : ∀ s₁, P n (s.setGen g .running) s₁ → ∀ h', Keeps s₁.heap h' → Q none { s₁.setGen g .finished with heap := h' }) : wpAny (model prog w) A (pyNext (.ref a)) Q E s := by
  unfold pyNext
  refine wpAny_bind (wpAny_attempt (wpAny_callSpecial?_slot (name := Str.ofString "__next__") hg.typeIs slot_gen_next (wpAny_call_entry slot_gen_next hg.typeIs entry_gen_next ?_ (args_gen_next _))))
  show wpAny _ A.in1 (Builtin.Generator.genWake (.ref a) (.send .none)) _ _ s
  unfold Builtin.Generator.genWake
  refine wpAny_bind (wpAny_holding (wpAny_genNumber hg (wpAny_bind (wpAny_genState hgs ?_))))
  cases gs with
  | running => exact hgo.elim
  | finished => exact hgo.elim
  | _ =>
    refine wpAny_bind (wpAny_roomToWake hl hroom ?_)
    show wpAny _ A.in1 (.resume g (.send .none) [] _) _ _ s
    refine wpAny_resumeQ hgs hgo (fun x s₁ hx => ?_) (fun v s₁ gs' hb hv => ?_)
    · obtain ⟨rfl, hp⟩ := hx
      show wpAny _ A.in1 (newExc (.type "StopIteration") [] >>= _) _ _ _
      refine wpAny_bind ?_
      simp only [newExc, newTuple]
      refine wpAny_bind (wpAny_newObj_type ?_ (by size_fits))
      refine wpAny_bind (m := firstArgMember _ _) (wpAny_of_eq (a := Value.none) (by first | rfl | (simp only [firstArgMember]; rfl)) ?_)
      refine wpAny_newObj_type ?_ (by size_fits)
      simp only [raiseNew]
      refine wpAny_bind (wpAny_bind (wpAny_handled ?_))
      first | rw [show A.in1.handled = none from hh] | rw [hh]
      refine wpAny_throw ?_
      refine wpAny_bind (wpAny_isInstance (T := "StopIteration") (b := true) ⟨_, Heap.get?_push_size _ rfl, rfl⟩ isSubtype_stop ?_)
      exact wpAny_pure (hP s₁ hp _ fun b o hb => Heap.get?_push_of_some _ (Heap.get?_push_of_some _ hb))
    · exact wpAny_pure ⟨v, rfl, wpAny_pure (hY v s₁ gs' hb hv)⟩
end
/-- the generator between two wakings: its state and its raw objects -/
def GenOK (prog : Program) (w : World) (A : Around) (g2 : Heap) (Lg : Addr) (gs : List (List It1)) (k : Nat) (gst : GenState) (gl : List (Addr × Obj)) : Prop :=
  gst.bare = true ∧ (∀ p ∈ gl, p.1 = Lg ∨ p.1 = 334 ∨ (@LT.lt Nat _ Lg p.1 ∧ p.2.cls = .type "list_iterator")) ∧ (∃ ps, (334, tabObj ps) ∈ gl) ∧ (∃ oL, (Lg, oL) ∈ gl) ∧
    ∀ s' : Shared, (∀ p ∈ gl, s'.heap.get? p.1 = some p.2) → Keeps g2 s'.heap → gst.Goes (model prog w) A.in1 (GR g2 Lg) (GY g2 Lg gs) (k + 1) (.send .none) s'
theorem gen_turn {prog : Program} {w : World} {A : Around} {E : Value → Shared → Prop} {s : Shared} {g g2 : Heap} {L Lg G : Addr} {m : Str → Option Value} {gi k : Nat} {gst : GenState} {gl rest : List (Addr × Obj)} {gs : List (List It1)} {Q : Option Value → Shared → Prop}
    (hh : A.handled = none) (hl : g.NoLimit) (hroom : A.depth < recursionLimit) (F : Fr g L s.heap m) (N : News g L s.heap (gl ++ rest)) (OK : GenOK prog w A g2 Lg gs k gst gl) (hgs : s.gens[gi]? = some gst) (hG : s.heap.IsGen G gi)
    (hrest : ∀ p ∈ rest, p.1 ≠ Lg ∧ p.1 ≠ 334 ∧ (@LT.lt Nat _ p.1 Lg ∨ p.2.cls ≠ .type "list_iterator")) (hLg : @LT.lt Nat _ L Lg) (hsub : Keeps g g2) (hg2 : ∀ b o, g2.get? b = some o → g.get? b = some o ∨ (b, o) ∈ rest) (hGL : G ≠ Lg) (hG3 : G ≠ 334) (g334 : g.get? 334 = none)
    (yield : ∀ (grp : List It1) (Gr dg : Addr) (cnt : Nat) (h' : Heap) (tk : Nat) (gst' : GenState) (gl' : List (Addr × Obj)), 1 ≤ k → k ≤ gs.length → gs[gs.length - k]? = some grp → GenOK prog w A g2 Lg gs (k - 1) gst' gl' → Fr g L h' m →
      News g L h' ((Gr, tagsO dg (grp.map (·.1)) cnt) :: (dg, dictOf [] 0) :: (gl' ++ rest)) → OwnOff rest [Gr, dg] → h'.IsGen G gi → (∀ q ∈ [Gr, dg], @Ne Nat q Lg ∧ @Ne Nat q 334) → Q (some (.ref Gr)) { s with heap := h', toks := tk, gens := s.gens.setIfInBounds gi gst' })
    (stop : k = 0 → ∀ (h' : Heap) (tk : Nat) (ps : Array Value), Fr g L h' m → News g L h' ((334, tabObj ps) :: rest) → Q none { s with heap := h', toks := tk, gens := s.gens.setIfInBounds gi .finished }) :
    wpAny (model prog w) A (pyNext (.ref G)) Q E s := by
  obtain ⟨hb, hgl, ⟨ps0, hps0⟩, ⟨oL0, hoL0⟩, hgo⟩ := OK
  have k2 : Keeps g2 s.heap := fun b o e => (hg2 b o e).elim (fun x => F.keep _ _ x) fun x => (N _ (List.mem_append_right _ x)).1
  have h334L : (334 : Nat) ≠ L := (N _ (List.mem_append_left _ hps0)).2.1
  obtain ⟨oL1, a1, a2, hL1, a3⟩ := F.ns
  -- what a turn keeps, for the frame and for the rest
  have fit : ∀ (It : Addr) (h' : Heap), @LT.lt Nat _ Lg It → g2.get? It = none → (∀ o, s.heap.get? It = some o → o.cls = .type "list_iterator") → KeepG Lg It s.heap h' → Fr g L h' m ∧ (∀ p ∈ rest, h'.get? p.1 = some p.2) ∧ h'.IsGen G gi ∧ It ≠ L := fun It h' h1 h2 h3 hk => by
    have nL : L ≠ It := Nat.ne_of_lt (Nat.lt_trans hLg h1)
    have kr : ∀ p ∈ rest, h'.get? p.1 = some p.2 := fun p hp => by
      obtain ⟨r1, r2, r3⟩ := hrest p hp
      have e := (N _ (List.mem_append_right _ hp)).1
      refine hk _ _ r1 r2 (fun z => ?_) e
      rcases r3 with r3 | r3
      · rw [z] at r3; exact absurd (Nat.lt_trans r3 h1) (Nat.lt_irrefl _)
      · exact r3 (h3 _ (z ▸ e))
    refine ⟨⟨⟨oL1, a1, a2, hk _ _ (Nat.ne_of_lt hLg) h334L.symm nL hL1, a3⟩, fun b o e => ?_, F.above⟩, kr, ?_, nL.symm⟩
    · have e2 := hsub _ _ e
      refine hk b o (fun z => ?_) (fun z => ?_) (fun z => ?_) (F.keep _ _ e)
      · have := Heap.lt_size e
        rw [z] at this
        exact absurd (Nat.lt_of_lt_of_le this (Nat.le_trans F.above (Nat.le_of_lt hLg))) (Nat.lt_irrefl _)
      · rw [z, g334] at e; cases e
      · rw [z, h2] at e2; cases e2
    · obtain ⟨o, n1, n2, ho, hc, r⟩ := hG
      exact ⟨o, n1, n2, hk _ _ hGL hG3 (fun z => by
        have q : Value.type "generator" = Value.type "list_iterator" := hc.symm.trans (h3 _ (z ▸ ho))
        injection q with q
        exact absurd q (by decide)) ho, hc, r⟩
  refine gen_next hh (hl.keeps F.keep) hroom hG hgs (hgo (s.setGen gi .running) (fun p hp => (N _ (List.mem_append_left _ hp)).1) k2) (fun v s₁ gst' hb' hy => ?_) fun s₁ hp h' hk' => ?_
  · obtain ⟨Gr, dg, It, cnt, grp, oL, oI, ps, rfl, c1, c2, c3, c4, c5, c6, c7, c8, c9, c10, c11, c12, c13, c14, c15, c16, c17⟩ := hy
    obtain ⟨F', kr, hG', nL⟩ := fit It s₁.heap c8 c9 c10 c15
    have gI : g.get? It = none := by
      cases q : g.get? It with
      | none => rfl
      | some o => have := hsub _ _ q; rw [c9] at this; cases this
    have fr : ∀ a, (∀ o, s.heap.get? a = some o → False) → a ≠ L ∧ g.get? a = none := fun a ha => ⟨fun z => ha _ (z ▸ hL1), by
      cases q : g.get? a with
      | none => rfl
      | some o => exact (ha _ (F.keep _ _ q)).elim⟩
    have gLg : g.get? Lg = none := Heap.get?_none_of_le (Nat.le_trans F.above (Nat.le_of_lt hLg))
    have hfr : ∀ q ∈ [Gr, dg], @Ne Nat q Lg ∧ @Ne Nat q 334 := fun q hq => by
      have e1 := (N _ (List.mem_append_left _ hoL0)).1
      have e2 := (N _ (List.mem_append_left _ hps0)).1
      rcases List.mem_cons.mp hq with rfl | hq
      · exact ⟨fun z => c6 _ (z ▸ e1), fun z => c6 _ (z ▸ e2)⟩
      · rw [List.mem_singleton.mp hq]; exact ⟨fun z => c7 _ (z ▸ e1), fun z => c7 _ (z ▸ e2)⟩
    rw [c16]
    have := yield grp Gr dg cnt s₁.heap s₁.toks gst' [(Lg, oL), (334, tabObj ps), (It, oI)] c1 c2 c3 ⟨hb', fun p hp => ?_, ⟨ps, .tail _ (.head _)⟩, ⟨oL, .head _⟩, fun s' hs' hk2 => ?_⟩ F' (fun p hp => ?_) (fun p hp b hb => ?_) hG' hfr
    · simp only [Shared.setGen, Array.setIfInBounds_setIfInBounds]
      exact this
    · rcases List.mem_cons.mp hp with rfl | hp
      · exact .inl rfl
      · rcases List.mem_cons.mp hp with rfl | hp
        · exact .inr (.inl rfl)
        · rw [List.mem_singleton.mp hp]; exact .inr (.inr ⟨c8, c13⟩)
    · have := c17 s' (hs' _ (.head _)) (hs' _ (.tail _ (.tail _ (.head _)))) (hs' _ (.tail _ (.head _))) hk2
      cases k with
      | zero => omega
      | succ k => exact this
    · rcases List.mem_cons.mp hp with rfl | hp
      · exact ⟨c4, fr _ c6⟩
      · rcases List.mem_cons.mp hp with rfl | hp
        · exact ⟨c5, fr _ c7⟩
        · rcases List.mem_append.mp hp with hp | hp
          · rcases List.mem_cons.mp hp with rfl | hp
            · exact ⟨c11, (Nat.ne_of_lt hLg).symm, gLg⟩
            · rcases List.mem_cons.mp hp with rfl | hp
              · exact ⟨c14, h334L, g334⟩
              · rw [List.mem_singleton.mp hp]; exact ⟨c12, nL, gI⟩
          · exact ⟨kr p hp, (N _ (List.mem_append_right _ hp)).2⟩
    · intro z
      have e := (N _ (List.mem_append_right _ hp)).1
      rcases List.mem_cons.mp hb with rfl | hb
      · exact c6 _ (z ▸ e)
      · rw [List.mem_singleton.mp hb] at z; exact c7 _ (z ▸ e)
  · obtain ⟨hk1, It, ps, c8, c9, c10, c14, c15, c16⟩ := hp
    have hk0 : k = 0 := by omega
    obtain ⟨F', kr, _, _⟩ := fit It s₁.heap c8 c9 c10 c15
    rw [c16]
    have := stop hk0 h' s₁.toks ps (fr_keep F' hk') (fun p hp => by
      rcases List.mem_cons.mp hp with rfl | hp
      · exact ⟨hk' _ _ c14, h334L, g334⟩
      · exact ⟨hk' _ _ (kr p hp), (N _ (List.mem_append_right _ hp)).2⟩)
    simp only [Shared.setGen, Array.setIfInBounds_setIfInBounds]
    exact this
end
end Mine
namespace Mine
section
open PySem PySem.W PyProof.Rows PySem.Calls
theorem rstP15 {M : Model} {A : Around} {env : Env} {Q : Flow → Shared → Prop} {E : Value → Shared → Prop} {s : Shared} (h : wpAny M A (execs [] env) Q E s) : wpAny M A (execs [] env) Q E s := by
  w_top off
  (try (walk1; fail))
  exact h
local macro_rules | `(tactic| kd_p1) => `(tactic| (first | (k_unfold; (try dsimp only)) | (k_end; wrow_close) | walk1 | (dsimp only; walk1) | (leave1; walk_say "STEP leave1"; try dsimp only) | fail "no step"))
local macro_rules | `(tactic| k_room) => `(tactic| (show (_ : Nat) < 1000; (try simp only [depth_under_make, depth_under_kw, depth_in1, depth_deeper, depth_caller]); omega))
theorem tag_raw {w : World} {A : Around} {g : Heap} {L : Addr} {m : Str → Option Value} {s : Shared} {E : Value → Shared → Prop} {Q : Value → Shared → Prop} {ex : Bool} {t : Tg} {a b : Tok} {x dx : Addr} {od : Obj} (X : (hd.heap_39 w.params).In g) (F : Fr g L s.heap m)
    (h1 : s.heap.get? x = some (tagO dx t a b)) (h2 : s.heap.get? dx = some od) (h : ∀ tk, Q (.int t.1 a) { s with toks := tk }) :
    wpAny (model PySem.Challenge.rw_fy0012_01.row.prog w) A (getAttr (.ref x) (PySem.Str.ofString "_code") ex) Q E s := by
  have I : InstAt s.heap x (tagO dx t a b) 149 (some od) := ⟨h1, rfl, rfl, h2⟩
  (refine' get_slot F X I ?k4 ?k5 ?k6 ?k7 ?k8 ?k9 ?k10 ?k11 ?_; (case k4 => k_is); (case k5 => k_is); (case k6 => k_is); (case k7 => k_is); (case k8 => k_is); (case k9 => k_is); (case k10 => exact rfl); (case k11 => k_handed))
  exact h _
local macro_rules | `(tactic| walk_at "getAttr ref") => `(tactic| (k_here; (with_reducible show wpAny _ _ (getAttr (Value.ref _) (PySem.Str.ofString "_code") _) _ _ _); k_dflt ((refine' tag_raw ?X ?F ?h1 ?h2 ?_); (case X => assumption); (case F => k_asm); (case h1 => exact Fr.keep (by k_asm) _ _ (by assumption)); (case h2 => exact Fr.keep (by k_asm) _ _ (by assumption)); k_whole; intro tk')))
local macro_rules | `(tactic| walk_at "getAttr ref") => `(tactic| (k_here; (with_reducible show wpAny _ _ (getAttr (Value.ref _) (PySem.Str.ofString "value") _) _ _ _); k_dflt ((refine' tag_valueK ?X ?T ?F ?N ?d ?h1 ?h2 ?_); (case X => assumption); (case T => assumption); (case F => k_asm); (case N => k_asm); (case d => (show (_ : Nat) ≤ 450; (try simp only [depth_in1, depth_deeper]); omega)); (case h1 => exact Fr.keep (by k_asm) _ _ (by assumption)); (case h2 => exact Fr.keep (by k_asm) _ _ (by assumption)); k_whole; intro h' tk' F' N'; (try k_sweep))))
theorem tag_shaped {t : Tg} (h : PyData.strOk t.2 = true) : SeqAt.shaped (.tuple [.int t.1, .str t.2]) = true := by
  simp [SeqAt.shaped, PyData.canLay0, PyData.canLayAll0, h, PyData.depth, PyData.depthAll]
theorem tag_eqv {t t0 : Tg} : PyData.eqv (.tuple [.int t.1, .str t.2]) (.tuple [.int t0.1, .str t0.2]) = decide (t = t0) := by
  obtain ⟨c, z⟩ := t
  obtain ⟨c0, z0⟩ := t0
  simp only [PyData.eqv, PyData.eqvAll, Prod.mk.injEq, Bool.and_true]
  by_cases h1 : c = c0 <;> by_cases h2 : z = z0 <;> simp [h1, h2]
set_option maxHeartbeats 2000000 in
theorem eq_tag {w : World} {A : Around} {g : Heap} {L : Addr} {m : Str → Option Value} {news : List (Addr × Obj)} {s : Shared} {E : Value → Shared → Prop} {Q : Value → Shared → Prop} {t t0 : Tg} {a b u v : Tok} {x dx y : Addr} {od : Obj} (X : (hd.heap_39 w.params).In g) (T : g.NoLimit) (F : Fr g L s.heap m) (N : News g L s.heap news)
    (hA : A.depth ≤ 400) (hu : A.units ≤ 400) (h1 : s.heap.get? x = some (tagO dx t a b)) (h2 : s.heap.get? dx = some od) (hy : s.heap.get? y = some (tupO t0 u v)) (hz : PyData.strOk t.2 = true) (hz0 : PyData.strOk t0.2 = true)
    (h : ∀ h' tk, Fr g L h' m → News g L h' news → Q (.bool (decide (t = t0))) { s with heap := h', toks := tk }) :
    wpAny (model PySem.Challenge.rw_fy0012_01.row.prog w) A (call (.ref 124) [.ref x, .ref y]) Q E s := by
  refine wpAny_call ?_
  (refine' code_free (X.keeps F.keep) (T.keeps F.keep) ?k6 ?k7 ?k8 ?k9 ?kB ?_ ?c2 ?c3 ?c4 ?c5; (case k6 => k_is); (case k7 => k_is); (case k8 => k_room); (case k9 => exact BindsTo.of_eq rfl); (case kB => exact locs rfl); (case c2 => exact rfl); (case c3 => exact rfl); (case c4 => exact rfl); (case c5 => decide))
  intro Lz h₁ F₁
  have X1 := X.keeps F.keep
  have T1 := T.keeps F.keep
  have N1 : News s.heap Lz h₁ [] := News.nil
  have N0 := N
  clear X T N
  dsimp only
  repeat' kd_p1
  rename Fr _ _ _ _ => F9
  rename News _ _ _ _ => N9
  have ra : Reads _ _ (.tuple [.int t.1, .str t.2]) [] := Reads.tuple (N9 _ (.head _)).1 rfl rfl (.cons (.int _ _) (.cons (.str _ _) .nil))
  have rb : Reads _ _ (.tuple [.int t0.1, .str t0.2]) [] := Reads.tuple (F9.keep _ _ hy) rfl rfl (.cons (.int _ _) (.cons (.str _ _) .nil))
  refine SeqAt.compareEq_shaped ra rb (tag_shaped hz) (tag_shaped hz0) ?_ ?_
  · show _ + 64 < 9900
    show A.units + 3 + 64 < 9900
    omega
  · rw [tag_eqv]
    exact h _ _ (fr_keep F F9.keep) (news_keep N0 F9.keep)
end
end Mine
namespace Mine
section
open PySem PySem.W PyProof.Rows PySem.Calls PySem.W.X
theorem rstP16 {M : Model} {A : Around} {env : Env} {Q : Flow → Shared → Prop} {E : Value → Shared → Prop} {s : Shared} (h : wpAny M A (execs [] env) Q E s) : wpAny M A (execs [] env) Q E s := by
  w_top off
  (try (walk1; fail))
  exact h
section
variable {prog : Program} {w : World} {A : Around} {E : Value → Shared → Prop} {s : Shared} {K : Frag} {x C : Addr} {ox : Obj} {od : Option Obj}
theorem sub_list {value slice : Expr} {k : Int} {u : Tok} {Q : Value → Shared → Prop} (X : K.In s.heap) (I : InstAt s.heap x ox C od) (hq : noSeq K C = true) (hs : findIn K (.ref C) "__getitem__" = some (some (.builtin "list.__getitem__")))
    (h : wpAny (model prog w) A (call (.builtin "list.__getitem__") [.ref x, .int k u]) Q E s)
    (hsl : subscripted slice false (.ref x) (.int k u) = operate [.ref x, .int k u] (getItem (.ref x) (.int k u)) := by with_unfolding_all rfl) :
    wpAny (model prog w) A (subscriptTail value slice (.ref x) (.int k u)) Q E s := by
  have hg : wpAny (model prog w) A (getItem (.ref x) (.int k u)) Q E s := by
    unfold getItem sequenceKey
    refine wpAny_holding (wpAny_bind (wpAny_bind (I.type.here ?_)))
    refine wpAny_bind ((anyM_none X hq).here ?_)
    rw [if_pos (show (!false) = true from rfl)]
    refine wpAny_pure (wpAny_bind ?_)
    unfold callSpecial?
    refine wpAny_bind (wpAny_bind (I.type.here ((looks_findIn X hs).here ?_)))
    refine wpAny_holding (wpAny_bind (wpAny_of_eq (slot_list_getitem.bind (.ref x)) ?_))
    exact wpAny_bind (wpAny_mono h (fun v s' z => wpAny_pure (wpAny_pure z)) fun _ _ z => z)
  unfold subscriptTail getitemInPython
  refine wpAny_bind (wpAny_bind (wpAny_bind (I.type.here ((looks_findIn X hs).here ?_))))
  dsimp only
  have fin : wpAny (model prog w) A (subscripted slice false (.ref x) (.int k u)) (fun r s₃ => wpAny (model prog w) A (letTemporaryGo value (.ref x) r >>= fun _ => pure r) Q E s₃) E s := by
    rw [hsl]
    exact wpAny_operating (wpAny_mono hg (fun r s₃ h₃ => wpAny_bind (wpAny_letTemporaryGo (wpAny_pure h₃))) fun _ _ x => x)
  first
    | exact wpAny_pure (wpAny_bind fin)
    | exact wpAny_bind (wpAny_pure (wpAny_bind fin))
    | exact wpAny_bind fin
end
local macro_rules | `(tactic| x_close) => `(tactic| 
   (with_reducible rename ∀ (_ : Heap) (_ : Nat), Mem _ _ _ _ → _ => hq9; first | exact hq9 _ _ (Mem.start _) | exact hq9 _ _ (Mem.start _) _ | refine hq9 _ _ (mem_eq (by assumption) (by first | rfl | kernel_rfl))))
set_option maxHeartbeats 8000000 in
theorem item0 {w : World} {h₀ : Heap} {g : Array GenState} {d : Drawn} {t : Nat} {u : Tok} {os : OsState} (X : (hd.heap_39 w.params).In h₀) {Q E : Value → Shared → Prop} {G dg : Addr} {v0 : Value} {its : List Value} {n : Nat}
   (h1 : h₀.get? G = some ⟨.ref 327, some dg, .seq ⟨v0 :: its⟩ n, #[]⟩) (h : ∀ (h' : Heap) (tk : Nat), Mem h₀ h' [] [] → Q v0 ⟨h', g, d, tk, os⟩) :
    wpAny (model PySem.Challenge.rw_fy0012_01.row.prog w) AX (call (.builtin "list.__getitem__") [.ref G, .int 0 u]) Q E ⟨h₀, g, d, t, os⟩ := by
  x_run
set_option maxHeartbeats 8000000 in
theorem item1 {w : World} {h₀ : Heap} {g : Array GenState} {d : Drawn} {t : Nat} {u : Tok} {os : OsState} (X : (hd.heap_39 w.params).In h₀) {Q E : Value → Shared → Prop} {G dg : Addr} {v0 v1 : Value} {its : List Value} {n : Nat}
   (h1 : h₀.get? G = some ⟨.ref 327, some dg, .seq ⟨v0 :: v1 :: its⟩ n, #[]⟩) (h : ∀ (h' : Heap) (tk : Nat), Mem h₀ h' [] [] → Q v1 ⟨h', g, d, tk, os⟩) :
    wpAny (model PySem.Challenge.rw_fy0012_01.row.prog w) AX (call (.builtin "list.__getitem__") [.ref G, .int 1 u]) Q E ⟨h₀, g, d, t, os⟩ := by
  x_run
local macro_rules | `(tactic| x_close) => `(tactic| assumption)
set_option maxHeartbeats 8000000 in
theorem len0 {w : World} {h₀ : Heap} {g : Array GenState} {d : Drawn} {t : Nat} {os : OsState} (X : (hd.heap_39 w.params).In h₀) {Q E : Value → Shared → Prop} {G dg : Addr} {its : List Value} {n : Nat}
   (h1 : h₀.get? G = some ⟨.ref 327, some dg, .seq ⟨its⟩ n, #[]⟩) (hl : its.length ≤ 1000) (h : Q (.int (Array.mk its).size (t + 1)) ⟨h₀, g, d, t + 1 + 1, os⟩) :
    wpAny (model PySem.Challenge.rw_fy0012_01.row.prog w) AX (call (.builtin "len") [.ref G]) Q E ⟨h₀, g, d, t, os⟩ := by
  x_run
section
variable {w : World} {A : Around} {g : Heap} {L : Addr} {m : Str → Option Value} {news : List (Addr × Obj)} {s : Shared} {E : Value → Shared → Prop} {Q : Value → Shared → Prop} {G dg : Addr} {value slice : Expr} {u : Tok} {n : Nat} {v0 v1 : Value} {its : List Value}
theorem tags_item0 (X : (hd.heap_39 w.params).In g) (F : Fr g L s.heap m) (N : News g L s.heap news) (hm : (G, tagsO dg (v0 :: its) n) ∈ news) (h2 : (dg, dictOf [] 0) ∈ news) (hh : A.handled = none) (hA : A.depth ≤ 500) (hu : A.units ≤ 500)
    (h : ∀ h' tk, Fr g L h' m → News g L h' news → Q v0 { s with heap := h', toks := tk }) (hsl : subscripted slice false (.ref G) (.int 0 u) = operate [.ref G, .int 0 u] (getItem (.ref G) (.int 0 u)) := by with_unfolding_all rfl) :
    wpAny (model PySem.Challenge.rw_fy0012_01.row.prog w) A (subscriptTail value slice (.ref G) (.int 0 u)) Q E s := by
  have I : InstAt s.heap G (tagsO dg (v0 :: its) n) 327 (some (dictOf [] 0)) := ⟨(N _ hm).1, rfl, rfl, (N _ h2).1⟩
  refine sub_list (X.keeps F.keep) I ?k1 ?k2 (up_none (A' := AX) ?_ hh hA rfl rfl hu) hsl
  case k1 => k_is
  case k2 => k_is
  exact item0 (X.keeps F.keep) (N _ hm).1 fun h' tk D => h h' tk (fr_keep F (mem_keeps D)) (news_keep N (mem_keeps D))
theorem tags_item1 (X : (hd.heap_39 w.params).In g) (F : Fr g L s.heap m) (N : News g L s.heap news) (hm : (G, tagsO dg (v0 :: v1 :: its) n) ∈ news) (h2 : (dg, dictOf [] 0) ∈ news) (hh : A.handled = none) (hA : A.depth ≤ 500) (hu : A.units ≤ 500)
    (h : ∀ h' tk, Fr g L h' m → News g L h' news → Q v1 { s with heap := h', toks := tk }) (hsl : subscripted slice false (.ref G) (.int 1 u) = operate [.ref G, .int 1 u] (getItem (.ref G) (.int 1 u)) := by with_unfolding_all rfl) :
    wpAny (model PySem.Challenge.rw_fy0012_01.row.prog w) A (subscriptTail value slice (.ref G) (.int 1 u)) Q E s := by
  have I : InstAt s.heap G (tagsO dg (v0 :: v1 :: its) n) 327 (some (dictOf [] 0)) := ⟨(N _ hm).1, rfl, rfl, (N _ h2).1⟩
  refine sub_list (X.keeps F.keep) I ?k1 ?k2 (up_none (A' := AX) ?_ hh hA rfl rfl hu) hsl
  case k1 => k_is
  case k2 => k_is
  exact item1 (X.keeps F.keep) (N _ hm).1 fun h' tk D => h h' tk (fr_keep F (mem_keeps D)) (news_keep N (mem_keeps D))
theorem tags_len (X : (hd.heap_39 w.params).In g) (F : Fr g L s.heap m) (N : News g L s.heap news) (hm : (G, tagsO dg its n) ∈ news) (hl : its.length ≤ 1000) (hh : A.handled = none) (hA : A.depth ≤ 500) (hu : A.units ≤ 500)
    (h : ∀ t' tk, Q (.int (its.length : Int) t') { s with toks := tk }) :
    wpAny (model PySem.Challenge.rw_fy0012_01.row.prog w) A (call (.builtin "len") [.ref G]) Q E s :=
  up_none (A' := AX) (len0 (X.keeps F.keep) (N _ hm).1 hl (h _ _)) hh hA rfl rfl hu
end
end
end Mine
namespace Mine
section
open PySem PySem.W PyProof.Rows PySem.Calls
theorem rstP18 {M : Model} {A : Around} {env : Env} {Q : Flow → Shared → Prop} {E : Value → Shared → Prop} {s : Shared} (h : wpAny M A (execs [] env) Q E s) : wpAny M A (execs [] env) Q E s := by
  w_top off
  (try (walk1; fail))
  exact h
abbrev grps (items : List Value) (tags : List Tg) : List (List It1) := grpF isHead (items.zip tags) none
theorem group_here {w : World} {A : Around} {g : Heap} {L : Addr} {m : Str → Option Value} {news tl : List (Addr × Obj)} {loose mean mg mb} {p : Program} {s : Shared} {E : Value → Shared → Prop} {Q : Value → Shared → Prop} {lst : Addr} {n : Nat} {items : List Value} {tags : List Tg}
    (X : (hd.heap_39 w.params).In g) (T : Top p loose mean mg mb g) (F : Fr g L s.heap m) (N : News g L s.heap news) (h334 : (334, tabObj #[]) ∈ news) (htl : ∀ q ∈ tl, q ∈ news) (o334 : ∀ q ∈ tl, q.1 ≠ 334)
    (hlst : (lst, W.listOf items.toArray n) ∈ tl) (hitems : AllIn (TagL tl) items tags) (hlen : tags.length ≤ 57) (hA : A.depth ≤ 400)
    (h : ∀ (g2 : Heap) (c : Code) (G Lg : Addr) (oL og : Obj) (h' : Heap) (tk : Nat), Keeps g g2 → (∀ b o, g2.get? b = some o → g.get? b = some o ∨ (b, o) ∈ tl) → g.get? 334 = none → (∀ q ∈ news, @LT.lt Nat _ q.1 Lg) → @LT.lt Nat _ L Lg → @LT.lt Nat _ Lg G → Fr g L h' m → News g L h' ((G, og) :: (Lg, oL) :: news) → h'.IsGen G s.gens.size → og.cls = .type "generator" →
      (∀ A' : Around, A'.handled = none → A'.depth ≤ 420 → A'.units ≤ 420 → GenOK PySem.Challenge.rw_fy0012_01.row.prog w A' g2 Lg (grps items tags) (grps items tags).length (.fresh c) [(Lg, oL), (334, tabObj #[])]) →
      Q (.ref G) { s with heap := h', toks := tk, gens := s.gens.push (.fresh c) }) :
    wpAny (model PySem.Challenge.rw_fy0012_01.row.prog w) A (call (.ref 339) [.ref lst]) Q E s := by
  have n334 := N _ h334
  obtain ⟨g2, k1, k2, k3, k4, k5, k6⟩ := make_g2 F (fun q hq => N q (htl q hq)) n334.1 n334.2.2 o334
  have hll : items.length = tags.length := hitems.length
  have hfst : (items.zip tags).map (·.1) = items := List.map_fst_zip (Nat.le_of_eq hll)
  refine group_call (items := items.zip tags) (X.keeps k1) (T.keeps k1) k2 k3 k4 ⟨_, k5 _ hlst, rfl, n, by rw [hfst]⟩ (fun i x hx => ?_) (by rw [List.length_zip]; omega) hA fun c G Lg h' tk oL l1 l2 hL hk hG hseg => ?_
  · obtain ⟨hx1, hx2⟩ : items[i]? = some x.1 ∧ tags[i]? = some x.2 := by
      have := List.getElem?_zip_eq_some.mp hx
      exact this
    obtain ⟨t, ht, a, dx, u, v, ev, m1, m2⟩ := hitems.get hx1
    rw [hx2] at ht
    cases ht
    exact ⟨a, dx, u, v, _, ev, k5 _ m1, k5 _ m2⟩
  · obtain ⟨og, n1, n2, hog, hcls, hrest⟩ := id hG
    have hLL : @LT.lt Nat _ L Lg := Nat.lt_of_lt_of_le F.ns.lt l1
    have gno : ∀ b : Addr, @LE.le Nat _ Lg b → g.get? b = none := fun b hb => Heap.get?_none_of_le (Nat.le_trans F.above (Nat.le_trans (Nat.le_of_lt hLL) hb))
    refine h g2 c G Lg oL og h' tk k1 k6 n334.2.2 (fun q hq => Nat.lt_of_lt_of_le (Heap.lt_size (N q hq).1) l1) hLL l2 (fr_keep F hk) (fun q hq => ?_) hG hcls fun A' a1 a2 a3 => ⟨rfl, fun q hq => ?_, ⟨#[], .tail _ (.head _)⟩, ⟨oL, .head _⟩, fun s' hs' hk2 => ⟨rfl, ?_⟩⟩
    · rcases List.mem_cons.mp hq with rfl | hq
      · exact ⟨hog, (Nat.ne_of_lt (Nat.lt_trans hLL l2)).symm, gno _ (Nat.le_of_lt l2)⟩
      · rcases List.mem_cons.mp hq with rfl | hq
        · exact ⟨hL, (Nat.ne_of_lt hLL).symm, gno _ (Nat.le_refl _)⟩
        · exact news_keep N hk q hq
    · rcases List.mem_cons.mp hq with rfl | hq
      · exact .inl rfl
      · rw [List.mem_singleton.mp hq]; exact .inr (.inl rfl)
    · exact hseg A'.in1 s' a1 (by rw [show A'.in1.depth = A'.depth from rfl]; omega) (by show A'.units + _ ≤ 430; simp; omega) (hs' _ (.head _)) (hs' _ (.tail _ (.head _))) hk2
end
end Mine
namespace Mine
section
open PySem PySem.W PyProof.Rows PySem.Calls
theorem rstP19 {M : Model} {A : Around} {env : Env} {Q : Flow → Shared → Prop} {E : Value → Shared → Prop} {s : Shared} (h : wpAny M A (execs [] env) Q E s) : wpAny M A (execs [] env) Q E s := by
  w_top off
  (try (walk1; fail))
  exact h
/-- the code's own machine, on plain groups -/
abbrev Sec := List (List Tg)
abbrev sT : Tg := (0, "SECTION")
abbrev eT : Tg := (0, "ENDSEC")
abbrev fT : Tg := (0, "EOF")
def secIn : Sec → Bool
  | (t :: _) :: _ => decide (t = sT)
  | _ => false
def secOut : Sec → Bool
  | [] => true
  | (t :: _) :: _ => !decide (t = sT)
  | [] :: _ => true
structure LS where
  sec : Sec
  dct : List (Str × Sec)
  eof : Bool
def dput (d : List (Str × Sec)) (k : Str) (v : Sec) : List (Str × Sec) := if d.any (fun e => e.1 = k) then d.map (fun e => if e.1 = k then (e.1, v) else e) else d ++ [(k, v)]
abbrev mEnd : Str := "DXFStructureError: missing ENDSEC tag."
abbrev mOut : Str := "DXFStructureError: found ENDSEC tag without previous SECTION tag."
abbrev mName : Str := "DXFStructureError: missing required section NAME tag (2, name) at start of section."
abbrev mEof : Str := "DXFStructureError: missing EOF tag."
def lstep (st : LS) (grp : List Tg) : Except Str LS := match grp with
  | [] => .ok st
  | t :: _ =>
    if t = sT then (if secIn st.sec then .error mEnd else .ok { st with sec := [grp] })
    else if t = eT then (if secOut st.sec then .error mOut else match st.sec with
      | (_ :: u :: _) :: _ => if u.1 = 2 then .ok { st with sec := [], dct := dput st.dct u.2 st.sec } else .error mName
      | _ => .error mName)
    else if t = fT then .ok { st with eof := true }
    else .ok { st with sec := st.sec ++ [grp] }
def lrun : LS → List (List Tg) → Except Str LS
  | st, [] => .ok st
  | st, g :: r => match lstep st g with
    | .error e => .error e
    | .ok st' => lrun st' r
def lend (ign : Bool) (r : Except Str LS) : Except Str (List (Str × Sec)) := match r with
  | .error e => .error e
  | .ok st => if secIn st.sec then .error mEnd else if !st.eof && !ign then .error mEof else .ok st.dct
theorem lrun_app (st : LS) (a b : List (List Tg)) : lrun st (a ++ b) = match lrun st a with | .error e => .error e | .ok st' => lrun st' b := by
  induction a generalizing st with
  | nil => rfl
  | cons g r ih =>
    rw [List.cons_append]
    cases hh : lstep st g with
    | error e => simp only [lrun, hh]
    | ok st' => simp only [lrun, hh, ih]
/-- an entity, a section, among the objects of a ledger -/
def EntIn (S : List (Addr × Obj)) (v : Value) (g : List Tg) : Prop := ∃ (G dg : Addr) (cnt : Nat) (vs : List Value), v = .ref G ∧ (G, tagsO dg vs cnt) ∈ S ∧ (dg, dictOf [] 0) ∈ S ∧ AllIn (TagL S) vs g
theorem EntIn.mono {S S' : List (Addr × Obj)} (k : ∀ p ∈ S, p ∈ S') {v : Value} {g : List Tg} (h : EntIn S v g) : EntIn S' v g := let ⟨a, b, c, d, e, f, i, j⟩ := h; ⟨a, b, c, d, e, k _ f, k _ i, j.mono fun _ _ z => z.mono k⟩
def SecInL (S : List (Addr × Obj)) (v : Value) (sc : Sec) : Prop := ∃ (a : Addr) (n : Nat) (vs : List Value), v = .ref a ∧ (a, W.listOf vs.toArray n) ∈ S ∧ AllIn (EntIn S) vs sc
theorem SecInL.mono {S S' : List (Addr × Obj)} (k : ∀ p ∈ S, p ∈ S') {v : Value} {g : Sec} (h : SecInL S v g) : SecInL S' v g := let ⟨a, b, c, d, e, f⟩ := h; ⟨a, b, c, d, k _ e, f.mono fun _ _ z => z.mono k⟩
def DctIn (S : List (Addr × Obj)) (kvs : List (Str × Value)) (d : List (Str × Sec)) : Prop := kvs.map (·.1) = d.map (·.1) ∧ AllIn (SecInL S) (kvs.map (·.2)) (d.map (·.2))
theorem DctIn.mono {S S' : List (Addr × Obj)} (k : ∀ p ∈ S, p ∈ S') {kvs : List (Str × Value)} {d : List (Str × Sec)} (h : DctIn S kvs d) : DctIn S' kvs d := ⟨h.1, h.2.mono fun _ _ z => z.mono k⟩
theorem dct_put {S : List (Addr × Obj)} {v : Value} {sc : Sec} {x : Str} (hv : SecInL S v sc) : ∀ {kvs : List (Str × Value)} {d : List (Str × Sec)}, DctIn S kvs d → DctIn S (stored kvs x v) (dput d x sc) := by
  have any_eq : ∀ {kvs : List (Str × Value)} {d : List (Str × Sec)}, kvs.map (·.1) = d.map (·.1) → kvs.any (fun e => e.1 = x) = d.any (fun e => e.1 = x) := by
    intro kvs
    induction kvs with
    | nil => intro d h; cases d with
      | nil => rfl
      | cons _ _ => cases h
    | cons a r ih => intro d h; cases d with
      | nil => cases h
      | cons b q =>
        simp only [List.map_cons, List.cons.injEq] at h
        simp only [List.any_cons, h.1, ih h.2]
  have put_map : ∀ {kvs : List (Str × Value)} {d : List (Str × Sec)}, DctIn S kvs d → DctIn S (kvs.map (fun e => if e.1 = x then (e.1, v) else e)) (d.map (fun e => if e.1 = x then (e.1, sc) else e)) := by
    intro kvs
    induction kvs with
    | nil => intro d h; cases d with
      | nil => exact ⟨rfl, .nil⟩
      | cons _ _ => cases h.1
    | cons a r ih => intro d h; cases d with
      | nil => cases h.1
      | cons b q =>
        obtain ⟨h1, h2⟩ := h
        simp only [List.map_cons, List.cons.injEq] at h1
        simp only [List.map_cons] at h2
        cases h2 with
        | cons c1 c2 =>
          obtain ⟨r1, r2⟩ := ih ⟨h1.2, c2⟩
          simp only [List.map_cons]
          rw [h1.1]
          by_cases hx : b.1 = x
          · rw [if_pos hx, if_pos hx]
            exact ⟨by rw [List.map_cons, List.map_cons, r1], .cons hv r2⟩
          · rw [if_neg hx, if_neg hx]
            exact ⟨by rw [List.map_cons, List.map_cons, r1, h1.1], .cons c1 r2⟩
  intro kvs d h
  unfold stored dput
  rw [any_eq h.1]
  by_cases hx : (d.any fun e => decide (e.1 = x)) = true
  · rw [if_pos hx, if_pos hx]; exact put_map h
  · rw [if_neg hx, if_neg hx]
    exact ⟨by rw [List.map_append, List.map_append, h.1]; rfl, by rw [List.map_append, List.map_append]; exact h.2.append (.cons hv .nil)⟩
end
end Mine
namespace Mine
section
open PySem PySem.W PyProof.Rows PySem.Calls
theorem rstP21 {M : Model} {A : Around} {env : Env} {Q : Flow → Shared → Prop} {E : Value → Shared → Prop} {s : Shared} (h : wpAny M A (execs [] env) Q E s) : wpAny M A (execs [] env) Q E s := by
  w_top off
  (try (walk1; fail))
  exact h
theorem tag_eq {w : World} {A : Around} {g : Heap} {L : Addr} {m : Str → Option Value} {news : List (Addr × Obj)} {s : Shared} {E : Value → Shared → Prop} {Q : Value → Shared → Prop} {t t0 : Tg} {a b u v : Tok} {x dx y : Addr} (X : (hd.heap_39 w.params).In g) (T : g.NoLimit) (F : Fr g L s.heap m) (N : News g L s.heap news)
    (hA : A.depth ≤ 400) (hu : A.units ≤ 400) (h1 : (x, tagO dx t a b) ∈ news) (h2 : (dx, dictOf [] 0) ∈ news) (hy : (y, tupO t0 u v) ∈ news) (hz : PyData.strOk t.2 = true) (hz0 : PyData.strOk t0.2 = true)
    (h : ∀ h' tk, Fr g L h' m → News g L h' news → Q (.bool (decide (t = t0))) { s with heap := h', toks := tk }) :
    wpAny (model PySem.Challenge.rw_fy0012_01.row.prog w) A (compareOp .Eq (.ref x) (.ref y)) Q E s := by
  have I : InstAt s.heap x (tagO dx t a b) 149 (some (dictOf [] 0)) := ⟨(N _ h1).1, rfl, rfl, (N _ h2).1⟩
  have hb : Looks (model PySem.Challenge.rw_fy0012_01.row.prog w) s.heap (typeOf (.ref y)) (.type "tuple") := (Looks.ld (N _ hy).1).andThen .now
  refine cmp_ofEq (cmp_K (f := 124) (by show A.units < 9900; omega) F X I hb ?k1 ?k2 ?k3 ?_)
  case k1 => k_is
  case k2 => k_is
  case k3 => k_is
  exact eq_tag X T F N hA hu (N _ h1).1 (N _ h2).1 (N _ hy).1 hz hz0 h
theorem slot_obj_ne : Slot "object" "__ne__" "object.__ne__" :=
  .of (owner := "object") (n := "__ne__") (by rw [typeLookup_type, builtinLookup_eq_fast]; kernel_rfl) (by decide +kernel) (by decide +kernel) (by decide +kernel) (by first | exact .inl (by decide +kernel) | exact .inr (by decide +kernel)) (by rw [isSubtype_type]; kernel_rfl)
theorem tag_ne {w : World} {A : Around} {g : Heap} {L : Addr} {m : Str → Option Value} {news : List (Addr × Obj)} {s : Shared} {E : Value → Shared → Prop} {Q : Value → Shared → Prop} {t t0 : Tg} {a b u v : Tok} {x dx y : Addr} (X : (hd.heap_39 w.params).In g) (T : g.NoLimit) (F : Fr g L s.heap m) (N : News g L s.heap news)
    (hA : A.depth ≤ 380) (hu : A.units ≤ 380) (h1 : (x, tagO dx t a b) ∈ news) (h2 : (dx, dictOf [] 0) ∈ news) (hy : (y, tupO t0 u v) ∈ news) (hz : PyData.strOk t.2 = true) (hz0 : PyData.strOk t0.2 = true)
    (h : ∀ h' tk, Fr g L h' m → News g L h' news → Q (.bool (!decide (t = t0))) { s with heap := h', toks := tk }) :
    wpAny (model PySem.Challenge.rw_fy0012_01.row.prog w) A (compareOp .NotEq (.ref x) (.ref y)) Q E s := by
  have I : InstAt s.heap x (tagO dx t a b) 149 (some (dictOf [] 0)) := ⟨(N _ h1).1, rfl, rfl, (N _ h2).1⟩
  have hb : Looks (model PySem.Challenge.rw_fy0012_01.row.prog w) s.heap (typeOf (.ref y)) (.type "tuple") := (Looks.ld (N _ hy).1).andThen .now
  have X1 := X.keeps F.keep
  have hfind : findIn (hd.heap_39 w.params) (.ref 149) "__ne__" = some (some (.builtin "object.__ne__")) := by k_is
  have hfe : findIn (hd.heap_39 w.params) (.ref 149) "__eq__" = some (some (.ref 124)) := by k_is
  have hff : isFn (hd.heap_39 w.params) (.ref 124) = true := by k_is
  have hmro : mroIn (hd.heap_39 w.params) 149 (.type "object") = some true := by k_is
  have core : ∀ (A' : Around) (P : Value → Shared → Prop) (E' : Value → Shared → Prop), A'.depth ≤ 380 → A'.units ≤ 380 → (∀ h' tk, Fr g L h' m → News g L h' news → P (.bool (!decide (t = t0))) { s with heap := h', toks := tk }) →
      wpAny (model PySem.Challenge.rw_fy0012_01.row.prog w) A' (call (.builtin "object.__ne__") [.ref x, .ref y]) P E' s := fun A' P E' hA' hu' hP => by
    refine wpAny_call (code_sub X1 I hmro PySem.F.cmpSplit_ne (.inl (by decide +kernel)) (PySem.F.cmpArgs_ne _ _) (by decide +kernel) PySem.F.cmpEntry_ne ?_)
    unfold Builtin.«object.__ne__»
    refine wpAny_bind (wpAny_pure ?_)
    refine wpAny_bind (wpAny_cRoomFor (by show A'.units + _ < 9900; (try simp); omega) ?_)
    refine wpAny_bind (ifBound_K X1 I hfe hff (eq_tag X T F N (by show A'.depth ≤ 400; omega) (by show A'.units + _ ≤ 400; (try simp); omega) (N _ h1).1 (N _ h2).1 (N _ hy).1 hz hz0 fun h' tk F' N' => ?_))
    refine wpAny_bind (wpAny_pure ?_)
    exact wpAny_pure ⟨_, rfl, hP h' tk F' N'⟩
  have one : wpAny (model PySem.Challenge.rw_fy0012_01.row.prog w) A (tryCompare (.ref x) "__ne__" (.ref y)) (fun r s' => ∃ v, r = some v ∧ Q v s') E s := by
    unfold tryCompare
    refine wpAny_bind ?_
    simp only [callSpecialIfBound?, bindSpecialIfBound?]
    refine wpAny_holding (wpAny_bind (wpAny_bind (wpAny_bind (I.type.here ((looks_findIn X1 hfind).here ?_)))))
    refine wpAny_bind (wpAny_askSetting (wpAny_ite ?_))
    have fin : wpAny (model PySem.Challenge.rw_fy0012_01.row.prog w) A (call (.builtin "object.__ne__") ([.ref x] ++ [.ref y]) >>= fun v => pure (some v)) (fun a s' => wpAny (model PySem.Challenge.rw_fy0012_01.row.prog w) A (match a with
        | some .notImplemented | none => pure none
        | some v => pure (some v)) (fun r s' => ∃ v, r = some v ∧ Q v s') E s') E s :=
      wpAny_bind (core A _ _ hA hu fun h' tk F' N' => wpAny_pure (wpAny_pure ⟨_, rfl, h h' tk F' N'⟩))
    split
    · exact wpAny_bind (wpAny_of_eq (slot_obj_ne.bind (.ref x)) (wpAny_pure (by exact fin)))
    · exact wpAny_tryCatch (wpAny_bind (wpAny_of_eq (slot_obj_ne.bind (.ref x)) (wpAny_pure (by exact fin))))
  refine cmp_ofNotEq ?_
  unfold richCompare
  simp only [oneThing_ref]
  refine wpAny_holding (wpAny_bind (wpAny_cRoomFor (by show A.units < 9900; omega) ?_))
  refine wpAny_bind (I.type.here (wpAny_bind (hb.here ?_)))
  have e : subIn (hd.heap_39 w.params) (.type "tuple") (.ref 149) = some false := by k_is
  have ne : (Value.ref 149 != Value.type "tuple") = true := rfl
  rw [if_pos ne]
  refine wpAny_bind ((looks_subIn X1 e).here ?_)
  simp only [Bool.false_eq_true, if_false]
  refine wpAny_bind (wpAny_mono one (fun r s' z => ?_) fun _ _ e => e)
  obtain ⟨v, rfl, hq⟩ := z
  exact wpAny_pure hq
section
variable {w : World} {A : Around} {g : Heap} {L : Addr} {m : Str → Option Value} {news : List (Addr × Obj)} {s : Shared} {E : Value → Shared → Prop} {Q : Value → Shared → Prop} {t : Tg} {c0 : Int} {z0 : Str} {a b u v : Tok} {x dx y : Addr}
theorem tag_eqX (X : (hd.heap_39 w.params).In g) (T : g.NoLimit) (F : Fr g L s.heap m) (N : News g L s.heap news)
    (hA : A.depth ≤ 400) (hu : A.units ≤ 400) (h1 : (x, tagO dx t a b) ∈ news) (h2 : (dx, dictOf [] 0) ∈ news) (hy : (y, ({ cls := .type "tuple", data := .seq #[.int c0 u, .str z0 v] } : Obj)) ∈ news) (hz : PyData.strOk t.2 = true) (hz0 : PyData.strOk z0 = true)
    (h : ∀ h' tk, Fr g L h' m → News g L h' news → Q (.bool (decide (t = (c0, z0)))) { s with heap := h', toks := tk }) :
    wpAny (model PySem.Challenge.rw_fy0012_01.row.prog w) A (compareOp .Eq (.ref x) (.ref y)) Q E s := tag_eq (t0 := (c0, z0)) X T F N hA hu h1 h2 hy hz hz0 h
theorem tag_neX (X : (hd.heap_39 w.params).In g) (T : g.NoLimit) (F : Fr g L s.heap m) (N : News g L s.heap news)
    (hA : A.depth ≤ 380) (hu : A.units ≤ 380) (h1 : (x, tagO dx t a b) ∈ news) (h2 : (dx, dictOf [] 0) ∈ news) (hy : (y, ({ cls := .type "tuple", data := .seq #[.int c0 u, .str z0 v] } : Obj)) ∈ news) (hz : PyData.strOk t.2 = true) (hz0 : PyData.strOk z0 = true)
    (h : ∀ h' tk, Fr g L h' m → News g L h' news → Q (.bool (!decide (t = (c0, z0)))) { s with heap := h', toks := tk }) :
    wpAny (model PySem.Challenge.rw_fy0012_01.row.prog w) A (compareOp .NotEq (.ref x) (.ref y)) Q E s := tag_ne (t0 := (c0, z0)) X T F N hA hu h1 h2 hy hz hz0 h
end
theorem CallAt.of_mem {g h : Heap} {L q : Addr} {news : List (Addr × Obj)} {name qual : Str} {params : Arguments} {body : List Stmt} {scope : Scope} {clos : List (Str × Addr)} {doc pm ct : Value} {c' : Addr} (N : News g L h news) (hm : (q, fnMade name qual params body scope clos doc pm c' ct) ∈ news) : CallAt q h :=
  CallAt.of_fn N ⟨_, _, _, _, hm⟩ fun _ hp => hp
theorem callWith_B0 {M : Model} {A : Around} {E : Value → Shared → Prop} {s : Shared} {env : Env} {pos : Pos} {first : List Value} {Q : Value → Shared → Prop} {q : Addr} (X : CallAt q s.heap) (h : wpAny M A (call (.ref q) (first ++ [])) Q E s) :
    wpAny M A (callWith pos (.ref q) first (backTo pos (starEach [] env)) []) Q E s :=
  callWith_of rfl (fun h (X : CallAt q h) => let ⟨k, a, b⟩ := X; ⟨k, a, b M⟩) (evalArgs_nil3 ⟨X, h⟩)
end
end Mine
namespace Mine
section
open PySem PySem.W PyProof.Rows PySem.Calls PySem.W.X
theorem rstP22 {M : Model} {A : Around} {env : Env} {Q : Flow → Shared → Prop} {E : Value → Shared → Prop} {s : Shared} (h : wpAny M A (execs [] env) Q E s) : wpAny M A (execs [] env) Q E s := by
  w_top off
  (try (walk1; fail))
  exact h
local macro_rules | `(tactic| x_close) => `(tactic| assumption)
set_option maxHeartbeats 8000000 in
theorem len1 {w : World} {h₀ : Heap} {g : Array GenState} {d : Drawn} {t : Nat} {os : OsState} (X : (hd.heap_39 w.params).In h₀) {Q E : Value → Shared → Prop} {S : Addr} {its : List Value} {n : Nat}
   (h1 : h₀.get? S = some ⟨.type "list", none, .seq ⟨its⟩ n, #[]⟩) (hl : its.length ≤ 1000) (h : Q (.int (Array.mk its).size (t + 1)) ⟨h₀, g, d, t + 1 + 1, os⟩) :
    wpAny (model PySem.Challenge.rw_fy0012_01.row.prog w) AX (call (.builtin "len") [.ref S]) Q E ⟨h₀, g, d, t, os⟩ := by
  x_run
theorem list_len {w : World} {A : Around} {g : Heap} {L : Addr} {m : Str → Option Value} {news : List (Addr × Obj)} {s : Shared} {E : Value → Shared → Prop} {Q : Value → Shared → Prop} {S : Addr} {its : List Value} {n : Nat} (X : (hd.heap_39 w.params).In g) (F : Fr g L s.heap m) (N : News g L s.heap news) (hm : (S, W.listOf its.toArray n) ∈ news) (hl : its.length ≤ 1000) (hh : A.handled = none) (hA : A.depth ≤ 500) (hu : A.units ≤ 500)
    (h : ∀ t' tk, Q (.int (its.length : Int) t') { s with toks := tk }) :
    wpAny (model PySem.Challenge.rw_fy0012_01.row.prog w) A (call (.builtin "len") [.ref S]) Q E s :=
  up_none (A' := AX) (len1 (X.keeps F.keep) (N _ hm).1 hl (h _ _)) hh hA rfl rfl hu
theorem list_first {prog : Program} {w : World} {A : Around} {E : Value → Shared → Prop} {s : Shared} {value slice : PySem.Expr} {h₀ : Heap} {L : Addr} {news : List (Addr × Obj)} {l : Addr} {v0 : Value} {vs : List Value} {n : Nat} {u : Tok} {Q : Value → Shared → Prop}
    (N : News h₀ L s.heap news) (hm : (l, W.listOf (v0 :: vs).toArray n) ∈ news) (h2 : (v0 :: vs).length ≤ 1000) (h : Q v0 s)
    (hs : subscripted slice false (.ref l) (.int 0 u) = operate [.ref l, .int 0 u] (getItem (.ref l) (.int 0 u)) := by with_unfolding_all rfl) :
    wpAny (model prog w) A (subscriptTail value slice (.ref l) (.int 0 u)) Q E s :=
  menu_item N hm (Int.le_refl _) (by simp only [List.length_cons]; omega) h2 (fun v hv => by
    have : v = v0 := by simpa using hv.symm
    rw [this]; exact h) hs
theorem lrun_sec : ∀ (gs : List (List Tg)) (st ls : LS), lrun st gs = .ok ls → ∀ g ∈ ls.sec, g ∈ st.sec ∨ g ∈ gs := by
  intro gs
  induction gs with
  | nil => intro st ls h g hg; cases h; exact .inl hg
  | cons a r ih =>
    intro st ls h g hg
    simp only [lrun] at h
    cases ha : lstep st a with
    | error e => rw [ha] at h; cases h
    | ok st' =>
      rw [ha] at h
      rcases ih st' ls h g hg with h1 | h1
      · have : g ∈ st.sec ∨ g = a := by
          unfold lstep at ha
          split at ha
          · cases ha; exact .inl h1
          · split at ha
            · split at ha
              · cases ha
              · cases ha; exact .inr (List.mem_singleton.mp h1)
            · split at ha
              · split at ha
                · cases ha
                · split at ha
                  · split at ha
                    · cases ha; cases h1
                    · cases ha
                  · cases ha
              · split at ha
                · cases ha; exact .inl h1
                · cases ha
                  rcases List.mem_append.mp h1 with h1 | h1
                  · exact .inl h1
                  · exact .inr (List.mem_singleton.mp h1)
        rcases this with h2 | h2
        · exact .inl h2
        · exact .inr (h2 ▸ .head _)
      · exact .inr (.tail _ h1)
theorem lrun_snoc (st ls : LS) (gs : List (List Tg)) (g : List Tg) (h : lrun st gs = .ok ls) : lrun st (gs ++ [g]) = lstep ls g := by
  rw [lrun_app, h]
  show lrun ls [g] = _
  simp only [lrun]
  cases lstep ls g <;> rfl
theorem take_more {α : Type} {gs : List α} {k : Nat} {x : α} (h1 : 1 ≤ k) (h2 : k ≤ gs.length) (h : gs[gs.length - k]? = some x) : gs.take (gs.length - (k - 1)) = gs.take (gs.length - k) ++ [x] := by
  have : gs.length - (k - 1) = (gs.length - k) + 1 := by omega
  rw [this, List.take_add_one, h]; rfl
end
end Mine
namespace Mine
section
open PySem PySem.W PyProof.Rows
theorem rstP24 {M : Model} {A : Around} {env : Env} {Q : Flow → Shared → Prop} {E : Value → Shared → Prop} {s : Shared} (h : wpAny M A (execs [] env) Q E s) : wpAny M A (execs [] env) Q E s := by
  w_top off
  (try (walk1; fail))
  exact h
/-- the plain reading's machine: entities in order, inside a flag -/
structure PS where
  now : Sec
  ins : Bool
  dct : List (Str × Sec)
  over : Bool
def pstep (st : PS) (grp : List Tg) : Except Str PS := match grp with
  | [] => .ok st
  | t :: _ =>
    if t.2 = "SECTION" then (if st.ins then .error mEnd else .ok { st with now := [grp], ins := true })
    else if t.2 = "ENDSEC" then (if !st.ins then .error mOut else match st.now with
      | (_ :: u :: _) :: _ => if u.1 = 2 then .ok { st with now := [], ins := false, dct := dput st.dct u.2 st.now } else .error mName
      | _ => .error mName)
    else if t.2 = "EOF" then .ok { st with over := true }
    else .ok { st with now := st.now ++ [grp] }
def prun : PS → List (List Tg) → Except Str PS
  | st, [] => .ok st
  | st, g :: r => match pstep st g with
    | .error e => .error e
    | .ok st' => prun st' r
def pend (needed : Bool) (r : Except Str PS) : Except Str (List (Str × Sec)) := match r with
  | .error e => .error e
  | .ok st => if st.ins then .error mEnd else if needed && !st.over then .error mEof else .ok st.dct
/-- both machines stand alike -/
def Alike (a : LS) (b : PS) : Prop := a.sec = b.now ∧ a.dct = b.dct ∧ a.eof = b.over ∧ secIn a.sec = b.ins ∧ (secOut a.sec = !b.ins)
theorem alike_step {a : LS} {b : PS} (h : Alike a b) {g : List Tg} (hg : ∀ t r, g = t :: r → t.1 = 0) (hne : g ≠ []) (hsec : ∀ x ∈ a.sec, x ≠ []) :
    match lstep a g, pstep b g with
    | .error e, .error e' => e = e'
    | .ok a', .ok b' => Alike a' b'
    | _, _ => False := by
  obtain ⟨h1, h2, h3, h4, h5⟩ := h
  obtain ⟨t, r, rfl⟩ := List.exists_cons_of_ne_nil hne
  have h0 := hg t r rfl
  obtain ⟨c, z⟩ := t
  dsimp only at h0
  subst h0
  have e1 : ∀ n : Str, ((((0 : Int), z) : Tg) = (0, n)) ↔ z = n := fun n => ⟨fun e => by injection e, fun e => by rw [e]⟩
  unfold lstep pstep
  dsimp only
  by_cases hz1 : z = "SECTION"
  · rw [if_pos ((e1 _).mpr hz1), if_pos hz1, h4]
    cases b.ins with
    | true => rfl
    | false =>
      refine ⟨rfl, h2, h3, ?_, ?_⟩
      · show decide _ = true
        exact decide_eq_true ((e1 _).mpr hz1)
      · show (!decide _) = !true
        rw [decide_eq_true ((e1 _).mpr hz1)]
  · rw [if_neg (fun e => hz1 ((e1 _).mp e)), if_neg hz1]
    by_cases hz2 : z = "ENDSEC"
    · rw [if_pos ((e1 _).mpr hz2), if_pos hz2, h5, h1, h2]
      cases b.ins with
      | false => rfl
      | true =>
        simp only [Bool.not_true, Bool.false_eq_true, if_false]
        rcases hn : b.now with _ | ⟨_ | ⟨x, _ | ⟨u, y⟩⟩, q⟩
        · rfl
        · rfl
        · rfl
        · dsimp only
          by_cases hu : u.1 = 2
          · rw [if_pos hu, if_pos hu]
            exact ⟨rfl, rfl, h3, rfl, rfl⟩
          · rw [if_neg hu, if_neg hu]
    · rw [if_neg (fun e => hz2 ((e1 _).mp e)), if_neg hz2]
      by_cases hz3 : z = "EOF"
      · rw [if_pos ((e1 _).mpr hz3), if_pos hz3]
        exact ⟨h1, h2, rfl, h4, h5⟩
      · rw [if_neg (fun e => hz3 ((e1 _).mp e)), if_neg hz3]
        refine ⟨by show a.sec ++ _ = b.now ++ _; rw [h1], h2, h3, ?_, ?_⟩
        · show secIn (a.sec ++ [_]) = b.ins
          rw [← h4]
          cases hs : a.sec with
          | nil =>
            show decide _ = false
            exact decide_eq_false (fun e => hz1 ((e1 _).mp e))
          | cons x xs =>
            obtain ⟨t', r', hx⟩ := List.exists_cons_of_ne_nil (hsec x (hs ▸ .head _))
            rw [hx]; rfl
        · show secOut (a.sec ++ [_]) = !b.ins
          rw [← h5]
          cases hs : a.sec with
          | nil =>
            show (!decide _) = true
            rw [decide_eq_false (fun e => hz1 ((e1 _).mp e))]; rfl
          | cons x xs =>
            obtain ⟨t', r', hx⟩ := List.exists_cons_of_ne_nil (hsec x (hs ▸ .head _))
            rw [hx]; rfl
theorem alike_run : ∀ (gs : List (List Tg)) (a : LS) (b : PS), Alike a b → (∀ g ∈ gs, g ≠ [] ∧ ∀ t r, g = t :: r → t.1 = 0) → (∀ x ∈ a.sec, x ≠ []) →
    match lrun a gs, prun b gs with
    | .error e, .error e' => e = e'
    | .ok a', .ok b' => Alike a' b'
    | _, _ => False := by
  intro gs
  induction gs with
  | nil => intro a b h _ _; exact h
  | cons g r ih =>
    intro a b h hg hs
    have h1 := alike_step h (hg g (.head _)).2 (hg g (.head _)).1 hs
    simp only [lrun, prun]
    cases ha : lstep a g with
    | error e =>
      cases hb : pstep b g with
      | error e' => rw [ha, hb] at h1; exact h1
      | ok b' => rw [ha, hb] at h1; exact h1.elim
    | ok a' =>
      cases hb : pstep b g with
      | error e' => rw [ha, hb] at h1; exact h1.elim
      | ok b' =>
        rw [ha, hb] at h1
        refine ih a' b' h1 (fun g' hg' => hg g' (.tail _ hg')) fun x hx => ?_
        have : lrun a [g] = .ok a' := by simp only [lrun, ha]
        rcases lrun_sec [g] a a' this x hx with h2 | h2
        · exact hs x h2
        · rw [List.mem_singleton.mp h2]; exact (hg g (.head _)).1
/-- the two readings say one thing -/
theorem readings (gs : List (List Tg)) (needed : Bool) (hg : ∀ g ∈ gs, g ≠ [] ∧ ∀ t r, g = t :: r → t.1 = 0) : lend (!needed) (lrun ⟨[], [], false⟩ gs) = pend needed (prun ⟨[], false, [], false⟩ gs) := by
  have h := alike_run gs ⟨[], [], false⟩ ⟨[], false, [], false⟩ ⟨rfl, rfl, rfl, rfl, rfl⟩ hg (fun _ h => nomatch h)
  cases ha : lrun ⟨[], [], false⟩ gs with
  | error e =>
    cases hb : prun ⟨[], false, [], false⟩ gs with
    | error e' => rw [ha, hb] at h; show Except.error e = Except.error e'; rw [show e = e' from h]
    | ok b => rw [ha, hb] at h; exact h.elim
  | ok a =>
    cases hb : prun ⟨[], false, [], false⟩ gs with
    | error e => rw [ha, hb] at h; exact h.elim
    | ok b =>
      rw [ha, hb] at h
      obtain ⟨h1, h2, h3, h4, h5⟩ := (show Alike a b from h)
      show (if secIn a.sec then _ else if !a.eof && !(!needed) then _ else _) = (if b.ins then _ else if needed && !b.over then _ else _)
      rw [h4, h3, h2, Bool.not_not, Bool.and_comm]
/-- what the code groups and what the plain reading groups, heads and all -/
theorem grp_heads {α : Type} {p : α → Bool} : ∀ {l : List α} {c : Option (List α)} (_ : ∀ c0, c = some c0 → ∃ t r, c0 = t :: r ∧ p t = true), ∀ g ∈ grpF p l c, ∃ t r, g = t :: r ∧ p t = true := by
  intro l
  induction l with
  | nil =>
    intro c hc g hg
    cases c with
    | none => cases hg
    | some c0 => rw [List.mem_singleton.mp hg]; exact hc c0 rfl
  | cons a r ih =>
    intro c hc g hg
    cases c with
    | none =>
      unfold grpF at hg
      split at hg
      · rename_i ha; exact ih (fun c0 e => by cases e; exact ⟨a, [], rfl, ha⟩) g hg
      · exact ih (c := none) (fun c0 e => by cases e) g hg
    | some c1 =>
      unfold grpF at hg
      split at hg
      · rename_i ha
        rcases List.mem_cons.mp hg with rfl | hg
        · exact hc _ rfl
        · exact ih (fun c0 e => by cases e; exact ⟨a, [], rfl, ha⟩) g hg
      · refine ih (c := some (c1 ++ [a])) (fun c0 e => ?_) g hg
        cases e
        obtain ⟨t, q, rfl, ht⟩ := hc c1 rfl
        exact ⟨t, q ++ [a], rfl, ht⟩
theorem grp_map {α β : Type} (f : α → β) (p : β → Bool) : ∀ (l : List α) (c : Option (List α)), (grpF (fun x => p (f x)) l c).map (·.map f) = grpF p (l.map f) (c.map (·.map f)) := by
  intro l
  induction l with
  | nil => intro c; cases c <;> rfl
  | cons a r ih =>
    intro c
    cases c with
    | none =>
      simp only [grpF, List.map_cons, Option.map_none]
      split
      · exact ih _
      · exact ih _
    | some c1 =>
      simp only [grpF, List.map_cons, Option.map_some]
      split
      · rw [List.map_cons]; congr 1; exact ih _
      · rw [ih]; simp
end
end Mine
namespace Mine
section
open PySem PySem.W PyProof.Rows PySem.Calls
theorem rstP29 {M : Model} {A : Around} {env : Env} {Q : Flow → Shared → Prop} {E : Value → Shared → Prop} {s : Shared} (h : wpAny M A (execs [] env) Q E s) : wpAny M A (execs [] env) Q E s := by
  w_top off
  (try (walk1; fail))
  exact h
theorem prun_snoc : ∀ (gs : List (List Tg)) (st : PS) (g : List Tg), prun st (gs ++ [g]) = match prun st gs with | .error e => .error e | .ok st' => pstep st' g := by
  intro gs
  induction gs with
  | nil => intro st g; show (match pstep st g with | .error e => _ | .ok st' => _) = pstep st g; cases pstep st g <;> rfl
  | cons a r ih =>
    intro st g
    rw [List.cons_append]
    cases hh : pstep st a with
    | error e => simp only [prun, hh]
    | ok st' => simp only [prun, hh, ih]
theorem prun_more {gs : List (List Tg)} {i : Nat} {g : List Tg} {st st' s0 : PS} (h : prun s0 (gs.take i) = .ok st) (hg : gs[i]? = some g) (hs : pstep st g = .ok st') : prun s0 (gs.take (i + 1)) = .ok st' := by
  rw [List.take_add_one, hg]
  show prun s0 (gs.take i ++ [g]) = _
  rw [prun_snoc, h]; exact hs
theorem prun_err {g : List Tg} {st : PS} {e : Str} : ∀ {gs : List (List Tg)} {i : Nat} {s0 : PS}, prun s0 (gs.take i) = .ok st → gs[i]? = some g → pstep st g = .error e → prun s0 gs = .error e := by
  intro gs
  induction gs with
  | nil => intro i s0 _ h; simp at h
  | cons a r ih =>
    intro i s0 h hg hs
    cases i with
    | zero =>
      simp only [List.getElem?_cons_zero, Option.some.injEq] at hg
      subst hg
      simp only [List.take_zero, prun, Except.ok.injEq] at h
      subst h
      simp only [prun, hs]
    | succ k =>
      rw [List.take_succ_cons] at h
      simp only [prun] at h ⊢
      cases hh : pstep s0 a with
      | error e' => rw [hh] at h; cases h
      | ok s1 => rw [hh] at h; simp only at h ⊢; exact ih h (by simpa using hg) hs
theorem pstep_ins {st st' : PS} {g : List Tg} (h0 : st.ins = true → st.now ≠ []) (h : pstep st g = .ok st') : st'.ins = true → st'.now ≠ [] := by
  intro hi
  unfold pstep at h
  split at h
  · injection h with h; subst h; exact h0 hi
  · repeat' split at h
    all_goals first
      | (injection h with h; subst h; first | (exact h0 hi) | (exact Bool.noConfusion hi) | (exact fun q => by simp at q))
      | cases h
theorem prun_ins : ∀ {gs : List (List Tg)} {st st' : PS}, (st.ins = true → st.now ≠ []) → prun st gs = .ok st' → st'.ins = true → st'.now ≠ [] := by
  intro gs
  induction gs with
  | nil => intro st st' h0 h; injection h with h; subst h; exact h0
  | cons a r ih =>
    intro st st' h0 h
    simp only [prun] at h
    cases hh : pstep st a with
    | error e => rw [hh] at h; cases h
    | ok s1 => rw [hh] at h; exact ih (pstep_ins h0 hh) h
theorem grp_len {α : Type} {p : α → Bool} : ∀ {l : List α} {c : Option (List α)}, ∀ g ∈ grpF p l c, g.length ≤ l.length + (match c with | none => 0 | some c0 => c0.length) := by
  intro l
  induction l with
  | nil =>
    intro c g hg
    cases c with
    | none => cases hg
    | some c0 => rw [List.mem_singleton.mp hg]; exact Nat.le_add_left _ _
  | cons a r ih =>
    intro c g hg
    cases c with
    | none =>
      simp only [grpF] at hg
      split at hg
      · have := ih g hg; simp only [List.length_cons, List.length_nil] at this ⊢; omega
      · have := ih g hg; simp only [List.length_cons] at this ⊢; omega
    | some c0 =>
      simp only [grpF] at hg
      split at hg
      · rcases List.mem_cons.mp hg with rfl | hg
        · exact Nat.le_add_left _ _
        · have := ih g hg; simp only [List.length_cons, List.length_nil] at this ⊢; omega
      · have := ih g hg; simp only [List.length_cons, List.length_append, List.length_nil] at this ⊢; omega
theorem grp_count {α : Type} {p : α → Bool} : ∀ {l : List α} {c : Option (List α)}, (grpF p l c).length ≤ l.length + (match c with | none => 0 | some _ => 1) := by
  intro l
  induction l with
  | nil => intro c; cases c <;> simp [grpF]
  | cons a r ih =>
    intro c
    have h1 := ih (c := some [a])
    cases c with
    | none =>
      have h0 := ih (c := none)
      simp only [grpF]
      split <;> simp only [List.length_cons] at h0 h1 ⊢ <;> omega
    | some c0 =>
      have h0 := ih (c := some (c0 ++ [a]))
      simp only [grpF]
      split <;> simp only [List.length_cons] at h0 h1 ⊢ <;> omega
theorem list_appendU {prog : Program} {w : World} {A : Around} {E : Value → Shared → Prop} {s : Shared} {g : Heap} {L : Addr} {m : Str → Option Value} {news : List (Addr × Obj)} {d : Addr} {vs : List Value} {n : Nat} {x : Value} {gu : Obj → List (Addr × Obj)} {Q : Value → Shared → Prop}
    (F : Fr g L s.heap m) (N : News g L s.heap news) (U : UpdF d (W.listOf vs.toArray n) news gu) (hsz : vs.length ≤ 1000)
    (h : ∀ h' n', Fr g L h' m → News g L h' (gu (W.listOf (vs ++ [x]).toArray n')) → Q .none { s with heap := h' }) :
    wpAny (model prog w) A (call (.builtin "list.append") [.ref d, x]) Q E s := by
  obtain ⟨pre, post, rfl, hg, a, b⟩ := U.split
  have hm := N (d, W.listOf vs.toArray n) (List.mem_append_right _ (.head _))
  refine append_at (hsz := by rw [List.size_toArray]; have : sizeLine = 16777216 := rfl; omega) hm.1 fun h' hs ho' => ?_
  refine h h' (n + 1) (F.change hs hm.2.1 hm.2.2) ?_
  rw [hg]
  refine N.setIn a b hs (o' := W.listOf (vs ++ [x]).toArray (n + 1)) ?_
  rw [ho', List.push_toArray]
theorem list_second {prog : Program} {w : World} {A : Around} {E : Value → Shared → Prop} {s : Shared} {value slice : PySem.Expr} {h₀ : Heap} {L : Addr} {news : List (Addr × Obj)} {l : Addr} {v0 v1 : Value} {vs : List Value} {n : Nat} {u : Tok} {Q : Value → Shared → Prop}
    (N : News h₀ L s.heap news) (hm : (l, W.listOf (v0 :: v1 :: vs).toArray n) ∈ news) (h2 : (v0 :: v1 :: vs).length ≤ 1000) (h : Q v1 s)
    (hs : subscripted slice false (.ref l) (.int 1 u) = operate [.ref l, .int 1 u] (getItem (.ref l) (.int 1 u)) := by with_unfolding_all rfl) :
    wpAny (model prog w) A (subscriptTail value slice (.ref l) (.int 1 u)) Q E s :=
  menu_item N hm (by decide) (by simp only [List.length_cons]; omega) h2 (fun v hv => by
    have : v = v1 := by simpa using hv.symm
    rw [this]; exact h) hs
theorem stored_len {kvs : List (Str × Value)} {x : Str} {v : Value} {n : Nat} (h : kvs.length ≤ n) : (stored kvs x v).length ≤ n + 1 := by
  unfold stored
  split
  · rw [List.length_map]; omega
  · rw [List.length_append]; exact Nat.succ_le_succ h
end
end Mine
namespace Mine
section
open PySem PySem.W PyProof.Rows PySem.Calls
theorem rstP25 {M : Model} {A : Around} {env : Env} {Q : Flow → Shared → Prop} {E : Value → Shared → Prop} {s : Shared} (h : wpAny M A (execs [] env) Q E s) : wpAny M A (execs [] env) Q E s := by
  w_top off
  (try (walk1; fail))
  exact h
local macro_rules | `(tactic| kd_p1) => `(tactic| (first | (k_unfold; (try dsimp only)) | (k_end; wrow_close) | walk1 | (dsimp only; walk1) | (leave1; walk_say "STEP leave1"; try dsimp only) | fail "no step"))
local macro_rules | `(tactic| kd_addW) => `(tactic| fail_if_success (first | (with_reducible show wpAny _ _ (exec (Stmt.For _ _ _ _ _) _) _ _ _) | (with_reducible show wpAny _ _ (pyIter (Value.ref _)) _ _ _)))
abbrev upG (outer : List Env) : Around := Around.mk none 360 (some outer) (some []) 250
theorem for_any {prog : Program} {w : World} {A : Around} {E : Value → Shared → Prop} {s : Shared} {env : Env} {target iter : Expr} {body : List Stmt} {pos : Pos} {Q : Flow → Shared → Prop} (hE : PassesOwn (model prog w) A env E)
    (hs : ∀ x, foldedSetIterable iter env x = pure x)
    (h : wpAny (model prog w) A (eval iter env) (fun xv s₁ => wpAny (model prog w) A (pyIter xv) (fun it s₂ => ∃ (I : Nat → Shared → Prop) (n : Nat), I n s₂ ∧ ∀ n s, I n s → wpAny (model prog w) A (pyNext it) (fun r s₁ => match r with
      | none => Q .next s₁
      | some v => wpAny (model prog w) A (letOwnedTupleGo target it v) (fun _ s₁' => wpAny (model prog w) A (assign target env v) (fun _ s₂ => wpAny (model prog w) A (execs body env) (fun f s₃ => match f with
          | .next | .cont => ∃ m, m < n ∧ I m s₃
          | .brk => Q .next s₃
          | .ret v => Q (.ret v) s₃) E s₂) E s₁') E s₁) E s) E s₁) E s) : wpAny (model prog w) A (exec (.For target iter body [] pos) env) Q E s := by
  refine wpAny_For (wpAny_mono h (fun xv s₁ h₁ => wpAny_mono h₁ (fun it s₂ h₂ => ?_) fun _ _ e => e) fun _ _ e => e) hs
  obtain ⟨I, n, h0, turn⟩ := h₂
  refine codeAny_forLoop_any (R := fun r s' => match r with | .ok f => Q f s' | .error e => cameBackBy (model prog w) A env E e s') I (fun n s hI => ?_) n h0
  refine wpAny_passesOwn hE (wpAny_mono (turn n s hI) (fun r s₁ h₁ => ?_) fun _ _ e => e)
  cases r with
  | none => exact wpAny_execs_nil h₁
  | some v =>
    refine wpAny_passesOwn hE (wpAny_mono h₁ (fun _ s₂ h₂ => ?_) fun _ _ e => e)
    refine wpAny_passesOwn hE (wpAny_mono h₂ (fun _ s₂ h₂ => ?_) fun _ _ e => e)
    exact wpAny_passesOwn hE h₂
end
end Mine
namespace Mine
section
open PySem PySem.W PyProof.Rows PySem.Calls
theorem rstP26 {M : Model} {A : Around} {env : Env} {Q : Flow → Shared → Prop} {E : Value → Shared → Prop} {s : Shared} (h : wpAny M A (execs [] env) Q E s) : wpAny M A (execs [] env) Q E s := by
  w_top off
  (try (walk1; fail))
  exact h
structure Shut (P : Prop) : Prop where
  out : P
/-- a for over a list of the ledger, with an invariant over frame and ledger -/
theorem list_for {prog : Program} {w : World} {A : Around} {E : Value → Shared → Prop} {s : Shared} {env : Env} {target : Expr} {body : List Stmt} {Q : Flow → Shared → Prop} {g : Heap} {L : Addr} {m : Str → Option Value} {news : List (Addr × Obj)} {r : Addr} {kr : Nat} {items : List Value}
    (hh : A.handled = none) (F : Fr g L s.heap m) (N : News g L s.heap news)
    (Inv : Nat → (Str → Option Value) → List (Addr × Obj) → Prop) (h0 : Inv 0 m news) (hr : ∀ i m1 nx, Inv i m1 nx → (r, W.listOf items.toArray kr) ∈ nx)
    (ht : ∀ (It : Addr) (i : Nat) (v : Value) (s : Shared) (P : Unit → Shared → Prop), items[i]? = some v → s.heap.IsListIter It r (i + 1) → P () s → wpAny (model prog w) A (letOwnedTupleGo target (.ref It) v) P NoE9 s)
    (step : ∀ i v m1 nx It oI h tk, items[i]? = some v → Inv i m1 nx → (∀ p ∈ nx, @Ne Nat p.1 It) → Fr g L h m1 → News g L h ((It, oI) :: nx) → oI.cls = .type "list_iterator" →
      wpAny (model prog w) A (assign target env v) (fun _ s₂ => wpAny (model prog w) A (execs body env) (fun f s₃ => match f with
        | .next | .cont => Shut (∃ h' tk' m' nx', s₃ = { s with heap := h', toks := tk' } ∧ Fr g L h' m' ∧ News g L h' ((It, oI) :: nx') ∧ (∀ p ∈ nx', @Ne Nat p.1 It) ∧ Inv (i + 1) m' nx')
        | .brk => Q .next s₃
        | .ret v => Q (.ret v) s₃) E s₂) E { s with heap := h, toks := tk })
    (done : ∀ m1 nx h tk, Inv items.length m1 nx → Fr g L h m1 → News g L h nx → Q .next { s with heap := h, toks := tk }) :
    wpAny (model prog w) A (pyIter (.ref r)) (fun it s₂ => ∃ (I : Nat → Shared → Prop) (n : Nat), I n s₂ ∧ ∀ n s, I n s → wpAny (model prog w) A (pyNext it) (fun r s₁ => match r with
      | none => Q .next s₁
      | some v => wpAny (model prog w) A (letOwnedTupleGo target it v) (fun _ s₁' => wpAny (model prog w) A (assign target env v) (fun _ s₂ => wpAny (model prog w) A (execs body env) (fun f s₃ => match f with
          | .next | .cont => ∃ m, m < n ∧ I m s₃
          | .brk => Q .next s₃
          | .ret v => Q (.ret v) s₃) E s₂) E s₁') E s₁) E s) E s := by
  have hl : s.heap.IsList r items.toArray := ⟨_, (N _ (hr _ _ _ h0)).1, rfl, kr, rfl⟩
  refine wpAny_pyIter_list hl ?_
  have N1 := N.push F { cls := .type "list_iterator", data := .fields #[.ref r, .int 0 0] }
  have lt1 : ∀ p ∈ news, @Ne Nat p.1 s.heap.objs.size := fun p hp => Nat.ne_of_lt (Heap.lt_size (N p hp).1)
  have F1 := F.push { cls := .type "list_iterator", data := .fields #[.ref r, .int 0 0] }
  generalize hI : s.heap.objs.size = It at *
  generalize hh1 : s.heap.push _ = h1 at *
  refine ⟨fun k s' => ∃ i m1 nx oI h tk, s' = { s with heap := h, toks := tk } ∧ i + k = items.length ∧ Inv i m1 nx ∧ (∀ p ∈ nx, @Ne Nat p.1 It) ∧ oI.cls = .type "list_iterator" ∧ oI.data = .fields #[.ref r, .int i 0] ∧ Fr g L h m1 ∧ News g L h ((It, oI) :: nx),
    items.length, ⟨0, m, news, { cls := .type "list_iterator", data := .fields #[.ref r, .int 0 0] }, h1, s.toks, rfl, by omega, h0, lt1, rfl, rfl, F1, N1⟩, ?_⟩
  rintro k s' ⟨i, m1, nx, oI, h, tk, rfl, hik, hinv, hne, c1, c2, F', N'⟩
  have hit : h.IsListIter It r i := ⟨oI, (N' _ (.head _)).1, c1, c2⟩
  have hl' : h.IsList r items.toArray := ⟨_, (N' _ (.tail _ (hr _ _ _ hinv))).1, rfl, kr, rfl⟩
  have nI := N' _ (.head _)
  rcases Nat.lt_or_ge i items.length with hi | hi
  · have hx := List.getElem?_eq_getElem hi
    generalize items[i] = v at hx
    refine wpAny_pyNext_list_item hit hl' (x := v) (by rw [List.getElem?_toArray]; exact hx) fun h' hi' hsb => ?_
    obtain ⟨oI', e1, c1', c2'⟩ := id hi'
    have F2 := F'.change hsb nI.2.1 nI.2.2
    have N2 : News g L h' ((It, oI') :: nx) := news_set (pre := []) N' (fun _ h => nomatch h) (fun p hp => hne p hp) hsb e1
    refine wpAny_mono (ht It i v { s with heap := h', toks := tk } _ hx hi' (step i v m1 nx It oI' h' tk hx hinv hne F2 N2 c1')) (fun _ s₂ h₂ => wpAny_mono h₂ (fun _ s₃ h₃ => wpAny_mono h₃ (fun f s₄ h₄ => ?_) fun _ _ z => z) fun _ _ z => z) fun _ _ z => z.elim
    have fin : (∃ h' tk' m' nx', s₄ = { s with heap := h', toks := tk' } ∧ Fr g L h' m' ∧ News g L h' ((It, oI') :: nx') ∧ (∀ p ∈ nx', @Ne Nat p.1 It) ∧ Inv (i + 1) m' nx') → ∃ m, m < k ∧ ∃ i m1 nx oI h tk, s₄ = { s with heap := h, toks := tk } ∧ i + m = items.length ∧ Inv i m1 nx ∧ (∀ p ∈ nx, @Ne Nat p.1 It) ∧ oI.cls = .type "list_iterator" ∧ oI.data = .fields #[.ref r, .int i 0] ∧ Fr g L h m1 ∧ News g L h ((It, oI) :: nx) :=
      fun ⟨h', tk', m', nx', a, b, c, d, e⟩ => ⟨k - 1, by omega, i + 1, m', nx', oI', h', tk', a, by omega, e, d, c1', c2', b, c⟩
    cases f with
    | next => exact fin h₄.out
    | cont => exact fin h₄.out
    | brk => exact h₄
    | ret v => exact h₄
  · have hie : i = items.length := by omega
    subst hie
    refine wpAny_pyNext_list_end hh hit hl' (by rw [List.getElem?_toArray, List.getElem?_eq_none (Nat.le_refl _)]) fun h' hx => ?_
    exact done m1 nx h' tk hinv ⟨F'.ns.extBut hx nI.2.1.symm, fun b o e => hx b o (fun q => by rw [q, nI.2.2] at e; cases e) (F'.keep b o e), F'.above⟩ fun p hp => ⟨hx _ _ (hne p hp) (N' _ (.tail _ hp)).1, (N' _ (.tail _ hp)).2⟩
end
end Mine
namespace Mine
section
open PySem PySem.W PyProof.Rows PySem.Calls
theorem rstP27 {M : Model} {A : Around} {env : Env} {Q : Flow → Shared → Prop} {E : Value → Shared → Prop} {s : Shared} (h : wpAny M A (execs [] env) Q E s) : wpAny M A (execs [] env) Q E s := by
  w_top off
  (try (walk1; fail))
  exact h
local macro_rules | `(tactic| kd_p1) => `(tactic| (first | (k_unfold; (try dsimp only)) | (k_end; wrow_close) | walk1 | (dsimp only; walk1) | (leave1; walk_say "STEP leave1"; try dsimp only) | fail "no step"))
local macro_rules | `(tactic| kd_addW) => `(tactic| fail_if_success (first | (with_reducible show wpAny _ _ (exec (Stmt.For _ _ _ _ _) _) _ _ _) | (with_reducible show wpAny _ _ (pyIter (Value.ref _)) _ _ _)))
def isH (t : Tg) : Bool := decide (t.1 = 0)
def GrpL (S : List (Addr × Obj)) (v : Value) (g : List Tg) : Prop := ∃ (a : Addr) (n : Nat) (vs : List Value), v = .ref a ∧ (a, W.listOf vs.toArray n) ∈ S ∧ RowsIn S vs g
theorem GrpL.mono {S S' : List (Addr × Obj)} (k : ∀ p ∈ S, p ∈ S') {v : Value} {g : List Tg} (h : GrpL S v g) : GrpL S' v g := let ⟨a, n, vs, e, q, r⟩ := h; ⟨a, n, vs, e, k _ q, r.mono fun _ _ z => z.mono k⟩
/-- the groups so far: none, or the closed ones and the last -/
def GInv (r : Addr) (kr : Nat) (rvs : List Value) (tags : List Tg) (tl : List (Addr × Obj)) (i : Nat) (m : Str → Option Value) (nx : List (Addr × Obj)) : Prop :=
  ∃ (Fd : Addr) (kf : Nat) (tl' : List (Addr × Obj)), m "found" = some (.ref Fd) ∧ (∀ p ∈ tl, p ∈ tl') ∧
    ((nx = (Fd, W.listOf ([] : List Value).toArray kf) :: tl' ∧ OwnOff tl' [Fd] ∧ grpF isH tags none = grpF isH (tags.drop i) none) ∨
    (∃ (Gl : Addr) (kg : Nat) (cvs gvs : List Value) (cl : List (List Tg)) (last : List Tg), nx = (Fd, W.listOf (cvs ++ [Value.ref Gl]).toArray kf) :: (Gl, W.listOf gvs.toArray kg) :: tl' ∧ OwnOff tl' [Fd, Gl] ∧ @Ne Nat Fd Gl ∧ AllIn (GrpL tl') cvs cl ∧ RowsIn tl' gvs last ∧
      cl.length + 1 ≤ i ∧ last.length ≤ i ∧ grpF isH tags none = cl ++ grpF isH (tags.drop i) (some last)))
theorem list_last {prog : Program} {w : World} {A : Around} {E : Value → Shared → Prop} {s : Shared} {value slice : PySem.Expr} {h₀ : Heap} {L : Addr} {news : List (Addr × Obj)} {l : Addr} {v0 : Value} {vs : List Value} {n : Nat} {u : Tok} {Q : Value → Shared → Prop}
    (N : News h₀ L s.heap news) (hm : (l, W.listOf (vs ++ [v0]).toArray n) ∈ news) (h : Q v0 s)
    (hs : subscripted slice false (.ref l) (.int (-1) u) = operate [.ref l, .int (-1) u] (getItem (.ref l) (.int (-1) u)) := by with_unfolding_all rfl) :
    wpAny (model prog w) A (subscriptTail value slice (.ref l) (.int (-1) u)) Q E s := by
  have hl : s.heap.IsList l (vs ++ [v0]).toArray := ⟨_, (N _ hm).1, rfl, n, rfl⟩
  refine tail_any hl.typeIs slot_list_getitem.lookup (wpAny_getItem_list_neg (x := v0) hl (by decide) ?_ (by decide) ?_ h) hs
  · rw [List.size_toArray, List.length_append]; show -((vs.length + 1 : Nat) : Int) ≤ -1; omega
  · rw [List.size_toArray, List.length_append, List.getElem?_toArray]
    have : ((-1 : Int) + ((vs.length + [v0].length : Nat) : Int)).toNat = vs.length := by show ((-1 : Int) + ((vs.length + 1 : Nat) : Int)).toNat = _; omega
    rw [this, List.getElem?_append_right (Nat.le_refl _), Nat.sub_self]; rfl
local macro_rules | `(tactic| walk_at "subscriptTail") => `(tactic| (k_here; (with_reducible show wpAny _ _ (subscriptTail _ _ (Value.ref _) (Value.int _ _)) _ _ _); k_dflt ((refine' list_last ?N ?g ?_); (case N => k_asm); (case g => k_mem); k_whole)))
theorem ginv_new {r : Addr} {kr : Nat} {rvs : List Value} {tags : List Tg} {tl tl' all : List (Addr × Obj)} {i : Nat} {m : Str → Option Value} {g h : Heap} {L It Fd Gl dt : Addr} {oI : Obj} {kf kg : Nat} {cvs : List Value} {cl : List (List Tg)} {c0 : Int} {z0 : Str} {x y : Tok} {s : Shared} {tk : Nat}
    (F : Fr g L h m) (N : News g L h all) (h1 : (It, oI) ∈ all) (h2 : (Fd, W.listOf (cvs ++ [Value.ref Gl]).toArray kf) ∈ all) (h3 : (Gl, W.listOf #[Value.ref dt] kg) ∈ all) (h4 : (dt, ({ cls := .type "tuple", data := .seq #[.int c0 x, .str z0 y] } : Obj)) ∈ all) (h5 : ∀ p ∈ tl', p ∈ all)
    (hIc : oI.cls = .type "list_iterator") (hne : ∀ p ∈ tl', @Ne Nat p.1 It) (oF : OwnOff tl' [Fd]) (oG : ∀ p ∈ tl', @Ne Nat p.1 Gl) (nFG : @Ne Nat Fd Gl) (mf : m "found" = some (.ref Fd)) (hk : ∀ p ∈ tl, p ∈ tl') (hcl : AllIn (GrpL tl') cvs cl) (hi : cl.length ≤ i)
    (hg : grpF isH tags none = cl ++ grpF isH (tags.drop (i + 1)) (some [(c0, z0)])) :
    Shut (∃ h' tk' m' nx', { s with heap := h, toks := tk } = { s with heap := h', toks := tk' } ∧ Fr g L h' m' ∧ News g L h' ((It, oI) :: nx') ∧ (∀ p ∈ nx', @Ne Nat p.1 It) ∧ GInv r kr rvs tags tl (i + 1) m' nx') := by
  have nI : ∀ {q : Addr} {o : Obj}, (q, o) ∈ all → o.cls ≠ .type "list_iterator" → @Ne Nat q It := fun {q o} hq hc e => by
    have a1 := (N _ hq).1
    have a2 := (N _ h1).1
    dsimp only at a1 a2
    rw [e, a2] at a1
    cases a1
    exact hc hIc
  have cl1 : ∀ {a : Array Value} {n : Nat}, (W.listOf a n).cls ≠ .type "list_iterator" := fun e => by injection e with e; exact absurd e (by decide)
  have dF : @Ne Nat dt Fd := news_ne N h4 h2 (tup_ne_list (t := (c0, z0)))
  have dG : @Ne Nat dt Gl := news_ne N h4 h3 (tup_ne_list (t := (c0, z0)))
  have dI : @Ne Nat dt It := nI h4 (fun e => by injection e with e; exact absurd e (by decide))
  refine ⟨h, tk, m, (Fd, W.listOf (cvs ++ [Value.ref Gl]).toArray kf) :: (Gl, W.listOf [Value.ref dt].toArray kg) :: (dt, tupO (c0, z0) x y) :: tl', rfl, F, fun p hp => N p ?_, fun p hp => ?_, Fd, kf, (dt, tupO (c0, z0) x y) :: tl', mf, fun p hp => .tail _ (hk p hp),
    .inr ⟨Gl, kg, cvs, [.ref dt], cl, [(c0, z0)], rfl, fun p hp b hb => ?_, nFG, hcl.mono fun _ _ z => z.mono fun p hp => .tail _ hp, .cons ⟨dt, x, y, rfl, .head _⟩ .nil, Nat.succ_le_succ hi, Nat.le_add_left 1 i, hg⟩⟩
  · rcases List.mem_cons.mp hp with rfl | hp
    · exact h1
    · rcases List.mem_cons.mp hp with rfl | hp
      · exact h2
      · rcases List.mem_cons.mp hp with rfl | hp
        · exact h3
        · rcases List.mem_cons.mp hp with rfl | hp
          · exact h4
          · exact h5 p hp
  · rcases List.mem_cons.mp hp with rfl | hp
    · exact nI h2 cl1
    · rcases List.mem_cons.mp hp with rfl | hp
      · exact nI h3 cl1
      · rcases List.mem_cons.mp hp with rfl | hp
        · exact dI
        · exact hne p hp
  · have hb' : b = Fd ∨ b = Gl := by simpa using hb
    rcases List.mem_cons.mp hp with rfl | hp
    · rcases hb' with rfl | rfl
      · exact dF
      · exact dG
    · rcases hb' with rfl | rfl
      · exact oF p hp _ (.head _)
      · exact oG p hp
theorem ginv_grow {r : Addr} {kr : Nat} {rvs : List Value} {tags : List Tg} {tl tl' all : List (Addr × Obj)} {i : Nat} {m : Str → Option Value} {g h : Heap} {L It Fd Gl dt : Addr} {oI : Obj} {kf kg kg' : Nat} {cvs gvs : List Value} {cl : List (List Tg)} {last : List Tg} {c0 : Int} {z0 : Str} {x y : Tok} {s : Shared} {tk : Nat}
    (F : Fr g L h m) (N : News g L h all) (h1 : (It, oI) ∈ all) (h2 : (Fd, W.listOf (cvs ++ [Value.ref Gl]).toArray kf) ∈ all) (h4 : (dt, ({ cls := .type "tuple", data := .seq #[.int c0 x, .str z0 y] } : Obj)) ∈ all) (h3 : (Gl, W.listOf (gvs ++ [Value.ref dt]).toArray kg') ∈ all) (h5 : ∀ p ∈ tl', p ∈ all)
    (hIc : oI.cls = .type "list_iterator") (hne : ∀ p ∈ (Fd, W.listOf (cvs ++ [Value.ref Gl]).toArray kf) :: (Gl, W.listOf gvs.toArray kg) :: tl', @Ne Nat p.1 It) (oo : OwnOff tl' [Fd, Gl]) (nFG : @Ne Nat Fd Gl) (mf : m "found" = some (.ref Fd)) (hk : ∀ p ∈ tl, p ∈ tl') (hcl : AllIn (GrpL tl') cvs cl) (hlast : RowsIn tl' gvs last) (z1 : cl.length + 1 ≤ i) (z2 : last.length ≤ i)
    (hg : grpF isH tags none = cl ++ grpF isH (tags.drop (i + 1)) (some (last ++ [(c0, z0)]))) :
    Shut (∃ h' tk' m' nx', { s with heap := h, toks := tk } = { s with heap := h', toks := tk' } ∧ Fr g L h' m' ∧ News g L h' ((It, oI) :: nx') ∧ (∀ p ∈ nx', @Ne Nat p.1 It) ∧ GInv r kr rvs tags tl (i + 1) m' nx') := by
  have dF : @Ne Nat dt Fd := news_ne N h4 h2 (tup_ne_list (t := (c0, z0)))
  have dG : @Ne Nat dt Gl := news_ne N h4 h3 (tup_ne_list (t := (c0, z0)))
  have dI : @Ne Nat dt It := fun e => by
    have a1 := (N _ h4).1
    have a2 := (N _ h1).1
    dsimp only at a1 a2
    rw [e, a2] at a1
    cases a1
    exact absurd hIc (fun e => by injection e with e; exact absurd e (by decide))
  have up : ∀ p ∈ tl', p ∈ (dt, tupO (c0, z0) x y) :: tl' := fun p hp => .tail _ hp
  refine ⟨h, tk, m, (Fd, W.listOf (cvs ++ [Value.ref Gl]).toArray kf) :: (Gl, W.listOf (gvs ++ [Value.ref dt]).toArray kg') :: (dt, tupO (c0, z0) x y) :: tl', rfl, F, fun p hp => N p ?_, fun p hp => ?_, Fd, kf, (dt, tupO (c0, z0) x y) :: tl', mf, fun p hp => .tail _ (hk p hp),
    .inr ⟨Gl, kg', cvs, gvs ++ [.ref dt], cl, last ++ [(c0, z0)], rfl, fun p hp b hb => ?_, nFG, hcl.mono fun _ _ z => z.mono up, (hlast.mono fun _ _ z => z.mono up).append (.cons ⟨dt, x, y, rfl, .head _⟩ .nil), Nat.le_succ_of_le z1, by rw [List.length_append]; exact Nat.succ_le_succ z2, hg⟩⟩
  · rcases List.mem_cons.mp hp with rfl | hp
    · exact h1
    · rcases List.mem_cons.mp hp with rfl | hp
      · exact h2
      · rcases List.mem_cons.mp hp with rfl | hp
        · exact h3
        · rcases List.mem_cons.mp hp with rfl | hp
          · exact h4
          · exact h5 p hp
  · rcases List.mem_cons.mp hp with rfl | hp
    · exact hne _ (.head _)
    · rcases List.mem_cons.mp hp with rfl | hp
      · exact (hne (Gl, W.listOf gvs.toArray kg) (.tail _ (.head _)) : @Ne Nat Gl It)
      · rcases List.mem_cons.mp hp with rfl | hp
        · exact dI
        · exact hne p (.tail _ (.tail _ hp))
  · have hb' : b = Fd ∨ b = Gl := by simpa using hb
    rcases List.mem_cons.mp hp with rfl | hp
    · rcases hb' with rfl | rfl
      · exact dF
      · exact dG
    · exact oo p hp b hb
set_option maxHeartbeats 4000000 in
theorem grouped_specX {w : World} {A₀ : Around} {base h₀ : Heap} {outer : List Env} {L fa : Addr} {cd : Value} {nm : Str} {nms gen co mr} {m : Str → Option Value} {p : Program} {loose mean mg mb} {s : Shared} {E : Value → Shared → Prop} {Q : Value → Shared → Prop}
    {r : Addr} {kr : Nat} {rvs : List Value} {tags : List Tg} {tl : List (Addr × Obj)}
    (B : Below A₀ base outer h₀) (X : (hd.heap_39 w.params).In h₀) (T : Top p loose mean mg mb h₀) (F : Fr h₀ L s.heap m) (N : News h₀ L s.heap tl) (hr : (r, W.listOf rvs.toArray kr) ∈ tl) (hrows : RowsIn tl rvs tags) (hlen : tags.length ≤ 57)
    (h : ∀ (Fd : Addr) (kf : Nat) (fvs : List Value) (tl' : List (Addr × Obj)) (h' : Heap) (tk' : Nat), Fr h₀ L h' m → News h₀ L h' ((Fd, W.listOf fvs.toArray kf) :: tl') → AllIn (GrpL tl') fvs (grpF isH tags none) → (∀ p ∈ tl, p ∈ tl') → OwnOff tl' [Fd] → Q (.ref Fd) { s with heap := h', toks := tk' }) :
    wpAny (model PySem.Challenge.rw_fy0012_01.row.prog w) ((upG outer).deeper (envOf nm (scF nms gen co mr) L fa cd)) (call (.ref 368) [.ref r]) Q E s := by
  have sl := Seal.mk (And.intro hr (And.intro hrows hlen))
  clear hr hrows hlen
  refine wpAny_call ?_
  k_enter
  repeat' (kd_addW; kd_p1)
  k_fold
  refine for_any (by passes_own) (fun _ => rfl) ?_
  repeat' (kd_addW; kd_p1)
  obtain ⟨hr, hrows, hlen⟩ := sl.out
  rename Fr _ _ _ _ => F9
  rename News _ _ _ _ => N9
  rename ∀ _ ∈ tl, _ < _ => l9
  refine list_for (kr := kr) (items := rvs) rfl F9 N9 (GInv r kr rvs tags tl) ⟨_, _, tl, by rfl, fun _ h => h, .inl ⟨rfl, fun p hp b hb => ?_, by rw [List.drop_zero]⟩⟩ ?_ ?_ ?step ?done
  · rw [List.mem_singleton.mp hb]; exact Nat.ne_of_lt (l9 p hp)
  · rintro i m1 nx ⟨Fd, kf, tl', _, hk, ⟨rfl, _⟩ | ⟨Gl, kg, cvs, gvs, cl, last, rfl, _⟩⟩
    · exact .tail _ (hk _ hr)
    · exact .tail _ (.tail _ (hk _ hr))
  · intro It i v s1 P hv hit hp
    obtain ⟨t, ht, a, x, y, rfl, hmem⟩ := hrows.get hv
    exact wpAny_letOwnedTupleGo_listiter hit hp
  case step =>
    rintro i v m1 nx It oI h2 tk2 hv ⟨Fd, kf, tl', mf, hk, hcase⟩ hne F2 N2 hoI
    obtain ⟨t, ht, a, x, y, rfl, hmem⟩ := hrows.get hv
    obtain ⟨c0, z0⟩ := t
    have hrl := hrows.length
    have hi57 : i < 57 := by
      have := (List.getElem?_eq_some_iff.mp hv).1
      omega
    rcases hcase with ⟨rfl, oo, hg⟩ | ⟨Gl, kg, cvs, gvs, cl, last, rfl, oo, e1, hcl, hlast, z1, z2, hg⟩
    · have oI1 : @Ne Nat Fd It := hne _ (.head _)
      have hmem' : (a, tupO (c0, z0) x y) ∈ (It, oI) :: (Fd, W.listOf ([] : List Value).toArray kf) :: tl' := .tail _ (.tail _ (hk _ hmem))
      refine unpackN_ F2 N2 (News.isTup N2 (d := none) (n := 0) (sl := #[]) hmem') rfl rfl rfl fun h3 F3 N3 => ?_
      have F4 := fr_name F3 "found" mf
      have sl2 := Seal.mk (And.intro hrows (And.intro hg (And.intro hne (And.intro hk hmem))))
      clear F2 N2 F3 hmem' hrows hg hk hne hmem F9 N9 hr
      dsimp only
      try k_fold
      repeat' (kd_addW; kd_p1)
      · -- a first group begins
        rename Fr _ _ _ _ => F7
        rename News _ _ _ _ => N7
        rename _ ∧ _ => lt7
        obtain ⟨hrows, hg, hne, hk, hmem⟩ := sl2.out
        simp only [List.push_toArray] at N7
        dsimp only
        have hd : tags.drop i = (c0, z0) :: tags.drop (i + 1) := drop_at ht
        have hc0 : c0 = 0 := by assumption
        have hH : isH (c0, z0) = true := decide_eq_true hc0
        refine ginv_new (cvs := []) (cl := []) F7 N7 (by k_mem) (by k_mem) (by k_mem) (by k_mem) (tl' := tl') (by intro p9 hp9; repeat (first | exact hp9 | refine List.mem_cons_of_mem _ ?_)) hoI (fun p hp => hne p (.tail _ hp)) oo ?_ (by omega) (by rfl) hk .nil (Nat.zero_le _) (by rw [hg, hd]; show (if isH (c0, z0) = true then _ else _) = _; rw [if_pos hH]; rfl)
        exact fun p hp => Nat.ne_of_lt (allLt_mem lt7.2.2.2 p hp)
      · -- a row ahead of the first group
        rename Fr _ _ _ _ => F7
        rename News _ _ _ _ => N7
        obtain ⟨hrows, hg, hne, hk, hmem⟩ := sl2.out
        have hd : tags.drop i = (c0, z0) :: tags.drop (i + 1) := drop_at ht
        have hc0 : ¬ c0 = 0 := by assumption
        have hH : isH (c0, z0) = false := decide_eq_false hc0
        dsimp only
        exact ⟨_, _, _, (Fd, W.listOf ([] : List Value).toArray kf) :: tl', rfl, F7, N7, hne, Fd, kf, tl', by rfl, hk, .inl ⟨rfl, oo, by rw [hg, hd]; show (if isH (c0, z0) = true then _ else _) = _; rw [hH, if_neg Bool.false_ne_true]⟩⟩
    · have oI1 : @Ne Nat Fd It := hne _ (.head _)
      have oI2 : @Ne Nat Gl It := hne _ (.tail _ (.head _))
      have hmem' : (a, tupO (c0, z0) x y) ∈ (It, oI) :: (Fd, W.listOf (cvs ++ [Value.ref Gl]).toArray kf) :: (Gl, W.listOf gvs.toArray kg) :: tl' := .tail _ (.tail _ (.tail _ (hk _ hmem)))
      refine unpackN_ F2 N2 (News.isTup N2 (d := none) (n := 0) (sl := #[]) hmem') rfl rfl rfl fun h3 F3 N3 => ?_
      have F4 := fr_name F3 "found" mf
      have hl1 := hcl.length
      have hl2 := hlast.length
      have sl2 := Seal.mk (And.intro hrows (And.intro hg (And.intro hne (And.intro hk (And.intro hmem (And.intro hcl hlast))))))
      clear F2 N2 F3 hmem' hrows hg hk hne hmem F9 N9 hr hcl hlast
      dsimp only
      try k_fold
      repeat' (kd_addW; kd_p1)
      · -- the last group is closed, a new one begins
        rename Fr _ _ _ _ => F7
        rename News _ _ _ _ => N7
        rename _ ∧ _ => lt7
        obtain ⟨hrows, hg, hne, hk, hmem, hcl, hlast⟩ := sl2.out
        simp only [List.push_toArray] at N7
        dsimp only
        have hd : tags.drop i = (c0, z0) :: tags.drop (i + 1) := drop_at ht
        have hc0 : c0 = 0 := by assumption
        have hH : isH (c0, z0) = true := decide_eq_true hc0
        refine ginv_new (cvs := cvs ++ [Value.ref Gl]) (cl := cl ++ [last]) F7 N7 (by k_mem) (by k_mem) (by k_mem) (by k_mem) (tl' := (Gl, W.listOf gvs.toArray kg) :: tl') (by intro p9 hp9; repeat (first | exact hp9 | refine List.mem_cons_of_mem _ ?_)) hoI (fun p hp => hne p (.tail _ hp)) ?o1 ?o2 (by omega) (by rfl) (fun p hp => .tail _ (hk p hp)) ?o3 (by rw [List.length_append]; exact z1) ?o4
        case o1 =>
          intro p hp b hb
          rw [List.mem_singleton.mp hb]
          rcases List.mem_cons.mp hp with rfl | hp
          · exact e1.symm
          · exact oo p hp Fd (.head _)
        case o2 =>
          intro p hp
          rcases List.mem_cons.mp hp with rfl | hp
          · show @Ne Nat Gl _
            omega
          · exact Nat.ne_of_lt (allLt_mem lt7.2.2.2.2 p hp)
        case o3 => exact (hcl.mono fun _ _ z => z.mono fun p hp => .tail _ hp).append (.cons ⟨Gl, kg, gvs, rfl, .head _, hlast.mono fun _ _ z => z.mono fun p hp => .tail _ hp⟩ .nil)
        case o4 =>
          rw [hg, hd]
          show cl ++ (if isH (c0, z0) = true then _ else _) = _
          rw [if_pos hH, List.append_assoc]; rfl
      · rename Fr _ _ _ _ => F8
        rename News _ _ _ _ => N8
        refine wpAny_truthy_list (items := (cvs ++ [Value.ref Gl]).toArray) ⟨_, (N8 _ (.tail _ (.head _))).1, rfl, _, rfl⟩ (by rw [List.size_toArray, List.length_append]; show ((cvs.length + 1 : Nat) : Int) < _; omega) ?_
        have he : ((cvs ++ [Value.ref Gl]).toArray.isEmpty) = false := by simp
        rw [he]
        rw [if_pos (show (!false) = true from rfl)]
        try k_fold
        repeat' (kd_addW; kd_p1)
        rename Fr _ _ _ _ => F7
        rename News _ _ _ _ => N7
        rename _ ∧ _ => lt7
        obtain ⟨hrows, hg, hne, hk, hmem, hcl, hlast⟩ := sl2.out
        simp only [List.push_toArray] at N7
        dsimp only
        have hd : tags.drop i = (c0, z0) :: tags.drop (i + 1) := drop_at ht
        have hc0 : ¬ c0 = 0 := by assumption
        have hH : isH (c0, z0) = false := decide_eq_false hc0
        refine ginv_grow (c0 := c0) (z0 := z0) F7 N7 (by k_mem) (by k_mem) (by k_mem) (by k_mem) (tl' := tl') (by intro p9 hp9; repeat (first | exact hp9 | refine List.mem_cons_of_mem _ ?_)) hoI hne oo e1 (by rfl) hk hcl hlast z1 z2 ?p1
        case p1 =>
          rw [hg, hd]
          show cl ++ (if isH (c0, z0) = true then _ else _) = _
          rw [hH, if_neg Bool.false_ne_true]
  case done =>
    rintro m1 nx h2 tk2 ⟨Fd, kf, tl', mf, hk, hcase⟩ F2 N2
    have hlt : rvs.length = tags.length := hrows.length
    have hnil : tags.drop rvs.length = [] := by rw [hlt]; exact List.drop_length
    rw [hnil] at hcase
    have F4 := fr_name F2 "found" mf
    clear F2 F9 N9
    rcases hcase with ⟨rfl, oo, hg⟩ | ⟨Gl, kg, cvs, gvs, cl, last, rfl, oo, e1, hcl, hlast, z1, z2, hg⟩
    · have sl2 := Seal.mk (And.intro hg (And.intro hk oo))
      clear hg hk hr hrows hnil
      dsimp only
      try k_fold
      repeat' (kd_addW; kd_p1)
      obtain ⟨hg, hk, oo⟩ := sl2.out
      rename Fr _ _ _ _ => F7
      rename News _ _ _ _ => N7
      refine h Fd kf [] tl' _ _ F7 N7 ?_ hk oo
      rw [hg]; exact .nil
    · have sl2 := Seal.mk (And.intro hg (And.intro hk (And.intro hcl hlast)))
      clear hg hk hr hrows hnil hcl hlast
      dsimp only
      try k_fold
      repeat' (kd_addW; kd_p1)
      obtain ⟨hg, hk, hcl, hlast⟩ := sl2.out
      rename Fr _ _ _ _ => F7
      rename News _ _ _ _ => N7
      refine h Fd kf (cvs ++ [.ref Gl]) ((Gl, W.listOf gvs.toArray kg) :: tl') _ _ F7 N7 ?_ (fun p hp => .tail _ (hk p hp)) ?_
      rotate_left
      · intro p hp b hb
        rw [List.mem_singleton.mp hb]
        rcases List.mem_cons.mp hp with rfl | hp
        · exact e1.symm
        · exact oo p hp Fd (.head _)
      rw [hg]
      exact (hcl.mono fun _ _ z => z.mono fun p hp => .tail _ hp).append (.cons ⟨Gl, kg, gvs, rfl, .head _, hlast.mono fun _ _ z => z.mono fun p hp => .tail _ hp⟩ .nil)
end
end Mine
namespace Mine
section
open PySem PySem.W PyProof.Rows PySem.Calls
theorem rstP28 {M : Model} {A : Around} {env : Env} {Q : Flow → Shared → Prop} {E : Value → Shared → Prop} {s : Shared} (h : wpAny M A (execs [] env) Q E s) : wpAny M A (execs [] env) Q E s := by
  w_top off
  (try (walk1; fail))
  exact h
local macro_rules | `(tactic| kd_p1) => `(tactic| (first | (k_unfold; (try dsimp only)) | (k_end; wrow_close) | walk1 | (dsimp only; walk1) | (leave1; walk_say "STEP leave1"; try dsimp only) | fail "no step"))
local macro_rules | `(tactic| kd_addW) => `(tactic| fail_if_success (first | (with_reducible show wpAny _ _ (exec (Stmt.For _ _ _ _ _) _) _ _ _) | (with_reducible show wpAny _ _ (pyIter (Value.ref _)) _ _ _) | (with_reducible show wpAny _ _ (call (Value.ref 368) _) _ _ _)))
local macro_rules | `(tactic| walk_at "subscriptTail") => `(tactic| (k_here; (with_reducible show wpAny _ _ (subscriptTail _ _ (Value.ref _) (Value.int 0 _)) _ _ _); k_dflt ((refine' list_first ?N ?g ?h2 ?_); (case N => k_asm); (case g => (first | k_mem | (repeat (first | assumption | refine List.mem_cons_of_mem _ ?_)))); (case h2 => assumption); k_whole)))
theorem tup_first {prog : Program} {w : World} {A : Around} {E : Value → Shared → Prop} {s : Shared} {value slice : PySem.Expr} {h₀ : Heap} {L : Addr} {news : List (Addr × Obj)} {l : Addr} {c0 : Int} {w0 : Str} {x y : Tok} {u : Tok} {Q : Value → Shared → Prop}
    (N : News h₀ L s.heap news) (hm : (l, tupO (c0, w0) x y) ∈ news) (h : Q (.int c0 x) s)
    (hs : subscripted slice false (.ref l) (.int 0 u) = operate [.ref l, .int 0 u] (getItem (.ref l) (.int 0 u)) := by with_unfolding_all rfl) :
    wpAny (model prog w) A (subscriptTail value slice (.ref l) (.int 0 u)) Q E s := by
  have hl : IsTup s.heap l #[.int c0 x, .str w0 y] := ⟨_, (N _ hm).1, rfl, _, rfl⟩
  exact tail_any hl.typeIs PyProof.Rows.slot_tuple_getitem.lookup (getItem_tuple (j := 0) hl (by decide) (by decide) (by rfl) (by rfl) h) hs
theorem tup_second {prog : Program} {w : World} {A : Around} {E : Value → Shared → Prop} {s : Shared} {value slice : PySem.Expr} {h₀ : Heap} {L : Addr} {news : List (Addr × Obj)} {l : Addr} {c0 : Int} {w0 : Str} {x y : Tok} {u : Tok} {Q : Value → Shared → Prop}
    (N : News h₀ L s.heap news) (hm : (l, tupO (c0, w0) x y) ∈ news) (h : Q (.str w0 y) s)
    (hs : subscripted slice false (.ref l) (.int 1 u) = operate [.ref l, .int 1 u] (getItem (.ref l) (.int 1 u)) := by with_unfolding_all rfl) :
    wpAny (model prog w) A (subscriptTail value slice (.ref l) (.int 1 u)) Q E s := by
  have hl : IsTup s.heap l #[.int c0 x, .str w0 y] := ⟨_, (N _ hm).1, rfl, _, rfl⟩
  exact tail_any hl.typeIs PyProof.Rows.slot_tuple_getitem.lookup (getItem_tuple (j := 1) hl (by decide) (by decide) (by rfl) (by rfl) h) hs
local macro_rules | `(tactic| walk_at "subscriptTail") => `(tactic| (k_here; (with_reducible show wpAny _ _ (subscriptTail _ _ (Value.ref _) (Value.int 1 _)) _ _ _); k_dflt ((refine' tup_second ?N ?g ?_); (case N => k_asm); (case g => (repeat (first | assumption | refine List.mem_cons_of_mem _ ?_))); k_whole)))
abbrev upN (outer : List Env) : Around := Around.mk none 350 (some outer) (some []) 240
def SecP (S : List (Addr × Obj)) (v : Value) (sc : Sec) : Prop := ∃ (a : Addr) (n : Nat) (vs : List Value), v = .ref a ∧ (a, W.listOf vs.toArray n) ∈ S ∧ AllIn (GrpL S) vs sc
theorem SecP.mono {S S' : List (Addr × Obj)} (k : ∀ p ∈ S, p ∈ S') {v : Value} {g : Sec} (h : SecP S v g) : SecP S' v g := let ⟨a, b, c, d, e, f⟩ := h; ⟨a, b, c, d, k _ e, f.mono fun _ _ z => z.mono k⟩
def DctP (S : List (Addr × Obj)) (kvs : List (Str × Value)) (d : List (Str × Sec)) : Prop := kvs.map (·.1) = d.map (·.1) ∧ AllIn (SecP S) (kvs.map (·.2)) (d.map (·.2))
theorem DctP.mono {S S' : List (Addr × Obj)} (k : ∀ p ∈ S, p ∈ S') {kvs : List (Str × Value)} {d : List (Str × Sec)} (h : DctP S kvs d) : DctP S' kvs d := ⟨h.1, h.2.mono fun _ _ z => z.mono k⟩
def offTwo (a b : Addr) (S : List (Addr × Obj)) : List (Addr × Obj) := S.filter (fun q => !(Nat.beq q.1 a) && !(Nat.beq q.1 b))
theorem mem_offTwo {a b : Addr} {S : List (Addr × Obj)} {q : Addr × Obj} : q ∈ offTwo a b S ↔ q ∈ S ∧ @Ne Nat q.1 a ∧ @Ne Nat q.1 b := by
  refine ⟨fun h => ?_, fun ⟨h, h1, h2⟩ => List.mem_filter.mpr ⟨h, ?_⟩⟩
  · obtain ⟨h1, h2⟩ := List.mem_filter.mp h
    refine ⟨h1, fun e => ?_, fun e => ?_⟩
    · rw [e] at h2; simp at h2
    · rw [e] at h2; simp at h2
  · have b1 : Nat.beq q.1 a = false := by
      cases hb : Nat.beq q.1 a with
      | false => rfl
      | true => exact absurd (Nat.eq_of_beq_eq_true hb) h1
    have b2 : Nat.beq q.1 b = false := by
      cases hb : Nat.beq q.1 b with
      | false => rfl
      | true => exact absurd (Nat.eq_of_beq_eq_true hb) h2
    simp only [b1, b2]; rfl
theorem GrpL.off {g0 h : Heap} {L : Addr} {all S : List (Addr × Obj)} {a b : Addr} {oB : Obj} (N : News g0 L h all) (hS : ∀ p ∈ S, p ∈ all) (ha : (a, W.listOf #[] 0) ∈ all) (hb : (b, oB) ∈ all) (hB : oB.cls = .type "dict") {v : Value} {g : List Tg} (hg : g ≠ []) (x : GrpL S v g) : GrpL (offTwo a b S) v g := by
  obtain ⟨c, n, vs, rfl, hm, hr⟩ := x
  have cl : ∀ {y : Array Value} {k : Nat}, (W.listOf y k).cls ≠ .type "dict" := fun e => by injection e with e; exact absurd e (by decide)
  refine ⟨c, n, vs, rfl, mem_offTwo.mpr ⟨hm, fun e => ?_, news_ne N (hS _ hm) hb fun e => cl (by rw [e]; exact hB)⟩, hr.mono fun v t z => ?_⟩
  · have a1 := (N _ (hS _ hm)).1
    have a2 := (N _ ha).1
    dsimp only at a1 a2 e
    rw [e, a2] at a1
    have a3 : (W.listOf (#[] : Array Value) 0).data = (W.listOf vs.toArray n).data := congrArg Obj.data (Option.some.inj a1)
    have a4 := hr.length
    cases vs with
    | nil => cases g with
      | nil => exact hg rfl
      | cons _ _ => cases a4
    | cons u us => injection a3 with a3; exact absurd (congrArg Array.size a3) (by simp)
  · obtain ⟨d, x, y, rfl, hd⟩ := z
    exact ⟨d, x, y, rfl, mem_offTwo.mpr ⟨hd, news_ne N (hS _ hd) ha tup_ne_list, news_ne N (hS _ hd) hb fun e => by
      have := congrArg Obj.cls e
      rw [hB] at this
      injection this with this; exact absurd this (by decide)⟩⟩
/-- the answer of _law_plain, as its plain machine says -/
def PRes (w : World) (S : List (Addr × Obj)) (v0 : Value) (z : Str) : Except Str (List (Str × Sec)) → Prop
  | .error e => v0 = .none ∧ z = e
  | .ok d => z = "" ∧ ∃ (D : Addr) (oD : Obj) (kvs : List (Str × Value)), v0 = .ref D ∧ (D, oD) ∈ S ∧ oD.IsDictOf (PySem.strKind PySem.Challenge.rw_fy0012_01.row.prog w) kvs ∧ DctP S kvs d ∧ (D == sysModules) = false
/-- where _law_plain stands after i groups -/
def PInv (w : World) (r : Addr) (kr : Nat) (fvs : List Value) (gs : List (List Tg)) (needed : Bool) (tl : List (Addr × Obj)) (i : Nat) (m : Str → Option Value) (nx : List (Addr × Obj)) : Prop :=
  ∃ (D Sd : Addr) (oD : Obj) (kvs : List (Str × Value)) (ks : Nat) (svs : List Value) (tl' : List (Addr × Obj)) (st : PS) (t : Tok), m "sections" = some (.ref D) ∧ m "now" = some (.ref Sd) ∧ m "inside" = some (.bool st.ins) ∧ m "over" = some (.bool st.over) ∧ m "head" = some (.str (Str.ofString "DXFStructureError: ") t) ∧ m "needed" = some (.bool needed) ∧
    nx = (Sd, W.listOf svs.toArray ks) :: (D, oD) :: tl' ∧ OwnOff tl' [Sd, D] ∧ @Ne Nat Sd D ∧ oD.IsDictOf (PySem.strKind PySem.Challenge.rw_fy0012_01.row.prog w) kvs ∧ DctP tl' kvs st.dct ∧ AllIn (GrpL tl') svs st.now ∧ (∀ p ∈ tl, p ∈ tl') ∧ prun ⟨[], false, [], false⟩ (gs.take i) = .ok st ∧ st.now.length ≤ i ∧ kvs.length ≤ i ∧ (r, W.listOf fvs.toArray kr) ∈ tl' ∧ AllIn (GrpL tl) fvs gs ∧ (D == sysModules) = false
theorem plain_start {w : World} {g h : Heap} {L Fd l d D' : Addr} {kf : Nat} {fvs : List Value} {gs : List (List Tg)} {needed : Bool} {tl tl' : List (Addr × Obj)} {oD oT : Obj} {m : Str → Option Value} {t : Tok}
    (_F : Fr g L h m) (N : News g L h ((Fd, W.listOf fvs.toArray kf) :: tl')) (hk : ∀ p ∈ (D', oT) :: (l, W.listOf #[] 0) :: (d, oD) :: tl, p ∈ tl') (oF : OwnOff tl' [Fd]) (hld : d < l ∧ AllLt l tl) (hs : Obj.IsDictOf (PySem.strKind PySem.Challenge.rw_fy0012_01.row.prog w) oD []) (hfv : AllIn (GrpL tl') fvs gs) (hgs : ∀ g ∈ gs, g ≠ []) (hlo : (d == sysModules) = false)
    (m1 : m "sections" = some (.ref d)) (m2 : m "now" = some (.ref l)) (m3 : m "inside" = some (.bool false)) (m4 : m "over" = some (.bool false)) (m5 : m "head" = some (.str (Str.ofString "DXFStructureError: ") t)) (m6 : m "needed" = some (.bool needed)) :
    News g L h ((l, W.listOf ([] : List Value).toArray 0) :: (d, oD) :: (Fd, W.listOf fvs.toArray kf) :: offTwo l d tl') ∧ PInv w Fd kf fvs gs needed ((Fd, W.listOf fvs.toArray kf) :: offTwo l d tl') 0 m ((l, W.listOf ([] : List Value).toArray 0) :: (d, oD) :: (Fd, W.listOf fvs.toArray kf) :: offTwo l d tl') := by
  have hl : (l, W.listOf #[] 0) ∈ tl' := hk _ (.tail _ (.head _))
  have hd : (d, oD) ∈ tl' := hk _ (.tail _ (.tail _ (.head _)))
  have hB : oD.cls = .type "dict" := by
    obtain ⟨es, ep, h1, _⟩ := hs
    exact h1.1
  have hne : @Ne Nat l d := fun e => by
    have := hld.1
    rw [e] at this
    exact Nat.lt_irrefl _ this
  have lF : @Ne Nat Fd l := (oF _ hl _ (.head _)).symm
  have dF : @Ne Nat Fd d := (oF _ hd _ (.head _)).symm
  refine ⟨fun p hp => ?_, d, l, oD, [], 0, [], (Fd, W.listOf fvs.toArray kf) :: offTwo l d tl', ⟨[], false, [], false⟩, t, m1, m2, m3, m4, m5, m6, rfl, fun p hp b hb => ?_, hne, hs, ⟨rfl, .nil⟩, .nil, fun _ h => h, rfl, Nat.zero_le _, Nat.zero_le _, .head _, ?_, hlo⟩
  · rcases List.mem_cons.mp hp with rfl | hp
    · exact N _ (.tail _ hl)
    · rcases List.mem_cons.mp hp with rfl | hp
      · exact N _ (.tail _ hd)
      · rcases List.mem_cons.mp hp with rfl | hp
        · exact N _ (.head _)
        · exact N _ (.tail _ (mem_offTwo.mp hp).1)
  · have hb' : b = l ∨ b = d := by simpa using hb
    rcases List.mem_cons.mp hp with rfl | hp
    · rcases hb' with rfl | rfl
      · exact lF
      · exact dF
    · have z := (mem_offTwo.mp hp).2
      rcases hb' with rfl | rfl
      · exact z.1
      · exact z.2
  · have all : ∀ {vs : List Value} {ks : List (List Tg)}, AllIn (GrpL tl') vs ks → (∀ g ∈ ks, g ≠ []) → AllIn (GrpL ((Fd, W.listOf fvs.toArray kf) :: offTwo l d tl')) vs ks := by
      intro vs ks h
      induction h with
      | nil => exact fun _ => .nil
      | cons x _ ih => exact fun hgs => .cons ((GrpL.off N (fun p hp => .tail _ hp) (.tail _ hl) (.tail _ hd) hB (hgs _ (.head _)) x).mono fun p hp => .tail _ hp) (ih fun g hg => hgs g (.tail _ hg))
    exact all hfv hgs
end
end Mine
namespace Mine
section
open PySem PySem.W PyProof.Rows PySem.Calls
theorem rstP30 {M : Model} {A : Around} {env : Env} {Q : Flow → Shared → Prop} {E : Value → Shared → Prop} {s : Shared} (h : wpAny M A (execs [] env) Q E s) : wpAny M A (execs [] env) Q E s := by
  w_top off
  (try (walk1; fail))
  exact h
local macro_rules | `(tactic| kd_p1) => `(tactic| (first | (k_unfold; (try dsimp only)) | (k_end; wrow_close) | walk1 | (dsimp only; walk1) | (leave1; walk_say "STEP leave1"; try dsimp only) | fail "no step"))
local macro_rules | `(tactic| kd_addW) => `(tactic| fail_if_success (first | (with_reducible show wpAny _ _ (exec (Stmt.For _ _ _ _ _) _) _ _ _) | (with_reducible show wpAny _ _ (pyIter (Value.ref _)) _ _ _) | (with_reducible show wpAny _ _ (call (Value.ref 368) _) _ _ _)))
local macro_rules | `(tactic| walk_at "subscriptTail") => `(tactic| (k_here; (with_reducible show wpAny _ _ (subscriptTail _ _ (Value.ref _) (Value.int 0 _)) _ _ _); k_dflt ((refine' list_first ?N ?g ?h2 ?_); (case N => k_asm); (case g => (first | k_mem | (repeat (first | (with_reducible assumption) | refine List.mem_cons_of_mem _ ?_)))); (case h2 => with_reducible assumption); k_whole)))
local macro_rules | `(tactic| walk_at "subscriptTail Name Constant ref int") => `(tactic| (k_here; (with_reducible show wpAny _ _ (subscriptTail _ _ (Value.ref _) (Value.int 0 _)) _ _ _); k_dflt ((refine' list_first ?N ?g ?h2 ?_); (case N => k_asm); (case g => (first | k_mem | (repeat (first | (with_reducible assumption) | refine List.mem_cons_of_mem _ ?_)))); (case h2 => with_reducible assumption); k_whole)))
local macro_rules | `(tactic| walk_at "subscriptTail Subscript Name Constant Constant ref int") => `(tactic| (k_here; (with_reducible show wpAny _ _ (subscriptTail _ _ (Value.ref _) (Value.int 0 _)) _ _ _); k_dflt ((refine' list_first ?N ?g ?h2 ?_); (case N => k_asm); (case g => (first | k_mem | (repeat (first | (with_reducible assumption) | refine List.mem_cons_of_mem _ ?_)))); (case h2 => with_reducible assumption); k_whole)))
local macro_rules | `(tactic| walk_at "subscriptTail") => `(tactic| (k_here; (with_reducible show wpAny _ _ (subscriptTail _ _ (Value.ref _) (Value.int 1 _)) _ _ _); k_dflt ((refine' tup_second ?N ?g ?_); (case N => k_asm); (case g => (repeat (first | (with_reducible assumption) | refine List.mem_cons_of_mem _ ?_))); k_whole)))
local macro_rules | `(tactic| walk_at "subscriptTail Name Constant ref int") => `(tactic| (k_here; (with_reducible show wpAny _ _ (subscriptTail _ _ (Value.ref _) (Value.int 1 _)) _ _ _); k_dflt ((refine' tup_second ?N ?g ?_); (case N => k_asm); (case g => (repeat (first | (with_reducible assumption) | refine List.mem_cons_of_mem _ ?_))); k_whole)))
local macro_rules | `(tactic| walk_at "subscriptTail Subscript Name Constant Constant ref int") => `(tactic| (k_here; (with_reducible show wpAny _ _ (subscriptTail _ _ (Value.ref _) (Value.int 1 _)) _ _ _); k_dflt ((refine' tup_second ?N ?g ?_); (case N => k_asm); (case g => (repeat (first | (with_reducible assumption) | refine List.mem_cons_of_mem _ ?_))); k_whole)))
local macro_rules | `(tactic| walk_at "subscriptTail") => `(tactic| (k_here; (with_reducible show wpAny _ _ (subscriptTail _ _ (Value.ref _) (Value.int 1 _)) _ _ _); k_dflt ((refine' list_second ?N ?g ?h2 ?_); (case N => k_asm); (case g => (repeat (first | (with_reducible assumption) | refine List.mem_cons_of_mem _ ?_))); (case h2 => with_reducible assumption); k_whole)))
local macro_rules | `(tactic| walk_at "subscriptTail Name Constant ref int") => `(tactic| (k_here; (with_reducible show wpAny _ _ (subscriptTail _ _ (Value.ref _) (Value.int 1 _)) _ _ _); k_dflt ((refine' list_second ?N ?g ?h2 ?_); (case N => k_asm); (case g => (repeat (first | (with_reducible assumption) | refine List.mem_cons_of_mem _ ?_))); (case h2 => with_reducible assumption); k_whole)))
local macro_rules | `(tactic| walk_at "subscriptTail Subscript Name Constant Constant ref int") => `(tactic| (k_here; (with_reducible show wpAny _ _ (subscriptTail _ _ (Value.ref _) (Value.int 1 _)) _ _ _); k_dflt ((refine' list_second ?N ?g ?h2 ?_); (case N => k_asm); (case g => (repeat (first | (with_reducible assumption) | refine List.mem_cons_of_mem _ ?_))); (case h2 => with_reducible assumption); k_whole)))
local macro_rules | `(tactic| walk_at "subscriptTail") => `(tactic| (k_here; (with_reducible show wpAny _ _ (subscriptTail _ _ (Value.ref _) (Value.int 0 _)) _ _ _); k_dflt ((refine' tup_first ?N ?g ?_); (case N => k_asm); (case g => (repeat (first | (with_reducible assumption) | refine List.mem_cons_of_mem _ ?_))); k_whole)))
local macro_rules | `(tactic| walk_at "subscriptTail Name Constant ref int") => `(tactic| (k_here; (with_reducible show wpAny _ _ (subscriptTail _ _ (Value.ref _) (Value.int 0 _)) _ _ _); k_dflt ((refine' tup_first ?N ?g ?_); (case N => k_asm); (case g => (repeat (first | (with_reducible assumption) | refine List.mem_cons_of_mem _ ?_))); k_whole)))
local macro_rules | `(tactic| walk_at "subscriptTail Subscript Name Constant Constant ref int") => `(tactic| (k_here; (with_reducible show wpAny _ _ (subscriptTail _ _ (Value.ref _) (Value.int 0 _)) _ _ _); k_dflt ((refine' tup_first ?N ?g ?_); (case N => k_asm); (case g => (repeat (first | (with_reducible assumption) | refine List.mem_cons_of_mem _ ?_))); k_whole)))
local macro_rules | `(tactic| walk_at "call builtin:len") => `(tactic| (k_here; (with_reducible show wpAny _ _ (call (Value.builtin "len") [Value.ref _]) _ _ _); k_dflt ((refine' list_len ?X ?F ?N ?g ?l ?hh ?hd ?hu ?_); (case X => k_asm); (case F => k_asm); (case N => k_asm); (case g => repeat (first | (with_reducible assumption) | refine List.mem_cons_of_mem _ ?_)); (case l => with_reducible assumption); (case hh => rfl); (case hd => exact Nat.le_of_ble_eq_true rfl); (case hu => exact Nat.le_of_ble_eq_true rfl); k_whole; intro u' tk')))
local macro_rules | `(tactic| walk_at "call builtin:list.append") => `(tactic| (k_here; (with_reducible show wpAny _ _ (call (Value.builtin "list.append") [Value.ref _, _]) _ _ _); k_dflt ((refine' list_appendU ?F ?N ?U ?z ?_); (case F => k_asm); (case N => k_asm); (case U => k_updF); (case z => with_reducible assumption); k_whole; intro h' n' F' N')))
local macro_rules | `(tactic| walk_at "setItem ref str") => `(tactic| (k_here; (with_reducible show wpAny _ _ (setItem (Value.ref _) (Value.str _ _) (Value.ref _)) _ _ _); k_dflt (refine' kda_set (knd := PySem.strKind _ _) ?F ?N ?U ?d (strKind_is _ _ _ _) ?z ?_; (case F => k_asm); (case N => k_asm); (case U => k_updF); (case d => k_asm); (case z => rw [sizeLine_eq]; exact Nat.le_trans (by assumption) (Nat.le_of_ble_eq_true rfl))); intro h' o' F' N' hd'; (try dsimp only at N')))
theorem plain_err {w : World} {S : List (Addr × Obj)} {gs : List (List Tg)} {i : Nat} {st : PS} {grp : List Tg} {e : Str} {needed : Bool} (hrun : prun ⟨[], false, [], false⟩ (gs.take i) = .ok st) (hg : gs[i]? = some grp) (hs : pstep st grp = .error e) : PRes w S .none e (pend needed (prun ⟨[], false, [], false⟩ gs)) := by
  rw [prun_err hrun hg hs]; exact ⟨rfl, rfl⟩
theorem prun_sec : ∀ {gs : List (List Tg)} {st st' : PS}, prun st gs = .ok st' → ∀ g ∈ st'.now, g ∈ st.now ∨ g ∈ gs := by
  intro gs
  induction gs with
  | nil => intro st st' h g hg; cases h; exact .inl hg
  | cons a r ih =>
    intro st st' h g hg
    simp only [prun] at h
    cases ha : pstep st a with
    | error e => rw [ha] at h; cases h
    | ok s1 =>
      rw [ha] at h
      rcases ih h g hg with h1 | h1
      · have : g ∈ st.now ∨ g = a := by
          unfold pstep at ha
          split at ha
          · cases ha; exact .inl h1
          · split at ha
            · split at ha
              · cases ha
              · cases ha; exact .inr (List.mem_singleton.mp h1)
            · split at ha
              · split at ha
                · cases ha
                · split at ha
                  · split at ha
                    · cases ha; cases h1
                    · cases ha
                  · cases ha
              · split at ha
                · cases ha; exact .inl h1
                · cases ha
                  rcases List.mem_append.mp h1 with h1 | h1
                  · exact .inl h1
                  · exact .inr (List.mem_singleton.mp h1)
        rcases this with h2 | h2
        · exact .inl h2
        · exact .inr (h2 ▸ .head _)
      · exact .inr (.tail _ h1)
theorem pinv_mk {w : World} {g h : Heap} {L r : Addr} {kr : Nat} {fvs : List Value} {gs : List (List Tg)} {needed : Bool} {tl all tl' : List (Addr × Obj)} {i : Nat} {m : Str → Option Value} {s : Shared} {tk : Nat} {It Sd D : Addr} {oI oD : Obj} {ks : Nat} {svs : List Value} {kvs : List (Str × Value)} {st : PS} {t : Tok}
    (F : Fr g L h m) (N : News g L h all) (h1 : (It, oI) ∈ all) (h2 : (Sd, W.listOf svs.toArray ks) ∈ all) (h3 : (D, oD) ∈ all) (h5 : ∀ p ∈ tl', p ∈ all) (hne : ∀ p ∈ tl', @Ne Nat p.1 It) (n1 : @Ne Nat Sd It) (n2 : @Ne Nat D It) (oo : OwnOff tl' [Sd, D]) (e1 : @Ne Nat Sd D)
    (hD : oD.IsDictOf (PySem.strKind PySem.Challenge.rw_fy0012_01.row.prog w) kvs) (hdct : DctP tl' kvs st.dct) (hsec : AllIn (GrpL tl') svs st.now) (hk : ∀ p ∈ tl, p ∈ tl') (hrun : prun ⟨[], false, [], false⟩ (gs.take (i + 1)) = .ok st) (z1 : st.now.length ≤ i + 1) (z2 : kvs.length ≤ i + 1) (hm : (r, W.listOf fvs.toArray kr) ∈ tl') (hgl : AllIn (GrpL tl) fvs gs) (hlo : (D == sysModules) = false)
    (m1 : m "sections" = some (.ref D)) (m2 : m "now" = some (.ref Sd)) (m3 : m "inside" = some (.bool st.ins)) (m4 : m "over" = some (.bool st.over)) (m5 : m "head" = some (.str (Str.ofString "DXFStructureError: ") t)) (m6 : m "needed" = some (.bool needed)) :
    Shut (∃ h' tk' m' nx', { s with heap := h, toks := tk } = { s with heap := h', toks := tk' } ∧ Fr g L h' m' ∧ News g L h' ((It, oI) :: nx') ∧ (∀ p ∈ nx', @Ne Nat p.1 It) ∧ PInv w r kr fvs gs needed tl (i + 1) m' nx') := by
  refine ⟨h, tk, m, (Sd, W.listOf svs.toArray ks) :: (D, oD) :: tl', rfl, F, fun p hp => N p ?_, fun p hp => ?_, D, Sd, oD, kvs, ks, svs, tl', st, t, m1, m2, m3, m4, m5, m6, rfl, oo, e1, hD, hdct, hsec, hk, hrun, z1, z2, hm, hgl, hlo⟩
  · rcases List.mem_cons.mp hp with rfl | hp
    · exact h1
    · rcases List.mem_cons.mp hp with rfl | hp
      · exact h2
      · rcases List.mem_cons.mp hp with rfl | hp
        · exact h3
        · exact h5 p hp
  · rcases List.mem_cons.mp hp with rfl | hp
    · exact n1
    · rcases List.mem_cons.mp hp with rfl | hp
      · exact n2
      · exact hne p hp
theorem DctP.put {S : List (Addr × Obj)} {v : Value} {sc : Sec} {x : Str} (hv : SecP S v sc) : ∀ {kvs : List (Str × Value)} {d : List (Str × Sec)}, DctP S kvs d → DctP S (stored kvs x v) (dput d x sc) := by
  have any_eq : ∀ {kvs : List (Str × Value)} {d : List (Str × Sec)}, kvs.map (·.1) = d.map (·.1) → kvs.any (fun e => e.1 = x) = d.any (fun e => e.1 = x) := by
    intro kvs
    induction kvs with
    | nil => intro d h; cases d with
      | nil => rfl
      | cons _ _ => cases h
    | cons a r ih => intro d h; cases d with
      | nil => cases h
      | cons b q =>
        simp only [List.map_cons, List.cons.injEq] at h
        simp only [List.any_cons, h.1, ih h.2]
  have put_map : ∀ {kvs : List (Str × Value)} {d : List (Str × Sec)}, DctP S kvs d → DctP S (kvs.map (fun e => if e.1 = x then (e.1, v) else e)) (d.map (fun e => if e.1 = x then (e.1, sc) else e)) := by
    intro kvs
    induction kvs with
    | nil => intro d h; cases d with
      | nil => exact ⟨rfl, .nil⟩
      | cons _ _ => cases h.1
    | cons a r ih => intro d h; cases d with
      | nil => cases h.1
      | cons b q =>
        obtain ⟨h1, h2⟩ := h
        simp only [List.map_cons, List.cons.injEq] at h1
        simp only [List.map_cons] at h2
        cases h2 with
        | cons c1 c2 =>
          obtain ⟨r1, r2⟩ := ih ⟨h1.2, c2⟩
          simp only [List.map_cons]
          rw [h1.1]
          by_cases hx : b.1 = x
          · rw [if_pos hx, if_pos hx]
            exact ⟨by rw [List.map_cons, List.map_cons, r1], .cons hv r2⟩
          · rw [if_neg hx, if_neg hx]
            exact ⟨by rw [List.map_cons, List.map_cons, r1, h1.1], .cons c1 r2⟩
  intro kvs d h
  unfold stored dput
  rw [any_eq h.1]
  by_cases hx : (d.any fun e => decide (e.1 = x)) = true
  · rw [if_pos hx, if_pos hx]; exact put_map h
  · rw [if_neg hx, if_neg hx]
    exact ⟨by rw [List.map_append, List.map_append, h.1]; rfl, by rw [List.map_append, List.map_append]; exact h.2.append (.cons hv .nil)⟩
set_option maxHeartbeats 4000000 in
theorem plain_specX {w : World} {A₀ : Around} {base h₀ : Heap} {outer : List Env} {L fa : Addr} {cd : Value} {nm : Str} {nms gen co mr} {m : Str → Option Value} {p : Program} {loose mean mg mb} {s : Shared} {E : Value → Shared → Prop} {Q : Value → Shared → Prop}
    {r : Addr} {kr : Nat} {rvs : List Value} {tags : List Tg} {tl : List (Addr × Obj)} {needed : Bool}
    (B : Below A₀ base outer h₀) (X : (hd.heap_39 w.params).In h₀) (T : Top p loose mean mg mb h₀) (F : Fr h₀ L s.heap m) (N : News h₀ L s.heap tl) (hr : (r, W.listOf rvs.toArray kr) ∈ tl) (hrows : RowsIn tl rvs tags) (hlen : tags.length ≤ 57)
    (h : ∀ (R : Addr) (kR : Nat) (v0 : Value) (z : Str) (tz : Tok) (tl' : List (Addr × Obj)) (h' : Heap) (tk' : Nat), Fr h₀ L h' m → News h₀ L h' ((R, W.listOf #[v0, .str z tz] kR) :: tl') → PRes w tl' v0 z (pend needed (prun ⟨[], false, [], false⟩ (grpF isH tags none))) → (∀ p ∈ tl, p ∈ tl') → Q (.ref R) { s with heap := h', toks := tk' }) :
    wpAny (model PySem.Challenge.rw_fy0012_01.row.prog w) ((upN outer).deeper (envOf nm (scF nms gen co mr) L fa cd)) (call (.ref 375) [.ref r, .bool needed]) Q E s := by
  have sl := Seal.mk (And.intro hr (And.intro hrows hlen))
  clear hr hrows hlen
  refine wpAny_call ?_
  k_enter
  repeat' (kd_addW; kd_p1)
  k_fold
  refine for_any (by passes_own) (fun _ => rfl) ?_
  repeat' (kd_addW; kd_p1)
  obtain ⟨hr, hrows, hlen⟩ := sl.out
  rename Below _ _ _ _ => B9
  rename (hd.heap_39 w.params).In _ => X9
  rename Top _ _ _ _ _ _ => T9
  rename Fr _ _ _ _ => F9
  rename News _ _ _ _ => N9
  refine up_of (A' := (upG (envOf nm (scF nms gen co mr) L fa cd :: outer)).deeper _) (grouped_specX (s := Shared.mk _ s.gens s.drawn _ s.os) B9 X9 T9 F9 N9 (.tail _ (.tail _ (.tail _ hr))) (hrows.mono fun _ _ z => z.mono fun p hp => .tail _ (.tail _ (.tail _ hp))) hlen fun Fd kf fvs tl' h' tk' F8 N8 hfv hk oF => ?_) rfl ?_ rfl rfl ?_
  rotate_left
  · exact Nat.le_of_ble_eq_true rfl
  · exact Nat.le_of_ble_eq_true rfl
  rename Obj.IsDictOf (PySem.strKind _ _) _ _ => hs9
  rename _ < _ ∧ AllLt _ tl => hld
  rename ∀ _ ∈ tl, _ < _ => hd9
  have hgs : ∀ g ∈ grpF isH tags none, g ≠ [] := fun g hg e => by
    obtain ⟨t, r, e1, _⟩ := grp_heads (c := none) (fun _ h => by cases h) g hg
    rw [e] at e1; cases e1
  obtain ⟨N7, P7⟩ := plain_start (w := w) (needed := needed) F8 N8 hk oF hld hs9 hfv hgs (by assumption) (by rfl) (by rfl) (by rfl) (by rfl) (by rfl) (by rfl)
  have hkp : ∀ p ∈ tl, p ∈ ((Fd, W.listOf fvs.toArray kf) :: offTwo _ _ tl') := fun p hp => .tail _ (mem_offTwo.mpr ⟨hk p (.tail _ (.tail _ (.tail _ hp))), Nat.ne_of_lt (allLt_mem hld.2 p hp), Nat.ne_of_lt (hd9 p hp)⟩)
  refine list_for (kr := kf) (items := fvs) rfl F8 N7 (PInv w Fd kf fvs (grpF isH tags none) needed ((Fd, W.listOf fvs.toArray kf) :: offTwo _ _ tl')) P7 ?hr ?ht ?step ?done
  case hr =>
    rintro i m1 nx ⟨D, Sd, oD, kvs, ks, svs, tl2, st, t, _, _, _, _, _, _, rfl, _, _, _, _, _, _, _, _, _, hm, _⟩
    exact .tail _ (.tail _ hm)
  case ht =>
    intro It i v s1 P hv hit hp
    exact wpAny_pure hp
  case step =>
    rintro i v m1 nx It oI h2 tk2 hv ⟨D, Sd, oD, kvs, ks, svs, tl2, ⟨now, ins, dct, over⟩, t, q1, q2, q3, q4, q5, q6, rfl, oo, e1, hD, hdct, hsec, hk2, hrun, z1, z2, hm, hgl, hlo⟩ hne F2 N2 hoI
    dsimp only at q3 q4 hdct hsec z1
    obtain ⟨grp, hgrp, gx⟩ := hgl.get hv
    obtain ⟨Gl, kg, gvs, rfl, hGl, hrows⟩ := gx.mono hk2
    obtain ⟨⟨c0, w0⟩, rest, rfl⟩ := List.exists_cons_of_ne_nil (hgs _ (List.mem_of_getElem? hgrp))
    have hgl1 := grp_len (c := none) _ (List.mem_of_getElem? hgrp)
    have hgl2 := hrows.length
    cases hrows with
    | cons hx hrest =>
      have hsl : svs.length ≤ 1000 := by
        have q9 := hsec.length
        have q8 := (List.getElem?_eq_some_iff.mp hv).1
        have q7 := hgl.length
        have q6 := grp_count (p := isH) (l := tags) (c := none)
        dsimp only at q6
        omega
      have hkl : kvs.length ≤ 1000 := by
        have q8 := (List.getElem?_eq_some_iff.mp hv).1
        have q7 := hgl.length
        have q6 := grp_count (p := isH) (l := tags) (c := none)
        dsimp only at q6
        omega
      have hb1 : (_ :: _ : List Value).length ≤ 1000 := Nat.le_trans (Nat.le_of_eq hgl2) (Nat.le_trans hgl1 (by show tags.length + 0 ≤ 1000; omega))
      obtain ⟨dt, x, y, rfl, hdt⟩ := hx
      have F4 := fr_name (fr_name (fr_name (fr_name (fr_name (fr_name F2 "needed" q6) "head" q5) "over" q4) "inside" q3) "now" q2) "sections" q1
      have oI1 : @Ne Nat Sd It := hne _ (.head _)
      have oI2 : @Ne Nat D It := hne _ (.tail _ (.head _))
      have sl2 := Seal.mk (And.intro hdct (And.intro hsec (And.intro hk2 (And.intro hrun (And.intro hne (And.intro hgl (And.intro hrest hkp)))))))
      clear F2 F9 N9 F8 N8 N7 P7 hdct hsec hk2 hrun hne hrest hgl hkp
      by_cases w1 : w0 = "SECTION"
      · subst w1
        cases ins with
        | true =>
          dsimp only
          try k_fold
          repeat' (kd_addW; kd_p1)
          rename Fr h₀ L _ _ => F7
          rename News h₀ L _ _ => N7
          obtain ⟨hdct, hsec, hk2, hrun, hne, hgl, hrest, hkp⟩ := sl2.out
          exact h _ _ _ _ _ _ _ _ F7 N7 (plain_err hrun hgrp rfl) (fun p hp => .tail _ (.tail _ (.tail _ (hk2 p (hkp p hp)))))
        | false =>
          dsimp only
          try k_fold
          repeat' (kd_addW; kd_p1)
          rename Fr _ _ _ _ => F7
          rename News _ _ _ _ => N7
          rename _ ∧ _ => lt7
          obtain ⟨hdct, hsec, hk2, hrun, hne, hgl, hrest, hkp⟩ := sl2.out
          dsimp only
          have up : ∀ p ∈ tl2, p ∈ (Sd, W.listOf svs.toArray ks) :: tl2 := fun p hp => .tail _ hp
          refine pinv_mk (st := ⟨_, true, dct, over⟩) (svs := [Value.ref Gl]) (tl' := (Sd, W.listOf svs.toArray ks) :: tl2) F7 N7 (by k_mem) (by k_mem) (by k_mem) (by intro p9 hp9; (rcases List.mem_cons.mp hp9 with rfl | hp9; k_mem); repeat (first | exact hp9 | refine List.mem_cons_of_mem _ ?_)) ?n0 (by omega) oI2 ?oo (by omega) hD (hdct.mono up) (.cons ((gx.mono hk2).mono up) .nil) (fun p hp => .tail _ (hk2 p hp)) (prun_more hrun hgrp rfl) (Nat.le_add_left 1 i) (Nat.le_succ_of_le z2) (.tail _ hm) hgl hlo (by rfl) (by rfl) (by rfl) (by rfl) (by rfl) (by rfl)
          case n0 =>
            intro p hp
            rcases List.mem_cons.mp hp with rfl | hp
            · exact oI1
            · exact hne p (.tail _ (.tail _ hp))
          case oo =>
            intro p hp b hb
            rcases List.mem_cons.mp hp with rfl | hp
            · rcases List.mem_cons.mp hb with rfl | hb
              · exact Nat.ne_of_lt lt7.2.1
              · rw [List.mem_singleton.mp hb]; exact e1
            · rcases List.mem_cons.mp hb with rfl | hb
              · exact Nat.ne_of_lt (allLt_mem lt7.2.2.2 p hp)
              · rw [List.mem_singleton.mp hb]; exact oo p hp _ (.tail _ (.head _))
      · by_cases w2 : w0 = "ENDSEC"
        · subst w2
          cases ins with
          | false =>
            dsimp only
            try k_fold
            repeat' (kd_addW; kd_p1)
            rename Fr h₀ L _ _ => F7
            rename News h₀ L _ _ => N7
            obtain ⟨hdct, hsec, hk2, hrun, hne, hgl, hrest, hkp⟩ := sl2.out
            exact h _ _ _ _ _ _ _ _ F7 N7 (plain_err hrun hgrp rfl) (fun p hp => .tail _ (.tail _ (.tail _ (hk2 p (hkp p hp)))))
          | true =>
            obtain ⟨hdct, hsec, hk2, hrun, hne, hgl, hrest, hkp⟩ := sl2.out
            have hn := prun_ins (st := ⟨[], false, [], false⟩) (fun h => by cases h) hrun rfl
            have hps := prun_sec hrun
            cases hsec with
            | nil => exact absurd rfl hn
            | cons hv0 hvr =>
              obtain ⟨G0, k0, gv0, rfl, hG0, hr0⟩ := hv0
              have hg0 : gv0.length ≤ 1000 := by
                have q9 := hr0.length
                have q8 := grp_len (c := none) _ ((hps _ (.head _)).elim (fun h => by cases h) fun h => List.mem_of_mem_take h)
                dsimp only at q8
                omega
              have hsec := AllIn.cons (R := GrpL tl2) ⟨G0, k0, gv0, rfl, hG0, hr0⟩ hvr
              have sl3 := Seal.mk hsec
              clear hdct hk2 hrun hne hgl hrest hkp hvr hn hps hsec
              cases hr0 with
              | nil =>
                dsimp only
                try k_fold
                repeat' (kd_addW; kd_p1)
                rename Fr h₀ L _ _ => F7
                rename News h₀ L _ _ => N7
                obtain ⟨hdct, hsec, hk2, hrun, hne, hgl, hrest, hkp⟩ := sl2.out
                exact h _ _ _ _ _ _ _ _ F7 N7 (plain_err hrun hgrp rfl) (fun p hp => .tail _ (.tail _ (.tail _ (hk2 p (hkp p hp)))))
              | cons ha har =>
                cases har with
                | nil =>
                  dsimp only
                  try k_fold
                  repeat' (kd_addW; kd_p1)
                  rename Fr h₀ L _ _ => F7
                  rename News h₀ L _ _ => N7
                  obtain ⟨hdct, hsec, hk2, hrun, hne, hgl, hrest, hkp⟩ := sl2.out
                  exact h _ _ _ _ _ _ _ _ F7 N7 (plain_err hrun hgrp rfl) (fun p hp => .tail _ (.tail _ (.tail _ (hk2 p (hkp p hp)))))
                | @cons vb _ tb _ hb hbr =>
                  obtain ⟨db, xb, yb, rfl, hdb⟩ := hb
                  obtain ⟨cb, wb⟩ := tb
                  by_cases hc2 : cb = 2
                  · subst hc2
                    dsimp only
                    try k_fold
                    repeat' (kd_addW; kd_p1)
                    rename Fr _ _ _ _ => F7
                    rename News _ _ _ _ => N7
                    rename _ ∧ _ => lt7
                    rename Obj.IsDictOf _ _ (stored _ _ _) => hd7
                    obtain ⟨hdct, hsec, hk2, hrun, hne, hgl, hrest, hkp⟩ := sl2.out
                    dsimp only
                    have up : ∀ (o : Obj), ∀ p ∈ tl2, p ∈ (Sd, o) :: tl2 := fun _ p hp => .tail _ hp
                    refine pinv_mk (st := ⟨[], false, dput dct wb _, over⟩) (svs := []) (tl' := (Sd, W.listOf (_ :: _ : List Value).toArray ks) :: tl2) F7 N7 (by k_mem) (by k_mem) (by k_mem) (by intro p9 hp9; (rcases List.mem_cons.mp hp9 with rfl | hp9; k_mem); repeat (first | exact hp9 | refine List.mem_cons_of_mem _ ?_)) ?n0 (by omega) oI2 ?oo (by omega) hd7 ((hdct.mono (up _)).put ⟨Sd, ks, _, rfl, .head _, hsec.mono fun _ _ z => z.mono (up _)⟩) .nil (fun p hp => .tail _ (hk2 p hp)) (prun_more hrun hgrp rfl) (Nat.zero_le _) (stored_len z2) (.tail _ hm) hgl hlo (by rfl) (by rfl) (by rfl) (by rfl) (by rfl) (by rfl)
                    case n0 =>
                      intro p hp
                      rcases List.mem_cons.mp hp with rfl | hp
                      · exact oI1
                      · exact hne p (.tail _ (.tail _ hp))
                    case oo =>
                      intro p hp b hb
                      rcases List.mem_cons.mp hp with rfl | hp
                      · rcases List.mem_cons.mp hb with rfl | hb
                        · exact Nat.ne_of_lt lt7.2.1
                        · rw [List.mem_singleton.mp hb]; exact e1
                      · rcases List.mem_cons.mp hb with rfl | hb
                        · exact Nat.ne_of_lt (allLt_mem lt7.2.2.2 p hp)
                        · rw [List.mem_singleton.mp hb]; exact oo p hp _ (.tail _ (.head _))
                  · -- a code other than 2
                    dsimp only
                    try k_fold
                    repeat' (kd_addW; kd_p1)
                    rename Fr h₀ L _ _ => F7
                    rename News h₀ L _ _ => N7
                    obtain ⟨hdct, hsec, hk2, hrun, hne, hgl, hrest, hkp⟩ := sl2.out
                    refine h _ _ _ _ _ _ _ _ F7 N7 (plain_err hrun hgrp ?_) (fun p hp => .tail _ (.tail _ (.tail _ (hk2 p (hkp p hp)))))
                    show (if cb = 2 then _ else _) = _
                    rw [if_neg hc2]
        · by_cases w3 : w0 = "EOF"
          · subst w3
            dsimp only
            try k_fold
            repeat' (kd_addW; kd_p1)
            rename Fr _ _ _ _ => F7
            rename News _ _ _ _ => N7
            obtain ⟨hdct, hsec, hk2, hrun, hne, hgl, hrest, hkp⟩ := sl2.out
            dsimp only
            exact pinv_mk (st := ⟨now, ins, dct, true⟩) F7 N7 (by k_mem) (by k_mem) (by k_mem) (tl' := tl2) (by intro p9 hp9; repeat (first | exact hp9 | refine List.mem_cons_of_mem _ ?_)) (fun p hp => hne p (.tail _ (.tail _ hp))) oI1 oI2 oo e1 hD hdct hsec hk2 (prun_more hrun hgrp rfl) (Nat.le_succ_of_le z1) (Nat.le_succ_of_le z2) hm hgl hlo (by rfl) (by rfl) (by rfl) (by rfl) (by rfl) (by rfl)
          · -- any other word
            have b1 : (w0 == Str.ofString "SECTION") = false := beq_eq_false_iff_ne.mpr w1
            have b2 : (w0 == Str.ofString "ENDSEC") = false := beq_eq_false_iff_ne.mpr w2
            have b3 : (w0 == Str.ofString "EOF") = false := beq_eq_false_iff_ne.mpr w3
            dsimp only
            try k_fold
            repeat' (kd_addW; kd_p1)
            rename Fr _ _ _ _ => F7
            rename News _ _ _ _ => N7
            obtain ⟨hdct, hsec, hk2, hrun, hne, hgl, hrest, hkp⟩ := sl2.out
            dsimp only
            have hst : pstep ⟨now, ins, dct, over⟩ ((c0, w0) :: rest) = .ok ⟨now ++ [(c0, w0) :: rest], ins, dct, over⟩ := by
              simp only [pstep]
              rw [if_neg w1, if_neg w2, if_neg w3]
            exact pinv_mk (st := ⟨now ++ [(c0, w0) :: rest], ins, dct, over⟩) (svs := svs ++ [Value.ref Gl]) F7 N7 (by k_mem) (by k_mem) (by k_mem) (tl' := tl2) (by intro p9 hp9; repeat (first | exact hp9 | refine List.mem_cons_of_mem _ ?_)) (fun p hp => hne p (.tail _ (.tail _ hp))) oI1 oI2 oo e1 hD hdct (hsec.append (.cons (gx.mono hk2) .nil)) hk2 (prun_more hrun hgrp hst) (by rw [List.length_append]; exact Nat.succ_le_succ z1) (Nat.le_succ_of_le z2) hm hgl hlo (by rfl) (by rfl) (by rfl) (by rfl) (by rfl) (by rfl)
  case done =>
    rintro m1 nx h2 tk2 ⟨D, Sd, oD, kvs, ks, svs, tl2, ⟨now, ins, dct, over⟩, t, q1, q2, q3, q4, q5, q6, rfl, oo, e1, hD, hdct, hsec, hk2, hrun, z1, z2, hm, hgl, hlo⟩ F2 N2
    have hln := hgl.length
    rw [hln, List.take_length] at hrun
    have F4 := fr_name (fr_name (fr_name (fr_name (fr_name (fr_name F2 "needed" q6) "head" q5) "over" q4) "inside" q3) "now" q2) "sections" q1
    have sl2 := Seal.mk (And.intro hdct (And.intro hk2 (And.intro hrun hkp)))
    clear F2 F9 N9 F8 N8 N7 P7 hdct hsec hk2 hrun hgl hkp
    cases ins with
    | true =>
      dsimp only
      try k_fold
      repeat' (kd_addW; kd_p1)
      rename Fr h₀ L _ _ => F7
      rename News h₀ L _ _ => N7
      obtain ⟨hdct, hk2, hrun, hkp⟩ := sl2.out
      exact h _ _ _ _ _ _ _ _ F7 N7 (by rw [hrun]; exact ⟨rfl, rfl⟩) (fun p hp => .tail _ (.tail _ (hk2 p (hkp p hp))))
    | false =>
      cases needed with
      | false =>
        dsimp only
        try k_fold
        repeat' (kd_addW; kd_p1)
        rename Fr h₀ L _ _ => F7
        rename News h₀ L _ _ => N7
        obtain ⟨hdct, hk2, hrun, hkp⟩ := sl2.out
        exact h _ _ _ _ _ _ _ _ F7 N7 (by rw [hrun]; exact ⟨rfl, D, oD, kvs, rfl, .tail _ (.head _), hD, hdct.mono fun p hp => .tail _ (.tail _ hp), hlo⟩) (fun p hp => .tail _ (.tail _ (hk2 p (hkp p hp))))
      | true =>
        cases over with
        | true =>
          dsimp only
          try k_fold
          repeat' (kd_addW; kd_p1)
          rename Fr h₀ L _ _ => F7
          rename News h₀ L _ _ => N7
          obtain ⟨hdct, hk2, hrun, hkp⟩ := sl2.out
          exact h _ _ _ _ _ _ _ _ F7 N7 (by rw [hrun]; exact ⟨rfl, D, oD, kvs, rfl, .tail _ (.head _), hD, hdct.mono fun p hp => .tail _ (.tail _ hp), hlo⟩) (fun p hp => .tail _ (.tail _ (hk2 p (hkp p hp))))
        | false =>
          dsimp only
          try k_fold
          repeat' (kd_addW; kd_p1)
          rename Fr h₀ L _ _ => F7
          rename News h₀ L _ _ => N7
          obtain ⟨hdct, hk2, hrun, hkp⟩ := sl2.out
          exact h _ _ _ _ _ _ _ _ F7 N7 (by rw [hrun]; exact ⟨rfl, rfl⟩) (fun p hp => .tail _ (.tail _ (hk2 p (hkp p hp))))
end
end Mine
namespace Mine
section
open PySem PySem.W PyProof.Rows PySem.Calls
theorem rstP20 {M : Model} {A : Around} {env : Env} {Q : Flow → Shared → Prop} {E : Value → Shared → Prop} {s : Shared} (h : wpAny M A (execs [] env) Q E s) : wpAny M A (execs [] env) Q E s := by
  w_top off
  (try (walk1; fail))
  exact h
local macro_rules | `(tactic| kd_p1) => `(tactic| (first | (k_unfold; (try dsimp only)) | (k_end; wrow_close) | walk1 | (dsimp only; walk1) | (leave1; walk_say "STEP leave1"; try dsimp only) | fail "no step"))
local macro_rules | `(tactic| kd_addW) => `(tactic| fail_if_success (first | (with_reducible show wpAny _ _ (call (Value.ref 339) _) _ _ _) | (with_reducible show wpAny _ _ (exec (Stmt.For _ _ _ _ _) _) _ _ _) | (with_reducible show wpAny _ _ (pyIter (Value.ref _)) _ _ _) | (with_reducible show wpAny _ _ (call (Value.ref 347) _) _ _ _)))
abbrev upL (outer : List Env) : Around := Around.mk none 310 (some outer) (some []) 200
theorem own_cell {tl : List (Addr × Obj)} {L : Nat} (oo : OwnOff tl [334, 342]) (hl : (334 : Nat) < L ∧ (342 : Nat) < L ∧ AllLt L tl) : OwnOff tl [334, 342, L + 1] := fun p hp b hb => by
  rcases List.mem_cons.mp hb with rfl | hb
  · exact oo p hp _ (.head _)
  · rcases List.mem_cons.mp hb with rfl | hb
    · exact oo p hp _ (.tail _ (.head _))
    · rw [List.mem_singleton.mp hb]
      have := allLt_mem hl.2.2 p hp
      exact Nat.ne_of_lt (Nat.lt_succ_of_lt this)
def GrpIn (S : List (Addr × Obj)) (items : List Value) (tags : List Tg) : Prop := AllIn (TagL S) items tags
/-- the state of the loop over the entities -/
def LInv (prog : Program) (w : World) (A : Around) (g g2 : Heap) (L Lg G C D f1 f2 : Addr) (gi : Nat) (gs : List (List It1)) (base : List (Addr × Obj)) (s0 : Shared) (ign : Bool) (k : Nat) (s : Shared) : Prop :=
  ∃ (gst : GenState) (gl tl : List (Addr × Obj)) (S : Addr) (ks : Nat) (svs : List Value) (oD oC : Obj) (kvs : List (Str × Value)) (ls : LS) (h : Heap) (tk : Nat) (m : Str → Option Value),
    s = { s0 with heap := h, toks := tk, gens := s0.gens.setIfInBounds gi gst } ∧ k ≤ gs.length ∧ GenOK prog w A g2 Lg gs k gst gl ∧ lrun ⟨[], [], false⟩ ((gs.take (gs.length - k)).map (·.map (·.2))) = .ok ls ∧
    Fr g L h m ∧ News g L h ((S, W.listOf svs.toArray ks) :: (D, oD) :: (C, oC) :: (gl ++ tl)) ∧ (∀ p ∈ base, p ∈ tl) ∧ AllIn (EntIn tl) svs ls.sec ∧ oD.IsDictOf (strKind prog w) kvs ∧ DctIn tl kvs ls.dct ∧ oC.data = .cell (some (.ref S)) ∧
    OwnOff (gl ++ tl) [S, D, C] ∧ @Ne Nat S D ∧ @Ne Nat S C ∧ @Ne Nat D C ∧ h.IsGen G gi ∧ s0.gens.size = gi + 1 ∧
    ((∀ b ∈ [S, D, C], b ≠ Lg ∧ b ≠ 334) ∧ @LT.lt Nat _ C Lg ∧ ∀ p ∈ tl, p.1 ≠ Lg ∧ p.1 ≠ 334 ∧ (@LT.lt Nat _ p.1 Lg ∨ p.2.cls ≠ .type "list_iterator")) ∧
    m "sections" = some (.ref D) ∧ m "inside_section" = some (.ref f2) ∧ m "outside_section" = some (.ref f1) ∧ m "eof" = some (.bool ls.eof) ∧ m "ignore_missing_eof" = some (.bool ign) ∧ ls.sec.length ≤ gs.length - k ∧ kvs.length ≤ gs.length - k
theorem linv_start {prog : Program} {w : World} {A : Around} {g g2 h : Heap} {L Lg G C D S f1 f2 c1 c2 : Addr} {gs : List (List It1)} {s0 : Shared} {og oL oD of1 oc1 of2 oc2 oC o342 : Obj} {tl : List (Addr × Obj)} {t ks : Nat} {c : Code} {m : Str → Option Value}
    (F : Fr g L h m) (N : News g L h ((G, og) :: (Lg, oL) :: (S, W.listOf #[] ks) :: (D, oD) :: (f1, of1) :: (c1, oc1) :: (f2, of2) :: (c2, oc2) :: (C, oC) :: (334, tabObj #[]) :: (342, o342) :: tl)) (hG : h.IsGen G s0.gens.size) (hog : og.cls = .type "generator") (hok : GenOK prog w A g2 Lg gs gs.length (.fresh c) [(Lg, oL), (334, tabObj #[])])
    (a1 : @LT.lt Nat _ C c2) (a2 : @LT.lt Nat _ c2 f2) (a3 : @LT.lt Nat _ f2 c1) (a4 : @LT.lt Nat _ c1 f1) (a5 : @LT.lt Nat _ f1 D) (a6 : @LT.lt Nat _ D S) (a7 : @LT.lt Nat _ S Lg) (a8 : @LT.lt Nat _ Lg G) (b1 : @LT.lt Nat _ 334 C) (b2 : @LT.lt Nat _ 342 C) (ht : ∀ p ∈ tl, @LT.lt Nat _ p.1 C ∧ @Ne Nat p.1 334)
    (hD : oD.IsDictOf (strKind prog w) []) (hC : oC.data = .cell (some (.ref S))) (m1 : m "sections" = some (.ref D)) (m2 : m "inside_section" = some (.ref f2)) (m3 : m "outside_section" = some (.ref f1)) (m4 : m "eof" = some (.bool false)) {ign : Bool} (m5 : m "ignore_missing_eof" = some (.bool ign)) :
    LInv prog w A g g2 L Lg G C D f1 f2 s0.gens.size gs ((G, og) :: (f1, of1) :: (c1, oc1) :: (f2, of2) :: (c2, oc2) :: (342, o342) :: tl) { s0 with gens := s0.gens.push (.fresh c) } ign gs.length { s0 with heap := h, toks := t, gens := s0.gens.push (.fresh c) } := by
  refine ⟨.fresh c, [(Lg, oL), (334, tabObj #[])], (G, og) :: (f1, of1) :: (c1, oc1) :: (f2, of2) :: (c2, oc2) :: (342, o342) :: tl, S, ks, [], oD, oC, [], ⟨[], [], false⟩, h, t, m, ?_, Nat.le_refl _, hok, by rw [Nat.sub_self]; rfl, F, fun p hp => N p ?_, fun p hp => hp, .nil, hD, ⟨rfl, .nil⟩, hC, fun p hp b hb => ?_, (Nat.ne_of_lt a6).symm, (Nat.ne_of_lt (by omega)).symm, (Nat.ne_of_lt (by omega)).symm, hG, by simp, ⟨fun b hb => ?_, (by omega), fun p hp => ?_⟩, m1, m2, m3, m4, m5, Nat.zero_le _, Nat.zero_le _⟩
  · rw [show (s0.gens.push (.fresh c)).setIfInBounds s0.gens.size (.fresh c) = s0.gens.push (.fresh c) from by
      apply Array.ext_getElem?
      intro i
      rw [Array.getElem?_setIfInBounds]
      by_cases h : s0.gens.size = i
      · subst h; simp
      · simp [h]]
  · simp only [List.cons_append, List.nil_append, List.mem_cons] at hp ⊢
    rcases hp with h | h | h | h | h | h | h | h | h | h | h | h
    · exact .inr (.inr (.inl h))
    · exact .inr (.inr (.inr (.inl h)))
    · exact .inr (.inr (.inr (.inr (.inr (.inr (.inr (.inr (.inl h))))))))
    · exact .inr (.inl h)
    · exact .inr (.inr (.inr (.inr (.inr (.inr (.inr (.inr (.inr (.inl h)))))))))
    · exact .inl h
    · exact .inr (.inr (.inr (.inr (.inl h))))
    · exact .inr (.inr (.inr (.inr (.inr (.inl h)))))
    · exact .inr (.inr (.inr (.inr (.inr (.inr (.inl h))))))
    · exact .inr (.inr (.inr (.inr (.inr (.inr (.inr (.inl h)))))))
    · exact .inr (.inr (.inr (.inr (.inr (.inr (.inr (.inr (.inr (.inr (.inl h))))))))))
    · exact .inr (.inr (.inr (.inr (.inr (.inr (.inr (.inr (.inr (.inr (.inr h))))))))))
  · have hb' : b = S ∨ b = D ∨ b = C := by simpa using hb
    simp only [List.cons_append, List.nil_append, List.mem_cons] at hp
    have key : @Ne Nat p.1 b := by
      rcases hp with rfl | rfl | rfl | rfl | rfl | rfl | rfl | rfl | hp
      all_goals (first | (have := (ht p hp).1; rcases hb' with rfl | rfl | rfl <;> omega) | (dsimp only; rcases hb' with rfl | rfl | rfl <;> omega))
    exact key
  · have hb' : b = S ∨ b = D ∨ b = C := by simpa using hb
    have key : @Ne Nat b Lg ∧ @Ne Nat b 334 := by
      rcases hb' with rfl | rfl | rfl <;> exact ⟨by omega, by omega⟩
    exact key
  · simp only [List.mem_cons] at hp
    have key : @Ne Nat p.1 Lg ∧ @Ne Nat p.1 334 ∧ (@LT.lt Nat _ p.1 Lg ∨ p.2.cls ≠ .type "list_iterator") := by
      rcases hp with rfl | rfl | rfl | rfl | rfl | rfl | hp
      · refine ⟨by dsimp only; omega, by dsimp only; omega, .inr ?_⟩
        show og.cls ≠ _
        rw [hog]
        intro e
        injection e with e
        exact absurd e (by decide)
      · exact ⟨by dsimp only; omega, by dsimp only; omega, .inl (by dsimp only; omega)⟩
      · exact ⟨by dsimp only; omega, by dsimp only; omega, .inl (by dsimp only; omega)⟩
      · exact ⟨by dsimp only; omega, by dsimp only; omega, .inl (by dsimp only; omega)⟩
      · exact ⟨by dsimp only; omega, by dsimp only; omega, .inl (by dsimp only; omega)⟩
      · exact ⟨by dsimp only; omega, by dsimp only; omega, .inl (by dsimp only; omega)⟩
      · obtain ⟨h1, h2⟩ := ht p hp
        exact ⟨by omega, h2, .inl (by omega)⟩
    exact key
theorem gen_loop {prog : Program} {w : World} {A : Around} {E : Value → Shared → Prop} {g g2 : Heap} {L Lg G C D f1 f2 : Addr} {gi : Nat} {gs : List (List It1)} {base tl0 : List (Addr × Obj)} {ign : Bool} {s s0 : Shared} {env : Env} {target : Expr} {body : List Stmt} {Q : Flow → Shared → Prop}
    (hh : A.handled = none) (hl : g.NoLimit) (hroom : A.depth < recursionLimit) (hLg : @LT.lt Nat _ L Lg) (hsub : Keeps g g2) (hg2 : ∀ b o, g2.get? b = some o → g.get? b = some o ∨ (b, o) ∈ tl0) (ht0 : ∀ p ∈ tl0, p ∈ base) (hGL : G ≠ Lg) (hG3 : G ≠ 334) (g334 : g.get? 334 = none)
    (hgen : s.heap.IsGen G gi) (start : LInv prog w A g g2 L Lg G C D f1 f2 gi gs base s0 ign gs.length s)
    (step : ∀ (k : Nat) (grp : List It1) (Gr dg : Addr) (cnt : Nat) (gst : GenState) (gl tl : List (Addr × Obj)) (S : Addr) (ks : Nat) (svs : List Value) (oD oC : Obj) (kvs : List (Str × Value)) (ls : LS) (h : Heap) (tk : Nat) (m : Str → Option Value),
      1 ≤ k → k ≤ gs.length → gs[gs.length - k]? = some grp → GenOK prog w A g2 Lg gs (k - 1) gst gl → lrun ⟨[], [], false⟩ ((gs.take (gs.length - k)).map (·.map (·.2))) = .ok ls →
      Fr g L h m → News g L h ((S, W.listOf svs.toArray ks) :: (D, oD) :: (C, oC) :: (Gr, tagsO dg (grp.map (·.1)) cnt) :: (dg, dictOf [] 0) :: (gl ++ tl)) → (∀ p ∈ base, p ∈ tl) → AllIn (EntIn tl) svs ls.sec → oD.IsDictOf (strKind prog w) kvs → DctIn tl kvs ls.dct → oC.data = .cell (some (.ref S)) →
      OwnOff (gl ++ tl) [S, D, C] → OwnOff ((S, W.listOf svs.toArray ks) :: (D, oD) :: (C, oC) :: tl) [Gr, dg] → @Ne Nat S D → @Ne Nat S C → @Ne Nat D C → h.IsGen G gi → (∀ q ∈ [Gr, dg], @Ne Nat q Lg ∧ @Ne Nat q 334) → s0.gens.size = gi + 1 →
      ((∀ b ∈ [S, D, C], b ≠ Lg ∧ b ≠ 334) ∧ @LT.lt Nat _ C Lg ∧ ∀ p ∈ tl, p.1 ≠ Lg ∧ p.1 ≠ 334 ∧ (@LT.lt Nat _ p.1 Lg ∨ p.2.cls ≠ .type "list_iterator")) →
      m "sections" = some (.ref D) → m "inside_section" = some (.ref f2) → m "outside_section" = some (.ref f1) → m "eof" = some (.bool ls.eof) → m "ignore_missing_eof" = some (.bool ign) → ls.sec.length ≤ gs.length - k → kvs.length ≤ gs.length - k →
      wpAny (model prog w) A (assign target env (.ref Gr)) (fun _ s₂ => wpAny (model prog w) A (execs body env) (fun f s₃ => match f with
          | .next | .cont => LInv prog w A g g2 L Lg G C D f1 f2 gi gs base s0 ign (k - 1) s₃
          | .brk => Q .next s₃
          | .ret v => Q (.ret v) s₃) E s₂) E { s0 with heap := h, toks := tk, gens := s0.gens.setIfInBounds gi gst })
    (done : ∀ (tl : List (Addr × Obj)) (S : Addr) (ks : Nat) (svs : List Value) (oD oC : Obj) (kvs : List (Str × Value)) (ls : LS) (h : Heap) (tk : Nat) (m : Str → Option Value) (ps : Array Value),
      lrun ⟨[], [], false⟩ (gs.map (·.map (·.2))) = .ok ls → Fr g L h m → News g L h ((S, W.listOf svs.toArray ks) :: (D, oD) :: (C, oC) :: (334, tabObj ps) :: tl) → (∀ p ∈ base, p ∈ tl) → AllIn (EntIn tl) svs ls.sec → oD.IsDictOf (strKind prog w) kvs → DctIn tl kvs ls.dct → oC.data = .cell (some (.ref S)) →
      OwnOff tl [S, D, C] → @Ne Nat S D → @Ne Nat S C → @Ne Nat D C → m "sections" = some (.ref D) → m "inside_section" = some (.ref f2) → m "outside_section" = some (.ref f1) → m "eof" = some (.bool ls.eof) → m "ignore_missing_eof" = some (.bool ign) → ls.sec.length ≤ gs.length →
      Q .next { s0 with heap := h, toks := tk, gens := s0.gens.setIfInBounds gi .finished }) :
    wpAny (model prog w) A (pyIter (.ref G)) (fun it s₂ => ∃ (I : Nat → Shared → Prop) (n : Nat), I n s₂ ∧ ∀ n s, I n s → wpAny (model prog w) A (pyNext it) (fun r s₁ => match r with
      | none => Q .next s₁
      | some v => wpAny (model prog w) A (assign target env v) (fun _ s₂ => wpAny (model prog w) A (execs body env) (fun f s₃ => match f with
          | .next | .cont => ∃ m, m < n ∧ I m s₃
          | .brk => Q .next s₃
          | .ret v => Q (.ret v) s₃) E s₂) E s₁) E s) E s := by
  refine wpAny_pyIter_gen hgen ⟨LInv prog w A g g2 L Lg G C D f1 f2 gi gs base s0 ign, gs.length, start, ?_⟩
  rintro k s' ⟨gst, gl, tl, S, ks, svs, oD, oC, kvs, ls, h, tk, m, rfl, hk, hok, hrun, F, N, hb, hsec, hD, hd, hC, oo, e1, e2, e3, hG, hgi, hr, m1, m2, m3, m4, m5, z1, z2⟩
  have hr0 := hr
  have hr : ∀ p ∈ (S, W.listOf svs.toArray ks) :: (D, oD) :: (C, oC) :: tl, p.1 ≠ Lg ∧ p.1 ≠ 334 ∧ (@LT.lt Nat _ p.1 Lg ∨ p.2.cls ≠ .type "list_iterator") := by
    intro p hp
    rcases List.mem_cons.mp hp with rfl | hp
    · exact ⟨(hr0.1 _ (.head _)).1, (hr0.1 _ (.head _)).2, .inr fun e => by injection e with e; exact absurd e (by decide)⟩
    · rcases List.mem_cons.mp hp with rfl | hp
      · obtain ⟨es, ep, h1, _⟩ := hD
        exact ⟨(hr0.1 _ (.tail _ (.head _))).1, (hr0.1 _ (.tail _ (.head _))).2, .inr fun e => by rw [show oD.cls = .type "dict" from h1.1] at e; injection e with e; exact absurd e (by decide)⟩
      · rcases List.mem_cons.mp hp with rfl | hp
        · exact ⟨(hr0.1 _ (.tail _ (.tail _ (.head _)))).1, (hr0.1 _ (.tail _ (.tail _ (.head _)))).2, .inl hr0.2.1⟩
        · exact hr0.2.2 p hp
  have hgs : (s0.gens.setIfInBounds gi gst)[gi]? = some gst := by rw [Array.getElem?_setIfInBounds_self_of_lt (by omega)]
  have N' : News g L h (gl ++ ((S, W.listOf svs.toArray ks) :: (D, oD) :: (C, oC) :: tl)) := fun p hp => N p (by
    rcases List.mem_append.mp hp with hp | hp
    · exact .tail _ (.tail _ (.tail _ (List.mem_append_left _ hp)))
    · rcases List.mem_cons.mp hp with rfl | hp
      · exact .head _
      · rcases List.mem_cons.mp hp with rfl | hp
        · exact .tail _ (.head _)
        · rcases List.mem_cons.mp hp with rfl | hp
          · exact .tail _ (.tail _ (.head _))
          · exact .tail _ (.tail _ (.tail _ (List.mem_append_right _ hp))))
  refine gen_turn (s := { s0 with heap := h, toks := tk, gens := s0.gens.setIfInBounds gi gst }) hh hl hroom F N' hok hgs hG hr hLg hsub (fun b o e => (hg2 b o e).imp id fun x => .tail _ (.tail _ (.tail _ (hb _ (ht0 _ x))))) hGL hG3 g334 (fun grp Gr dg cnt h' tk' gst' gl' y1 y2 y3 y4 F' Ny oy hGy hfr => ?_) fun hk0 h' tk' ps F' Ns => ?_
  · have hset : (s0.gens.setIfInBounds gi gst).setIfInBounds gi gst' = s0.gens.setIfInBounds gi gst' := Array.setIfInBounds_setIfInBounds ..
    dsimp only
    rw [hset]
    have oo' : OwnOff (gl' ++ tl) [S, D, C] := fun p hp b hb' => by
      rcases List.mem_append.mp hp with hp | hp
      · obtain ⟨_, q2, _, _⟩ := y4
        have hbm : ∃ o, (b, o) ∈ (S, W.listOf svs.toArray ks) :: (D, oD) :: (C, oC) :: tl ∧ (b = S ∨ b = D ∨ b = C) := by
          rcases List.mem_cons.mp hb' with rfl | hb'
          · exact ⟨_, .head _, .inl rfl⟩
          · rcases List.mem_cons.mp hb' with rfl | hb'
            · exact ⟨_, .tail _ (.head _), .inr (.inl rfl)⟩
            · rw [List.mem_singleton.mp hb']; exact ⟨_, .tail _ (.tail _ (.head _)), .inr (.inr rfl)⟩
        obtain ⟨o, hm, _⟩ := hbm
        obtain ⟨r1, r2, r3⟩ := hr _ hm
        rcases q2 p hp with e | e | ⟨e, ec⟩
        · exact fun z => r1 (z ▸ e)
        · exact fun z => r2 (z ▸ e)
        · intro z
          rcases r3 with r3 | r3
          · exact absurd (Nat.lt_trans (show @LT.lt Nat _ b Lg from r3) (show @LT.lt Nat _ Lg b from z ▸ e)) (Nat.lt_irrefl _)
          · have n1 := (Ny p (.tail _ (.tail _ (List.mem_append_left _ hp)))).1
            have n2 := (Ny (b, o) (.tail _ (.tail _ (List.mem_append_right _ hm)))).1
            rw [z] at n1
            dsimp only at n2
            rw [n1] at n2
            cases n2
            exact r3 ec
      · exact oo p (List.mem_append_right _ hp) b hb'
    refine wpAny_mono (step k grp Gr dg cnt gst' gl' tl S ks svs oD oC kvs ls h' tk' m y1 y2 y3 y4 hrun F' (fun p hp => Ny p ?_) hb hsec hD hd hC oo' oy e1 e2 e3 hGy hfr hgi hr0 m1 m2 m3 m4 m5 z1 z2) (fun _ s₂ h₂ => wpAny_mono h₂ (fun f s₃ h₃ => ?_) fun _ _ z => z) fun _ _ z => z
    · simp only [List.mem_cons, List.mem_append] at hp ⊢
      rcases hp with h | h | h | h | h | h | h
      · exact .inr (.inr (.inr (.inl h)))
      · exact .inr (.inr (.inr (.inr (.inl h))))
      · exact .inr (.inr (.inr (.inr (.inr (.inl h)))))
      · exact .inl h
      · exact .inr (.inl h)
      · exact .inr (.inr (.inl h))
      · exact .inr (.inr (.inr (.inr (.inr (.inr h)))))
    · cases f with
      | next => exact ⟨k - 1, by omega, h₃⟩
      | cont => exact ⟨k - 1, by omega, h₃⟩
      | brk => exact h₃
      | ret v => exact h₃
  · have hset : (s0.gens.setIfInBounds gi gst).setIfInBounds gi .finished = s0.gens.setIfInBounds gi .finished := Array.setIfInBounds_setIfInBounds ..
    dsimp only
    rw [hset]
    subst hk0
    rw [Nat.sub_zero, List.take_length] at hrun
    refine done tl S ks svs oD oC kvs ls h' tk' m ps hrun F' (fun p hp => Ns p ?_) hb hsec hD hd hC (fun p hp b hb' => oo p (List.mem_append_right _ hp) b hb') e1 e2 e3 m1 m2 m3 m4 m5 z1
    simp only [List.mem_cons] at hp ⊢
    rcases hp with h | h | h | h | h
    · exact .inr (.inl h)
    · exact .inr (.inr (.inl h))
    · exact .inr (.inr (.inr (.inl h)))
    · exact .inl h
    · exact .inr (.inr (.inr (.inr h)))
theorem grp_from {α : Type} {p : α → Bool} : ∀ {l : List α} {c : Option (List α)} (_ : ∀ c0, c = some c0 → c0 ≠ []), ∀ g ∈ grpF p l c, g ≠ [] ∧ ∀ x ∈ g, x ∈ l ∨ ∃ c0, c = some c0 ∧ x ∈ c0 := by
  intro l
  induction l with
  | nil =>
    intro c hc g hg
    cases c with
    | none => cases hg
    | some c0 => rw [List.mem_singleton.mp hg]; exact ⟨hc c0 rfl, fun x hx => .inr ⟨c0, rfl, hx⟩⟩
  | cons a r ih =>
    intro c hc g hg
    have one : ∀ g ∈ grpF p r (some [a]), g ≠ [] ∧ ∀ x ∈ g, x ∈ a :: r ∨ ∃ c0, c = some c0 ∧ x ∈ c0 := fun g hg => by
      obtain ⟨h1, h2⟩ := ih (c := some [a]) (fun c0 e => by cases e; exact List.cons_ne_nil _ _) g hg
      refine ⟨h1, fun x hx => .inl ?_⟩
      rcases h2 x hx with h | ⟨c0, e, h⟩
      · exact .tail _ h
      · cases e; rw [List.mem_singleton.mp h]; exact .head _
    cases c with
    | none =>
      unfold grpF at hg
      split at hg
      · exact one g hg
      · obtain ⟨h1, h2⟩ := ih (c := none) (fun c0 e => by cases e) g hg
        refine ⟨h1, fun x hx => .inl ?_⟩
        rcases h2 x hx with h | ⟨c0, e, h⟩
        · exact .tail _ h
        · cases e
    | some c1 =>
      unfold grpF at hg
      split at hg
      · rcases List.mem_cons.mp hg with rfl | hg
        · exact ⟨hc _ rfl, fun x hx => .inr ⟨_, rfl, hx⟩⟩
        · exact one g hg
      · obtain ⟨h1, h2⟩ := ih (c := some (c1 ++ [a])) (fun c0 e => by cases e; simp) g hg
        refine ⟨h1, fun x hx => ?_⟩
        rcases h2 x hx with h | ⟨c0, e, h⟩
        · exact .inl (.tail _ h)
        · cases e
          rcases List.mem_append.mp h with h | h
          · exact .inr ⟨_, rfl, h⟩
          · rw [List.mem_singleton.mp h]; exact .inl (.head _)
theorem allIn_of {R : Value → Tg → Prop} : ∀ {g : List It1}, (∀ x ∈ g, R x.1 x.2) → AllIn R (g.map (·.1)) (g.map (·.2))
  | [], _ => .nil
  | a :: r, h => .cons (h a (.head _)) (allIn_of fun x hx => h x (.tail _ hx))
theorem allIn_zip {R : Value → Tg → Prop} {vs : List Value} {ts : List Tg} (h : AllIn R vs ts) : ∀ x ∈ vs.zip ts, R x.1 x.2 := by
  induction h with
  | nil => intro x hx; cases hx
  | cons a _ ih => intro x hx; rcases List.mem_cons.mp hx with rfl | hx; exact a; exact ih x hx
theorem grps_in {R : Value → Tg → Prop} {items : List Value} {tags : List Tg} (h : AllIn R items tags) {g : List It1} (hg : g ∈ grps items tags) : g ≠ [] ∧ AllIn R (g.map (·.1)) (g.map (·.2)) := by
  obtain ⟨h1, h2⟩ := grp_from (c := none) (fun _ e => by cases e) g hg
  refine ⟨h1, allIn_of fun x hx => ?_⟩
  rcases h2 x hx with h3 | ⟨_, e, _⟩
  · exact allIn_zip h x h3
  · cases e
abbrev strOkT (t : Tg) : Prop := PyData.strOk t.2 = true
theorem strOk_good {t : Tg} (h : tagGood t) : strOkT t := by
  simp only [tagGood, List.mem_cons, List.not_mem_nil, or_false] at h
  rcases h with h | h | h | h | h | h | h | h | h | h <;> (show PyData.strOk t.2 = true; rw [h]; decide +kernel)
end
end Mine
namespace Mine
section
open PySem PySem.W PyProof.Rows PySem.Calls PyProof.V PySem.Spec
theorem rstP38 {M : Model} {A : Around} {env : Env} {Q : Flow → Shared → Prop} {E : Value → Shared → Prop} {s : Shared} (h : wpAny M A (execs [] env) Q E s) : wpAny M A (execs [] env) Q E s := by
  w_top off
  (try (walk1; fail))
  exact h
section
variable {M : Model} {A : Around} {E : Value → Shared → Prop} {s' : Shared} {base g g₂ h : Heap} {outer : List Env} {L a e t : Addr} {m : Str → Option Value} {env : Env} {Q : Unit → Shared → Prop} {news : List (Addr × Obj)}
/-- a frame of any kind left by a raise: what the ledger held stands behind it -/
theorem leave_raiseX {cls : Value} {vs : List Value} (K : Below A base outer g) (hx : Heap.MadeExcOf h s'.heap e cls vs) (F : Fr g L h m) (N : News g L h news) (hf : env.frame = some L) (hk : env.scope.kind = .function)
    (hQ : ∀ h' t, RaisedK base outer e cls t vs news h' → g.UpToSlots h' → Q () { s' with heap := h' }) :
    wpAny M (A.deeper env) (leaving env (.ref e)) Q E s' := by
  have K' := pushX K F hf hk
  have hin : ∀ env' ∈ (env :: outer), ∀ b, env'.frame = some b → b ∈ (env :: outer).filterMap (·.frame) := fun env' he b hb => List.mem_filterMap.mpr ⟨env', he, hb⟩
  have st : base.StaysIn (hideAll h ((env :: outer).filterMap (·.frame))) := fun b o q => hideAll_get _ (K'.stays b o q) fun hm => by
    rw [(K'.frames.mem hm).1] at q; cases q
  have hl : ∀ q ∈ news, (hideAll h ((env :: outer).filterMap (·.frame))).get? q.1 = some q.2 ∧ base.get? q.1 = none := fun q hq => by
    refine ⟨hideAll_get _ (N q hq).1 fun hm => ?_, fresh_of_stays K.stays (N q hq).2.2⟩
    obtain ⟨env', he, hf'⟩ := List.mem_filterMap.mp hm
    rcases List.mem_cons.mp he with rfl | he
    · rw [hf] at hf'; exact (N q hq).2.1 (Option.some.inj hf').symm
    · obtain ⟨o, ho, _⟩ := (K.frames.mem (List.mem_filterMap.mpr ⟨env', he, hf'⟩)).2
      rw [(N q hq).2.2] at ho; cases ho
  exact wpAny_leaves_madeW K'.stack hf (fun b o q => of_hideAll _ q) (funFrames_hide K'.frames hin) hx fun h' t x1 x2 x3 x4 =>
    hQ h' t ⟨⟨_, st, hl, x1, x3⟩, x2⟩ (((Heap.UpToSlots.of_keeps F.keep).trans (Heap.UpToSlots.of_keeps hx.keeps)).trans x4)
end
section
variable {prog : Program} {w : World} {A : Around} {E : Value → Shared → Prop} {s : Shared} {env : Env} {L : Addr} {h₀ : Heap} {m mg : Str → Option Value}
  {x : Str} {C : Addr} {B newId initId : String} {bm : List Value} {np cpos pos : Pos} {Q : Flow → Shared → Prop}
theorem raise_ownX {e₀ : Expr} {rest : List Expr} (F : Fr h₀ L s.heap m) (hg : h₀.Ns mainGlobals mg) (O : OwnCls x C bm newId mg h₀) (FB : ExcBaseFacts B newId initId bm) (hh : A.handled = none)
    (h : wpAny (model prog w) A (spliced (backTo cpos (starEach (e₀ :: rest) env))) (fun vs s₂ => vs.length ≤ sizeLine ∧ (∀ b o, h₀.get? b = some o → s₂.heap.get? b = some o) ∧
      ∀ h' e, Heap.MadeExcOf s₂.heap h' e (.ref C) vs → E (.ref e) { s₂ with heap := h' }) E s)
    (he : starEach (e₀ :: rest) env = (false, eval e₀ env) :: starEach rest env := by rfl)
    (hplain : (backTo cpos (starEach rest env)).any (·.1) = false := by rfl)
    (hgl : env.globals = mainGlobals := by rfl) (hk : env.scope.kind = .function := by rfl) (hx : env.kindOf x = some .globalImplicit := by rfl) (hd : (x == ("__debug__" : Str)) = false := by decide) :
    wpAny (model prog w) A (exec (.Raise (some (.Call (.Name x np) (e₀ :: rest) [] cpos)) none pos) env) Q E s := by
  obtain ⟨tl, N, nm, q, bs, hdct, sn, sub, ab, col, dd, k0, k1, k2, k3, k5, mN, hC, hN, hni, T⟩ := O.obj
  refine wpAny_Raise_call_subT (C := C) (nm := nm) (q := q) (N := N) (bs := bs) (bm := tl) (hdct := hdct) (sn := sn) (sub := sub) (ab := ab) (col := col) (dd := dd) (k0 := k0) (k1 := k1) (k2 := k2) (k3 := k3) (k5 := k5)
    FB (mN := mN) (T.hasType FB.hasBase) hh (by rw [he]; show (false || (backTo cpos (starEach rest env)).any (·.1)) = false; rw [hplain]; rfl) hni
    (Calls.Name_function_global hk hx (Calls.loadGlobal_global (hgl ▸ hg.keeps F.keep) O.bound ⟨rfl, ?_⟩) hd)
  rw [he] at h ⊢
  exact Calls.evalArgs_plain (wpAny_mono h (fun vs s₂ h₂ => ⟨rfl, h₂.1, h₂.2.1 _ _ hC, hN.keeps h₂.2.1, T.keeps h₂.2.1, h₂.2.2⟩) fun _ _ y => y)
end
section
variable {w : World} {A : Around} {g : Heap} {L : Addr} {m : Str → Option Value} {news : List (Addr × Obj)} {s : Shared} {E : Value → Shared → Prop} {Q : Value → Shared → Prop} {t : Tg} {c0 : Int} {z0 : Str} {a b u v : Tok} {x dx y : Addr}
/-- a tag compared with a tuple just made: the tuple leaves the ledger -/
theorem tag_eqD (X : (hd.heap_39 w.params).In g) (T : g.NoLimit) (F : Fr g L s.heap m) (N : News g L s.heap ((y, ({ cls := .type "tuple", data := .seq #[.int c0 u, .str z0 v] } : Obj)) :: news))
    (hA : A.depth ≤ 400) (hu : A.units ≤ 400) (h1 : (x, tagO dx t a b) ∈ news) (h2 : (dx, dictOf [] 0) ∈ news) (hz : PyData.strOk t.2 = true) (hz0 : PyData.strOk z0 = true)
    (h : ∀ h' tk, Fr g L h' m → News g L h' news → Q (.bool (decide (t = (c0, z0)))) { s with heap := h', toks := tk }) :
    wpAny (model PySem.Challenge.rw_fy0012_01.row.prog w) A (compareOp .Eq (.ref x) (.ref y)) Q E s :=
  tag_eqX X T F N hA hu (.tail _ h1) (.tail _ h2) (.head _) hz hz0 fun h' tk F' N' => h h' tk F' fun p hp => N' p (.tail _ hp)
theorem tag_neD (X : (hd.heap_39 w.params).In g) (T : g.NoLimit) (F : Fr g L s.heap m) (N : News g L s.heap ((y, ({ cls := .type "tuple", data := .seq #[.int c0 u, .str z0 v] } : Obj)) :: news))
    (hA : A.depth ≤ 380) (hu : A.units ≤ 380) (h1 : (x, tagO dx t a b) ∈ news) (h2 : (dx, dictOf [] 0) ∈ news) (hz : PyData.strOk t.2 = true) (hz0 : PyData.strOk z0 = true)
    (h : ∀ h' tk, Fr g L h' m → News g L h' news → Q (.bool (!decide (t = (c0, z0)))) { s with heap := h', toks := tk }) :
    wpAny (model PySem.Challenge.rw_fy0012_01.row.prog w) A (compareOp .NotEq (.ref x) (.ref y)) Q E s :=
  tag_neX X T F N hA hu (.tail _ h1) (.tail _ h2) (.head _) hz hz0 fun h' tk F' N' => h h' tk F' fun p hp => N' p (.tail _ hp)
end
theorem News.get_mem {g h : Heap} {L a : Addr} {o : Obj} {all : List (Addr × Obj)} (N : News g L h all) (hm : (a, o) ∈ all) : h.get? a = some o := (N _ hm).1
end
end Mine
namespace Mine
section
open PySem PySem.W PyProof.Rows PySem.Calls
theorem rstP40 {M : Model} {A : Around} {env : Env} {Q : Flow → Shared → Prop} {E : Value → Shared → Prop} {s : Shared} (h : wpAny M A (execs [] env) Q E s) : wpAny M A (execs [] env) Q E s := by
  w_top off
  (try (walk1; fail))
  exact h
theorem isGen_of {g h : Heap} {L G : Addr} {gi : Nat} {og : Obj} {all : List (Addr × Obj)} (N : News g L h all) (hm : (G, og) ∈ all) (hG : h.IsGen G gi) : ∀ h' : Heap, h'.get? G = some og → h'.IsGen G gi := fun h' e => by
  obtain ⟨o, n1, n2, ho, hc, r⟩ := hG
  have := (N _ hm).1
  dsimp only at this
  rw [this] at ho
  cases ho
  exact ⟨og, n1, n2, e, hc, r⟩
theorem linv_mk {prog : Program} {w : World} {A : Around} {g g2 h : Heap} {L Lg G C D f1 f2 S : Addr} {gi k tk ks : Nat} {gs : List (List It1)} {base gl tl all : List (Addr × Obj)} {s0 : Shared} {grp : List It1} {gst : GenState} {svs : List Value} {oD oC : Obj} {kvs : List (Str × Value)} {ls ls' : LS} {m : Str → Option Value}
    (hk1 : 1 ≤ k) (hk : k ≤ gs.length) (hgrp : gs[gs.length - k]? = some grp) (hok : GenOK prog w A g2 Lg gs (k - 1) gst gl) (hrun : lrun ⟨[], [], false⟩ ((gs.take (gs.length - k)).map (·.map (·.2))) = .ok ls) (hst : lstep ls (grp.map (·.2)) = .ok ls')
    (F : Fr g L h m) (N : News g L h all) (h1 : (S, W.listOf svs.toArray ks) ∈ all) (h2 : (D, oD) ∈ all) (h3 : (C, oC) ∈ all) (h4 : ∀ p ∈ gl ++ tl, p ∈ all) (hb : ∀ p ∈ base, p ∈ tl) (hsec : AllIn (EntIn tl) svs ls'.sec) (hD : oD.IsDictOf (strKind prog w) kvs) (hd : DctIn tl kvs ls'.dct) (hC : oC.data = .cell (some (.ref S)))
    (oo : OwnOff (gl ++ tl) [S, D, C]) (e1 : @Ne Nat S D) (e2 : @Ne Nat S C) (e3 : @Ne Nat D C) (hG : h.IsGen G gi) (hgi : s0.gens.size = gi + 1) (hr : (∀ b ∈ [S, D, C], b ≠ Lg ∧ b ≠ 334) ∧ @LT.lt Nat _ C Lg ∧ ∀ p ∈ tl, p.1 ≠ Lg ∧ p.1 ≠ 334 ∧ (@LT.lt Nat _ p.1 Lg ∨ p.2.cls ≠ .type "list_iterator"))
    (m1 : m "sections" = some (.ref D)) (m2 : m "inside_section" = some (.ref f2)) (m3 : m "outside_section" = some (.ref f1)) (m4 : m "eof" = some (.bool ls'.eof)) {ign : Bool} (m5 : m "ignore_missing_eof" = some (.bool ign)) (z1 : ls'.sec.length ≤ gs.length - k + 1) (z2 : kvs.length ≤ gs.length - k + 1) :
    LInv prog w A g g2 L Lg G C D f1 f2 gi gs base s0 ign (k - 1) { s0 with heap := h, toks := tk, gens := s0.gens.setIfInBounds gi gst } := by
  refine ⟨gst, gl, tl, S, ks, svs, oD, oC, kvs, ls', h, tk, m, rfl, by omega, hok, ?_, F, fun p hp => N p ?_, hb, hsec, hD, hd, hC, oo, e1, e2, e3, hG, hgi, hr, m1, m2, m3, m4, m5, by omega, by omega⟩
  · rw [take_more hk1 hk hgrp, List.map_append]
    exact (lrun_snoc _ _ _ _ hrun).trans hst
  · rcases List.mem_cons.mp hp with rfl | hp
    · exact h1
    · rcases List.mem_cons.mp hp with rfl | hp
      · exact h2
      · rcases List.mem_cons.mp hp with rfl | hp
        · exact h3
        · exact h4 p hp
section
variable {Gr dg S D C Lg l : Addr} {gl tl : List (Addr × Obj)} {oS oD oC oGr odg : Obj}
theorem turn_off (oo : OwnOff (gl ++ tl) [S, D, C]) (oy : OwnOff ((S, oS) :: (D, oD) :: (C, oC) :: tl) [Gr, dg]) : OwnOff (gl ++ ((Gr, oGr) :: (dg, odg) :: tl)) [S, D, C] := fun p hp b hb => by
  rcases List.mem_append.mp hp with hp | hp
  · exact oo p (List.mem_append_left _ hp) b hb
  · have key : ∀ q ∈ [Gr, dg], @Ne Nat q b := fun q hq => by
      rcases List.mem_cons.mp hb with rfl | hb
      · exact (oy _ (.head _) q hq).symm
      · rcases List.mem_cons.mp hb with rfl | hb
        · exact (oy _ (.tail _ (.head _)) q hq).symm
        · rw [List.mem_singleton.mp hb]; exact (oy _ (.tail _ (.tail _ (.head _))) q hq).symm
    rcases List.mem_cons.mp hp with rfl | hp
    · exact key _ (.head _)
    · rcases List.mem_cons.mp hp with rfl | hp
      · exact key _ (.tail _ (.head _))
      · exact oo p (List.mem_append_right _ hp) b hb
theorem turn_new (lt : AllLt l (gl ++ tl)) (a1 : @LT.lt Nat _ S l) (a2 : @LT.lt Nat _ Gr l) (a3 : @LT.lt Nat _ dg l) (e1 : @Ne Nat S D) (e2 : @Ne Nat S C) (oo : OwnOff (gl ++ tl) [S, D, C]) (oy : OwnOff ((S, oS) :: (D, oD) :: (C, oC) :: tl) [Gr, dg]) : OwnOff (gl ++ ((S, oS) :: (Gr, oGr) :: (dg, odg) :: tl)) [l, D, C] := fun p hp b hb => by
  have old := turn_off (oGr := oGr) (odg := odg) oo oy
  rcases List.mem_cons.mp hb with rfl | hb
  · rcases List.mem_append.mp hp with hp | hp
    · exact Nat.ne_of_lt (allLt_mem lt p (List.mem_append_left _ hp))
    · rcases List.mem_cons.mp hp with rfl | hp
      · exact Nat.ne_of_lt a1
      · rcases List.mem_cons.mp hp with rfl | hp
        · exact Nat.ne_of_lt a2
        · rcases List.mem_cons.mp hp with rfl | hp
          · exact Nat.ne_of_lt a3
          · exact Nat.ne_of_lt (allLt_mem lt p (List.mem_append_right _ hp))
  · have hb2 : b ∈ [S, D, C] := .tail _ hb
    rcases List.mem_append.mp hp with hp | hp
    · exact old p (List.mem_append_left _ hp) b hb2
    · rcases List.mem_cons.mp hp with rfl | hp
      · rcases List.mem_cons.mp hb with rfl | hb
        · exact e1
        · rw [List.mem_singleton.mp hb]; exact e2
      · exact old p (List.mem_append_right _ hp) b hb2
theorem turn_hr {cnt : Nat} {gvs : List Value} (hfr : ∀ q ∈ [Gr, dg], @Ne Nat q Lg ∧ @Ne Nat q 334) (hr : (∀ b ∈ [S, D, C], b ≠ Lg ∧ b ≠ 334) ∧ @LT.lt Nat _ C Lg ∧ ∀ p ∈ tl, p.1 ≠ Lg ∧ p.1 ≠ 334 ∧ (@LT.lt Nat _ p.1 Lg ∨ p.2.cls ≠ .type "list_iterator")) :
    (∀ b ∈ [S, D, C], b ≠ Lg ∧ b ≠ 334) ∧ @LT.lt Nat _ C Lg ∧ ∀ p ∈ (Gr, tagsO dg gvs cnt) :: (dg, dictOf [] 0) :: tl, p.1 ≠ Lg ∧ p.1 ≠ 334 ∧ (@LT.lt Nat _ p.1 Lg ∨ p.2.cls ≠ .type "list_iterator") := by
  refine ⟨hr.1, hr.2.1, fun p hp => ?_⟩
  rcases List.mem_cons.mp hp with rfl | hp
  · exact ⟨(hfr _ (.head _)).1, (hfr _ (.head _)).2, .inr fun e => by cases e⟩
  · rcases List.mem_cons.mp hp with rfl | hp
    · exact ⟨(hfr _ (.tail _ (.head _))).1, (hfr _ (.tail _ (.head _))).2, .inr fun e => by injection e with e; exact absurd e (by decide)⟩
    · exact hr.2.2 p hp
theorem turn_hrN {prog : Program} {w : World} {A : Around} {g2 : Heap} {gs : List (List It1)} {k : Nat} {gst : GenState} {cnt ks : Nat} {gvs svs : List Value} (hok : GenOK prog w A g2 Lg gs k gst gl) (lt : AllLt l (gl ++ tl)) (hfr : ∀ q ∈ [Gr, dg], @Ne Nat q Lg ∧ @Ne Nat q 334) (hr : (∀ b ∈ [S, D, C], b ≠ Lg ∧ b ≠ 334) ∧ @LT.lt Nat _ C Lg ∧ ∀ p ∈ tl, p.1 ≠ Lg ∧ p.1 ≠ 334 ∧ (@LT.lt Nat _ p.1 Lg ∨ p.2.cls ≠ .type "list_iterator")) :
    (∀ b ∈ [l, D, C], b ≠ Lg ∧ b ≠ 334) ∧ @LT.lt Nat _ C Lg ∧ ∀ p ∈ (S, W.listOf svs.toArray ks) :: (Gr, tagsO dg gvs cnt) :: (dg, dictOf [] 0) :: tl, p.1 ≠ Lg ∧ p.1 ≠ 334 ∧ (@LT.lt Nat _ p.1 Lg ∨ p.2.cls ≠ .type "list_iterator") := by
  obtain ⟨h1, h2, h3⟩ := turn_hr (cnt := cnt) (gvs := gvs) hfr hr
  obtain ⟨_, _, ⟨ps, hps⟩, ⟨oL, hoL⟩, _⟩ := hok
  have b1 : @LT.lt Nat _ 334 l := allLt_mem lt _ (List.mem_append_left _ hps)
  have b2 : @LT.lt Nat _ Lg l := allLt_mem lt _ (List.mem_append_left _ hoL)
  refine ⟨fun b hb => ?_, h2, fun p hp => ?_⟩
  · rcases List.mem_cons.mp hb with rfl | hb
    · exact ⟨Nat.ne_of_gt b2, Nat.ne_of_gt b1⟩
    · exact h1 b (.tail _ hb)
  · rcases List.mem_cons.mp hp with rfl | hp
    · exact ⟨(h1 _ (.head _)).1, (h1 _ (.head _)).2, .inr fun e => by injection e with e; exact absurd e (by decide)⟩
    · exact h3 p hp
end
theorem mem_turn {a b : Addr × Obj} {gl tl : List (Addr × Obj)} : ∀ p ∈ gl ++ (a :: b :: tl), p ∈ a :: b :: (gl ++ tl) := fun p hp => by
  simp only [List.mem_append, List.mem_cons] at hp ⊢
  rcases hp with h | h | h | h
  · exact .inr (.inr (.inl h))
  · exact .inl h
  · exact .inr (.inl h)
  · exact .inr (.inr (.inr h))
theorem mem_turn3 {a b c : Addr × Obj} {gl tl : List (Addr × Obj)} : ∀ p ∈ gl ++ (a :: b :: c :: tl), p ∈ a :: b :: c :: (gl ++ tl) := fun p hp => by
  simp only [List.mem_append, List.mem_cons] at hp ⊢
  rcases hp with h | h | h | h | h
  · exact .inr (.inr (.inr (.inl h)))
  · exact .inl h
  · exact .inr (.inl h)
  · exact .inr (.inr (.inl h))
  · exact .inr (.inr (.inr (.inr h)))
theorem lrun_err {g : List Tg} {st : LS} {e : Str} : ∀ {gs : List (List Tg)} {i : Nat} {s0 : LS}, lrun s0 (gs.take i) = .ok st → gs[i]? = some g → lstep st g = .error e → lrun s0 gs = .error e := by
  intro gs
  induction gs with
  | nil => intro i s0 _ h; simp at h
  | cons a r ih =>
    intro i s0 h hg hs
    cases i with
    | zero =>
      simp only [List.getElem?_cons_zero, Option.some.injEq] at hg
      subst hg
      simp only [List.take_zero, lrun, Except.ok.injEq] at h
      subst h
      simp only [lrun, hs]
    | succ k =>
      rw [List.take_succ_cons] at h
      simp only [lrun] at h ⊢
      cases hh : lstep s0 a with
      | error e' => rw [hh] at h; cases h
      | ok s1 => rw [hh] at h; simp only at h ⊢; exact ih h (by simpa using hg) hs
theorem loop_err {gs : List (List It1)} {k : Nat} {grp : List It1} {ls : LS} {e : Str} {ign : Bool} (hrun : lrun ⟨[], [], false⟩ ((gs.take (gs.length - k)).map (·.map (·.2))) = .ok ls) (hg : gs[gs.length - k]? = some grp) (hs : lstep ls (grp.map (·.2)) = .error e) : lend ign (lrun ⟨[], [], false⟩ (gs.map (·.map (·.2)))) = .error e := by
  rw [lrun_err (by rw [← List.map_take]; exact hrun) (by rw [List.getElem?_map, hg]; rfl) hs]; rfl
theorem ent_new {tl tl3 : List (Addr × Obj)} {xa dx Gr dg : Addr} {t : Tg} {ta tb : Tok} {vs : List Value} {ts : List Tg} {cnt : Nat} (hbt : ∀ p ∈ tl, p ∈ tl3) (hx1 : (xa, tagO dx t ta tb) ∈ tl) (hx2 : (dx, dictOf [] 0) ∈ tl) (hrest : AllIn (TagL tl) vs ts) :
    EntIn ((Gr, tagsO dg (Value.ref xa :: vs) cnt) :: (dg, dictOf [] 0) :: tl3) (.ref Gr) (t :: ts) := by
  have up : ∀ p ∈ tl, p ∈ (Gr, tagsO dg (Value.ref xa :: vs) cnt) :: (dg, dictOf [] 0) :: tl3 := fun p hp => .tail _ (.tail _ (hbt p hp))
  exact ⟨Gr, dg, cnt, _, rfl, .head _, .tail _ (.head _), .cons ⟨xa, dx, ta, tb, rfl, up _ hx1, up _ hx2⟩ (hrest.mono fun _ _ z => z.mono up)⟩
theorem ls_eof {sec : Sec} {dct : List (Str × Sec)} {e : Bool} {t : Tg} {r : List Tg} (h : t = fT) : lstep ⟨sec, dct, e⟩ (t :: r) = .ok ⟨sec, dct, true⟩ := by subst h; rfl
theorem ls_other {sec : Sec} {dct : List (Str × Sec)} {e : Bool} {t : Tg} {r : List Tg} (h1 : ¬ t = sT) (h2 : ¬ t = eT) (h3 : ¬ t = fT) : lstep ⟨sec, dct, e⟩ (t :: r) = .ok ⟨sec ++ [t :: r], dct, e⟩ := by
  simp only [lstep]
  rw [if_neg h1, if_neg h2, if_neg h3]
theorem ls_new {sec : Sec} {dct : List (Str × Sec)} {e : Bool} {t : Tg} {r : List Tg} (h : t = sT) (hs : secIn sec = false) : lstep ⟨sec, dct, e⟩ (t :: r) = .ok ⟨[t :: r], dct, e⟩ := by
  simp only [lstep]
  rw [if_pos h, hs]; rfl
theorem ls_end {sec : Sec} {dct : List (Str × Sec)} {e : Bool} {t : Tg} {r : List Tg} (h : t = sT) (hs : secIn sec = true) : lstep ⟨sec, dct, e⟩ (t :: r) = .error mEnd := by
  simp only [lstep]
  rw [if_pos h, hs]; rfl
theorem ls_out {sec : Sec} {dct : List (Str × Sec)} {e : Bool} {t : Tg} {r : List Tg} (h : t = eT) (hs : secOut sec = true) : lstep ⟨sec, dct, e⟩ (t :: r) = .error mOut := by
  subst h
  show (if secOut sec = true then _ else _) = _
  rw [if_pos hs]
theorem ls_name1 {te : Tg} {q : Sec} {dct : List (Str × Sec)} {e : Bool} {t : Tg} {r : List Tg} (h : t = eT) (hs : te = sT) : lstep ⟨[te] :: q, dct, e⟩ (t :: r) = .error mName := by
  subst h hs; rfl
theorem ls_name2 {te u : Tg} {y : List Tg} {q : Sec} {dct : List (Str × Sec)} {e : Bool} {t : Tg} {r : List Tg} (h : t = eT) (hs : te = sT) (hu : ¬ u.1 = 2) : lstep ⟨(te :: u :: y) :: q, dct, e⟩ (t :: r) = .error mName := by
  subst h hs
  show (if u.1 = 2 then _ else _) = _
  rw [if_neg hu]
theorem ls_put {te u : Tg} {y : List Tg} {q : Sec} {dct : List (Str × Sec)} {e : Bool} {t : Tg} {r : List Tg} (h : t = eT) (hs : te = sT) (hu : u.1 = 2) : lstep ⟨(te :: u :: y) :: q, dct, e⟩ (t :: r) = .ok ⟨[], dput dct u.2 ((te :: u :: y) :: q), e⟩ := by
  subst h hs
  show (if u.1 = 2 then _ else _) = _
  rw [if_pos hu]
def GensOk (a b : Array GenState) : Prop := ∀ (i : Nat) (x : GenState), b[i]? = some x → a[i]? = some x ∨ x.bare = true
theorem gens_ok {a : Array GenState} {c gst : GenState} {gi : Nat} (h1 : c.bare = true) (h2 : gst.bare = true) : GensOk a ((a.push c).setIfInBounds gi gst) := fun i x e => by
  rw [Array.getElem?_setIfInBounds] at e
  split at e
  · split at e
    · cases e; exact .inr h2
    · cases e
  · rw [Array.getElem?_push] at e
    split at e
    · cases e; exact .inr h1
    · exact .inl e
local macro_rules | `(tactic| kd_p1) => `(tactic| (first | (k_unfold; (try dsimp only)) | (k_end; wrow_close) | walk1 | (dsimp only; walk1) | (leave1; walk_say "STEP leave1"; try dsimp only) | fail "no step"))
local macro_rules | `(tactic| kd_addW) => `(tactic| fail_if_success (first | (with_reducible show wpAny _ _ (call (Value.ref 339) _) _ _ _) | (with_reducible show wpAny _ _ (exec (Stmt.For _ _ _ _ _) _) _ _ _) | (with_reducible show wpAny _ _ (pyIter (Value.ref _)) _ _ _) | (with_reducible show wpAny _ _ (call (Value.ref 347) _) _ _ _)))
local macro_rules | `(tactic| walk_at "subscriptTail") => `(tactic| (k_here; (with_reducible show wpAny _ _ (subscriptTail _ _ (Value.ref _) (Value.int 0 _)) _ _ _); k_dflt ((refine' tags_item0 ?X ?F ?N ?g ?h2 ?hh ?hd ?hu ?_); (case X => k_asm); (case F => k_asm); (case N => k_asm); (case g => first | k_mem | (repeat (first | (with_reducible assumption) | refine List.mem_cons_of_mem _ ?_))); (case h2 => first | k_mem | (repeat (first | (with_reducible assumption) | refine List.mem_cons_of_mem _ ?_))); (case hh => rfl); (case hd => exact Nat.le_of_ble_eq_true rfl); (case hu => exact Nat.le_of_ble_eq_true rfl); k_whole; intro h' tk' F' N'; (try k_sweep))))
local macro_rules | `(tactic| walk_at "subscriptTail Name Constant ref int") => `(tactic| (k_here; (with_reducible show wpAny _ _ (subscriptTail _ _ (Value.ref _) (Value.int 0 _)) _ _ _); k_dflt ((refine' tags_item0 ?X ?F ?N ?g ?h2 ?hh ?hd ?hu ?_); (case X => k_asm); (case F => k_asm); (case N => k_asm); (case g => first | k_mem | (repeat (first | (with_reducible assumption) | refine List.mem_cons_of_mem _ ?_))); (case h2 => first | k_mem | (repeat (first | (with_reducible assumption) | refine List.mem_cons_of_mem _ ?_))); (case hh => rfl); (case hd => exact Nat.le_of_ble_eq_true rfl); (case hu => exact Nat.le_of_ble_eq_true rfl); k_whole; intro h' tk' F' N'; (try k_sweep))))
local macro_rules | `(tactic| walk_at "subscriptTail Subscript Name Constant Constant ref int") => `(tactic| (k_here; (with_reducible show wpAny _ _ (subscriptTail _ _ (Value.ref _) (Value.int 0 _)) _ _ _); k_dflt ((refine' tags_item0 ?X ?F ?N ?g ?h2 ?hh ?hd ?hu ?_); (case X => k_asm); (case F => k_asm); (case N => k_asm); (case g => first | k_mem | (repeat (first | (with_reducible assumption) | refine List.mem_cons_of_mem _ ?_))); (case h2 => first | k_mem | (repeat (first | (with_reducible assumption) | refine List.mem_cons_of_mem _ ?_))); (case hh => rfl); (case hd => exact Nat.le_of_ble_eq_true rfl); (case hu => exact Nat.le_of_ble_eq_true rfl); k_whole; intro h' tk' F' N'; (try k_sweep))))
local macro_rules | `(tactic| walk_at "subscriptTail Name Constant ref int") => `(tactic| (k_here; (with_reducible show wpAny _ _ (subscriptTail _ _ (Value.ref _) (Value.int 0 _)) _ _ _); k_dflt ((refine' tags_item0 ?X ?F ?N ?g ?h2 ?hh ?hd ?hu ?_); (case X => k_asm); (case F => k_asm); (case N => k_asm); (case g => first | k_mem | (repeat (first | (with_reducible assumption) | refine List.mem_cons_of_mem _ ?_))); (case h2 => first | k_mem | (repeat (first | (with_reducible assumption) | refine List.mem_cons_of_mem _ ?_))); (case hh => rfl); (case hd => exact Nat.le_of_ble_eq_true rfl); (case hu => exact Nat.le_of_ble_eq_true rfl); k_whole; intro h' tk' F' N'; (try k_sweep))))
local macro_rules | `(tactic| walk_at "subscriptTail Subscript Name Constant Constant ref int") => `(tactic| (k_here; (with_reducible show wpAny _ _ (subscriptTail _ _ (Value.ref _) (Value.int 0 _)) _ _ _); k_dflt ((refine' tags_item0 ?X ?F ?N ?g ?h2 ?hh ?hd ?hu ?_); (case X => k_asm); (case F => k_asm); (case N => k_asm); (case g => first | k_mem | (repeat (first | (with_reducible assumption) | refine List.mem_cons_of_mem _ ?_))); (case h2 => first | k_mem | (repeat (first | (with_reducible assumption) | refine List.mem_cons_of_mem _ ?_))); (case hh => rfl); (case hd => exact Nat.le_of_ble_eq_true rfl); (case hu => exact Nat.le_of_ble_eq_true rfl); k_whole; intro h' tk' F' N'; (try k_sweep))))
local macro_rules | `(tactic| walk_at "subscriptTail") => `(tactic| (k_here; (with_reducible show wpAny _ _ (subscriptTail _ _ (Value.ref _) (Value.int 0 _)) _ _ _); k_dflt ((refine' list_first ?N ?g ?h2 ?_); (case N => k_asm); (case g => k_mem); (case h2 => with_reducible assumption); k_whole)))
local macro_rules | `(tactic| walk_at "subscriptTail Name Constant ref int") => `(tactic| (k_here; (with_reducible show wpAny _ _ (subscriptTail _ _ (Value.ref _) (Value.int 0 _)) _ _ _); k_dflt ((refine' list_first ?N ?g ?h2 ?_); (case N => k_asm); (case g => k_mem); (case h2 => with_reducible assumption); k_whole)))
local macro_rules | `(tactic| walk_at "subscriptTail Subscript Name Constant Constant ref int") => `(tactic| (k_here; (with_reducible show wpAny _ _ (subscriptTail _ _ (Value.ref _) (Value.int 0 _)) _ _ _); k_dflt ((refine' list_first ?N ?g ?h2 ?_); (case N => k_asm); (case g => k_mem); (case h2 => with_reducible assumption); k_whole)))
local macro_rules | `(tactic| walk_at "subscriptTail Name Constant ref int") => `(tactic| (k_here; (with_reducible show wpAny _ _ (subscriptTail _ _ (Value.ref _) (Value.int 0 _)) _ _ _); k_dflt ((refine' list_first ?N ?g ?h2 ?_); (case N => k_asm); (case g => k_mem); (case h2 => with_reducible assumption); k_whole)))
local macro_rules | `(tactic| walk_at "subscriptTail Subscript Name Constant Constant ref int") => `(tactic| (k_here; (with_reducible show wpAny _ _ (subscriptTail _ _ (Value.ref _) (Value.int 0 _)) _ _ _); k_dflt ((refine' list_first ?N ?g ?h2 ?_); (case N => k_asm); (case g => k_mem); (case h2 => with_reducible assumption); k_whole)))
local macro_rules | `(tactic| walk_at "call builtin:len") => `(tactic| (k_here; (with_reducible show wpAny _ _ (call (Value.builtin "len") [Value.ref _]) _ _ _); k_dflt ((refine' list_len ?X ?F ?N ?g ?l ?hh ?hd ?hu ?_); (case X => k_asm); (case F => k_asm); (case N => k_asm); (case g => k_mem); (case l => first | (with_reducible assumption) | exact Nat.zero_le _); (case hh => rfl); (case hd => exact Nat.le_of_ble_eq_true rfl); (case hu => exact Nat.le_of_ble_eq_true rfl); k_whole; intro u' tk')))
local macro_rules | `(tactic| walk_at "compareOp Eq ref") => `(tactic| (k_here; (with_reducible show wpAny _ _ (compareOp CmpOp.Eq (Value.ref _) (Value.ref _)) _ _ _); k_dflt ((refine' tag_eqD ?X ?T ?F ?N ?hd ?hu ?h1 ?h2 ?z ?z0 ?_); (case X => k_asm); (case T => exact Top.nolimit (by k_asm)); (case F => k_asm); (case N => k_asm); (case hd => exact Nat.le_of_ble_eq_true rfl); (case hu => exact Nat.le_of_ble_eq_true rfl); (case h1 => repeat (first | (with_reducible assumption) | refine List.mem_cons_of_mem _ ?_)); (case h2 => repeat (first | (with_reducible assumption) | refine List.mem_cons_of_mem _ ?_)); (case z => with_reducible assumption); (case z0 => decide +kernel); k_whole; intro h' tk' F' N'; (try k_sweep))))
local macro_rules | `(tactic| walk_at "compareOp NotEq ref") => `(tactic| (k_here; (with_reducible show wpAny _ _ (compareOp CmpOp.NotEq (Value.ref _) (Value.ref _)) _ _ _); k_dflt ((refine' tag_neD ?X ?T ?F ?N ?hd ?hu ?h1 ?h2 ?z ?z0 ?_); (case X => k_asm); (case T => exact Top.nolimit (by k_asm)); (case F => k_asm); (case N => k_asm); (case hd => exact Nat.le_of_ble_eq_true rfl); (case hu => exact Nat.le_of_ble_eq_true rfl); (case h1 => repeat (first | (with_reducible assumption) | refine List.mem_cons_of_mem _ ?_)); (case h2 => repeat (first | (with_reducible assumption) | refine List.mem_cons_of_mem _ ?_)); (case z => with_reducible assumption); (case z0 => decide +kernel); k_whole; intro h' tk' F' N'; (try k_sweep))))
local macro_rules | `(tactic| walk_at "callWith ref") => `(tactic| (k_here; k_dflt (refine' callWith_B0 ?k1 ?_; (case k1 => exact CallAt.of_mem (by k_asm) (by repeat (first | (with_reducible assumption) | refine List.mem_cons_of_mem _ ?_))); k_whole; try dsimp only [List.nil_append, List.cons_append])))
local macro_rules | `(tactic| walk_at "call ref") => `(tactic| (k_here; k_dflt (refine wpAny_call ?_; (refine' code_nest ?k1 ?k2 ?k3 ?k4 ?k5 ?kA ?kF ?kK ?k6 ?k7 ?k8 ?k9 ?kB ?_ ?c2 ?c3 ?c4 ?c5; (case kA => exact rfl); (case kF => exact rfl); (case kK => exact rfl); (case k1 => k_asm); (case k2 => k_asm); (case k3 => k_asm); (case k4 => k_asm); (case k5 => k_asm); (case k6 => repeat (first | (with_reducible assumption) | refine List.mem_cons_of_mem _ ?_)); (case k7 => exact codeRec_news (by k_asm) (by repeat (first | (with_reducible assumption) | refine List.mem_cons_of_mem _ ?_)) (by assumption) (by assumption)); (case k8 => k_room); (case k9 => exact BindsTo.of_eq rfl); (case c5 => decide); (case kB => exact locs rfl); (case c2 => exact rfl); (case c3 => exact rfl); (case c4 => exact rfl); k_whole; intro g' L' h' FG' F' N' B' X' T'; (try dsimp only); (try k_lift B'); (try k_fold)))))
local macro_rules | `(tactic| walk_at "exec Raise some none") => `(tactic| (k_here; k_dflt ((refine' raise_ownX ?F ?g ?O PySem.F.excBase_Exception ?h ?_ ?a ?b ?b2 ?c ?d ?e; (case F => k_asm); (case g => exact TopRead.g (by k_asm)); (case O => exact own_of_in (by k_asm) (by k_asm) (by k_is) (by k_exc)); (case h => first | rfl | assumption); (case a => rfl); (case b => rfl); (case b2 => rfl); (case c => rfl); (case d => rfl); (case e => decide); k_whole))))
local macro_rules | `(tactic| walk_at "leaving ref") => `(tactic| (k_here; (refine' leave_raiseX ?k1 ?k0 ?k2 ?k3 ?k4 ?k5 ?_; (case k0 => assumption); (case k1 => assumption); (case k2 => assumption); (case k3 => k_asm); (case k4 => rfl); (case k5 => rfl); k_whole; intro h' t' R' U'; (try dsimp only at R' U' ⊢))))
local macro_rules | `(tactic| walk_at "subscriptTail") => `(tactic| (k_here; (with_reducible show wpAny _ _ (subscriptTail _ _ (Value.ref _) (Value.int 1 _)) _ _ _); k_dflt ((refine' tags_item1 ?X ?F ?N ?g ?h2 ?hh ?hd ?hu ?_); (case X => k_asm); (case F => k_asm); (case N => k_asm); (case g => (repeat (first | (with_reducible assumption) | refine List.mem_cons_of_mem _ ?_))); (case h2 => (repeat (first | (with_reducible assumption) | refine List.mem_cons_of_mem _ ?_))); (case hh => rfl); (case hd => exact Nat.le_of_ble_eq_true rfl); (case hu => exact Nat.le_of_ble_eq_true rfl); k_whole; intro h' tk' F' N'; (try k_sweep))))
local macro_rules | `(tactic| walk_at "subscriptTail Name Constant ref int") => `(tactic| (k_here; (with_reducible show wpAny _ _ (subscriptTail _ _ (Value.ref _) (Value.int 1 _)) _ _ _); k_dflt ((refine' tags_item1 ?X ?F ?N ?g ?h2 ?hh ?hd ?hu ?_); (case X => k_asm); (case F => k_asm); (case N => k_asm); (case g => (repeat (first | (with_reducible assumption) | refine List.mem_cons_of_mem _ ?_))); (case h2 => (repeat (first | (with_reducible assumption) | refine List.mem_cons_of_mem _ ?_))); (case hh => rfl); (case hd => exact Nat.le_of_ble_eq_true rfl); (case hu => exact Nat.le_of_ble_eq_true rfl); k_whole; intro h' tk' F' N'; (try k_sweep))))
local macro_rules | `(tactic| walk_at "subscriptTail Subscript Name Constant Constant ref int") => `(tactic| (k_here; (with_reducible show wpAny _ _ (subscriptTail _ _ (Value.ref _) (Value.int 1 _)) _ _ _); k_dflt ((refine' tags_item1 ?X ?F ?N ?g ?h2 ?hh ?hd ?hu ?_); (case X => k_asm); (case F => k_asm); (case N => k_asm); (case g => (repeat (first | (with_reducible assumption) | refine List.mem_cons_of_mem _ ?_))); (case h2 => (repeat (first | (with_reducible assumption) | refine List.mem_cons_of_mem _ ?_))); (case hh => rfl); (case hd => exact Nat.le_of_ble_eq_true rfl); (case hu => exact Nat.le_of_ble_eq_true rfl); k_whole; intro h' tk' F' N'; (try k_sweep))))
local macro_rules | `(tactic| walk_at "call builtin:len") => `(tactic| (k_here; (with_reducible show wpAny _ _ (call (Value.builtin "len") [Value.ref _]) _ _ _); k_dflt ((refine' tags_len ?X ?F ?N ?g ?l ?hh ?hd ?hu ?_); (case X => k_asm); (case F => k_asm); (case N => k_asm); (case g => (repeat (first | (with_reducible assumption) | refine List.mem_cons_of_mem _ ?_))); (case l => with_reducible assumption); (case hh => rfl); (case hd => exact Nat.le_of_ble_eq_true rfl); (case hu => exact Nat.le_of_ble_eq_true rfl); k_whole; intro u' tk')))
local macro_rules | `(tactic| walk_at "getAttr ref") => `(tactic| (k_here; (with_reducible show wpAny _ _ (getAttr (Value.ref _) (PySem.Str.ofString "code") _) _ _ _); k_dflt ((refine' tag_codeK ?X ?T ?F ?N ?d ?h1 ?h2 ?_); (case X => k_asm); (case T => exact Top.nolimit (by k_asm)); (case F => k_asm); (case N => k_asm); (case d => exact Nat.le_of_ble_eq_true rfl); (case h1 => exact (News.get_mem (by k_asm) (by (repeat (first | (with_reducible assumption) | refine List.mem_cons_of_mem _ ?_))))); (case h2 => exact (News.get_mem (by k_asm) (by (repeat (first | (with_reducible assumption) | refine List.mem_cons_of_mem _ ?_))))); k_whole; intro h' tk' F' N'; (try k_sweep))))
local macro_rules | `(tactic| walk_at "getAttr ref") => `(tactic| (k_here; (with_reducible show wpAny _ _ (getAttr (Value.ref _) (PySem.Str.ofString "value") _) _ _ _); k_dflt ((refine' tag_valueK ?X ?T ?F ?N ?d ?h1 ?h2 ?_); (case X => k_asm); (case T => exact Top.nolimit (by k_asm)); (case F => k_asm); (case N => k_asm); (case d => exact Nat.le_of_ble_eq_true rfl); (case h1 => exact (News.get_mem (by k_asm) (by (repeat (first | (with_reducible assumption) | refine List.mem_cons_of_mem _ ?_))))); (case h2 => exact (News.get_mem (by k_asm) (by (repeat (first | (with_reducible assumption) | refine List.mem_cons_of_mem _ ?_))))); k_whole; intro h' tk' F' N'; (try k_sweep))))
local macro_rules | `(tactic| walk_at "call builtin:list.append") => `(tactic| (k_here; (with_reducible show wpAny _ _ (call (Value.builtin "list.append") [Value.ref _, _]) _ _ _); k_dflt ((refine' list_appendU ?F ?N ?U ?z ?_); (case F => k_asm); (case N => k_asm); (case U => k_updF); (case z => with_reducible assumption); k_whole; intro h' n' F' N')))
local macro_rules | `(tactic| walk_at "setItem ref str") => `(tactic| (k_here; (with_reducible show wpAny _ _ (setItem (Value.ref _) (Value.str _ _) (Value.ref _)) _ _ _); k_dflt (refine' kda_set (knd := PySem.strKind _ _) ?F ?N ?U ?d (strKind_is _ _ _ _) ?z ?_; (case F => k_asm); (case N => k_asm); (case U => k_updF); (case d => k_asm); (case z => rw [sizeLine_eq]; exact Nat.le_trans (by with_reducible assumption) (Nat.le_of_ble_eq_true rfl))); intro h' o' F' N' hd'; (try dsimp only at N')))

set_option maxHeartbeats 40000000 in
theorem load_spec {w : World} {A₀ : Around} {base h₀ : Heap} {outer : List Env} {L fa : Addr} {cd : Value} {nm : Str} {nms gen co mr} {m : Str → Option Value} {p : Program} {loose mean mg mb} {s : Shared} {E : Value → Shared → Prop} {Q : Value → Shared → Prop}
    {lst : Addr} {ign : Bool} {n : Nat} {items : List Value} {tags : List Tg} {tl : List (Addr × Obj)} (X0 : (hd.heap_39 w.params).In base) 
    (B : Below A₀ base outer h₀) (X : (hd.heap_39 w.params).In h₀) (T : Top p loose mean mg mb h₀) (F : Fr h₀ L s.heap m)
    (N : News h₀ L s.heap ((334, tabObj #[]) :: (342, tabObj #[]) :: tl)) (oo : OwnOff tl [334, 342]) (hlst : (lst, W.listOf items.toArray n) ∈ tl) (hitems : AllIn (TagL tl) items tags) (hlen : tags.length ≤ 57) (hgood : ∀ t ∈ tags, tagGood t)
    (hQ : ∀ (D : Addr) (oD : Obj) (kvs : List (Str × Value)) (d : List (Str × Sec)) (gens' : Array GenState) (tl' : List (Addr × Obj)) (h' : Heap) (tk' : Nat), lend ign (lrun ⟨[], [], false⟩ ((grps items tags).map (·.map (·.2)))) = .ok d → Fr h₀ L h' m → News h₀ L h' ((D, oD) :: tl') → (∀ p ∈ tl, p ∈ tl') → oD.IsDictOf (PySem.strKind PySem.Challenge.rw_fy0012_01.row.prog w) kvs → DctIn tl' kvs d → (D == sysModules) = false → GensOk s.gens gens' → (∃ ps, (334, tabObj ps) ∈ tl') → (∃ ps, (342, tabObj ps) ∈ tl') → Q (.ref D) { s with heap := h', toks := tk', gens := gens' })
    (hE : ∀ (e t : Addr) (msg : Str) (tz : Tok) (news : List (Addr × Obj)) (gens' : Array GenState) (g' h' : Heap) (tk' : Nat), lend ign (lrun ⟨[], [], false⟩ ((grps items tags).map (·.map (·.2)))) = .error msg → RaisedK base (envOf nm (scF nms gen co mr) L fa cd :: outer) e (.ref 44) t [.str msg tz] news h' → Fr h₀ L g' m → g'.UpToSlots h' → (∀ p ∈ tl, p ∈ news) → GensOk s.gens gens' → (∃ ps, (334, tabObj ps) ∈ news) → (∃ ps, (342, tabObj ps) ∈ news) → E (.ref e) { s with heap := h', toks := tk', gens := gens' }) :
    wpAny (model PySem.Challenge.rw_fy0012_01.row.prog w) ((upL outer).deeper (envOf nm (scF nms gen co mr) L fa cd)) (call (.ref 347) [.ref lst, .bool ign]) Q E s := by
  have codeHd : CodeHd base 346 342 := codeHd_of_K X0 (by kernel_rfl)
  refine wpAny_call ?_
  k_enter
  rename _ ∧ _ => l9
  have oo2 := own_cell oo l9
  clear oo
  have sl := Seal.mk (And.intro hlst (And.intro hitems hlen))
  clear hlst hitems hlen
  repeat' (kd_addW; kd_p1)
  k_fold
  refine for_gen (by passes_own) (fun _ => rfl) (fun _ _ => rfl) ?_
  repeat' (kd_addW; kd_p1)
  rename Fr _ _ _ _ => F9
  rename News _ _ _ _ => N9
  rename Frag.In _ _ => X9
  rename Top _ _ _ _ _ _ => T9
  obtain ⟨hlst, hitems, hlen⟩ := sl.out
  have hgoodG : ∀ grp ∈ grps items tags, ∀ t ∈ grp.map (·.2), tagGood t := fun grp hg t ht => by
    obtain ⟨x, hx, rfl⟩ := List.mem_map.mp ht
    rcases (grp_from (c := none) (fun _ e => by cases e) grp hg).2 x hx with h9 | ⟨_, e, _⟩
    · exact hgood _ (List.of_mem_zip h9).2
    · cases e
  have h57 : (grps items tags).length ≤ 100 := by
    have q6 := grp_count (p := isHead) (l := items.zip tags) (c := none)
    have q5 : (items.zip tags).length ≤ tags.length := by rw [List.length_zip]; exact Nat.min_le_right _ _
    dsimp only at q6
    exact Nat.le_trans q6 (by omega)
  have hglen : ∀ grp ∈ grps items tags, grp.length ≤ 100 := fun grp hg => by
    have q6 := grp_len (p := isHead) (l := items.zip tags) (c := none) grp hg
    have q5 : (items.zip tags).length ≤ tags.length := by rw [List.length_zip]; exact Nat.min_le_right _ _
    dsimp only at q6
    omega
  refine group_here X9 T9 F9 N9 (by k_mem) (tl := tl) (by intro p9 hp9; repeat (first | exact hp9 | refine List.mem_cons_of_mem _ ?_)) (fun q hq => oo2 q hq 334 (.head _)) hlst hitems hlen (Nat.le_of_ble_eq_true rfl) ?_
  intro g2 c G Lg oL og h1 tk1 k1 k2 g334 hlt hLL l7 F1 N1 hG hog hok
  have a7 := hlt _ (.head _)
  have ht : ∀ p ∈ tl, @LT.lt Nat _ p.1 _ ∧ @Ne Nat p.1 334 := fun p hp => ⟨Nat.lt_succ_of_lt (allLt_mem l9.2.2 p hp), oo2 p hp 334 (.head _)⟩
  refine gen_loop ?u0 T9.nolimit ?u4 hLL k1 k2 ?ht0 (Nat.ne_of_gt l7) ?hG3 g334 hG (linv_start (s0 := s) F1 N1 hG hog (hok _ ?u1 ?u2 ?u3) (by omega) (by omega) (by omega) (by omega) (by omega) (by omega) a7 l7 (by omega) (by omega) ht (by assumption) (by assumption) (by rfl) (by rfl) (by rfl) (by rfl) (ign := ign) (by rfl)) ?step ?done
  case u0 => rfl
  case u4 => exact Nat.le_of_ble_eq_true rfl
  case u1 => rfl
  case u2 => exact Nat.le_of_ble_eq_true rfl
  case u3 => exact Nat.le_of_ble_eq_true rfl
  case ht0 => intro p hp; repeat (first | exact hp | refine List.mem_cons_of_mem _ ?_)
  case hG3 =>
    have := hlt _ (show (334, tabObj #[]) ∈ _ by k_mem)
    exact fun e => absurd (Nat.lt_trans this l7) (by rw [e]; exact Nat.lt_irrefl _)
  case step =>
    clear F1 N1
    intro k grp Gr dg cnt gst gl tl3 S ks svs oD oC kvs ls h2 tk2 m2 y1 y2 y3 y4 hrun F2 N2 hb hsec hD hd hC oo oy e1 e2 e3 hGy hfr hgi hr n1 n2 n3 n4 n5 z1 z2
    have hgrp := grps_in hitems (List.mem_of_getElem? y3)
    have hGo := isGen_of N2 (.tail _ (.tail _ (.tail _ (.tail _ (.tail _ (List.mem_append_right gl (hb _ (.head _)))))))) hGy
    have hbt : ∀ p ∈ tl, p ∈ tl3 := fun p hp => hb p (by repeat (first | exact hp | refine List.mem_cons_of_mem _ ?_))
    have hf1 := hb _ (.tail _ (.head _))
    have hc1 := hb _ (.tail _ (.tail _ (.head _)))
    have hf2 := hb _ (.tail _ (.tail _ (.tail _ (.head _))))
    have hc2 := hb _ (.tail _ (.tail _ (.tail _ (.tail _ (.head _)))))
    obtain ⟨hne, hall⟩ := hgrp
    have F3 := fr_name (fr_name (fr_name (fr_name (fr_name F2 "ignore_missing_eof" n5) "eof" n4) "outside_section" n3) "inside_section" n2) "sections" n1
    clear F2
    obtain ⟨x, grp, rfl⟩ := List.exists_cons_of_ne_nil hne
    simp only [List.map_cons] at hall N2
    cases hall with
    | cons hx hrest =>
    obtain ⟨xa, dx, ta, tb, ev, hx1, hx2⟩ := hx
    rw [ev] at N2
    have hx3 := hbt _ hx1
    have hx4 := hbt _ hx2
    have o1 : @Ne Nat S Gr := oy _ (.head _) Gr (.head _)
    have o2 : @Ne Nat S dg := oy _ (.head _) dg (.tail _ (.head _))
    have o3 : @Ne Nat _ Gr := oy _ (.tail _ (.head _)) Gr (.head _)
    have o4 : @Ne Nat _ dg := oy _ (.tail _ (.head _)) dg (.tail _ (.head _))
    have o5 : @Ne Nat _ Gr := oy _ (.tail _ (.tail _ (.head _))) Gr (.head _)
    have o6 : @Ne Nat _ dg := oy _ (.tail _ (.tail _ (.head _))) dg (.tail _ (.head _))
    have hg1 : strOkT x.2 := strOk_good (hgoodG _ (List.mem_of_getElem? y3) x.2 (by simp))
    obtain ⟨sec, dct, eofb⟩ := ls
    dsimp only at hsec hd n4 z1
    have hsec1 : ∀ g0 ∈ sec, g0 ≠ [] ∧ g0.length ≤ 100 ∧ ∀ t ∈ g0, tagGood t := fun g0 hg0 => by
      rcases lrun_sec _ _ _ hrun g0 hg0 with h9 | h9
      · cases h9
      · obtain ⟨g9, hg9, rfl⟩ := List.mem_map.mp h9
        have hm9 := List.mem_of_mem_take hg9
        refine ⟨fun e => (grps_in hitems hm9).1 (List.map_eq_nil_iff.mp e), by rw [List.length_map]; exact hglen _ hm9, fun t ht => hgoodG _ hm9 t ht⟩
    have hsl : svs.length ≤ 1000 := by
      have h9 := hsec.length
      omega
    have hkl : kvs.length ≤ 1000 := by omega
    have sl3 := Seal.mk (And.intro hrun (And.intro hb (And.intro hsec (And.intro hd (And.intro y4 (And.intro hr (And.intro hrest (And.intro z1 (And.intro z2 (And.intro oy (And.intro hbt (And.intro hfr (And.intro hGo (And.intro hx1 hx2))))))))))))))
    have hx5 : (xa, tagO dx x.2 ta tb) ∈ gl ++ tl3 := List.mem_append_right _ hx3
    have hx6 : (dx, dictOf [] 0) ∈ gl ++ tl3 := List.mem_append_right _ hx4
    have hf3 := List.mem_append_right gl hf1
    have hc3 := List.mem_append_right gl hc1
    have hf4 := List.mem_append_right gl hf2
    have hc4 := List.mem_append_right gl hc2
    have hsec0 := hsec
    clear hrun hb hsec hd y4 hr hrest z1 z2 oy hx3 hx4 hx1 hx2 hf1 hc1 hf2 hc2 hitems hlst hbt hok hfr hGo hGy
    generalize htl4 : gl ++ tl3 = tl4 at *
    have sl4 := Seal.mk htl4
    have hin : ∀ p ∈ tl3, p ∈ tl4 := fun p hp => htl4 ▸ List.mem_append_right _ hp
    clear htl4
    by_cases w3 : x.2 = fT
    · have b1 : decide (x.2 = ((0, Str.ofString "SECTION") : Tg)) = false := decide_eq_false (by rw [w3]; decide)
      have b2 : decide (x.2 = ((0, Str.ofString "ENDSEC") : Tg)) = false := decide_eq_false (by rw [w3]; decide)
      have b3 : decide (x.2 = ((0, Str.ofString "EOF") : Tg)) = true := decide_eq_true w3
      try k_fold
      repeat' (kd_addW; kd_p1)
      rename Fr _ _ _ _ => F7
      rename News _ _ _ _ => N7
      obtain ⟨hrun, hb, hsec, hd, y4, hr, hrest, z1, z2, oy, hbt, hfr, hGo, hx1, hx2⟩ := sl3.out
      have htl4 := sl4.out
      subst htl4
      dsimp only
      have up : ∀ p ∈ tl3, p ∈ (Gr, tagsO dg (Value.ref xa :: grp.map (·.1)) cnt) :: (dg, dictOf [] 0) :: tl3 := fun p hp => .tail _ (.tail _ hp)
      exact linv_mk (ls' := ⟨sec, dct, true⟩) (tl := (Gr, tagsO dg (Value.ref xa :: grp.map (·.1)) cnt) :: (dg, dictOf [] 0) :: tl3) y1 y2 y3 y4 hrun (ls_eof w3) F7 N7 (by k_mem) (by k_mem) (by k_mem) (fun p hp => by have h9 := mem_turn p hp; repeat (first | exact h9 | refine List.mem_cons_of_mem _ ?_)) (fun p hp => up p (hb p hp)) (hsec.mono fun _ _ z => z.mono up) hD (hd.mono up) hC (turn_off oo oy) e1 e2 e3 (hGo _ (News.get_mem N7 (by repeat (first | exact List.mem_append_right gl (hb _ (.head _)) | refine List.mem_cons_of_mem _ ?_)))) hgi (turn_hr hfr hr) (by rfl) (by rfl) (by rfl) (by rfl) (by rfl) (Nat.le_succ_of_le z1) (Nat.le_succ_of_le z2)
    · by_cases w1 : x.2 = sT
      · have b1 : decide (x.2 = ((0, Str.ofString "SECTION") : Tg)) = true := decide_eq_true w1
        cases hsec0 with
        | nil =>
          try k_fold
          repeat' (kd_addW; kd_p1)
          rename Fr _ _ _ _ => F7
          rename News _ _ _ _ => N7
          obtain ⟨hrun, hb, hsec, hd, y4, hr, hrest, z1, z2, oy, hbt, hfr, hGo, hx1, hx2⟩ := sl3.out
          have htl4 := sl4.out
          subst htl4
          rename _ ∧ _ => lt7
          rename _ = Data.cell _ => hC7
          dsimp only
          have up0 : ∀ p ∈ tl3, p ∈ (Gr, tagsO dg (Value.ref xa :: grp.map (·.1)) cnt) :: (dg, dictOf [] 0) :: tl3 := fun p hp => .tail _ (.tail _ hp)
          have up : ∀ p ∈ (Gr, tagsO dg (Value.ref xa :: grp.map (·.1)) cnt) :: (dg, dictOf [] 0) :: tl3, p ∈ (S, W.listOf ([] : List Value).toArray ks) :: (Gr, tagsO dg (Value.ref xa :: grp.map (·.1)) cnt) :: (dg, dictOf [] 0) :: tl3 := fun p hp => .tail _ hp
          exact linv_mk (ls' := ⟨[(x :: grp).map (·.2)], dct, eofb⟩) (svs := [Value.ref Gr]) (tl := (S, W.listOf ([] : List Value).toArray ks) :: (Gr, tagsO dg (Value.ref xa :: grp.map (·.1)) cnt) :: (dg, dictOf [] 0) :: tl3) y1 y2 y3 y4 hrun (ls_new w1 rfl) F7 N7 (by k_mem) (by k_mem) (by k_mem) (fun p hp => (List.mem_cons.mp (mem_turn3 p hp)).elim (fun e => by rw [e]; k_mem) fun h9 => by repeat (first | exact h9 | refine List.mem_cons_of_mem _ ?_)) (fun p hp => up p (up0 p (hb p hp))) (.cons ((ent_new hbt hx1 hx2 hrest).mono up) .nil) hD ((hd.mono up0).mono up) hC7 (turn_new lt7.2.2.2.2.2 lt7.1 lt7.2.2.2.1 lt7.2.2.2.2.1 e1 e2 oo oy) (Nat.ne_of_gt lt7.2.1) (Nat.ne_of_gt lt7.2.2.1) e3 (hGo _ (News.get_mem N7 (by repeat (first | exact List.mem_append_right gl (hb _ (.head _)) | refine List.mem_cons_of_mem _ ?_)))) hgi (turn_hrN y4 lt7.2.2.2.2.2 hfr hr) (by rfl) (by rfl) (by rfl) (by rfl) (by rfl) (Nat.le_add_left 1 _) (Nat.le_succ_of_le z2)
        | @cons v0 vr t0 _ hv hvr =>
          obtain ⟨q1, _, q2⟩ := hsec1 _ (.head _)
          obtain ⟨Ge, dge, cnte, vse, rfl, hm1, hm2, hve⟩ := hv
          cases hve with
          | nil => exact absurd rfl q1
          | @cons v9 _ te _ ht0 hve' =>
            obtain ⟨xe, dxe, ue, we, rfl, hm3, hm4⟩ := ht0
            have hm5 := hin _ hm1
            have hm6 := hin _ hm2
            have hm7 := hin _ hm3
            have hm8 := hin _ hm4
            have hg2 := strOk_good (q2 _ (.head _))
            clear hm1 hm2 hm3 hm4 hin hvr hve' hsec1 q1 q2
            by_cases w4 : te = sT
            · have b4 : decide (te = ((0, Str.ofString "SECTION") : Tg)) = true := decide_eq_true w4
              try k_fold
              repeat' (kd_addW; kd_p1)
              rename RaisedK _ _ _ _ _ _ _ _ => R7
              rename Heap.UpToSlots _ _ => U7
              obtain ⟨hrun, hb, hsec, hd, y4, hr, hrest, z1, z2, oy, hbt, hfr, hGo, hx1, hx2⟩ := sl3.out
              have htl4 := sl4.out
              subst htl4
              exact hE _ _ _ _ _ _ _ _ _ (loop_err hrun y3 (ls_end w1 (decide_eq_true w4))) R7 (by assumption) U7 (fun p hp => by repeat (first | exact List.mem_append_right gl (hbt p hp) | refine List.mem_cons_of_mem _ ?_)) (gens_ok rfl y4.1) (y4.2.2.1.elim fun ps h9 => ⟨ps, by have h8 := List.mem_append_left tl3 h9; repeat (first | exact h8 | refine List.mem_cons_of_mem _ ?_)⟩) ⟨_, by have h8 := List.mem_append_right gl (hb _ (.tail _ (.tail _ (.tail _ (.tail _ (.tail _ (.head _))))))); repeat (first | exact h8 | refine List.mem_cons_of_mem _ ?_)⟩
            · have b4 : decide (te = ((0, Str.ofString "SECTION") : Tg)) = false := decide_eq_false w4
              try k_fold
              repeat' (kd_addW; kd_p1)
              rename Fr _ _ _ _ => F7
              rename News _ _ _ _ => N7
              obtain ⟨hrun, hb, hsec, hd, y4, hr, hrest, z1, z2, oy, hbt, hfr, hGo, hx1, hx2⟩ := sl3.out
              have htl4 := sl4.out
              subst htl4
              rename _ ∧ _ => lt7
              rename _ = Data.cell _ => hC7
              dsimp only
              have up0 : ∀ p ∈ tl3, p ∈ (Gr, tagsO dg (Value.ref xa :: grp.map (·.1)) cnt) :: (dg, dictOf [] 0) :: tl3 := fun p hp => .tail _ (.tail _ hp)
              have up : ∀ p ∈ (Gr, tagsO dg (Value.ref xa :: grp.map (·.1)) cnt) :: (dg, dictOf [] 0) :: tl3, p ∈ (S, W.listOf (Value.ref Ge :: vr : List Value).toArray ks) :: (Gr, tagsO dg (Value.ref xa :: grp.map (·.1)) cnt) :: (dg, dictOf [] 0) :: tl3 := fun p hp => .tail _ hp
              exact linv_mk (ls' := ⟨[(x :: grp).map (·.2)], dct, eofb⟩) (svs := [Value.ref Gr]) (tl := (S, W.listOf (Value.ref Ge :: vr : List Value).toArray ks) :: (Gr, tagsO dg (Value.ref xa :: grp.map (·.1)) cnt) :: (dg, dictOf [] 0) :: tl3) y1 y2 y3 y4 hrun (ls_new w1 (by show decide (te = sT) = false; exact decide_eq_false w4)) F7 N7 (by k_mem) (by k_mem) (by k_mem) (fun p hp => (List.mem_cons.mp (mem_turn3 p hp)).elim (fun e => by rw [e]; k_mem) fun h9 => by repeat (first | exact h9 | refine List.mem_cons_of_mem _ ?_)) (fun p hp => up p (up0 p (hb p hp))) (.cons ((ent_new hbt hx1 hx2 hrest).mono up) .nil) hD ((hd.mono up0).mono up) hC7 (turn_new lt7.2.2.2.2.2 lt7.1 lt7.2.2.2.1 lt7.2.2.2.2.1 e1 e2 oo oy) (Nat.ne_of_gt lt7.2.1) (Nat.ne_of_gt lt7.2.2.1) e3 (hGo _ (News.get_mem N7 (by repeat (first | exact List.mem_append_right gl (hb _ (.head _)) | refine List.mem_cons_of_mem _ ?_)))) hgi (turn_hrN y4 lt7.2.2.2.2.2 hfr hr) (by rfl) (by rfl) (by rfl) (by rfl) (by rfl) (Nat.le_add_left 1 _) (Nat.le_succ_of_le z2)
      · have b1 : decide (x.2 = ((0, Str.ofString "SECTION") : Tg)) = false := decide_eq_false w1
        by_cases w2 : x.2 = eT
        · have b2 : decide (x.2 = ((0, Str.ofString "ENDSEC") : Tg)) = true := decide_eq_true w2
          cases hsec0 with
          | nil =>
            try k_fold
            repeat' (kd_addW; kd_p1)
            rename RaisedK _ _ _ _ _ _ _ _ => R7
            rename Heap.UpToSlots _ _ => U7
            obtain ⟨hrun, hb, hsec, hd, y4, hr, hrest, z1, z2, oy, hbt, hfr, hGo, hx1, hx2⟩ := sl3.out
            have htl4 := sl4.out
            subst htl4
            exact hE _ _ _ _ _ _ _ _ _ (loop_err hrun y3 (ls_out w2 rfl)) R7 (by assumption) U7 (fun p hp => by repeat (first | exact List.mem_append_right gl (hbt p hp) | refine List.mem_cons_of_mem _ ?_)) (gens_ok rfl y4.1) (y4.2.2.1.elim fun ps h9 => ⟨ps, by have h8 := List.mem_append_left tl3 h9; repeat (first | exact h8 | refine List.mem_cons_of_mem _ ?_)⟩) ⟨_, by have h8 := List.mem_append_right gl (hb _ (.tail _ (.tail _ (.tail _ (.tail _ (.tail _ (.head _))))))); repeat (first | exact h8 | refine List.mem_cons_of_mem _ ?_)⟩
          | @cons v0 vr t0 _ hv hvr =>
            obtain ⟨q1, q3, q2⟩ := hsec1 _ (.head _)
            obtain ⟨Ge, dge, cnte, vse, rfl, hm1, hm2, hve⟩ := hv
            have hle : vse.length ≤ 1000 := by
              have q9 := hve.length
              omega
            cases hve with
            | nil => exact absurd rfl q1
            | @cons v9 _ te _ ht0 hve' =>
              obtain ⟨xe, dxe, ue, we, rfl, hm3, hm4⟩ := ht0
              have hm5 := hin _ hm1
              have hm6 := hin _ hm2
              have hm7 := hin _ hm3
              have hm8 := hin _ hm4
              have hg2 := strOk_good (q2 _ (.head _))
              by_cases w4 : te = sT
              · have b4 : (!decide (te = ((0, Str.ofString "SECTION") : Tg))) = false := by rw [decide_eq_true w4]; rfl
                cases hve' with
                | nil =>
                  have hl1 : ((([Value.ref xe] : List Value).length : Nat) : Int) < 2 := by show ((1 : Nat) : Int) < 2; decide
                  try k_fold
                  repeat' (kd_addW; kd_p1)
                  rename RaisedK _ _ _ _ _ _ _ _ => R7
                  rename Heap.UpToSlots _ _ => U7
                  obtain ⟨hrun, hb, hsec, hd, y4, hr, hrest, z1, z2, oy, hbt, hfr, hGo, hx1, hx2⟩ := sl3.out
                  have htl4 := sl4.out
                  subst htl4
                  exact hE _ _ _ _ _ _ _ _ _ (loop_err hrun y3 (ls_name1 w2 w4)) R7 (by assumption) U7 (fun p hp => by repeat (first | exact List.mem_append_right gl (hbt p hp) | refine List.mem_cons_of_mem _ ?_)) (gens_ok rfl y4.1) (y4.2.2.1.elim fun ps h9 => ⟨ps, by have h8 := List.mem_append_left tl3 h9; repeat (first | exact h8 | refine List.mem_cons_of_mem _ ?_)⟩) ⟨_, by have h8 := List.mem_append_right gl (hb _ (.tail _ (.tail _ (.tail _ (.tail _ (.tail _ (.head _))))))); repeat (first | exact h8 | refine List.mem_cons_of_mem _ ?_)⟩
                | @cons v8 _ tb1 _ ht1 hve2 =>
                  obtain ⟨xb, dxb, ub, wb, rfl, hm1b, hm2b⟩ := ht1
                  have hm9 := hin _ hm1b
                  have hm10 := hin _ hm2b
                  clear hm1 hm2 hm3 hm4 hin hvr hve2 hsec1 q1 q2 q3 hm1b hm2b
                  by_cases w5 : tb1.1 = 2
                  · -- a name
                    try k_fold
                    repeat' (kd_addW; kd_p1)
                    rename Fr _ _ _ _ => F7
                    rename News _ _ _ _ => N7
                    obtain ⟨hrun, hb, hsec, hd, y4, hr, hrest, z1, z2, oy, hbt, hfr, hGo, hx1, hx2⟩ := sl3.out
                    have htl4 := sl4.out
                    subst htl4
                    rename _ ∧ _ => lt7
                    rename _ = Data.cell _ => hC7
                    rename Obj.IsDictOf _ _ (stored _ _ _) => hD7
                    dsimp only
                    have up0 : ∀ p ∈ tl3, p ∈ (Gr, tagsO dg (Value.ref xa :: grp.map (·.1)) cnt) :: (dg, dictOf [] 0) :: tl3 := fun p hp => .tail _ (.tail _ hp)
                    have up : ∀ p ∈ (Gr, tagsO dg (Value.ref xa :: grp.map (·.1)) cnt) :: (dg, dictOf [] 0) :: tl3, p ∈ (S, W.listOf (Value.ref Ge :: vr : List Value).toArray ks) :: (Gr, tagsO dg (Value.ref xa :: grp.map (·.1)) cnt) :: (dg, dictOf [] 0) :: tl3 := fun p hp => .tail _ hp
                    exact linv_mk (ls' := ⟨[], dput dct tb1.2 _, eofb⟩) (svs := []) (tl := (S, W.listOf (Value.ref Ge :: vr : List Value).toArray ks) :: (Gr, tagsO dg (Value.ref xa :: grp.map (·.1)) cnt) :: (dg, dictOf [] 0) :: tl3) y1 y2 y3 y4 hrun (ls_put w2 w4 w5) F7 N7 (by k_mem) (by k_mem) (by k_mem) (fun p hp => (List.mem_cons.mp (mem_turn3 p hp)).elim (fun e => by rw [e]; k_mem) fun h9 => by repeat (first | exact h9 | refine List.mem_cons_of_mem _ ?_)) (fun p hp => up p (up0 p (hb p hp))) .nil hD7 (dct_put ⟨S, ks, _, rfl, .head _, hsec.mono fun _ _ z => z.mono fun p hp => up p (up0 p hp)⟩ ((hd.mono up0).mono up)) hC7 (turn_new lt7.2.2.2.2.2 lt7.1 lt7.2.2.2.1 lt7.2.2.2.2.1 e1 e2 oo oy) (Nat.ne_of_gt lt7.2.1) (Nat.ne_of_gt lt7.2.2.1) e3 (hGo _ (News.get_mem N7 (by repeat (first | exact List.mem_append_right gl (hb _ (.head _)) | refine List.mem_cons_of_mem _ ?_)))) hgi (turn_hrN y4 lt7.2.2.2.2.2 hfr hr) (by rfl) (by rfl) (by rfl) (by rfl) (by rfl) (Nat.zero_le _) (stored_len z2)
                  · -- no name
                    try k_fold
                    repeat' (kd_addW; kd_p1)
                    rename RaisedK _ _ _ _ _ _ _ _ => R7
                    rename Heap.UpToSlots _ _ => U7
                    obtain ⟨hrun, hb, hsec, hd, y4, hr, hrest, z1, z2, oy, hbt, hfr, hGo, hx1, hx2⟩ := sl3.out
                    have htl4 := sl4.out
                    subst htl4
                    exact hE _ _ _ _ _ _ _ _ _ (loop_err hrun y3 (ls_name2 w2 w4 w5)) R7 (by assumption) U7 (fun p hp => by repeat (first | exact List.mem_append_right gl (hbt p hp) | refine List.mem_cons_of_mem _ ?_)) (gens_ok rfl y4.1) (y4.2.2.1.elim fun ps h9 => ⟨ps, by have h8 := List.mem_append_left tl3 h9; repeat (first | exact h8 | refine List.mem_cons_of_mem _ ?_)⟩) ⟨_, by have h8 := List.mem_append_right gl (hb _ (.tail _ (.tail _ (.tail _ (.tail _ (.tail _ (.head _))))))); repeat (first | exact h8 | refine List.mem_cons_of_mem _ ?_)⟩
              · have b4 : (!decide (te = ((0, Str.ofString "SECTION") : Tg))) = true := by rw [decide_eq_false w4]; rfl
                clear hm1 hm2 hm3 hm4 hin hvr hve' hsec1 q1 q2 q3
                try k_fold
                repeat' (kd_addW; kd_p1)
                rename RaisedK _ _ _ _ _ _ _ _ => R7
                rename Heap.UpToSlots _ _ => U7
                obtain ⟨hrun, hb, hsec, hd, y4, hr, hrest, z1, z2, oy, hbt, hfr, hGo, hx1, hx2⟩ := sl3.out
                have htl4 := sl4.out
                subst htl4
                exact hE _ _ _ _ _ _ _ _ _ (loop_err hrun y3 (ls_out w2 (by show (!decide _) = true; rw [decide_eq_false w4]; rfl))) R7 (by assumption) U7 (fun p hp => by repeat (first | exact List.mem_append_right gl (hbt p hp) | refine List.mem_cons_of_mem _ ?_)) (gens_ok rfl y4.1) (y4.2.2.1.elim fun ps h9 => ⟨ps, by have h8 := List.mem_append_left tl3 h9; repeat (first | exact h8 | refine List.mem_cons_of_mem _ ?_)⟩) ⟨_, by have h8 := List.mem_append_right gl (hb _ (.tail _ (.tail _ (.tail _ (.tail _ (.tail _ (.head _))))))); repeat (first | exact h8 | refine List.mem_cons_of_mem _ ?_)⟩
        · have b2 : decide (x.2 = ((0, Str.ofString "ENDSEC") : Tg)) = false := decide_eq_false w2
          have b3 : decide (x.2 = ((0, Str.ofString "EOF") : Tg)) = false := decide_eq_false w3
          try k_fold
          repeat' (kd_addW; kd_p1)
          rename Fr _ _ _ _ => F7
          rename News _ _ _ _ => N7
          obtain ⟨hrun, hb, hsec, hd, y4, hr, hrest, z1, z2, oy, hbt, hfr, hGo, hx1, hx2⟩ := sl3.out
          have htl4 := sl4.out
          subst htl4
          dsimp only
          have up : ∀ p ∈ tl3, p ∈ (Gr, tagsO dg (Value.ref xa :: grp.map (·.1)) cnt) :: (dg, dictOf [] 0) :: tl3 := fun p hp => .tail _ (.tail _ hp)
          exact linv_mk (ls' := ⟨sec ++ [(x :: grp).map (·.2)], dct, eofb⟩) (svs := svs ++ [Value.ref Gr]) (tl := (Gr, tagsO dg (Value.ref xa :: grp.map (·.1)) cnt) :: (dg, dictOf [] 0) :: tl3) y1 y2 y3 y4 hrun (ls_other w1 w2 w3) F7 N7 (by k_mem) (by k_mem) (by k_mem) (fun p hp => by have h9 := mem_turn p hp; repeat (first | exact h9 | refine List.mem_cons_of_mem _ ?_)) (fun p hp => up p (hb p hp)) ((hsec.mono fun _ _ z => z.mono up).append (.cons (ent_new hbt hx1 hx2 hrest) .nil)) hD (hd.mono up) hC (turn_off oo oy) e1 e2 e3 (hGo _ (News.get_mem N7 (by repeat (first | exact List.mem_append_right gl (hb _ (.head _)) | refine List.mem_cons_of_mem _ ?_)))) hgi (turn_hr hfr hr) (by rfl) (by rfl) (by rfl) (by rfl) (by rfl) (by rw [List.length_append]; exact Nat.succ_le_succ z1) (Nat.le_succ_of_le z2)
  case done =>
    intro tl3 S ks svs oD oC kvs ls h2 tk2 m2 ps hrun F2 N2 hb hsec hD hd hC oo e1 e2 e3 n1 n2 n3 n4 n5 z1
    have hbt : ∀ p ∈ tl, p ∈ tl3 := fun p hp => hb p (by repeat (first | exact hp | refine List.mem_cons_of_mem _ ?_))
    have hf3 := hb _ (.tail _ (.head _))
    have hc3 := hb _ (.tail _ (.tail _ (.head _)))
    have hf4 := hb _ (.tail _ (.tail _ (.tail _ (.head _))))
    have hc4 := hb _ (.tail _ (.tail _ (.tail _ (.tail _ (.head _)))))
    have F3 := fr_name (fr_name (fr_name (fr_name (fr_name F2 "ignore_missing_eof" n5) "eof" n4) "outside_section" n3) "inside_section" n2) "sections" n1
    obtain ⟨sec, dct, eofb⟩ := ls
    dsimp only at hsec hd n4 z1
    have hsec1 : ∀ g0 ∈ sec, g0 ≠ [] ∧ ∀ t ∈ g0, tagGood t := fun g0 hg0 => by
      rcases lrun_sec _ _ _ hrun g0 hg0 with h9 | h9
      · cases h9
      · obtain ⟨g9, hm9, rfl⟩ := List.mem_map.mp h9
        refine ⟨fun e => (grps_in hitems hm9).1 (List.map_eq_nil_iff.mp e), fun t ht => hgoodG _ hm9 t ht⟩
    have hsl : svs.length ≤ 1000 := by
      have h9 := hsec.length
      omega
    have sl3 := Seal.mk (And.intro hrun (And.intro hd (And.intro hbt hb)))
    clear hrun hb hd F2 hitems hlst hbt hok F1 N1
    cases hsec with
    | nil =>
      clear hsec1
      cases eofb with
      | true =>
        try k_fold
        repeat' (kd_addW; kd_p1)
        rename Fr h₀ L _ _ => F7
        rename News h₀ L _ _ => N7
        obtain ⟨hrun, hd, hbt, hb⟩ := sl3.out
        refine hQ _ oD kvs dct _ ((334, tabObj ps) :: tl3) _ _ (by rw [hrun]; rfl) F7 (fun p hp => N7 p ?_) (fun p hp => .tail _ (hbt p hp)) hD (hd.mono fun p hp => .tail _ hp) (by assumption) (gens_ok rfl rfl) ⟨ps, .head _⟩ ⟨_, .tail _ (hb _ (.tail _ (.tail _ (.tail _ (.tail _ (.tail _ (.head _)))))))⟩
        rcases List.mem_cons.mp hp with rfl | hp
        · k_mem
        · repeat (first | exact hp | refine List.mem_cons_of_mem _ ?_)
      | false =>
        cases ign with
        | true =>
          try k_fold
          repeat' (kd_addW; kd_p1)
          rename Fr h₀ L _ _ => F7
          rename News h₀ L _ _ => N7
          obtain ⟨hrun, hd, hbt, hb⟩ := sl3.out
          refine hQ _ oD kvs dct _ ((334, tabObj ps) :: tl3) _ _ (by rw [hrun]; rfl) F7 (fun p hp => N7 p ?_) (fun p hp => .tail _ (hbt p hp)) hD (hd.mono fun p hp => .tail _ hp) (by assumption) (gens_ok rfl rfl) ⟨ps, .head _⟩ ⟨_, .tail _ (hb _ (.tail _ (.tail _ (.tail _ (.tail _ (.tail _ (.head _)))))))⟩
          rcases List.mem_cons.mp hp with rfl | hp
          · k_mem
          · repeat (first | exact hp | refine List.mem_cons_of_mem _ ?_)
        | false =>
          try k_fold
          repeat' (kd_addW; kd_p1)
          rename RaisedK _ _ _ _ _ _ _ _ => R7
          rename Heap.UpToSlots _ _ => U7
          obtain ⟨hrun, hd, hbt, hb⟩ := sl3.out
          exact hE _ _ _ _ _ _ _ _ _ (by rw [hrun]; rfl) R7 (by assumption) U7 (fun p hp => by have h9 := hbt p hp; repeat (first | exact h9 | refine List.mem_cons_of_mem _ ?_)) (gens_ok rfl rfl) ⟨ps, by k_mem⟩ ⟨_, by have h8 := (hb _ (.tail _ (.tail _ (.tail _ (.tail _ (.tail _ (.head _))))))); repeat (first | exact h8 | refine List.mem_cons_of_mem _ ?_)⟩
    | @cons v0 vr t0 _ hv hvr =>
      obtain ⟨q1, q2⟩ := hsec1 _ (.head _)
      obtain ⟨Ge, dge, cnte, vse, rfl, hm5, hm6, hve⟩ := hv
      cases hve with
      | nil => exact absurd rfl q1
      | @cons v9 _ te _ ht0 hve' =>
        obtain ⟨xe, dxe, ue, we, rfl, hm7, hm8⟩ := ht0
        have hg2 := strOk_good (q2 _ (.head _))
        clear hvr hve' hsec1 q1 q2
        by_cases w4 : te = sT
        · have b4 : decide (te = ((0, Str.ofString "SECTION") : Tg)) = true := decide_eq_true w4
          try k_fold
          repeat' (kd_addW; kd_p1)
          rename RaisedK _ _ _ _ _ _ _ _ => R7
          rename Heap.UpToSlots _ _ => U7
          obtain ⟨hrun, hd, hbt, hb⟩ := sl3.out
          exact hE _ _ _ _ _ _ _ _ _ (by rw [hrun]; show (if decide (te = sT) = true then _ else _) = _; rw [decide_eq_true w4]; rfl) R7 (by assumption) U7 (fun p hp => by have h9 := hbt p hp; repeat (first | exact h9 | refine List.mem_cons_of_mem _ ?_)) (gens_ok rfl rfl) ⟨ps, by k_mem⟩ ⟨_, by have h8 := (hb _ (.tail _ (.tail _ (.tail _ (.tail _ (.tail _ (.head _))))))); repeat (first | exact h8 | refine List.mem_cons_of_mem _ ?_)⟩
        · have b4 : decide (te = ((0, Str.ofString "SECTION") : Tg)) = false := decide_eq_false w4
          cases eofb with
          | true =>
            try k_fold
            repeat' (kd_addW; kd_p1)
            rename Fr h₀ L _ _ => F7
            rename News h₀ L _ _ => N7
            obtain ⟨hrun, hd, hbt, hb⟩ := sl3.out
            refine hQ _ oD kvs dct _ ((334, tabObj ps) :: tl3) _ _ (by rw [hrun]; show (if decide (te = sT) = true then _ else _) = _; rw [decide_eq_false w4]; rfl) F7 (fun p hp => N7 p ?_) (fun p hp => .tail _ (hbt p hp)) hD (hd.mono fun p hp => .tail _ hp) (by assumption) (gens_ok rfl rfl) ⟨ps, .head _⟩ ⟨_, .tail _ (hb _ (.tail _ (.tail _ (.tail _ (.tail _ (.tail _ (.head _)))))))⟩
            rcases List.mem_cons.mp hp with rfl | hp
            · k_mem
            · repeat (first | exact hp | refine List.mem_cons_of_mem _ ?_)
          | false =>
            cases ign with
            | true =>
              try k_fold
              repeat' (kd_addW; kd_p1)
              rename Fr h₀ L _ _ => F7
              rename News h₀ L _ _ => N7
              obtain ⟨hrun, hd, hbt, hb⟩ := sl3.out
              refine hQ _ oD kvs dct _ ((334, tabObj ps) :: tl3) _ _ (by rw [hrun]; show (if decide (te = sT) = true then _ else _) = _; rw [decide_eq_false w4]; rfl) F7 (fun p hp => N7 p ?_) (fun p hp => .tail _ (hbt p hp)) hD (hd.mono fun p hp => .tail _ hp) (by assumption) (gens_ok rfl rfl) ⟨ps, .head _⟩ ⟨_, .tail _ (hb _ (.tail _ (.tail _ (.tail _ (.tail _ (.tail _ (.head _)))))))⟩
              rcases List.mem_cons.mp hp with rfl | hp
              · k_mem
              · repeat (first | exact hp | refine List.mem_cons_of_mem _ ?_)
            | false =>
              try k_fold
              repeat' (kd_addW; kd_p1)
              rename RaisedK _ _ _ _ _ _ _ _ => R7
              rename Heap.UpToSlots _ _ => U7
              obtain ⟨hrun, hd, hbt, hb⟩ := sl3.out
              exact hE _ _ _ _ _ _ _ _ _ (by rw [hrun]; show (if decide (te = sT) = true then _ else _) = _; rw [decide_eq_false w4]; rfl) R7 (by assumption) U7 (fun p hp => by have h9 := hbt p hp; repeat (first | exact h9 | refine List.mem_cons_of_mem _ ?_)) (gens_ok rfl rfl) ⟨ps, by k_mem⟩ ⟨_, by have h8 := (hb _ (.tail _ (.tail _ (.tail _ (.tail _ (.tail _ (.head _))))))); repeat (first | exact h8 | refine List.mem_cons_of_mem _ ?_)⟩
end
end Mine
namespace Mine
section
open PySem PySem.W PyProof.Rows PySem.Calls PyProof.V PySem.Spec
theorem rstP41 {M : Model} {A : Around} {env : Env} {Q : Flow → Shared → Prop} {E : Value → Shared → Prop} {s : Shared} (h : wpAny M A (execs [] env) Q E s) : wpAny M A (execs [] env) Q E s := by
  w_top off
  (try (walk1; fail))
  exact h
/-- the law's end, with generators that were made and left bare -/
theorem kn_postG {M : Model} {A : Around} {cd : Code} {s s₁ : Shared} {cw : ClaimW} {cl : Str → Option Addr} {mean : ExcName → Option Value} {args : List WData} {tabs : List (Addr × Addr)} (hT : TabsAt tabs s₁.heap) (hr : ∀ a x, cw.raises a x = false)
    (h : codeAny M A cd (fun r s' => GoodW cw cl mean args { s₁ with heap := ghostOf s₁.heap tabs } r { s' with gens := #[] } ∧ AllBare s'.gens ∧ GrownAll tabs s'.heap) s) : codeAny M A cd (GoodWG cw cl mean args s₁) s :=
  codeAny_mono h fun r s' ⟨⟨hc, hk, hos, _⟩, hg, hgr⟩ => by
    have keep : ∀ b o, b ∉ tabs.map (·.2) → s₁.heap.get? b = some o → s'.heap.get? b = some o := fun b o hb e => hk b o (ghost_ne e hb)
    have grown : ∀ b o, b ∈ tabs.map (·.2) → s₁.heap.get? b = some o → isCodeTable s₁.heap b ∧ o = tabObj #[] ∧ ∃ ps, s'.heap.get? b = some (tabObj ps) := fun b o hb e => by
      obtain ⟨q, hq, rfl⟩ := List.mem_map.mp hb
      have e2 := (hT q hq).2
      rw [e] at e2
      exact ⟨((hT q hq).1.tab (hT q hq).2).isCodeTable, Option.some.inj e2, hgr.get q hq⟩
    refine ⟨?_, ⟨fun b o e => ?_, fun b o e => ?_⟩, hos, hg⟩
    · rcases hc with ⟨v, d, as, r1, r2, r3, r4, r5⟩ | ⟨e, ob, x, _, _, _, r4, _⟩
      · refine .inl ⟨v, d, as, r1, r2, r3, r4, fun q => ⟨(r5 q).1, fun a ha => ?_⟩⟩
        cases q1 : s₁.heap.get? a with
        | none => rfl
        | some o =>
          by_cases hb : a ∈ tabs.map (·.2)
          · obtain ⟨_, _, ps, hP⟩ := grown a o hb q1
            exact absurd ha (readsW_apart hP rfl r3)
          · have e3 := (r5 q).2 a ha
            rw [show (ghostOf s₁.heap tabs).get? a = some o from ghost_ne q1 hb] at e3
            cases e3
      · rw [hr] at r4; cases r4
    · by_cases hb : b ∈ tabs.map (·.2)
      · obtain ⟨ht, rfl, ps, hP⟩ := grown b o hb e
        exact .inr (.inl ⟨ht, rfl, #[], ps, rfl, by rw [Array.empty_append]; exact hP⟩)
      · exact .inl (keep b o hb e)
    · by_cases hb : b ∈ tabs.map (·.2)
      · obtain ⟨_, _, ps, hP⟩ := grown b o hb e
        exact ⟨_, hP⟩
      · exact ⟨o, keep b o hb e⟩
end
end Mine
namespace Mine
section
open PySem PySem.W PyProof.Rows PySem.Calls
theorem rstP42 {M : Model} {A : Around} {env : Env} {Q : Flow → Shared → Prop} {E : Value → Shared → Prop} {s : Shared} (h : wpAny M A (execs [] env) Q E s) : wpAny M A (execs [] env) Q E s := by
  w_top off
  (try (walk1; fail))
  exact h
theorem split_list_iter : PySem.splitId "list.__iter__" = some ("list", "__iter__") := by decide +kernel
theorem iter_tags {w : World} {A : Around} {s : Shared} {E Q : Value → Shared → Prop} {G dg : Addr} {its : List Value} {n : Nat} (X : (hd.heap_39 w.params).In s.heap) (hG : s.heap.get? G = some (tagsO dg its n)) (hdg : s.heap.get? dg = some (dictOf [] 0))
    (hQ : Q (.ref s.heap.objs.size) { s with heap := s.heap.push { cls := .type "list_iterator", data := .fields #[.ref G, .int 0 0] } }) :
    wpAny (model PySem.Challenge.rw_fy0012_01.row.prog w) A (pyIter (.ref G)) Q E s := by
  have I : InstAt s.heap G (tagsO dg its n) 327 (some (dictOf [] 0)) := ⟨hG, rfl, rfl, hdg⟩
  have hfi : findIn (hd.heap_39 w.params) (.ref 327) "__iter__" = some (some (.builtin "list.__iter__")) := by k_is
  have hm : mroIn (hd.heap_39 w.params) 327 (.type "list") = some true := by k_is
  have core : ∀ (P : Value → Shared → Prop), P (.ref s.heap.objs.size) { s with heap := s.heap.push { cls := .type "list_iterator", data := .fields #[.ref G, .int 0 0] } } →
      wpAny (model PySem.Challenge.rw_fy0012_01.row.prog w) A (call (.builtin "list.__iter__") [.ref G]) P E s := fun P hP => by
    refine wpAny_call (code_sub X I hm split_list_iter (.inl (by decide +kernel)) (args_list_iter _) (by decide +kernel) entry_list_iter ?_)
    show wpAny _ _ (do ret (← newFields "list_iterator" [.ref G, rawInt 0])) _ _ s
    exact wpAny_bind (wpAny_newObj_type (wpAny_pure ⟨_, rfl, hP⟩))
  unfold pyIter
  simp only [specialOf, callSpecialIfBoundUnlessNone?, bindSpecialIfBound?]
  refine wpAny_bind (wpAny_bind (I.type.here ((looks_findIn X hfi).here ?_)))
  dsimp only
  refine wpAny_bind (wpAny_holding (wpAny_bind (wpAny_bind (wpAny_bind (I.type.here ((looks_findIn X hfi).here ?_))))))
  dsimp only
  have fin : wpAny (model PySem.Challenge.rw_fy0012_01.row.prog w) A (call (.builtin "list.__iter__") [.ref G]) (fun it s' => ∃ T' r, s'.TypeIs it T' ∧ typeLookup (.type T') "__next__" = pure (some r) ∧ Q it s') E s :=
    core _ ⟨"list_iterator", _, ⟨_, Heap.get?_push_size _ rfl, rfl⟩, slot_listiter_next.lookup, hQ⟩
  refine wpAny_bind (wpAny_askSetting (wpAny_ite ?_))
  split
  · refine wpAny_bind (wpAny_of_eq (slot_list_iter.bind (.ref G)) (wpAny_pure ?_))
    dsimp only
    rw [if_neg (show ¬ ((Value.builtin "list.__iter__" == Value.none) = true) from Bool.false_ne_true)]
    refine wpAny_bind (wpAny_mono fin (fun it s' h' => ?_) fun _ _ x => x)
    obtain ⟨T', r, hT', hl, hQ'⟩ := h'
    exact wpAny_pure (wpAny_bind (wpAny_bind (wpAny_typeOf hT' (wpAny_of_eq hl (wpAny_pure hQ')))))
  · refine wpAny_tryCatch (wpAny_bind (wpAny_of_eq (slot_list_iter.bind (.ref G)) (wpAny_pure ?_)))
    dsimp only
    rw [if_neg (show ¬ ((Value.builtin "list.__iter__" == Value.none) = true) from Bool.false_ne_true)]
    refine wpAny_bind (wpAny_mono fin (fun it s' h' => ?_) fun _ _ x => x)
    obtain ⟨T', r, hT', hl, hQ'⟩ := h'
    exact wpAny_pure (wpAny_bind (wpAny_bind (wpAny_typeOf hT' (wpAny_of_eq hl (wpAny_pure hQ')))))
section
variable {prog : Program} {w : World} {A : Around} {E : Value → Shared → Prop} {s : Shared}
/-- one turn of a list's iterator, over any object that holds a sequence -/
theorem next_seq_item {it l : Addr} {i : Nat} {items : Array Value} {ol : Obj} {nl : Nat} {x : Value} {Q : Option Value → Shared → Prop} (hit : s.heap.IsListIter it l i)
    (hol : s.heap.get? l = some ol) (hdl : ol.data = .seq items nl) (hx : items[i]? = some x)
    (hQ : ∀ h', h'.IsListIter it l (i + 1) → Heap.SameBut it s.heap h' → Q (some x) { s with heap := h' }) :
    wpAny (model prog w) A (pyNext (.ref it)) Q E s := by
  obtain ⟨o, ho, hc, hd⟩ := id hit
  unfold pyNext
  refine wpAny_bind (wpAny_attempt (wpAny_callSpecial?_slot (name := Str.ofString "__next__") hit.typeIs slot_listiter_next
    (wpAny_call_entry slot_listiter_next hit.typeIs entry_listiter_next ?_ (args_listiter_next _))))
  show wpAny _ _ (field (.ref it) 0 >>= _) _ _ s
  refine wpAny_bind (wpAny_field ho hd (x := .ref l) rfl ?_)
  show wpAny _ _ (if (Value.ref l == Value.none) = true then _ else _) _ _ s
  rw [if_neg (show ¬ ((Value.ref l == Value.none) = true) from Bool.false_ne_true)]
  show wpAny _ _ (field (.ref it) 1 >>= _) _ _ s
  refine wpAny_bind (wpAny_field ho hd (x := .int i 0) rfl ?_)
  show wpAny _ _ (seqItems? (.ref l) >>= _) _ _ s
  refine wpAny_bind (wpAny_seqItems hol hdl ?_)
  simp only [Int.toNat_natCast, hx]
  refine wpAny_bind (wpAny_setField ho hd (by simp) (wpAny_pure ⟨x, rfl, wpAny_pure (hQ _ ?_ (Heap.SameBut.update ..))⟩))
  exact ⟨_, Heap.get?_update_self _ ho (Obj.isFreed_of_fields (Obj.data_mapFields hd _)), (Obj.cls_mapFields ..).trans hc, by
    rw [Obj.data_mapFields hd]; simp [rawInt]⟩
theorem next_seq_end {it l : Addr} {i : Nat} {items : Array Value} {ol : Obj} {nl : Nat} {Q : Option Value → Shared → Prop} (hh : A.handled = none)
    (hit : s.heap.IsListIter it l i) (hol : s.heap.get? l = some ol) (hdl : ol.data = .seq items nl) (hx : items[i]? = none)
    (hQ : ∀ h', Heap.ExtBut it s.heap h' → Q none { s with heap := h' }) : wpAny (model prog w) A (pyNext (.ref it)) Q E s := by
  obtain ⟨o, ho, hc, hd⟩ := id hit
  unfold pyNext
  refine wpAny_bind (wpAny_attempt (wpAny_callSpecial?_slot (name := Str.ofString "__next__") hit.typeIs slot_listiter_next
    (wpAny_call_entry slot_listiter_next hit.typeIs entry_listiter_next ?_ (args_listiter_next _))))
  show wpAny _ _ (field (.ref it) 0 >>= _) _ _ s
  refine wpAny_bind (wpAny_field ho hd (x := .ref l) rfl ?_)
  show wpAny _ _ (if (Value.ref l == Value.none) = true then _ else _) _ _ s
  rw [if_neg (show ¬ ((Value.ref l == Value.none) = true) from Bool.false_ne_true)]
  show wpAny _ _ (field (.ref it) 1 >>= _) _ _ s
  refine wpAny_bind (wpAny_field ho hd (x := .int i 0) rfl ?_)
  show wpAny _ _ (seqItems? (.ref l) >>= _) _ _ s
  refine wpAny_bind (wpAny_seqItems hol hdl ?_)
  simp only [Int.toNat_natCast, hx]
  refine wpAny_bind (wpAny_rule (wpAny_bind (wpAny_setField ho hd (by simp) ?_)))
  show wpAny _ _ (newExc (.type "StopIteration") [] >>= _) _ _ _
  refine wpAny_bind ?_
  simp only [newExc, newTuple]
  refine wpAny_bind (wpAny_newObj_type ?_ (by size_fits))
  refine wpAny_bind (m := firstArgMember _ _) (wpAny_of_eq (a := Value.none) (by first | rfl | (simp only [firstArgMember]; rfl)) ?_)
  refine wpAny_newObj_type ?_ (by size_fits)
  simp only [raiseNew]
  refine wpAny_bind (wpAny_handled ?_)
  rw [show A.in1.handled = none from hh]
  refine wpAny_bind (wpAny_pure (wpAny_throw ?_))
  refine wpAny_bind (wpAny_isInstance (T := "StopIteration") (b := true) ⟨_, Heap.get?_push_size _ rfl, rfl⟩ isSubtype_stop ?_)
  exact wpAny_pure (hQ _ (((Heap.SameBut.update ..).extBut.push _).push _))
end
end
end Mine
namespace Mine
section
open PySem PySem.W PyProof.Rows PySem.Calls
theorem rstP43 {M : Model} {A : Around} {env : Env} {Q : Flow → Shared → Prop} {E : Value → Shared → Prop} {s : Shared} (h : wpAny M A (execs [] env) Q E s) : wpAny M A (execs [] env) Q E s := by
  w_top off
  (try (walk1; fail))
  exact h
section
variable {prog : Program} {w : World} {A : Around} {E : Value → Shared → Prop} {g : Heap} {L : Addr} {m : Str → Option Value}
/-- a comprehension with one for over any object that holds a sequence -/
theorem comp_obj {s : Shared} {Q : Value → Shared → Prop} {elt target iter : Expr} {scope : Scope} {pos : Pos} {env : Env} {r : Addr} {oR : Obj} {kr : Nat} {items : List Value} {news : List (Addr × Obj)}
    (hh : A.handled = none) (F : Fr g L s.heap m) (N : News g L s.heap news) (hr : (r, oR) ∈ news) (hdl : oR.data = .seq items.toArray kr) (hpi : ∀ {Q' E' : Value → Shared → Prop}, Q' (.ref s.heap.objs.size) { s with heap := s.heap.push { cls := .type "list_iterator", data := .fields #[.ref r, .int 0 0] } } → wpAny (model prog w) A (pyIter (.ref r)) Q' E' s) (hlen : items.length ≤ 1000)
    (hcell : ∀ x ∈ scope.names, x.2 ≠ .cell) (hk : scope.kind = .function) (ht : ∀ (It : Addr) (i : Nat) (v : Value) (s : Shared) (Q : Unit → Shared → Prop), items[i]? = some v → s.heap.IsListIter It r (i + 1) → Q () s → wpAny (model prog w) A (letOwnedTupleGo target (.ref It) v) Q NoE9 s)
    (St : Nat → List Value → List (Addr × Obj) → Prop) (h0 : St 0 [] [])
    (step : ∀ i v acc ex C It D n oC mC oI h tk, items[i]? = some v → St i acc ex → acc.length = i → OwnOff (ex ++ news) [C, It, D] → @Ne Nat C It → @Ne Nat C D → @Ne Nat It D → NsO oC mC → Fr g L h m →
      News g L h ((C, oC) :: (It, oI) :: (D, W.listOf acc.toArray n) :: (ex ++ news)) →
      wpAny (model prog w) A (assign target (cenvOf scope C env) v) (fun _ s₂ => wpAny (model prog w) A (eval elt (cenvOf scope C env)) (fun y s₃ => ∃ h' tk' oC' mC' ex', s₃ = { s with heap := h', toks := tk' } ∧ NsO oC' mC' ∧ Fr g L h' m ∧
        News g L h' ((C, oC') :: (It, oI) :: (D, W.listOf acc.toArray n) :: (ex' ++ news)) ∧ OwnOff ex' [C, It, D] ∧ St (i + 1) (acc ++ [y]) ex') NoE9 s₂) NoE9 { s with heap := h, toks := tk })
    (done : ∀ h' tk D n acc ex, St items.length acc ex → acc.length = items.length → Fr g L h' m → News g L h' ((D, W.listOf acc.toArray n) :: (ex ++ news)) → OwnOff (ex ++ news) [D] → Q (.ref D) { s with heap := h', toks := tk }) :
    wpAny (model prog w) A (pyIter (.ref r)) (fun it s₂ => wpAny (model prog w) A (newList []) (fun acc s₃ =>
      wpAny (model prog w) A (newFunctionEnv scope env.globals [] [] env.qual none .none (some env)) (fun cenv s₄ =>
        codeAny (model prog w) A (.compStart (.ListComp elt [⟨target, iter, [], 0⟩] scope pos) 0 it acc { cenv with scope := scope })
          (fun r s' => ∃ m, s'.heap.Ns cenv.locals m ∧ ∀ h', Heap.SameBut cenv.locals s'.heap h' →
            match r with | .ok _ => Q acc { s' with heap := h' } | .error x => wpAny (model prog w) A (passOn "comprehension.variables-let-go" x { cenv with scope := scope }) Q E { s' with heap := h' }) s₄) E s₃) E s₂) E s := by
  refine hpi ?_
  have F1 := F.push { cls := .type "list_iterator", data := .fields #[.ref r, .int 0 0] }
  have N1 := N.push F { cls := .type "list_iterator", data := .fields #[.ref r, .int 0 0] }
  have lt1 : ∀ p ∈ news, p.1 < s.heap.objs.size := fun p hp => Heap.lt_size (N p hp).1
  generalize hI : s.heap.objs.size = It at *
  generalize hh1 : s.heap.push _ = h1 at *
  refine newList_N (s := { s with heap := h1 }) F1 N1 fun h2 F2 N2 => ?_
  have lt2 : ∀ p ∈ (It, _) :: news, p.1 < h1.objs.size := fun p hp => Heap.lt_size (N1 p hp).1
  generalize hD : h1.objs.size = D at *
  refine wpAny_newFunctionEnv hcell (fun _ h => nomatch h) (fun h3 hns hsb => ?_) hk
  have lt3 : ∀ p ∈ (D, _) :: (It, _) :: news, p.1 < h2.objs.size := fun p hp => Heap.lt_size (N2 p hp).1
  have k3 : Keeps h2 h3 := fun b o e => hsb.extBut b o (Nat.ne_of_lt (Heap.lt_size e)) (Heap.get?_push_of_some _ e)
  have hLs : L < h2.objs.size := F2.ns.lt
  obtain ⟨oC, hC, nC⟩ := ns_obj hns
  have F3 := fr_keep F2 k3
  have gC : g.get? h2.objs.size = none := Heap.get?_none_of_le (Nat.le_trans F2.above (Nat.le_of_lt hLs))
  have N3 : News g L h3 ((h2.objs.size, oC) :: (D, W.listOf ([] : List Value).toArray 0) :: (It, { cls := .type "list_iterator", data := .fields #[.ref r, .int 0 0] }) :: news) := fun p hp => by
    rcases List.mem_cons.mp hp with rfl | hp
    · exact ⟨hC, Nat.ne_of_gt hLs, gC⟩
    · exact news_keep N2 k3 p hp
  generalize hCe : h2.objs.size = C at *
  have dI : @Ne Nat C It := (Nat.ne_of_lt (lt3 _ (.tail _ (.head _)))).symm
  have dD : @Ne Nat C D := (Nat.ne_of_lt (lt3 _ (.head _))).symm
  have dE : @Ne Nat It D := Nat.ne_of_lt (lt2 _ (.head _))
  have oo : OwnOff news [C, It, D] := fun p hp b hb => by
    rcases List.mem_cons.mp hb with rfl | hb
    · exact Nat.ne_of_lt (lt3 _ (.tail _ (.tail _ hp)))
    · rcases List.mem_cons.mp hb with rfl | hb
      · exact Nat.ne_of_lt (lt1 _ hp)
      · rw [List.mem_singleton.mp hb]; exact Nat.ne_of_lt (lt2 _ (.tail _ hp))
  have hit : h3.IsListIter It r 0 := ⟨_, (N3 _ (.tail _ (.tail _ (.head _)))).1, rfl, rfl⟩
  suffices main : codeAny (model prog w) A (.compLoop (.ListComp elt [⟨target, iter, [], 0⟩] scope pos) 0 (.ref It) (.ref D) (cenvOf scope C env)) _ _ from codeAny_compStart_list main (wpAny_pyIter_listiter hit main)
  refine compLoop_any (fun k s' => ∃ i acc ex oC mC oI n h tk, s' = { s with heap := h, toks := tk } ∧ i + k = items.length ∧ St i acc ex ∧ acc.length = i ∧ OwnOff (ex ++ news) [C, It, D] ∧ NsO oC mC ∧ Fr g L h m ∧ oI.cls = .type "list_iterator" ∧ oI.data = .fields #[.ref r, .int i 0] ∧
    News g L h ((C, oC) :: (It, oI) :: (D, W.listOf acc.toArray n) :: (ex ++ news))) ?_ items.length ⟨0, [], [], oC, _, { cls := .type "list_iterator", data := .fields #[.ref r, .int 0 0] }, 0, h3, _, rfl, by omega, h0, rfl, oo, nC, F3, rfl, rfl, fun p hp => N3 p ?_⟩
  · rintro k s' ⟨i, acc, ex, oC', mC', oI, n, h, tk, rfl, hik, hst, hal, hoo, hns', F', c1, c2, N'⟩
    have hit' : h.IsListIter It r i := ⟨oI, (N' _ (.tail _ (.head _))).1, c1, c2⟩
    have hl' : h.get? r = some oR := (N' _ (.tail _ (.tail _ (.tail _ (List.mem_append_right _ hr))))).1
    have nI := N' _ (.tail _ (.head _))
    rcases Nat.lt_or_ge i items.length with hi | hi
    · have hx := List.getElem?_eq_getElem hi
      generalize items[i] = v at hx
      refine next_seq_item hit' hl' hdl (x := v) (by rw [List.getElem?_toArray]; exact hx) fun h' hi' hsb' => ?_
      obtain ⟨oI', e1, c1', c2'⟩ := id hi'
      have F1 := F'.change hsb' nI.2.1 nI.2.2
      have N1' : News g L h' ((C, oC') :: (It, oI') :: (D, W.listOf acc.toArray n) :: (ex ++ news)) := news_upd (pre := [(C, oC')]) N' (fun p hp => by rw [List.mem_singleton.mp hp]; exact dI) (fun p hp => by
        rcases List.mem_cons.mp hp with rfl | hp
        · exact dE.symm
        · exact hoo p hp It (.tail _ (.head _))) hsb' e1
      refine ht It i v _ _ hx hi' ?_
      refine wpAny_mono (step i v acc ex C It D n oC' mC' oI' h' tk hx hst hal hoo dI dD dE hns' F1 N1') (fun _ s₂ h₂ => ?_) fun _ _ z => z.elim
      refine wpAny_mono h₂ (fun y s₃ h₃ => ?_) fun _ _ z => z.elim
      obtain ⟨h4, tk4, oC4, mC4, ex4, rfl, n4, F4, N4, o4, st4⟩ := h₃
      have oo4 : OwnOff (ex4 ++ news) [C, It, D] := fun p hp b hb => (List.mem_append.mp hp).elim (fun q => o4 p q b hb) fun q => hoo p (List.mem_append_right _ q) b hb
      have hDm := N4 (D, W.listOf acc.toArray n) (.tail _ (.tail _ (.head _)))
      refine append_at (hsz := by rw [List.size_toArray]; have : sizeLine = 16777216 := rfl; omega) hDm.1 fun h5 hs5 ho5 => ⟨k - 1, by omega, i + 1, acc ++ [y], ex4, oC4, mC4, oI', n + 1, h5, tk4, rfl, by omega, st4, by rw [List.length_append]; show acc.length + 1 = _; rw [hal], oo4, n4, F4.change hs5 hDm.2.1 hDm.2.2, c1', c2', ?_⟩
      have := news_upd (pre := [(C, oC4), (It, oI')]) N4 (fun p hp => by
        rcases List.mem_cons.mp hp with rfl | hp
        · exact dD
        · rw [List.mem_singleton.mp hp]; exact dE) (fun p hp => oo4 p hp D (.tail _ (.tail _ (.head _)))) hs5 ho5
      rw [List.push_toArray] at this
      exact this
    · have hie : i = items.length := by omega
      subst hie
      refine wpAny_mono (E := NoE9) (Q := fun r s' => r = none ∧ ∃ h', s' = { s with heap := h', toks := tk } ∧ Heap.ExtBut It h h') (next_seq_end hh hit' hl' hdl (by rw [List.getElem?_toArray, List.getElem?_eq_none (Nat.le_refl _)]) fun h' hx => ⟨rfl, h', rfl, hx⟩) (fun r s' hr' => ?_) fun _ _ z => z
      obtain ⟨rfl, h', rfl, hx⟩ := hr'
      have keep : ∀ p ∈ (C, oC') :: (D, W.listOf acc.toArray n) :: (ex ++ news), h'.get? p.1 = some p.2 := fun p hp => by
        rcases List.mem_cons.mp hp with rfl | hp
        · exact hx _ _ dI (N' _ (.head _)).1
        · rcases List.mem_cons.mp hp with rfl | hp
          · exact hx _ _ dE.symm (N' _ (.tail _ (.tail _ (.head _)))).1
          · exact hx _ _ (hoo p hp It (.tail _ (.head _))) (N' _ (.tail _ (.tail _ (.tail _ hp)))).1
      have F1 : Fr g L h' m := ⟨F'.ns.extBut hx nI.2.1.symm, fun b o e => hx b o (fun q => by rw [q, nI.2.2] at e; cases e) (F'.keep b o e), F'.above⟩
      have nCC := N' (C, oC') (.head _)
      refine ⟨mC', hns' _ _ (keep _ (.head _)), fun h6 hs6 => ?_⟩
      refine done h6 tk D n acc ex hst hal (F1.change hs6 nCC.2.1 nCC.2.2) (fun p hp => ?_) (fun p hp b hb => by rw [List.mem_singleton.mp hb]; exact hoo p hp D (.tail _ (.tail _ (.head _))))
      rcases List.mem_cons.mp hp with rfl | hp
      · exact ⟨(hs6.2 _ dD.symm).trans (keep _ (.tail _ (.head _))), (N' _ (.tail _ (.tail _ (.head _)))).2⟩
      · exact ⟨(hs6.2 _ (hoo p hp C (.head _))).trans (keep _ (.tail _ (.tail _ hp))), (N' _ (.tail _ (.tail _ (.tail _ hp)))).2⟩
  · simp only [List.nil_append, List.mem_cons] at hp ⊢
    rcases hp with h | h | h | h
    · exact .inl h
    · exact .inr (.inr (.inl h))
    · exact .inr (.inl h)
    · exact .inr (.inr (.inr h))
end
end
end Mine
namespace Mine
section
open PySem PySem.W PyProof.Rows PySem.Calls
theorem rstP44 {M : Model} {A : Around} {env : Env} {Q : Flow → Shared → Prop} {E : Value → Shared → Prop} {s : Shared} (h : wpAny M A (execs [] env) Q E s) : wpAny M A (execs [] env) Q E s := by
  w_top off
  (try (walk1; fail))
  exact h
theorem newTuple_lt {M : Model} {A : Around} {E : Value → Shared → Prop} {s : Shared} {g : Heap} {L : Addr} {m : Str → Option Value} {news : List (Addr × Obj)} {vs : List Value} {Q : Value → Shared → Prop} (F : Fr g L s.heap m) (N : News g L s.heap news)
    (h : ∀ d h', Seal (∀ p ∈ news, @LT.lt Nat _ p.1 d) → Fr g L h' m → News g L h' ((d, { cls := .type "tuple", data := .seq vs.toArray }) :: news) → Q (.ref d) { s with heap := h' }) (hsz : vs.length ≤ sizeLine := by size_fits) :
    wpAny M A (newTuple vs) Q E s := newTuple_N F N (fun h' F' N' => h _ h' ⟨fun p hp => Heap.lt_size (N p hp).1⟩ F' N') hsz
local macro_rules | `(tactic| kd_p1) => `(tactic| (first | (k_unfold; (try dsimp only)) | (k_end; wrow_close) | walk1 | (dsimp only; walk1) | (leave1; walk_say "STEP leave1"; try dsimp only) | fail "no step"))
local macro_rules | `(tactic| walk_at "eval Name") => `(tactic| (k_here; k_dflt (refine' nameC_L ?N ?m ?n ?k ?l ?v ?d ?_; (case N => k_asm); (case n => assumption); (case m => k_mem); (case k => assumption); (case l => assumption); (case v => rfl); (case d => decide); k_whole)))
local macro_rules | `(tactic| walk_at "newTuple") => `(tactic| (k_here; k_dflt (refine' newTuple_lt ?F ?N ?_ ?z; (case F => k_asm); (case N => k_asm); (case z => exact Nat.le_of_ble_eq_true rfl)); intro d' h' lt' F' N'; (try k_sweep)))
local macro_rules | `(tactic| walk_at "getAttr ref") => `(tactic| (k_here; (with_reducible show wpAny _ _ (getAttr (Value.ref _) (PySem.Str.ofString "code") _) _ _ _); k_dflt ((refine' tag_codeK ?X ?T ?F ?N ?d ?h1 ?h2 ?_); (case X => k_asm); (case T => exact Top.nolimit (by k_asm)); (case F => k_asm); (case N => k_asm); (case d => omega); (case h1 => exact (News.get_mem (by k_asm) (by (repeat (first | (with_reducible assumption) | refine List.mem_cons_of_mem _ ?_))))); (case h2 => exact (News.get_mem (by k_asm) (by (repeat (first | (with_reducible assumption) | refine List.mem_cons_of_mem _ ?_))))); k_whole; intro h' tk' F' N'; (try k_sweep))))
local macro_rules | `(tactic| walk_at "getAttr ref") => `(tactic| (k_here; (with_reducible show wpAny _ _ (getAttr (Value.ref _) (PySem.Str.ofString "value") _) _ _ _); k_dflt ((refine' tag_valueK ?X ?T ?F ?N ?d ?h1 ?h2 ?_); (case X => k_asm); (case T => exact Top.nolimit (by k_asm)); (case F => k_asm); (case N => k_asm); (case d => omega); (case h1 => exact (News.get_mem (by k_asm) (by (repeat (first | (with_reducible assumption) | refine List.mem_cons_of_mem _ ?_))))); (case h2 => exact (News.get_mem (by k_asm) (by (repeat (first | (with_reducible assumption) | refine List.mem_cons_of_mem _ ?_))))); k_whole; intro h' tk' F' N'; (try k_sweep))))
set_option maxHeartbeats 4000000 in
/-- the inner comprehension: the tags of one entity, as plain tuples -/
theorem comp_ent {w : World} {A : Around} {E : Value → Shared → Prop} {g : Heap} {L : Addr} {env : Env} {m : Str → Option Value} {s : Shared} {Q : Value → Shared → Prop} {scope : Scope} {pos p1 q1 q2 q3 q4 q5 : Pos} {n1 : Nat} {iter : Expr} {G dg : Addr} {cnt : Nat} {vs : List Value} {grp : List Tg} {news : List (Addr × Obj)} {p : Program} {loose mean mg mb}
    (hh : A.handled = none) (hA : A.depth ≤ 400) (X : (hd.heap_39 w.params).In g) (T : Top p loose mean mg mb g) (F : Fr g L s.heap m) (N : News g L s.heap news) (hG : (G, tagsO dg vs cnt) ∈ news) (hdg : (dg, dictOf [] 0) ∈ news) (hvs : AllIn (TagL news) vs grp) (hlen : vs.length ≤ 1000)
    (hcell : ∀ x ∈ scope.names, x.2 ≠ .cell) (hk : scope.kind = .function) (hko : ∀ C, (cenvOf scope C env).kindOf "one" = some .local)
    (h : ∀ h' tk D n acc ex, RowsIn ex acc grp → Fr g L h' m → News g L h' ((D, W.listOf acc.toArray n) :: (ex ++ news)) → OwnOff (ex ++ news) [D] → (∀ p ∈ ex, ∀ q ∈ news, @Ne Nat p.1 q.1) → Q (.ref D) { s with heap := h', toks := tk }) :
    wpAny (model PySem.Challenge.rw_fy0012_01.row.prog w) A (pyIter (.ref G)) (fun it s₂ => wpAny (model PySem.Challenge.rw_fy0012_01.row.prog w) A (newList []) (fun acc s₃ =>
      wpAny (model PySem.Challenge.rw_fy0012_01.row.prog w) A (newFunctionEnv scope env.globals [] [] env.qual none .none (some env)) (fun cenv s₄ =>
        codeAny (model PySem.Challenge.rw_fy0012_01.row.prog w) A (.compStart (.ListComp (.Tuple [.Attribute (.Name "one" q1) "code" q2, .Attribute (.Name "one" q3) "value" q4] n1 q5) [⟨.Name "one" p1, iter, [], 0⟩] scope pos) 0 it acc { cenv with scope := scope })
          (fun r s' => ∃ m, s'.heap.Ns cenv.locals m ∧ ∀ h', Heap.SameBut cenv.locals s'.heap h' →
            match r with | .ok _ => Q acc { s' with heap := h' } | .error x => wpAny (model PySem.Challenge.rw_fy0012_01.row.prog w) A (passOn "comprehension.variables-let-go" x { cenv with scope := scope }) Q E { s' with heap := h' }) s₄) E s₃) E s₂) E s := by
  refine comp_obj (kr := cnt) (items := vs) hh F N hG rfl (fun hq => iter_tags (X.keeps F.keep) (N _ hG).1 (N _ hdg).1 hq) hlen hcell hk ?_ (fun i acc ex => RowsIn ex acc (grp.take i) ∧ ∀ p ∈ ex, ∀ q ∈ news, @Ne Nat p.1 q.1) ⟨by rw [List.take_zero]; exact .nil, fun _ h => nomatch h⟩ ?_ ?_
  · intro It i v s1 Q1 hv hit1 hq
    exact wpAny_pure hq
  · rintro i v acc ex C It D n oC mC oI h0 t0 hv ⟨hst, hdis⟩ hal oo d1 d2 d3 hns F1 N1
    obtain ⟨t, ht, xv, dx, ta, tb, rfl, hm1, hm2⟩ := hvs.get hv
    have ho : ∀ p ∈ (It, oI) :: (D, W.listOf acc.toArray n) :: (ex ++ news), p.1 ≠ C := fun p hp => by
      rcases List.mem_cons.mp hp with rfl | hp
      · exact d1.symm
      · rcases List.mem_cons.mp hp with rfl | hp
        · exact d2.symm
        · exact oo p hp C (.head _)
    have hk1 := hko C
    refine wpAny_assign_Name (storeC F1 N1 hns ho hk hk1 fun oC1 h2 hns1 F3 N3 => ?_)
    have hm3 : (xv, tagO dx t ta tb) ∈ ex ++ news := List.mem_append_right _ hm1
    have hm4 : (dx, dictOf [] 0) ∈ ex ++ news := List.mem_append_right _ hm2
    clear F1 N1 F N hns hvs hm1 hm2
    refine wpAny_mono (Q := fun yv s' => Seal (∃ d h' tk', yv = .ref d ∧ s' = { s with heap := h', toks := tk' } ∧ Fr g L h' m ∧ News g L h' ((d, tupO t ta tb) :: (C, oC1) :: (It, oI) :: (D, W.listOf acc.toArray n) :: (ex ++ news)) ∧ ∀ p ∈ (C, oC1) :: (It, oI) :: (D, W.listOf acc.toArray n) :: (ex ++ news), @LT.lt Nat _ p.1 d)) (E := NoE9) ?_ (fun yv s' hz => ?_) fun _ _ z => z
    · have sl := Seal.mk (And.intro hst hdis)
      clear hst hdis
      generalize ex ++ news = all at *
      repeat' kd_p1
    · obtain ⟨d, h', tk', rfl, rfl, F9, N9, lt9⟩ := hz.out
      refine ⟨h', tk', oC1, _, (d, tupO t ta tb) :: ex, rfl, hns1, F9, fun p hp => N9 p ?_, ?_, ?_, ?_⟩
      · simp only [List.cons_append, List.mem_cons, List.mem_append] at hp ⊢
        rcases hp with h | h | h | h | h | h
        · exact .inr (.inl h)
        · exact .inr (.inr (.inl h))
        · exact .inr (.inr (.inr (.inl h)))
        · exact .inl h
        · exact .inr (.inr (.inr (.inr (.inl h))))
        · exact .inr (.inr (.inr (.inr (.inr h))))
      · intro p hp b hb
        rcases List.mem_cons.mp hp with rfl | hp
        · have key : ∃ o, (b, o) ∈ (C, oC1) :: (It, oI) :: (D, W.listOf acc.toArray n) :: (ex ++ news) := by
            rcases List.mem_cons.mp hb with rfl | hb
            · exact ⟨_, .head _⟩
            · rcases List.mem_cons.mp hb with rfl | hb
              · exact ⟨_, .tail _ (.head _)⟩
              · rw [List.mem_singleton.mp hb]; exact ⟨_, .tail _ (.tail _ (.head _))⟩
          obtain ⟨o, hm⟩ := key
          exact Nat.ne_of_gt (lt9 _ hm)
        · exact oo p (List.mem_append_left _ hp) b hb
      · rw [List.take_add_one, ht]
        exact AllIn.append (hst.mono fun _ _ z => z.mono fun p hp => .tail _ hp) (.cons ⟨d, ta, tb, rfl, .head _⟩ .nil)
      · intro p hp q hq
        rcases List.mem_cons.mp hp with rfl | hp
        · exact Nat.ne_of_gt (lt9 _ (.tail _ (.tail _ (.tail _ (List.mem_append_right _ hq)))))
        · exact hdis p hp q hq
  · rintro h' tk D n acc ex ⟨hst, hdis⟩ hal F1 N1 oo
    rw [hvs.length, List.take_length] at hst
    exact h _ _ _ _ _ _ hst F1 N1 oo hdis
set_option maxHeartbeats 4000000 in
/-- both comprehensions: the entities of a section, as lists of plain tuples -/
theorem comp_sec {w : World} {A : Around} {E : Value → Shared → Prop} {g : Heap} {L : Addr} {env : Env} {m : Str → Option Value} {s : Shared} {Q : Value → Shared → Prop} {scope scope2 : Scope} {pos pos2 p1 p2 p3 q1 q2 q3 q4 q5 : Pos} {n1 : Nat} {iter : Expr} {r : Addr} {kr : Nat} {svs : List Value} {sec : Sec} {news : List (Addr × Obj)} {p : Program} {loose mean mg mb}
    (hh : A.handled = none) (hA : A.depth ≤ 400) (X : (hd.heap_39 w.params).In g) (T : Top p loose mean mg mb g) (F : Fr g L s.heap m) (N : News g L s.heap news) (hr : (r, W.listOf svs.toArray kr) ∈ news) (hsec : AllIn (EntIn news) svs sec) (hlen : svs.length ≤ 1000) (hgl : ∀ g ∈ sec, g.length ≤ 1000)
    (hcell : ∀ x ∈ scope.names, x.2 ≠ .cell) (hk : scope.kind = .function) (hke : ∀ C, (cenvOf scope C env).kindOf "entity" = some .local)
    (hfree2 : ∀ x ∈ scope2.names, x.2 ≠ .free) (hcell2 : ∀ x ∈ scope2.names, x.2 ≠ .cell) (hk2 : scope2.kind = .function) (hnames2 : ∀ x ∈ scope2.names, x.2 = .local → scope2.names.lookup x.1 = some .local) (hko : ∀ C C', (cenvOf scope2 C' (cenvOf scope C env)).kindOf "one" = some .local)
    (h : ∀ h' tk D n acc ex, AllIn (GrpL ex) acc sec → Fr g L h' m → News g L h' ((D, W.listOf acc.toArray n) :: (ex ++ news)) → OwnOff (ex ++ news) [D] → (∀ p ∈ ex, ∀ q ∈ news, @Ne Nat p.1 q.1) → Q (.ref D) { s with heap := h', toks := tk }) :
    wpAny (model PySem.Challenge.rw_fy0012_01.row.prog w) A (pyIter (.ref r)) (fun it s₂ => wpAny (model PySem.Challenge.rw_fy0012_01.row.prog w) A (newList []) (fun acc s₃ =>
      wpAny (model PySem.Challenge.rw_fy0012_01.row.prog w) A (newFunctionEnv scope env.globals [] [] env.qual none .none (some env)) (fun cenv s₄ =>
        codeAny (model PySem.Challenge.rw_fy0012_01.row.prog w) A (.compStart (.ListComp (.ListComp (.Tuple [.Attribute (.Name "one" q1) "code" q2, .Attribute (.Name "one" q3) "value" q4] n1 q5) [⟨.Name "one" p1, .Name "entity" p2, [], 0⟩] scope2 pos2) [⟨.Name "entity" p3, iter, [], 0⟩] scope pos) 0 it acc { cenv with scope := scope })
          (fun r s' => ∃ m, s'.heap.Ns cenv.locals m ∧ ∀ h', Heap.SameBut cenv.locals s'.heap h' →
            match r with | .ok _ => Q acc { s' with heap := h' } | .error x => wpAny (model PySem.Challenge.rw_fy0012_01.row.prog w) A (passOn "comprehension.variables-let-go" x { cenv with scope := scope }) Q E { s' with heap := h' }) s₄) E s₃) E s₂) E s := by
  refine comp_obj (kr := kr) (items := svs) hh F N hr rfl (fun hq => wpAny_pyIter_list ⟨_, (N _ hr).1, rfl, kr, rfl⟩ hq) hlen hcell hk ?_ (fun i acc ex => AllIn (GrpL ex) acc (sec.take i) ∧ ∀ p ∈ ex, ∀ q ∈ news, @Ne Nat p.1 q.1) ⟨by rw [List.take_zero]; exact .nil, fun _ h => nomatch h⟩ ?_ ?_
  · intro It i v s1 Q1 hv hit1 hq
    exact wpAny_pure hq
  · rintro i v acc ex C It D n oC mC oI h0 t0 hv ⟨hst, hdis⟩ hal oo d1 d2 d3 hns F1 N1
    obtain ⟨grp, hgrp, G, dg, cnt, vs, rfl, hm1, hm2, hvs⟩ := hsec.get hv
    have ho : ∀ p ∈ (It, oI) :: (D, W.listOf acc.toArray n) :: (ex ++ news), p.1 ≠ C := fun p hp => by
      rcases List.mem_cons.mp hp with rfl | hp
      · exact d1.symm
      · rcases List.mem_cons.mp hp with rfl | hp
        · exact d2.symm
        · exact oo p hp C (.head _)
    refine wpAny_assign_Name (storeC F1 N1 hns ho hk (hke C) fun oC1 h2 hns1 F3 N3 => ?_)
    have up : ∀ p ∈ news, p ∈ (C, oC1) :: (It, oI) :: (D, W.listOf acc.toArray n) :: (ex ++ news) := fun p hp => .tail _ (.tail _ (.tail _ (List.mem_append_right _ hp)))
    have key : ∀ (Qv : Value → Shared → Prop), (∀ h' tk D' n' acc' ex', RowsIn ex' acc' grp → Fr g L h' m → News g L h' ((D', W.listOf acc'.toArray n') :: (ex' ++ ((C, oC1) :: (It, oI) :: (D, W.listOf acc.toArray n) :: (ex ++ news)))) → OwnOff (ex' ++ ((C, oC1) :: (It, oI) :: (D, W.listOf acc.toArray n) :: (ex ++ news))) [D'] → (∀ p ∈ ex', ∀ q ∈ (C, oC1) :: (It, oI) :: (D, W.listOf acc.toArray n) :: (ex ++ news), @Ne Nat p.1 q.1) → Qv (.ref D') { s with heap := h', toks := tk }) →
        wpAny (model PySem.Challenge.rw_fy0012_01.row.prog w) A (eval (.ListComp (.Tuple [.Attribute (.Name "one" q1) "code" q2, .Attribute (.Name "one" q3) "value" q4] n1 q5) [⟨.Name "one" p1, .Name "entity" p2, [], 0⟩] scope2 pos2) (cenvOf scope C env)) Qv NoE9 { s with heap := h2, toks := t0 + 1 } := fun Qv hQv => by
      refine wpAny_ListComp hfree2 hk2 hnames2 ?_
      refine nameC_L N3 (.head _) hns1 hk (hke C) (by rfl) (by decide) ?_
      exact comp_ent (s := { s with heap := h2, toks := t0 + 1 }) hh hA X T F3 N3 (up _ hm1) (up _ hm2) (hvs.mono fun _ _ z => z.mono up) (by rw [hvs.length]; exact hgl _ (List.mem_of_getElem? hgrp)) hcell2 hk2 (hko C) hQv
    refine key _ fun h4 tk4 D2 n2 acc2 ex2 hrows F4 N4 oD hdis2 => ?_
    refine ⟨h4, tk4, oC1, _, (D2, W.listOf acc2.toArray n2) :: (ex2 ++ ex), rfl, hns1, F4, fun p hp => N4 p ?_, ?_, ?_, ?_⟩
    · simp only [List.cons_append, List.append_assoc, List.mem_cons, List.mem_append] at hp ⊢
      rcases hp with h | h | h | h | h | h | h
      · exact .inr (.inr (.inl h))
      · exact .inr (.inr (.inr (.inl h)))
      · exact .inr (.inr (.inr (.inr (.inl h))))
      · exact .inl h
      · exact .inr (.inl h)
      · exact .inr (.inr (.inr (.inr (.inr (.inl h)))))
      · exact .inr (.inr (.inr (.inr (.inr (.inr h)))))
    · intro p hp b hb
      have key : ∃ o, (b, o) ∈ (C, oC1) :: (It, oI) :: (D, W.listOf acc.toArray n) :: (ex ++ news) := by
        rcases List.mem_cons.mp hb with rfl | hb
        · exact ⟨_, .head _⟩
        · rcases List.mem_cons.mp hb with rfl | hb
          · exact ⟨_, .tail _ (.head _)⟩
          · rw [List.mem_singleton.mp hb]; exact ⟨_, .tail _ (.tail _ (.head _))⟩
      obtain ⟨o, hm⟩ := key
      rcases List.mem_cons.mp hp with rfl | hp
      · exact (oD (b, o) (List.mem_append_right _ hm) _ (.head _)).symm
      · rcases List.mem_append.mp hp with hp | hp
        · exact hdis2 p hp (b, o) hm
        · exact oo p (List.mem_append_left _ hp) b hb
    · rw [List.take_add_one, hgrp]
      exact AllIn.append (hst.mono fun _ _ z => z.mono fun p hp => .tail _ (List.mem_append_right _ hp)) (.cons ⟨D2, n2, acc2, rfl, .head _, hrows.mono fun _ _ z => z.mono fun p hp => .tail _ (List.mem_append_left _ hp)⟩ .nil)
    · intro p hp q hq
      rcases List.mem_cons.mp hp with rfl | hp
      · exact (oD q (List.mem_append_right _ (up q hq)) _ (.head _)).symm
      · rcases List.mem_append.mp hp with hp | hp
        · exact hdis2 p hp q (up q hq)
        · exact hdis p hp q hq
  · rintro h' tk D n acc ex ⟨hst, hdis⟩ hal F1 N1 oo
    rw [hsec.length, List.take_length] at hst
    exact h _ _ _ _ _ _ hst F1 N1 oo hdis
end
end Mine
namespace Mine
section
open PySem PySem.W PyProof.Rows PySem.Calls
theorem rstP45 {M : Model} {A : Around} {env : Env} {Q : Flow → Shared → Prop} {E : Value → Shared → Prop} {s : Shared} (h : wpAny M A (execs [] env) Q E s) : wpAny M A (execs [] env) Q E s := by
  w_top off
  (try (walk1; fail))
  exact h
/-- a for over the keys of a ledger's dict, with an invariant over frame and ledger -/
theorem dict_for {prog : Program} {w : World} {A : Around} {E : Value → Shared → Prop} {s : Shared} {env : Env} {target : Expr} {body : List Stmt} {Q : Flow → Shared → Prop} {g : Heap} {L : Addr} {m : Str → Option Value} {news : List (Addr × Obj)} {d : Addr} {oD : Obj} {kvs : List (Str × Value)}
    (hh : A.handled = none) (F : Fr g L s.heap m) (N : News g L s.heap news) (lo : (d == sysModules) = false) (hd : oD.IsDictOf (PySem.strKind prog w) kvs)
    (Inv : Nat → (Str → Option Value) → List (Addr × Obj) → Prop) (h0 : Inv 0 m news) (hr : ∀ i m1 nx, Inv i m1 nx → (d, oD) ∈ nx)
    (step : ∀ i k t x m1 nx It oI h tk, kvs[i]? = some (k, x) → Inv i m1 nx → (∀ p ∈ nx, @Ne Nat p.1 It) → Fr g L h m1 → News g L h ((It, oI) :: nx) → oI.cls = .type "dict_keyiterator" →
      wpAny (model prog w) A (assign target env (.str k t)) (fun _ s₂ => wpAny (model prog w) A (execs body env) (fun f s₃ => match f with
        | .next | .cont => Shut (∃ h' tk' m' nx', s₃ = { s with heap := h', toks := tk' } ∧ Fr g L h' m' ∧ News g L h' ((It, oI) :: nx') ∧ (∀ p ∈ nx', @Ne Nat p.1 It) ∧ Inv (i + 1) m' nx')
        | .brk => Q .next s₃
        | .ret v => Q (.ret v) s₃) E s₂) E { s with heap := h, toks := tk })
    (done : ∀ m1 nx h tk, Inv kvs.length m1 nx → Fr g L h m1 → News g L h nx → Q .next { s with heap := h, toks := tk }) :
    wpAny (model prog w) A (pyIter (.ref d)) (fun it s₂ => ∃ (I : Nat → Shared → Prop) (n : Nat), I n s₂ ∧ ∀ n s, I n s → wpAny (model prog w) A (pyNext it) (fun r s₁ => match r with
      | none => Q .next s₁
      | some v => wpAny (model prog w) A (assign target env v) (fun _ s₂ => wpAny (model prog w) A (execs body env) (fun f s₃ => match f with
          | .next | .cont => ∃ m, m < n ∧ I m s₃
          | .brk => Q .next s₃
          | .ret v => Q (.ret v) s₃) E s₂) E s₁) E s) E s := by
  obtain ⟨ep, ha⟩ := KdkAt.of hd
  refine wpAny_pyIter_dict lo (ha.dictAt (N _ (hr _ _ _ h0)).1) ?_
  have N1 := N.push F { cls := .type "dict_keyiterator", data := .fields #[.ref d, .int 0 0, .int kvs.length 0, .int ep 0] }
  have lt1 : ∀ p ∈ news, @Ne Nat p.1 s.heap.objs.size := fun p hp => Nat.ne_of_lt (Heap.lt_size (N p hp).1)
  have F1 := F.push { cls := .type "dict_keyiterator", data := .fields #[.ref d, .int 0 0, .int kvs.length 0, .int ep 0] }
  generalize hI : s.heap.objs.size = It at *
  generalize hh1 : s.heap.push _ = h1 at *
  refine ⟨fun k s' => ∃ i m1 nx oI h tk, s' = { s with heap := h, toks := tk } ∧ i + k = kvs.length ∧ Inv i m1 nx ∧ (∀ p ∈ nx, @Ne Nat p.1 It) ∧ KdkIter oI d i kvs.length ep ∧ Fr g L h m1 ∧ News g L h ((It, oI) :: nx),
    kvs.length, ⟨0, m, news, _, h1, s.toks, rfl, by omega, h0, lt1, ⟨rfl, rfl⟩, F1, N1⟩, ?_⟩
  rintro k s' ⟨i, m1, nx, oI, h, tk, rfl, hik, hinv, hne, hki, F', N'⟩
  have nI := N' _ (.head _)
  have hit := hki.at nI.1
  have hat := ha.dictAt (N' _ (.tail _ (hr _ _ _ hinv))).1
  rcases Nat.lt_or_ge i kvs.length with hi | hi
  · have hx := List.getElem?_eq_getElem hi
    generalize kvs[i] = kx at hx
    obtain ⟨key, x⟩ := kx
    refine wpAny_pyNext_dict_item hit hat hx fun kv h' hkey hi' hsb => ?_
    obtain ⟨t, rfl⟩ := PySem.Value.isStrOf_shape hkey
    obtain ⟨oI', e1, c1', c2'⟩ := id hi'
    have F2 := F'.change hsb nI.2.1 nI.2.2
    have N2 : News g L h' ((It, oI') :: nx) := news_set (pre := []) N' (fun _ h => nomatch h) (fun p hp => hne p hp) hsb e1
    refine wpAny_mono (step i key t x m1 nx It oI' h' tk hx hinv hne F2 N2 c1') (fun _ s₃ h₃ => wpAny_mono h₃ (fun f s₄ h₄ => ?_) fun _ _ z => z) fun _ _ z => z
    have fin : (∃ h' tk' m' nx', s₄ = { s with heap := h', toks := tk' } ∧ Fr g L h' m' ∧ News g L h' ((It, oI') :: nx') ∧ (∀ p ∈ nx', @Ne Nat p.1 It) ∧ Inv (i + 1) m' nx') → ∃ m, m < k ∧ ∃ i m1 nx oI h tk, s₄ = { s with heap := h, toks := tk } ∧ i + m = kvs.length ∧ Inv i m1 nx ∧ (∀ p ∈ nx, @Ne Nat p.1 It) ∧ KdkIter oI d i kvs.length ep ∧ Fr g L h m1 ∧ News g L h ((It, oI) :: nx) :=
      fun ⟨h', tk', m', nx', a, b, c, d, e⟩ => ⟨k - 1, by omega, i + 1, m', nx', oI', h', tk', a, by omega, e, d, ⟨c1', c2'⟩, b, c⟩
    cases f with
    | next => exact fin h₄.out
    | cont => exact fin h₄.out
    | brk => exact h₄
    | ret v => exact h₄
  · have hie : i = kvs.length := by omega
    subst hie
    refine wpAny_pyNext_dict_end hh hit hat (List.getElem?_eq_none (Nat.le_refl _)) fun h' hx => ?_
    exact done m1 nx h' tk hinv ⟨F'.ns.extBut hx nI.2.1.symm, fun b o e => hx b o (fun q => by rw [q, nI.2.2] at e; cases e) (F'.keep b o e), F'.above⟩ fun p hp => ⟨hx _ _ (hne p hp) (N' _ (.tail _ hp)).1, (N' _ (.tail _ hp)).2⟩
/-- members that are no tables, apart from the two tables -/
theorem tab_off {g h : Heap} {L : Addr} {all S : List (Addr × Obj)} {x1 x2 : Array Value} (N : News g L h all) (h1 : (334, tabObj x1) ∈ all) (h2 : (342, tabObj x2) ∈ all) (hS : ∀ p ∈ S, p ∈ all) {q : Addr × Obj} (hq : q ∈ S) (hc : q.2.cls ≠ .none) : q ∈ offTwo 334 342 S :=
  mem_offTwo.mpr ⟨hq, news_ne N (hS _ hq) h1 fun e => hc (by rw [e]), news_ne N (hS _ hq) h2 fun e => hc (by rw [e])⟩
end
end Mine
namespace Mine
section
open PySem PySem.W PyProof.Rows PySem.Calls
theorem rstP46 {M : Model} {A : Around} {env : Env} {Q : Flow → Shared → Prop} {E : Value → Shared → Prop} {s : Shared} (h : wpAny M A (execs [] env) Q E s) : wpAny M A (execs [] env) Q E s := by
  w_top off
  (try (walk1; fail))
  exact h
theorem TagL.offT {g h : Heap} {L : Addr} {all S : List (Addr × Obj)} {x1 x2 : Array Value} (N : News g L h all) (h1 : (334, tabObj x1) ∈ all) (h2 : (342, tabObj x2) ∈ all) (hS : ∀ p ∈ S, p ∈ all) {v : Value} {t : Tg} (z : TagL S v t) : TagL (offTwo 334 342 S) v t := by
  obtain ⟨x, dx, a, b, e, q, r⟩ := z
  exact ⟨x, dx, a, b, e, tab_off N h1 h2 hS q (fun e => by cases e), tab_off N h1 h2 hS r (fun e => by cases e)⟩
theorem TagIn.offT {g h : Heap} {L : Addr} {all S : List (Addr × Obj)} {x1 x2 : Array Value} (N : News g L h all) (h1 : (334, tabObj x1) ∈ all) (h2 : (342, tabObj x2) ∈ all) (hS : ∀ p ∈ S, p ∈ all) {v : Value} {t : Tg} (z : TagIn S v t) : TagIn (offTwo 334 342 S) v t := by
  obtain ⟨x, a, b, e, q⟩ := z
  exact ⟨x, a, b, e, tab_off N h1 h2 hS q (fun e => by cases e)⟩
/-- load_dxf_structure, called from the law -/
theorem load_law {w : World} {A A₀ : Around} {base h₀ : Heap} {outer : List Env} {L fa : Addr} {cd : Value} {nm : Str} {nms gen co mr} {m : Str → Option Value} {p : Program} {loose mean mg mb} {s : Shared} {E : Value → Shared → Prop} {Q : Value → Shared → Prop}
    {lst : Addr} {ign : Bool} {n : Nat} {items : List Value} {tags : List Tg} {WW : List (Addr × Obj)} (X0 : (hd.heap_39 w.params).In base)
    (B : Below A₀ base outer h₀) (X : (hd.heap_39 w.params).In h₀) (T : Top p loose mean mg mb h₀) (F : Fr h₀ L s.heap m)
    (N : News h₀ L s.heap WW) (h334 : (334, tabObj #[]) ∈ WW) (h342 : (342, tabObj #[]) ∈ WW) (hlst : (lst, W.listOf items.toArray n) ∈ WW) (hitems : AllIn (TagL WW) items tags) (hlen : tags.length ≤ 57) (hgood : ∀ t ∈ tags, tagGood t)
    (hh : A.handled = none) (hf : A.frames = some (envOf nm (scF nms gen co mr) L fa cd :: outer)) (hg : A.guards = some []) (hd : A.depth ≤ 310) (hu : A.units ≤ 200)
    (hQ : ∀ (D : Addr) (oD : Obj) (kvs : List (Str × Value)) (d : List (Str × Sec)) (gens' : Array GenState) (tl' : List (Addr × Obj)) (h' : Heap) (tk' : Nat), lend ign (lrun ⟨[], [], false⟩ ((grps items tags).map (·.map (·.2)))) = .ok d → Fr h₀ L h' m → News h₀ L h' ((D, oD) :: tl') → (∀ p ∈ offTwo 334 342 WW, p ∈ tl') → oD.IsDictOf (PySem.strKind PySem.Challenge.rw_fy0012_01.row.prog w) kvs → DctIn tl' kvs d → (D == sysModules) = false → GensOk s.gens gens' → (∃ ps, (334, tabObj ps) ∈ tl') → (∃ ps, (342, tabObj ps) ∈ tl') → Q (.ref D) { s with heap := h', toks := tk', gens := gens' })
    (hE : ∀ (e t : Addr) (msg : Str) (tz : Tok) (news : List (Addr × Obj)) (gens' : Array GenState) (g' h' : Heap) (tk' : Nat), lend ign (lrun ⟨[], [], false⟩ ((grps items tags).map (·.map (·.2)))) = .error msg → RaisedK base (envOf nm (scF nms gen co mr) L fa cd :: outer) e (.ref 44) t [.str msg tz] news h' → Fr h₀ L g' m → g'.UpToSlots h' → (∀ p ∈ offTwo 334 342 WW, p ∈ news) → GensOk s.gens gens' → (∃ ps, (334, tabObj ps) ∈ news) → (∃ ps, (342, tabObj ps) ∈ news) → E (.ref e) { s with heap := h', toks := tk', gens := gens' }) :
    wpAny (model PySem.Challenge.rw_fy0012_01.row.prog w) A (call (.ref 347) [.ref lst, .bool ign]) Q E s := by
  refine up_of (A' := (upL outer).deeper (envOf nm (scF nms gen co mr) L fa cd)) (load_spec (tl := offTwo 334 342 WW) X0 B X T F (fun q hq => N q ?_) (fun q hq b hb => ?_) (tab_off N h334 h342 (fun _ h => h) hlst (fun e => by cases e)) (hitems.mono fun _ _ z => z.offT N h334 h342 fun _ h => h) hlen hgood hQ hE) hh (by show A.depth ≤ 311; omega) hf hg (by show A.units ≤ 203; omega)
  · rcases List.mem_cons.mp hq with rfl | hq
    · exact h334
    · rcases List.mem_cons.mp hq with rfl | hq
      · exact h342
      · exact (mem_offTwo.mp hq).1
  · have z := (mem_offTwo.mp hq).2
    rcases List.mem_cons.mp hb with rfl | hb
    · exact z.1
    · rw [List.mem_singleton.mp hb]; exact z.2
end
end Mine
namespace Mine
section
open PySem PySem.W PyProof.Rows PySem.Calls
theorem rstP47 {M : Model} {A : Around} {env : Env} {Q : Flow → Shared → Prop} {E : Value → Shared → Prop} {s : Shared} (h : wpAny M A (execs [] env) Q E s) : wpAny M A (execs [] env) Q E s := by
  w_top off
  (try (walk1; fail))
  exact h
section
variable {prog : Program} {w : World} {A : Around} {E : Value → Shared → Prop} {s : Shared} {K : Frag} {x C : Addr}
theorem split_bexc_str : PySem.splitId "BaseException.__str__" = some ("BaseException", "__str__") := by decide +kernel
theorem code_ty {id owner n : String} {b : Builtin} {rest : List Value} {R : Result → Shared → Prop} (X : K.In s.heap) (ty : Looks (model prog w) s.heap (typeOf (.ref x)) (.ref C))
    (hm : mroIn K C (.type owner) = some true) (hsplit : splitId id = some (owner, n))
    (hkind : (Manifest.find? owner).bind (·.attrs.lookup n) = some .slot ∨ (Manifest.find? owner).bind (·.attrs.lookup n) = some .method)
    (ha : argsOk id ⟨.ref x :: rest, []⟩) (hq : plainId id = true) (hb : entryFor table id = some b)
    (hc : wpAny (model prog w) A.in1 (b ⟨.ref x :: rest, []⟩) (fun fin s' => ∃ v, fin = .done (.ret v) ∧ R (.ok (.ret v)) s') (fun e s' => R (.error e) s') s) :
    codeAny (model prog w) A (.call (.builtin id) ⟨.ref x :: rest, []⟩) R s := by
  have hk : builtinKind id = (Manifest.find? owner).bind (·.attrs.lookup n) := by simp only [builtinKind, hsplit]
  have S : Looks (model prog w) s.heap (isInstance (.ref x) (.type owner)) true := ty.andThen (looks_mroIn X hm)
  have ck : ∀ {Q : Unit → Shared → Prop} {A' : Around} {E' : Value → Shared → Prop}, Q () s → wpAny (model prog w) A' (checkBuiltinCall id ⟨.ref x :: rest, []⟩) Q E' s := fun {Q A' E'} hQ => by
    rcases hkind with h | h <;>
    · simp only [checkBuiltinCall, hk, h, hsplit]
      refine wpAny_bind (S.here ?_)
      simp only [Bool.not_true, Bool.false_eq_true, if_false]
      cases hsig : Manifest.signature? id with
      | none => exact wpAny_pure hQ
      | some sig =>
        simp only [argsOk, hsig] at ha
        have h2 : Bind.checkArgs id sig ⟨.ref x :: rest, []⟩ = pure () := ha
        show wpAny _ A' (Bind.checkArgs id sig ⟨.ref x :: rest, []⟩) Q E' s
        rw [h2]; exact wpAny_pure hQ
  refine codeAny_call_builtin hq hb (ck (wpAny_mono hc (fun fin s' h' => ?_) fun _ _ h' => h'))
  obtain ⟨v, rfl, hv⟩ := h'; exact hv
open Builtin Builtin.Str Builtin.BaseException Builtin.Exceptions in
theorem str_ownexc {Q : Value → Shared → Prop} {t : Addr} {ox ot : Obj} {ws : Array Value} {nt : Nat} {m : Str} {u : Tok} (hu : A.in1.in1.units < cLine) (X : K.In s.heap) (hx : s.heap.get? x = some ox) (hcls : ox.cls = .ref C) (hd : ox.data = .fields ws) (h0 : ws[0]? = some (.ref t)) (ht : s.heap.get? t = some ot) (htd : ot.data = .seq #[.str m u] nt)
    (hs : findIn K (.ref C) "__str__" = some (some (.builtin "BaseException.__str__"))) (hm : mroIn K C (.type "BaseException") = some true) (h : Q (.str m u) s) : wpAny (model prog w) A (call (.type "str") [.ref x]) Q E s := by
  have ty : Looks (model prog w) s.heap (typeOf (.ref x)) (.ref C) := hcls ▸ (Looks.ld hx).andThen .now
  have body : ∀ (A' : Around) (P : Value → Shared → Prop) (E' : Value → Shared → Prop), P (.str m u) s → wpAny (model prog w) A' (call (.builtin "BaseException.__str__") [.ref x]) P E' s := fun A' P E' hP => by
    refine wpAny_call (code_ty X ty hm split_bexc_str (.inl (by decide +kernel)) (PySem.F.args_bexc_str _) (by decide +kernel) PySem.F.entry_bexc_str ?_)
    have hb : ∀ {A'' : Around} {E'' : Value → Shared → Prop} {Q' : Value × List Value → Shared → Prop}, Q' (.ref t, [.str m u]) s → wpAny (model prog w) A'' (bexcArgs (.ref x)) Q' E'' s := fun {A'' E'' Q'} hQ' => by
      unfold bexcArgs
      exact wpAny_bind (wpAny_field hx hd h0 (wpAny_bind (wpAny_seqItems ht htd (wpAny_pure hQ'))))
    unfold Builtin.«BaseException.__str__»
    repeat (first | with_reducible refine hb ?_ | wp_step)
    exact ⟨_, rfl, hP⟩
  have so : ∀ (A' : Around) (P : Value → Shared → Prop) (E' : Value → Shared → Prop), A'.units < cLine → P (.str m u) s → wpAny (model prog w) A' (PySem.Builtin.Str.strOf (.ref x)) P E' s := fun A' P E' hA hP => by
    unfold PySem.Builtin.Str.strOf
    rw [show isExactStr (.ref x) = false from rfl]
    refine wpAny_bind (m := cRoomFor _ _) (wpAny_cRoomFor hA ?_)
    refine wpAny_bind ?_
    unfold callSpecial? specialOf
    refine wpAny_bind (wpAny_bind (ty.here ((looks_findIn X hs).here ?_)))
    dsimp only
    refine wpAny_holding (wpAny_bind (wpAny_of_eq (PySem.F.excStr_Exception.str.bind (.ref x)) ?_))
    refine wpAny_bind (body A' _ _ ?_)
    exact wpAny_pure (by exact wpAny_pure hP)
  refine callType_codes (T := "str") (Bi := Builtin.«object.__init__») (Q₁ := fun r s₁ => ∃ y u, r = .str y u ∧ Q r s₁) PySem.F.called_str (PySem.F.typeCall_str_1 _) PySem.F.entry_object_init ?_ ?_
  · refine codeAny_of_tree ?_
    show wpAny _ A.in1.in1 (do checkBuiltinCall "str.__new__" ⟨[.type "str", .ref x], []⟩; again (.builtin "str.__new__" ⟨[.type "str", .ref x], []⟩)) _ _ s
    refine wpAny_bind (wpAny_of_eq (PySem.F.newCall_str_1 _) (wpAny_pure ⟨plainId_quiet (by decide +kernel) _, codeAny_builtin PySem.F.entry_str_new ?_⟩))
    rw [Around.under_plainId (by decide +kernel) _]
    rw [str_new_tree]
    refine wpAny_bind (wpAny_pure ?_)
    refine wpAny_bind (wpAny_of_eq isSubtype_str_str ?_)
    exact wpAny_bind (so _ _ _ hu (wpAny_pure ⟨_, _, rfl, h⟩))
  · rintro obj s₁ ⟨y, u, rfl, hq⟩
    exact ⟨typeIs_str _ _ _, PySem.F.args_object_init_2 _ _, object_init_meets PySem.F.called_str.init.lookup PySem.F.called_str.made (by decide) prog w A.in1 _ s₁ ⟨typeIs_str _ _ _, rfl, hq⟩⟩
end
theorem str_err {w : World} {A : Around} {E Q : Value → Shared → Prop} {s : Shared} {g : Heap} {L : Addr} {m : Str → Option Value} {news : List (Addr × Obj)} {e t : Addr} {z : Str} {u : Tok} (hu : A.in1.in1.units < cLine) (X : (hd.heap_39 w.params).In g) (F : Fr g L s.heap m) (N : News g L s.heap news) (G : Got news e t (.ref 44) [.str z u]) (h : Q (.str z u) s) :
    wpAny (model PySem.Challenge.rw_fy0012_01.row.prog w) A (call (.type "str") [.ref e]) Q E s := by
  obtain ⟨oe, ot, ws, nt, h1, h2, hc, hd', h0, htc, htd⟩ := G
  refine str_ownexc hu (X.keeps F.keep) (N _ h1).1 hc hd' h0 (N _ h2).1 htd ?k1 ?k2 h
  case k1 => k_is
  case k2 => k_is
end
end Mine
namespace Mine
section
open PySem PySem.W PyProof.Rows PySem.Calls PySem.SeqAt
open AutoSeq1 (wpAny_loadPart')
open MeetsSeq MeetsSeq2 MeetsSeq3
theorem rstP48 {M : Model} {A : Around} {env : Env} {Q : Flow → Shared → Prop} {E : Value → Shared → Prop} {s : Shared} (h : wpAny M A (execs [] env) Q E s) : wpAny M A (execs [] env) Q E s := by
  w_top off
  (try (walk1; fail))
  exact h
/-- both values stand equal, in one model -/
def EqW (prog : Program) (w : World) (A : Around) (s : Shared) (y x : Value) : Prop := ∀ (E : Value → Shared → Prop) (Q : Bool → Shared → Prop), Q true s → wpAny (model prog w) A (eqBool y x) Q E s
theorem EqW.of_at {prog : Program} {w : World} {A : Around} {s : Shared} {y x : Value} (h : SeqAt.EqAt A s y x true) : EqW prog w A s y x := fun E Q hq => h prog w E Q hq
theorem ne_loopW {prog : Program} {w : World} (l b : Addr) (items items2 : Array Value) (n n2 : Nat) (dd dd2 : Option Addr) (sl sl2 : Array (Option Value)) (hsz : items.size = items2.size) (k : Nat) :
    ∀ i : Nat, items.size - i = k → MeetsIn prog w (Builtin.«list.__eq__.loop» ⟨[.ref l, .ref b, rawInt i, rawInt 3], []⟩)
      (fun A R s => s.heap.get? l = some { cls := .type "list", dict := dd, data := .seq items n, slots := sl } ∧ s.heap.get? b = some { cls := .type "list", dict := dd2, data := .seq items2 n2, slots := sl2 } ∧
        (∀ j (h1 : j < items.size) (h2 : j < items2.size), EqW prog w A.in1 s items[j] items2[j]) ∧
        R (.ok (.ret (.bool false))) s) := by
  induction k with
  | zero =>
    intro i hk A R s h
    obtain ⟨hp, g, d, tk, os⟩ := s; obtain ⟨hl, hb, he, h⟩ := h
    wp_walk using wpAny_loadPart' hl, wpAny_loadPart' hb
    have hi1 : items[((i : Nat) : Int).toNat]? = none := by simp; omega
    have hi2 : items2[((i : Nat) : Int).toNat]? = none := by simp; omega
    rw [hi1, hi2]
    wp_walk using wpAny_loadPart' hl, wpAny_loadPart' hb
    show R (.ok (.ret (.bool (items.size != items2.size)))) _
    rw [hsz]
    simpa using h
  | succ k ih =>
    intro i hk A R s h
    obtain ⟨hp, g, d, tk, os⟩ := s; obtain ⟨hl, hb, he, h⟩ := h
    wp_walk using wpAny_loadPart' hl, wpAny_loadPart' hb
    have hlt : i < items.size := by omega
    have hlt2 : i < items2.size := by omega
    have hi1 : items[((i : Nat) : Int).toNat]? = some items[i] := by simp [hlt]
    have hi2 : items2[((i : Nat) : Int).toNat]? = some items2[i] := by simp [hlt2]
    have hc : ((i : Int) + 1) = ((i + 1 : Nat) : Int) := by push_cast; rfl
    rw [hi1, hi2]
    refine wpAny_bind (he i hlt hlt2 _ _ ?_)
    wp_walk
    rw [hc]
    exact ⟨plainId_quiet plain_eq_loop _, codeAny_builtin entry_eq_loop (by
      rw [Around.under_plainId plain_eq_loop _]
      exact ih (i + 1) (by omega) A R _ ⟨hl, hb, he, h⟩)⟩
theorem list_neW {prog : Program} {w : World} (l b : Addr) (items items2 : Array Value) (n n2 : Nat) (dd dd2 : Option Addr) (sl sl2 : Array (Option Value)) (hsz : items.size = items2.size) :
    MeetsIn prog w (Builtin.«list.__ne__» ⟨[.ref l, .ref b], []⟩)
      (fun A R s => s.heap.get? l = some { cls := .type "list", dict := dd, data := .seq items n, slots := sl } ∧ s.heap.get? b = some { cls := .type "list", dict := dd2, data := .seq items2 n2, slots := sl2 } ∧
        (∀ j (h1 : j < items.size) (h2 : j < items2.size), EqW prog w A.in1 s items[j] items2[j]) ∧
        R (.ok (.ret (.bool false))) s) := by
  intro A R s h
  obtain ⟨hp, g, d, tk, os⟩ := s; obtain ⟨hl, hb, he, h⟩ := h
  have f3 := AutoSeq1.sub_list_list
  have hne : ¬ (items.size != items2.size) = true := by simp [hsz]
  wp_walk using wpAny_loadPart' hl, wpAny_loadPart' hb
  exact ⟨plainId_quiet plain_eq_loop _, codeAny_builtin entry_eq_loop (by
    rw [Around.under_plainId plain_eq_loop _]
    exact ne_loopW l b items items2 n n2 dd dd2 sl sl2 hsz _ 0 rfl A R _ ⟨hl, hb, he, h⟩)⟩
theorem ne_lists {prog : Program} {w : World} {A : Around} {E Q : Value → Shared → Prop} {s : Shared} {l b : Addr} {items items2 : Array Value} (hl : s.heap.IsList l items) (hb : s.heap.IsList b items2) (hsz : items.size = items2.size) (hu : A.units < cLine)
    (he : ∀ j (h1 : j < items.size) (h2 : j < items2.size), EqW prog w A.in1 s items[j] items2[j]) (h : Q (.bool false) s) : wpAny (model prog w) A (compareOp .NotEq (.ref l) (.ref b)) Q E s := by
  obtain ⟨⟨cls, dd, data, sl⟩, ho, hc, n, hd⟩ := id hl
  obtain ⟨⟨cls2, dd2, data2, sl2⟩, ho2, hc2, n2, hd2⟩ := id hb
  simp only at hc hd hc2 hd2
  subst hc hd hc2 hd2
  refine cmp_ofNotEq ?_
  exact wpAny_richCompare_same_room (T := "list") (op := .NotEq) ⟨_, ho, rfl⟩ ⟨_, ho2, rfl⟩ F.slot_list_ne (call_meetsIn F.slot_list_ne ⟨_, ho, rfl⟩ F.entry_list_ne (F.args_list_ne_2 _ _) (list_neW l b items items2 n n2 dd dd2 sl sl2 hsz)
    ⟨ho, ho2, he, show Value.bool false ≠ Value.notImplemented ∧ Q (.bool false) s from ⟨(fun x => nomatch x), h⟩⟩) hu
section
variable {s : Shared} {g : Heap} {L : Addr} {all : List (Addr × Obj)}
theorem eqAt_tag {A : Around} (N : News g L s.heap all) (hu : A.units + 8 < cLine) {v v' : Value} {t : Tg} (h : TagIn all v t) (h' : TagIn all v' t) : SeqAt.EqAt A s v v' true := by
  obtain ⟨a, x, y, rfl, hm⟩ := h
  obtain ⟨b, x', y', rfl, hm'⟩ := h'
  by_cases e : a = b
  · subst e; exact SeqAt.EqAt.same _
  · refine SeqAt.EqAt.of_refs e ?_
    have := SeqAt.RcAt.tuples (A := A) (s := s) (l := a) (b := b) (items := #[.int t.1 x, .str t.2 y]) (items2 := #[.int t.1 x', .str t.2 y']) (e := fun _ => true) ⟨_, (N _ hm).1, rfl, _, rfl⟩ ⟨_, (N _ hm').1, rfl, _, rfl⟩ (by omega) (fun j h1 h2 => ?_)
    · exact this
    · have hj : j < 2 := h1
      rcases j with _ | _ | j
      · have := SeqAt.EqAt.int_int (A := A.in1) (s := s) t.1 x t.1 x'
        simpa using this
      · have := SeqAt.EqAt.str_str (A := A.in1) (s := s) t.2 y t.2 y'
        simpa using this
      · omega
theorem eqAt_grp {A : Around} (N : News g L s.heap all) (hu : A.units + 12 < cLine) {v v' : Value} {grp : List Tg} (h : GrpL all v grp) (h' : GrpL all v' grp) : SeqAt.EqAt A s v v' true := by
  obtain ⟨a, n, vs, rfl, hm, hr⟩ := h
  obtain ⟨b, n', vs', rfl, hm', hr'⟩ := h'
  by_cases e : a = b
  · subst e; exact SeqAt.EqAt.same _
  · refine SeqAt.EqAt.of_refs e ?_
    have hl : vs.length = vs'.length := hr.length.trans hr'.length.symm
    have := SeqAt.RcAt.lists (A := A) (s := s) (l := a) (b := b) (items := vs.toArray) (items2 := vs'.toArray) (e := fun _ => true) ⟨_, (N _ hm).1, rfl, _, rfl⟩ ⟨_, (N _ hm').1, rfl, _, rfl⟩ (by simpa using hl) (by omega) (fun j h1 h2 => ?_)
    · rw [show ((List.range vs.toArray.size).all fun _ => true) = true from List.all_eq_true.mpr fun _ _ => rfl] at this
      exact this
    · have h1' : j < vs.length := by simpa using h1
      have h2' : j < vs'.length := by simpa using h2
      obtain ⟨t, ht, z⟩ := hr.get (List.getElem?_eq_getElem h1')
      obtain ⟨t', ht', z'⟩ := hr'.get (List.getElem?_eq_getElem h2')
      rw [ht] at ht'
      cases ht'
      have := eqAt_tag (A := A.in1) N (by show A.units + 1 + 8 < cLine; omega) z z'
      simpa using this
theorem eqAt_sec {A : Around} (N : News g L s.heap all) (hu : A.units + 16 < cLine) {v v' : Value} {sc : Sec} (h : SecP all v sc) (h' : SecP all v' sc) : SeqAt.EqAt A s v v' true := by
  obtain ⟨a, n, vs, rfl, hm, hr⟩ := h
  obtain ⟨b, n', vs', rfl, hm', hr'⟩ := h'
  by_cases e : a = b
  · subst e; exact SeqAt.EqAt.same _
  · refine SeqAt.EqAt.of_refs e ?_
    have hl : vs.length = vs'.length := hr.length.trans hr'.length.symm
    have := SeqAt.RcAt.lists (A := A) (s := s) (l := a) (b := b) (items := vs.toArray) (items2 := vs'.toArray) (e := fun _ => true) ⟨_, (N _ hm).1, rfl, _, rfl⟩ ⟨_, (N _ hm').1, rfl, _, rfl⟩ (by simpa using hl) (by omega) (fun j h1 h2 => ?_)
    · rw [show ((List.range vs.toArray.size).all fun _ => true) = true from List.all_eq_true.mpr fun _ _ => rfl] at this
      exact this
    · have h1' : j < vs.length := by simpa using h1
      have h2' : j < vs'.length := by simpa using h2
      obtain ⟨t, ht, z⟩ := hr.get (List.getElem?_eq_getElem h1')
      obtain ⟨t', ht', z'⟩ := hr'.get (List.getElem?_eq_getElem h2')
      rw [ht] at ht'
      cases ht'
      have := eqAt_grp (A := A.in1) N (by show A.units + 1 + 12 < cLine; omega) z z'
      simpa using this
end
theorem valueAt_mem : ∀ {kb : List (Str × Value)} {k : Str} {y : Value}, (kb.map (·.1)).Nodup → (k, y) ∈ kb → valueAt kb k = some y := by
  intro kb
  induction kb with
  | nil => intro k y _ h; cases h
  | cons a r ih =>
    intro k y hn hm
    rw [List.map_cons, List.nodup_cons] at hn
    rcases List.mem_cons.mp hm with rfl | hm
    · simp [valueAt]
    · have hne : a.1 ≠ k := fun e => hn.1 (List.mem_map.mpr ⟨(k, y), hm, e.symm⟩)
      have := ih hn.2 hm
      simp only [valueAt, List.find?_cons] at this ⊢
      rw [show decide (a.1 = k) = false from decide_eq_false hne]
      exact this
theorem hits_of {A : Around} {s : Shared} {kb : List (Str × Value)} {R1 R2 : Value → Sec → Prop} (hE : ∀ v v' sc, R1 v sc → R2 v' sc → SeqAt.EqAt A s v v' true) (hn : (kb.map (·.1)).Nodup) :
    ∀ {ka kc : List (Str × Value)} {d : List (Str × Sec)}, (∀ p ∈ kc, p ∈ kb) → ka.map (·.1) = d.map (·.1) → kc.map (·.1) = d.map (·.1) → AllIn R1 (ka.map (·.2)) (d.map (·.2)) → AllIn R2 (kc.map (·.2)) (d.map (·.2)) → KeqHits A s kb ka true := by
  intro ka
  induction ka with
  | nil => intro kc d _ _ _ _ _; exact .nil
  | cons a r ih =>
    intro kc d hk h1 h2 h3 h4
    cases d with
    | nil => cases h1
    | cons e q => cases kc with
      | nil => cases h2
      | cons c t =>
        simp only [List.map_cons, List.cons.injEq] at h1 h2 h3 h4
        cases h3 with
        | cons x1 x2 => cases h4 with
          | cons z1 z2 =>
            have hv : valueAt kb a.1 = some c.2 := valueAt_mem hn (by rw [h1.1, ← h2.1]; exact hk c (.head _))
            exact KeqHits.hit (e := true) (b := true) hv (hE _ _ _ x1 z1) (ih (fun p hp => hk p (.tail _ hp)) h1.2 h2.2 x2 z2)
theorem eqW_dct {prog : Program} {w : World} {A : Around} {s : Shared} {g : Heap} {L : Addr} {all : List (Addr × Obj)} {D D' : Addr} {oD oD' : Obj} {ka kb : List (Str × Value)} {d : List (Str × Sec)} (N : News g L s.heap all) (hu : A.units + 20 < cLine) (pa : (D, oD) ∈ all) (pb : (D', oD') ∈ all)
    (da : oD.IsDictOf (PySem.strKind prog w) ka) (db : oD'.IsDictOf (PySem.strKind prog w) kb) (la : (D == sysModules) = false) (lb : (D' == sysModules) = false) (ha : DctP all ka d) (hb : DctP all kb d) : EqW prog w A s (.ref D) (.ref D') := by
  by_cases e : D = D'
  · subst e; exact .of_at (SeqAt.EqAt.same _)
  · intro E Q hq
    have hn : (kb.map (·.1)).Nodup := by obtain ⟨_, _, _, _, _, _, hn⟩ := db; exact hn
    have hl : ka.length = kb.length := by
      have h1 := congrArg List.length (ha.1.trans hb.1.symm)
      simpa using h1
    have X : wpAny (model prog w) A (compareOp .Eq (.ref D) (.ref D')) (fun v s' => wpAny (model prog w) A (truthOfDropped v) Q E s') E s := by
      refine keq_pairs N pa pb da db la lb hl (by omega) (hits_of (R1 := SecP all) (R2 := SecP all) (fun v v' sc z z' => eqAt_sec (A := A.in1) N (by show A.units + 1 + 16 < cLine; omega) z z') hn (fun p hp => hp) ha.1 hb.1 ha.2 hb.2) ?_
      exact wpAny_truthy_bool hq
    unfold eqBool
    refine wpAny_holding ?_
    refine wpAny_ite_split (fun hab => absurd (by have := eq_of_beq hab; injection this) e) (fun _ => ?_)
    exact wpAny_bind X
end
end Mine
namespace Mine
section
open PySem PySem.W PyProof.Rows PySem.Calls
theorem rstP49 {M : Model} {A : Around} {env : Env} {Q : Flow → Shared → Prop} {E : Value → Shared → Prop} {s : Shared} (h : wpAny M A (execs [] env) Q E s) : wpAny M A (execs [] env) Q E s := by
  w_top off
  (try (walk1; fail))
  exact h
/-- _law_plain, called from the law -/
theorem plain_law {w : World} {A A₀ : Around} {base h₀ : Heap} {outer : List Env} {L fa : Addr} {cd : Value} {nm : Str} {nms gen co mr} {m : Str → Option Value} {p : Program} {loose mean mg mb} {s : Shared} {E : Value → Shared → Prop} {Q : Value → Shared → Prop}
    {r : Addr} {kr : Nat} {rvs : List Value} {tags : List Tg} {tl : List (Addr × Obj)} {needed : Bool}
    (B : Below A₀ base outer h₀) (X : (hd.heap_39 w.params).In h₀) (T : Top p loose mean mg mb h₀) (F : Fr h₀ L s.heap m) (N : News h₀ L s.heap tl) (hr : (r, W.listOf rvs.toArray kr) ∈ tl) (hrows : RowsIn tl rvs tags) (hlen : tags.length ≤ 57)
    (hh : A.handled = none) (hf : A.frames = some (envOf nm (scF nms gen co mr) L fa cd :: outer)) (hg : A.guards = some []) (hd : A.depth ≤ 350) (hu : A.units ≤ 240)
    (h : ∀ (R : Addr) (kR : Nat) (v0 : Value) (z : Str) (tz : Tok) (tl' : List (Addr × Obj)) (h' : Heap) (tk' : Nat), Fr h₀ L h' m → News h₀ L h' ((R, W.listOf #[v0, .str z tz] kR) :: tl') → PRes w tl' v0 z (pend needed (prun ⟨[], false, [], false⟩ (grpF isH tags none))) → (∀ p ∈ tl, p ∈ tl') → Q (.ref R) { s with heap := h', toks := tk' }) :
    wpAny (model PySem.Challenge.rw_fy0012_01.row.prog w) A (call (.ref 375) [.ref r, .bool needed]) Q E s :=
  up_of (A' := (upN outer).deeper (envOf nm (scF nms gen co mr) L fa cd)) (plain_specX B X T F N hr hrows hlen h) hh (by show A.depth ≤ 351; omega) hf hg (by show A.units ≤ 243; omega)
theorem two_readings {items : List Value} {tags : List Tg} {needed : Bool} (hl : items.length = tags.length) : lend (!needed) (lrun ⟨[], [], false⟩ ((grps items tags).map (·.map (·.2)))) = pend needed (prun ⟨[], false, [], false⟩ (grpF isH tags none)) := by
  have e : (grps items tags).map (·.map (·.2)) = grpF isH tags none := by
    have := grp_map (fun x : It1 => x.2) isH (items.zip tags) none
    rw [List.map_snd_zip (by omega)] at this
    exact this
  rw [e]
  refine readings _ _ fun g hg => ?_
  obtain ⟨t, r, e1, ht⟩ := grp_heads (c := none) (fun _ h => by cases h) g hg
  subst e1
  exact ⟨List.cons_ne_nil _ _, fun t' r' e2 => by cases e2; exact of_decide_eq_true ht⟩
theorem dput_new {d : List (Str × Sec)} {k : Str} {v : Sec} (h : k ∉ d.map (·.1)) : dput d k v = d ++ [(k, v)] := by
  unfold dput
  rw [if_neg]
  intro e
  obtain ⟨p, hp, hk⟩ := List.any_eq_true.mp e
  exact h (List.mem_map.mpr ⟨p, hp, of_decide_eq_true hk⟩)
theorem dput_take {d : List (Str × Sec)} {i : Nat} {k : Str} {v : Sec} (hn : (d.map (·.1)).Nodup) (h : d[i]? = some (k, v)) : dput (d.take i) k v = d.take (i + 1) := by
  rw [List.take_add_one, h]
  refine dput_new fun hm => ?_
  obtain ⟨p, hp, hk⟩ := List.mem_map.mp hm
  obtain ⟨j, hj, e⟩ := List.mem_iff_getElem.mp hp
  have hj' : j < i := by rw [List.length_take] at hj; omega
  have hi := (List.getElem?_eq_some_iff.mp h).1
  have e2 : (d.map (·.1))[j]? = some k := by
    rw [List.getElem?_map, List.getElem?_eq_getElem (by omega)]
    rw [List.getElem_take] at e
    rw [e]; show some p.1 = some k; rw [hk]
  have e3 : (d.map (·.1))[i]? = some k := by rw [List.getElem?_map, h]; rfl
  have := (List.getElem?_inj (by rw [List.length_map]; omega) hn).mp (e2.trans e3.symm)
  omega
/-- list(d): the keys, in order -/
theorem list_keys {prog : Program} {w : World} {A : Around} {E Q : Value → Shared → Prop} {s : Shared} {g : Heap} {L d : Addr} {o : Obj} {m : Str → Option Value} {news : List (Addr × Obj)} {kvs : List (Str × Value)} (hh : A.handled = none) (F : Fr g L s.heap m) (N : News g L s.heap news) (hp : (d, o) ∈ news) (hd : o.IsDictOf (PySem.strKind prog w) kvs) (lo : (d == sysModules) = false) (hn : kvs.length ≤ 1000)
    (h : ∀ (B : Addr) c h' tk (vs : List Value), Fr g L h' m → News g L h' ((B, W.listOf vs.toArray c) :: news) → vs.length = (kvs.map (·.1)).length → (∀ (j : Nat) (v : Value), vs[j]? = some v → ∃ k t, (kvs.map (·.1))[j]? = some k ∧ v = .str k t) → Q (.ref B) { s with heap := h', toks := tk }) :
    wpAny (model prog w) A (call (.type "list") [.ref d]) Q E s := by
  obtain ⟨ep, hat⟩ := (kda_dict N hp hd).dictAt
  refine kdl_N (kdl_dict (knd := PySem.strKind prog w) (kvs := kvs) (ep := ep) lo) hh F N hat (kdl_size (by omega)) fun B c h' tk vs F' N' l1 hl hv => ?_
  refine h B c h' tk vs F' N' (by rw [List.length_map]; exact hl) fun j v hj => ?_
  obtain ⟨k, x, hx, hk⟩ := hv j v hj
  obtain ⟨t, rfl⟩ := Value.isStrOf_shape hk
  exact ⟨k, t, by rw [List.getElem?_map, hx]; rfl, rfl⟩
/-- two lists of the same keys are equal -/
theorem eq_keys {prog : Program} {w : World} {A : Around} {E Q : Value → Shared → Prop} {s : Shared} {g : Heap} {L a b : Addr} {news : List (Addr × Obj)} {n n' : Nat} {vs vs' : List Value} {ks : List Str} (N : News g L s.heap news) (hu : A.units < cLine) (ha : (a, W.listOf vs.toArray n) ∈ news) (hb : (b, W.listOf vs'.toArray n') ∈ news)
    (l1 : vs.length = ks.length) (l2 : vs'.length = ks.length) (h1 : ∀ (j : Nat) (v : Value), vs[j]? = some v → ∃ k t, ks[j]? = some k ∧ v = .str k t) (h2 : ∀ (j : Nat) (v : Value), vs'[j]? = some v → ∃ k t, ks[j]? = some k ∧ v = .str k t) (h : Q (.bool true) s) :
    wpAny (model prog w) A (compareOp .Eq (.ref a) (.ref b)) Q E s := by
  refine SeqAt.eq_listAt (e := fun _ => true) (items := vs.toArray) (items2 := vs'.toArray) ⟨_, (N _ ha).1, rfl, _, rfl⟩ ⟨_, (N _ hb).1, rfl, _, rfl⟩ (by simpa using l1.trans l2.symm) hu (fun j j1 j2 => ?_) ?_
  · have j1' : j < vs.length := by simpa using j1
    have j2' : j < vs'.length := by simpa using j2
    obtain ⟨k, t, e1, e2⟩ := h1 j _ (List.getElem?_eq_getElem j1')
    obtain ⟨k', t', e3, e4⟩ := h2 j _ (List.getElem?_eq_getElem j2')
    rw [e1] at e3
    cases e3
    have := SeqAt.EqAt.str_str (A := A.in1) (s := s) k t k t'
    simpa [e2, e4] using this
  · rw [show ((List.range vs.toArray.size).all fun _ => true) = true from List.all_eq_true.mpr fun _ _ => rfl]
    exact h
end
end Mine
namespace Mine
section
open PySem PySem.W PyProof.Rows PySem.Calls
theorem rstP50 {M : Model} {A : Around} {env : Env} {Q : Flow → Shared → Prop} {E : Value → Shared → Prop} {s : Shared} (h : wpAny M A (execs [] env) Q E s) : wpAny M A (execs [] env) Q E s := by
  w_top off
  (try (walk1; fail))
  exact h
theorem dput_mem {d : List (Str × Sec)} {k : Str} {v : Sec} {e : Str × Sec} (h : e ∈ dput d k v) : e ∈ d ∨ e.2 = v := by
  unfold dput at h
  split at h
  · obtain ⟨p, hp, rfl⟩ := List.mem_map.mp h
    split
    · exact .inr rfl
    · exact .inl hp
  · rcases List.mem_append.mp h with h | h
    · exact .inl h
    · rw [List.mem_singleton.mp h]; exact .inr rfl
theorem dput_len {d : List (Str × Sec)} {k : Str} {v : Sec} : (dput d k v).length ≤ d.length + 1 := by
  unfold dput
  split
  · rw [List.length_map]; omega
  · rw [List.length_append]; exact Nat.le_refl _
theorem lstep_dct {st st' : LS} {a : List Tg} (h : lstep st a = .ok st') : st'.dct.length ≤ st.dct.length + 1 ∧ st'.sec.length ≤ st.sec.length + 1 ∧ (∀ g ∈ st'.sec, g ∈ st.sec ∨ g = a) ∧ ∀ e ∈ st'.dct, e ∈ st.dct ∨ e.2 = st.sec := by
  unfold lstep at h
  split at h
  · cases h; exact ⟨Nat.le_succ _, Nat.le_succ _, fun g hg => .inl hg, fun e he => .inl he⟩
  · split at h
    · split at h
      · cases h
      · cases h; exact ⟨Nat.le_succ _, Nat.le_add_left 1 _, fun g hg => .inr (List.mem_singleton.mp hg), fun e he => .inl he⟩
    · split at h
      · split at h
        · cases h
        · split at h
          · split at h
            · cases h; exact ⟨dput_len, Nat.zero_le _, (fun g hg => by cases hg), fun e he => dput_mem he⟩
            · cases h
          · cases h
      · split at h
        · cases h; exact ⟨Nat.le_succ _, Nat.le_succ _, fun g hg => .inl hg, fun e he => .inl he⟩
        · cases h
          refine ⟨Nat.le_succ _, by rw [List.length_append]; exact Nat.le_refl _, fun g hg => ?_, fun e he => .inl he⟩
          rcases List.mem_append.mp hg with hg | hg
          · exact .inl hg
          · exact .inr (List.mem_singleton.mp hg)
theorem lrun_dct : ∀ (gs : List (List Tg)) (st ls : LS), lrun st gs = .ok ls → ls.dct.length ≤ st.dct.length + gs.length ∧ ∀ e ∈ ls.dct, e ∈ st.dct ∨ (e.2.length ≤ st.sec.length + gs.length ∧ ∀ g ∈ e.2, g ∈ st.sec ∨ g ∈ gs) := by
  intro gs
  induction gs with
  | nil => intro st ls h; cases h; exact ⟨Nat.le_refl _, fun e he => .inl he⟩
  | cons a r ih =>
    intro st ls h
    simp only [lrun] at h
    cases ha : lstep st a with
    | error e => rw [ha] at h; cases h
    | ok st' =>
      rw [ha] at h
      obtain ⟨h1, h2⟩ := ih st' ls h
      obtain ⟨b1, b2, b3, b4⟩ := lstep_dct ha
      rw [List.length_cons]
      refine ⟨by omega, fun e he => ?_⟩
      rcases h2 e he with h3 | ⟨h3, h4⟩
      · rcases b4 e h3 with h5 | h5
        · exact .inl h5
        · exact .inr ⟨by rw [h5]; omega, fun g hg => .inl (h5 ▸ hg)⟩
      · refine .inr ⟨by omega, fun g hg => ?_⟩
        rcases h4 g hg with h5 | h5
        · rcases b3 g h5 with h6 | h6
          · exact .inl h6
          · exact .inr (h6 ▸ .head _)
        · exact .inr (.tail _ h5)
theorem law_sizes {items : List Value} {tags : List Tg} {ign : Bool} {dd : List (Str × Sec)} (hlen : tags.length ≤ 57) (h : lend ign (lrun ⟨[], [], false⟩ ((grps items tags).map (·.map (·.2)))) = .ok dd) : dd.length ≤ 1000 ∧ ∀ e ∈ dd, e.2.length ≤ 1000 ∧ ∀ g ∈ e.2, g.length ≤ 1000 := by
  have q5 : (items.zip tags).length ≤ tags.length := by rw [List.length_zip]; exact Nat.min_le_right _ _
  have h57 : (grps items tags).length ≤ 100 := by
    have q6 := grp_count (p := isHead) (l := items.zip tags) (c := none)
    dsimp only at q6
    exact Nat.le_trans q6 (by omega)
  have hglen : ∀ grp ∈ grps items tags, grp.length ≤ 100 := fun grp hg => by
    have q6 := grp_len (p := isHead) (l := items.zip tags) (c := none) grp hg
    dsimp only at q6
    omega
  cases hr : lrun ⟨[], [], false⟩ ((grps items tags).map (·.map (·.2))) with
  | error e => rw [hr] at h; cases h
  | ok ls =>
    rw [hr] at h
    have hd : ls.dct = dd := by
      simp only [lend] at h
      split at h
      · cases h
      · split at h
        · cases h
        · injection h
    obtain ⟨h1, h2⟩ := lrun_dct _ _ _ hr
    rw [hd, List.length_map] at h1
    refine ⟨by show dd.length ≤ 1000; have : ([] : List (Str × Sec)).length = 0 := rfl; dsimp only at h1; omega, fun e he => ?_⟩
    rcases h2 e (hd ▸ he) with h3 | ⟨h3, h4⟩
    · cases h3
    · rw [List.length_map] at h3
      refine ⟨by have : ([] : Sec).length = 0 := rfl; dsimp only at h3; omega, fun g hg => ?_⟩
      rcases h4 g hg with h5 | h5
      · cases h5
      · obtain ⟨g9, hg9, rfl⟩ := List.mem_map.mp h5
        rw [List.length_map]
        exact Nat.le_trans (hglen _ hg9) (by omega)
theorem dct_at {S : List (Addr × Obj)} {kvs : List (Str × Value)} {d : List (Str × Sec)} (h : DctIn S kvs d) {i : Nat} {k : Str} {x : Value} (hx : kvs[i]? = some (k, x)) : ∃ sc, d[i]? = some (k, sc) ∧ SecInL S x sc := by
  obtain ⟨sc, e1, z⟩ := h.2.get (i := i) (v := x) (by rw [List.getElem?_map, hx]; rfl)
  refine ⟨sc, ?_, z⟩
  have e2 : (d.map (·.1))[i]? = some k := by rw [← h.1, List.getElem?_map, hx]; rfl
  rw [List.getElem?_map] at e1 e2
  cases hd : d[i]? with
  | none => rw [hd] at e1; cases e1
  | some p =>
    rw [hd] at e1 e2
    obtain ⟨a, b⟩ := p
    cases e1; cases e2; rfl
/-- the law's loop over the sections it was told -/
def LwInv (w : World) (Ds D2 r : Addr) (needed : Bool) (dd : List (Str × Sec)) (base0 : List (Addr × Obj)) (tz : Tok) (i : Nat) (m : Str → Option Value) (nx : List (Addr × Obj)) : Prop :=
  ∃ (oDs : Obj) (kvs' : List (Str × Value)) (tl' : List (Addr × Obj)), m "sections" = some (.ref Ds) ∧ m "told" = some (.ref D2) ∧ m "rows" = some (.ref r) ∧ m "needed" = some (.bool needed) ∧ m "word" = some (.str (Str.ofString "") tz) ∧
    nx = (Ds, oDs) :: tl' ∧ OwnOff tl' [Ds] ∧ oDs.IsDictOf (PySem.strKind PySem.Challenge.rw_fy0012_01.row.prog w) kvs' ∧ DctP tl' kvs' (dd.take i) ∧ ∀ p ∈ base0, p ∈ tl'
theorem eqW_str {prog : Program} {w : World} {A : Around} {s : Shared} {z : Str} {t u : Tok} : EqW prog w A s (.str z t) (.str z u) := .of_at (by have := SeqAt.EqAt.str_str (A := A) (s := s) z t z u; simpa using this)
theorem eqW_none {prog : Program} {w : World} {A : Around} {s : Shared} {v : Value} : EqW prog w A s v v := .of_at (SeqAt.EqAt.same _)
theorem bare_of {a b : Array GenState} (h : GensOk a b) (ha : a = #[]) : AllBare b := fun y hy => by
  obtain ⟨i, hi, e⟩ := Array.mem_iff_getElem.mp hy
  rcases h i y (by rw [Array.getElem?_eq_getElem hi, e]) with h1 | h1
  · rw [ha] at h1; simp at h1
  · exact h1
theorem grown_of {g h : Heap} {L : Addr} {all tl : List (Addr × Obj)} (N : News g L h all) (hs : ∀ p ∈ tl, p ∈ all) (h1 : ∃ ps, (334, tabObj ps) ∈ tl) (h2 : ∃ ps, (342, tabObj ps) ∈ tl) : GrownAll [(338, 334), (346, 342)] h := by
  obtain ⟨ps, h1⟩ := h1
  obtain ⟨qs, h2⟩ := h2
  exact ⟨GrownAt.of N (hs _ h1), GrownAt.of N (hs _ h2), trivial⟩
theorem mem_of {g h : Heap} {L : Addr} {WW : List (Addr × Obj)} (_N : News g L h WW) {p : Addr × Obj} (hp : p ∈ WW) : p ∈ WW := hp
theorem head_of {g h : Heap} {L a : Addr} {o : Obj} {WW : List (Addr × Obj)} (_N : News g L h ((a, o) :: WW)) : ∃ b, b = a := ⟨a, rfl⟩
theorem tok_of {g h : Heap} {L : Addr} {m : Str → Option Value} {z : Str} {t : Tok} (_F : Fr g L h m) (_e : m "word" = some (.str z t)) : ∃ b, b = t := ⟨t, rfl⟩
theorem law_pack {g h : Heap} {L r : Addr} {kr : Nat} {rvs : List Value} {tags : List Tg} {WW : List (Addr × Obj)} {x1 x2 : Array Value} (N : News g L h WW) (h1 : (334, tabObj x1) ∈ WW) (h2 : (342, tabObj x2) ∈ WW) (hr : (r, W.listOf rvs.toArray kr) ∈ WW) (hrows : RowsIn WW rvs tags) :
    (r, W.listOf rvs.toArray kr) ∈ offTwo 334 342 WW ∧ RowsIn (offTwo 334 342 WW) rvs tags :=
  ⟨tab_off N h1 h2 (fun _ h => h) hr (fun e => by cases e), hrows.mono fun _ _ z => z.offT N h1 h2 fun _ h => h⟩
theorem loop_pack {g h : Heap} {L Dn It Ds : Addr} {oN oI oDs : Obj} {ex tl : List (Addr × Obj)} (N8 : News g L h ((Dn, oN) :: (ex ++ ((It, oI) :: (Ds, oDs) :: tl)))) (oDn : OwnOff (ex ++ ((It, oI) :: (Ds, oDs) :: tl)) [Dn]) (hdis : ∀ p ∈ ex, ∀ q ∈ (It, oI) :: (Ds, oDs) :: tl, @Ne Nat p.1 q.1) (oo : OwnOff tl [Ds]) (hI : @Ne Nat Ds It) :
    ∃ tl9, News g L h ((Ds, oDs) :: tl9) ∧ OwnOff tl9 [Ds] ∧ ∀ p ∈ (It, oI) :: (Dn, oN) :: (ex ++ tl), p ∈ tl9 := by
  refine ⟨(It, oI) :: (Dn, oN) :: (ex ++ tl), fun p hp => N8 p ?_, fun p hp b hb => ?_, fun _ h => h⟩
  · simp only [List.mem_cons, List.mem_append] at hp ⊢
    rcases hp with h | h | h | h | h
    · exact .inr (.inr (.inr (.inl h)))
    · exact .inr (.inr (.inl h))
    · exact .inl h
    · exact .inr (.inl h)
    · exact .inr (.inr (.inr (.inr h)))
  · rw [List.mem_singleton.mp hb]
    rcases List.mem_cons.mp hp with rfl | hp
    · exact hI.symm
    · rcases List.mem_cons.mp hp with rfl | hp
      · exact (oDn (Ds, oDs) (List.mem_append_right _ (.tail _ (.head _))) _ (.head _)).symm
      · rcases List.mem_append.mp hp with hp | hp
        · exact hdis p hp (Ds, oDs) (.tail _ (.head _))
        · exact oo p hp Ds (.head _)
theorem loop_end {w : World} {g h : Heap} {L Ds D2 r It Dn : Addr} {needed : Bool} {dd : List (Str × Sec)} {base0 tl5 tl9 ex : List (Addr × Obj)} {tz : Tok} {i nn tk : Nat} {m : Str → Option Value} {s : Shared} {oI oDs oD' : Obj} {kvs' : List (Str × Value)} {k : Str} {sc : Sec} {acc : List Value}
    (F : Fr g L h m) (N : News g L h ((Ds, oD') :: tl9)) (hsub : ∀ p ∈ (It, oI) :: (Dn, W.listOf acc.toArray nn) :: (ex ++ tl5), p ∈ tl9) (oo9 : OwnOff tl9 [Ds]) (oDn : OwnOff (ex ++ ((It, oI) :: (Ds, oDs) :: tl5)) [Dn]) (hdis : ∀ p ∈ ex, ∀ q ∈ (It, oI) :: (Ds, oDs) :: tl5, @Ne Nat p.1 q.1) (hne : ∀ p ∈ (Ds, oDs) :: tl5, @Ne Nat p.1 It)
    (hD' : oD'.IsDictOf (PySem.strKind PySem.Challenge.rw_fy0012_01.row.prog w) (stored kvs' k (.ref Dn))) (hdc : DctP tl5 kvs' (dd.take i)) (hacc : AllIn (GrpL ex) acc sc) (hn : (dd.map (·.1)).Nodup) (hsc : dd[i]? = some (k, sc)) (hkb : ∀ p ∈ base0, p ∈ tl5)
    (m1 : m "sections" = some (.ref Ds)) (m2 : m "told" = some (.ref D2)) (m3 : m "rows" = some (.ref r)) (m4 : m "needed" = some (.bool needed)) (m5 : m "word" = some (.str (Str.ofString "") tz)) :
    Shut (∃ h' tk' m' nx', { s with heap := h, toks := tk } = { s with heap := h', toks := tk' } ∧ Fr g L h' m' ∧ News g L h' ((It, oI) :: nx') ∧ (∀ p ∈ nx', @Ne Nat p.1 It) ∧ LwInv w Ds D2 r needed dd base0 tz (i + 1) m' nx') := by
  have up : ∀ p ∈ tl5, p ∈ (Dn, W.listOf acc.toArray nn) :: (ex ++ tl5) := fun p hp => .tail _ (List.mem_append_right _ hp)
  refine ⟨h, tk, m, (Ds, oD') :: (Dn, W.listOf acc.toArray nn) :: (ex ++ tl5), rfl, F, fun p hp => N p ?_, fun p hp => ?_, oD', _, (Dn, W.listOf acc.toArray nn) :: (ex ++ tl5), m1, m2, m3, m4, m5, rfl, fun p hp b hb => oo9 p (hsub p (.tail _ hp)) b hb, hD', ?_, fun p hp => up p (hkb p hp)⟩
  · rcases List.mem_cons.mp hp with rfl | hp
    · exact .tail _ (hsub _ (.head _))
    · rcases List.mem_cons.mp hp with rfl | hp
      · exact .head _
      · exact .tail _ (hsub p (.tail _ hp))
  · rcases List.mem_cons.mp hp with rfl | hp
    · exact hne (Ds, oDs) (.head _)
    · rcases List.mem_cons.mp hp with rfl | hp
      · exact (oDn (It, oI) (List.mem_append_right _ (.head _)) _ (.head _)).symm
      · rcases List.mem_append.mp hp with hp | hp
        · exact hdis p hp (It, oI) (.head _)
        · exact hne p (.tail _ hp)
  · have := (hdc.mono up).put (x := k) (v := .ref Dn) (sc := sc) ⟨Dn, nn, acc, rfl, .head _, hacc.mono fun _ _ z => z.mono fun p hp => .tail _ (List.mem_append_left _ hp)⟩
    rw [dput_take hn hsc] at this
    exact this
end
end Mine
namespace Mine
section
open PySem PySem.W PyProof.Rows PySem.Calls
theorem rstM2 {M : Model} {A : Around} {env : Env} {Q : Flow → Shared → Prop} {E : Value → Shared → Prop} {s : Shared} (h : wpAny M A (execs [] env) Q E s) : wpAny M A (execs [] env) Q E s := by
  w_top off
  (try (walk1; fail))
  exact h
local macro_rules | `(tactic| kd_p1) => `(tactic| (first | (k_unfold; (try dsimp only)) | (k_end; wrow_close) | walk1 | (dsimp only; walk1) | (leave1; walk_say "STEP leave1"; try dsimp only) | fail "no step"))
local macro_rules | `(tactic| kd_addB) => `(tactic| fail_if_success (with_reducible show wpAny _ _ (call (Value.ref 361) _) _ _ _))
local macro_rules | `(tactic| kn_posts) => `(tactic| (refine kn_postG (by assumption) (fun _ _ => rfl) ?_))
local macro_rules | `(tactic| walk_at "subscriptTail") => `(tactic| (k_here; (with_reducible show wpAny _ _ (subscriptTail _ _ (Value.ref _) (Value.str _ _)) _ _ _); k_dflt (refine' kda_item (knd := PySem.strKind _ _) ?N ?hp ?hd (strKind_is _ _ _ _) ?hl ?_; (case N => k_asm); (case hp => (repeat (first | (with_reducible assumption) | refine List.mem_cons_of_mem _ ?_))); (case hd => with_reducible assumption); (case hl => with_reducible assumption); k_whole)))
local macro_rules | `(tactic| walk_at "setItem ref str") => `(tactic| (k_here; (with_reducible show wpAny _ _ (setItem (Value.ref _) (Value.str _ _) (Value.ref _)) _ _ _); k_dflt (refine' kda_set (knd := PySem.strKind _ _) ?F ?N ?U ?d (strKind_is _ _ _ _) ?z ?_; (case F => k_asm); (case N => k_asm); (case U => k_updF); (case d => k_asm); (case z => rw [sizeLine_eq]; exact Nat.le_trans (by with_reducible assumption) (Nat.le_of_ble_eq_true rfl))); intro h' o' F' N' hd'; (try dsimp only at N')))
local macro_rules | `(tactic| kd_addW) => `(tactic| fail_if_success (first | (with_reducible show wpAny _ _ (call (Value.ref 354) _) _ _ _) | (with_reducible show wpAny _ _ (eval (Expr.ListComp _ _ _ _) _) _ _ _) | (with_reducible show wpAny _ _ (pyIter (Value.ref _)) _ _ _) | (with_reducible show wpAny _ _ (call (Value.ref 347) _) _ _ _) | (with_reducible show wpAny _ _ (call (Value.ref 375) _) _ _ _) | (with_reducible show wpAny _ _ (call (Value.type "str") _) _ _ _) | (with_reducible show wpAny _ _ (call (Value.type "list") _) _ _ _) | (with_reducible show wpAny _ _ (compareOp CmpOp.NotEq (Value.ref _) (Value.ref _)) _ _ _) | (with_reducible show wpAny _ _ (compareOp CmpOp.Eq (Value.ref _) (Value.ref _)) _ _ _) | (with_reducible show wpAny _ _ (exec (Stmt.For _ _ _ _ _) _) _ _ _)))
set_option maxHeartbeats 2000000 in
theorem lawHolds : PySem.Challenge.rw_fy0012_01.Holds := hd (by
  k_go0
  all_goals (try k_fold)
  repeat' (kd_addB; kd_p1)
  rename Below _ _ _ _ => B9
  rename Fr _ _ _ _ => F9
  rename News _ _ _ _ => N9
  rename Frag.In _ _ => X9
  rename Top _ _ _ _ _ _ => T9
  rename Heap.IsList _ _ _ => l9
  rename IntsAre _ _ => i9
  rename ¬ _ => c9
  refine' drawn_law (p := _) B9 X9 T9 F9 N9 ?c1 ?c2 l9 i9 c9 ?i0 ?v0 ?hh ?hf ?hg ?hd ?hu ?_
  case c1 => omega
  case c2 => omega
  case i0 => exact Int.le_refl _
  case v0 => exact Int.le_refl _
  case hh => rfl
  case hf => rfl
  case hg => rfl
  case hd => exact Nat.le_of_ble_eq_true rfl
  case hu => exact Nat.le_of_ble_eq_true rfl
  clear F9 N9
  intro r rvs tags kr n' i' v' a b tl h' tk' F9 N9 hrows hlen hgood hi0 hv0 otl z1 z2 z3 z4 z5
  dsimp only
  try k_fold
  have sl := Seal.mk (And.intro hrows (And.intro hlen hgood))
  clear hrows hlen hgood
  repeat' (kd_addW; kd_p1)
  rename Fr _ _ _ _ => F9
  rename News _ _ _ _ => N9
  refine' take_call (p := _) B9 X9 T9 F9 N9 ?U l9 i9 c9 hi0 hv0 (by decide) (by decide) rfl rfl rfl (Nat.le_of_ble_eq_true rfl) (Nat.le_of_ble_eq_true rfl) ?_
  case U => k_updF
  clear F9 N9
  intro d i2 v2 a2 b2 e2 n2 h2 tk2 q1 q2 q3 q4 F9 N9
  dsimp only
  try k_fold
  repeat' (kd_addW; kd_p1)
  rename Below _ _ _ _ => B9
  refine wpAny_ListComp (by decide) rfl (by decide) ?_
  repeat' (kd_addW; kd_p1)
  rename Fr _ _ _ _ => F9
  rename News _ _ _ _ => N9
  obtain ⟨hrows, hlen, hgood⟩ := sl.out
  refine comp_tags (p := _) rfl (Nat.le_of_ble_eq_true rfl) (Nat.le_of_ble_eq_true rfl) X9 T9 F9 N9 (.tail _ (.tail _ (.tail _ (.head _)))) (hrows.mono fun _ _ z => z.mono fun p hp => by repeat (first | exact hp | refine List.mem_cons_of_mem _ ?_)) hlen (by decide) rfl (fun _ => rfl) (fun _ => rfl) (fun _ => rfl) ?_
  clear F9 N9 hrows hlen
  intro h3 tk3 D n3 items ex hitems F9 N9 oD
  dsimp only
  have sl2 := Seal.mk (And.intro hitems oD)
  clear hitems oD hgood
  try k_fold
  repeat' (kd_addW; kd_p1)
  rename Fr _ _ _ _ => F9
  rename News _ _ _ _ => N9
  obtain ⟨hitems, oD⟩ := sl2.out
  obtain ⟨hrows, hlen, hgood⟩ := sl.out
  have ht1 := mem_of N9 (p := (334, tabObj #[])) (.tail _ (List.mem_append_right _ (by k_mem)))
  have ht2 := mem_of N9 (p := (342, tabObj #[])) (.tail _ (List.mem_append_right _ (by k_mem)))
  obtain ⟨hro, hrw⟩ := law_pack N9 ht1 ht2 (.tail _ (List.mem_append_right _ (by k_mem))) (hrows.mono fun _ _ z => z.mono fun p hp => .tail _ (List.mem_append_right _ (by repeat (first | exact hp | refine List.mem_cons_of_mem _ ?_))))
  refine load_law X9 B9 X9 T9 F9 N9 ht1 ht2 (.head _) (hitems.mono fun _ _ z => z.mono fun p hp => .tail _ (List.mem_append_left _ hp)) hlen hgood rfl rfl rfl (Nat.le_of_ble_eq_true rfl) (Nat.le_of_ble_eq_true rfl) ?hQ ?hE
  case hQ =>
    clear F9 N9 ht1 ht2
    intro D2 oD2 kvs dd gens' tl' h4 tk4 hlend F9 N9 hkp hD2 hdct hlo hgens h334 h342
    obtain ⟨hz1, hz2⟩ := law_sizes hlen hlend
    rw [two_readings hitems.length] at hlend
    have hkl : kvs.length ≤ 1000 := by
      have h9 := congrArg List.length hdct.1
      rw [List.length_map, List.length_map] at h9
      omega
    have hnod : (kvs.map (·.1)).Nodup := by obtain ⟨_, _, _, _, _, _, hn⟩ := hD2; exact hn
    have hro2 := hkp _ hro
    have hrw2 := hrw.mono fun _ _ z => z.mono hkp
    dsimp only
    try k_fold
    have sl3 := Seal.mk (And.intro hdct (And.intro hgens (And.intro h334 (And.intro h342 (And.intro hrw2 (And.intro hz1 (And.intro hz2 (And.intro hlend (And.intro hnod hro2)))))))))
    clear hitems hkp hdct hgens h334 h342 hrows hgood hrw hro hrw2 hz1 hz2 hlend hnod hro2 oD sl sl2
    repeat' (kd_addW; kd_p1)
    k_fold
    refine for_gen (by passes_own) (fun _ => rfl) (fun _ _ => rfl) ?_
    repeat' (kd_addW; kd_p1)
    rename Fr _ _ _ _ => F9
    rename News _ _ _ _ => N9
    rename Obj.IsDictOf (PySem.strKind _ _) _ [] => hs9
    rename _ < _ ∧ AllLt _ tl' => lt9
    obtain ⟨hdct, hgens, h334, h342, hrw2, hz1, hz2, hlend, hnod, hro2⟩ := sl3.out
    have hnd : (dd.map (·.1)).Nodup := hdct.1 ▸ hnod
    obtain ⟨Ds, rfl⟩ := head_of N9
    obtain ⟨tz, rfl⟩ := tok_of F9 (by rfl)
    rename World => w9
    refine dict_for (s := Shared.mk _ gens' _ _ _) (kvs := kvs) rfl F9 N9 hlo hD2 (LwInv w9 Ds D2 r (d == 0) dd ((D2, oD2) :: tl') tz) ?h0 ?hr ?step ?done
    case h0 =>
      refine ⟨_, [], (D2, oD2) :: tl', by rfl, by rfl, by rfl, by rfl, by rfl, rfl, ?_, hs9, ⟨rfl, .nil⟩, fun _ h => h⟩
      intro p hp b hb
      rw [List.mem_singleton.mp hb]
      rcases List.mem_cons.mp hp with rfl | hp
      · exact Nat.ne_of_lt lt9.1
      · exact Nat.ne_of_lt (allLt_mem lt9.2 p hp)
    case hr =>
      rintro i m1 nx ⟨oDs, kvs', tl5, _, _, _, _, _, rfl, _, _, _, hkb⟩
      exact .tail _ (hkb _ (.head _))
    case step =>
      rintro i k t x m1 nx It oI h5 tk5 hkx ⟨oDs, kvs', tl5, q1, q2, q3, q4, q5, rfl, oo, hDs, hdc, hkb⟩ hne F2 N2 hoI
      obtain ⟨sc, hsc, sa, sn, svs, rfl, hsm, hents⟩ := dct_at hdct hkx
      have hva := valueAt_of_get hnod hkx
      have hkl2 : kvs'.length ≤ 1000 := by
        have h9 := congrArg List.length hdc.1
        rw [List.length_map, List.length_map, List.length_take] at h9
        omega
      have hsz := hz2 (k, sc) (List.mem_of_getElem? hsc)
      have F4 := fr_name (fr_name (fr_name (fr_name (fr_name F2 "word" q5) "needed" q4) "rows" q3) "told" q2) "sections" q1
      have hm1 : (D2, oD2) ∈ tl5 := hkb _ (.head _)
      have hm2 : (sa, W.listOf svs.toArray sn) ∈ tl5 := hkb _ (.tail _ hsm)
      have hI1 : @Ne Nat _ It := hne _ (.head _)
      have sl5 := Seal.mk (And.intro hdc (And.intro hkb (And.intro hents (And.intro hne hsz))))
      clear F2 F9 N9 hdct hgens h334 h342 hrw2 hz1 hz2 hlend hnod hro2 hdc hkb hents hne hsz lt9 sl3
      dsimp only
      try k_fold
      repeat' (kd_addW; kd_p1)
      refine wpAny_ListComp (by decide) rfl (by decide) ?_
      repeat' (kd_addW; kd_p1)
      try k_fold
      rename Fr _ _ _ _ => F7
      rename News _ _ _ _ => N7
      obtain ⟨hdc, hkb, hents, hne, hsz1, hsz2⟩ := sl5.out
      refine comp_sec (p := _) rfl (Nat.le_of_ble_eq_true rfl) X9 T9 F7 N7 (.tail _ (.tail _ hm2)) (hents.mono fun _ _ z => z.mono fun p hp => .tail _ (.tail _ (hkb p (.tail _ hp)))) (by rw [hents.length]; exact hsz1) hsz2 (by decide) rfl (fun _ => rfl) (by decide) (by decide) rfl (by decide) (fun _ _ => rfl) ?_
      intro h6 tk6 Dn nn acc ex6 hacc F8 N8 oDn hdis
      obtain ⟨tl9, N6, oo9, hsub⟩ := loop_pack N8 oDn hdis oo hI1
      have sl6 := Seal.mk (And.intro hacc (And.intro oDn (And.intro hdis (And.intro hsub (And.intro hdc (And.intro hkb (And.intro hents hne)))))))
      clear F7 N7 N8 hacc oDn hdis hsub hdc hkb hents hne sl5
      dsimp only
      try k_fold
      repeat' (kd_addW; kd_p1)
      rename Fr _ _ _ _ => F7
      rename News _ _ _ _ => N7
      rename Obj.IsDictOf _ _ (stored _ _ _) => hd7
      obtain ⟨hacc, oDn, hdis, hsub, hdc, hkb, hents, hne⟩ := sl6.out
      dsimp only
      exact loop_end (s := Shared.mk h5 gens' _ tk5 _) F7 N7 hsub oo9 oDn hdis hne hd7 hdc hacc hnd hsc hkb (by rfl) (by rfl) (by rfl) (by rfl) (by rfl)
    case done =>
      rintro m1 nx h5 tk5 ⟨oDs, kvs', tl5, q1, q2, q3, q4, q5, rfl, oo, hDs, hdc, hkb⟩ F2 N2
      have hkd : kvs.length = dd.length := by
        have h9 := congrArg List.length hdct.1
        rw [List.length_map, List.length_map] at h9
        exact h9
      rw [hkd, List.take_length] at hdc
      have hkl2 : kvs'.length ≤ 1000 := by
        have h9 := congrArg List.length hdc.1
        rw [List.length_map, List.length_map] at h9
        omega
      have F4 := fr_name (fr_name (fr_name (fr_name (fr_name F2 "word" q5) "needed" q4) "rows" q3) "told" q2) "sections" q1
      have hro4 := hkb _ (.tail _ hro2)
      have hrw4 := hrw2.mono fun _ _ z => z.mono fun p hp => hkb p (.tail _ hp)
      have h334k := h334.elim fun ps h9 => (⟨ps, hkb _ (.tail _ h9)⟩ : ∃ ps, (334, tabObj ps) ∈ tl5)
      have h342k := h342.elim fun ps h9 => (⟨ps, hkb _ (.tail _ h9)⟩ : ∃ ps, (342, tabObj ps) ∈ tl5)
      have sl5 := Seal.mk (And.intro hdc (And.intro hro4 (And.intro hrw4 (And.intro h334k (And.intro h342k (And.intro hlend hgens))))))
      clear F2 F9 N9 hdct hgens h334 h342 hrw2 hz1 hz2 hlend hnod hro2 hdc hkb lt9 sl3 hro4 hrw4 h334k h342k hD2 hkd hnd
      dsimp only
      try k_fold
      repeat' (kd_addW; kd_p1)
      rename Fr _ _ _ _ => F7
      rename News _ _ _ _ => N7
      obtain ⟨hdc, hro4, hrw4, h334k, h342k, hlend, hgens⟩ := sl5.out
      refine plain_law B9 X9 T9 F7 N7 (.tail _ hro4) (hrw4.mono fun _ _ z => z.mono fun p hp => .tail _ hp) hlen rfl rfl rfl (Nat.le_of_ble_eq_true rfl) (Nat.le_of_ble_eq_true rfl) ?_
      intro R kR v0 z tz2 tl6 h6 tk6 F6 N6 hres hk6
      rw [hlend] at hres
      obtain ⟨rfl, Dp, oDp, kvp, rfl, hmp, hDp, hdp, hlop⟩ := hres
      have hm6 := hk6 _ (.head _)
      have hdc6 := hdc.mono fun p hp => hk6 p (.tail _ hp)
      have h334k := h334k.elim fun ps h9 => (⟨ps, hk6 _ (.tail _ h9)⟩ : ∃ ps, (334, tabObj ps) ∈ tl6)
      have h342k := h342k.elim fun ps h9 => (⟨ps, hk6 _ (.tail _ h9)⟩ : ∃ ps, (342, tabObj ps) ∈ tl6)
      have hkp : kvp.length ≤ 1000 := by
        have h9 := congrArg List.length (hdc.1.trans hdp.1.symm)
        rw [List.length_map, List.length_map] at h9
        omega
      have sl7 := Seal.mk (And.intro hdc6 (And.intro hdp (And.intro h334k (And.intro h342k (And.intro hlend (And.intro hgens (And.intro hm6 hmp)))))))
      clear F7 N7 hdc hro4 hrw4 h334k h342k hlend hgens hk6 hdc6 hdp sl5 hm6 hmp
      dsimp only
      try k_fold
      repeat' (kd_addW; kd_p1)
      rename Fr _ _ _ _ => F7
      rename News _ _ _ _ => N7
      obtain ⟨hdc6, hdp, h334k, h342k, hlend, hgens, hm6, hmp⟩ := sl7.out
      refine ne_lists (items := #[.ref Ds, .str (Str.ofString "") _]) (items2 := #[.ref Dp, .str (Str.ofString "") tz2]) ⟨_, (N7 _ (.head _)).1, rfl, _, rfl⟩ ⟨_, (N7 _ (.tail _ (.head _))).1, rfl, _, rfl⟩ rfl (Nat.le_of_ble_eq_true rfl) ?eqs ?_
      case eqs =>
        intro j j1 j2
        have hj : j < 2 := j1
        rcases j with _ | _ | j
        · exact eqW_dct N7 (Nat.le_of_ble_eq_true rfl) (.tail _ (.tail _ hm6)) (.tail _ (.tail _ hmp)) hDs hDp (by assumption) hlop (hdc6.mono fun p hp => .tail _ (.tail _ hp)) (hdp.mono fun p hp => .tail _ (.tail _ hp))
        · exact eqW_str
        · omega
      have hm7 := mem_of N7 (.tail _ (.tail _ hm6))
      have hp7 := mem_of N7 (.tail _ (.tail _ hmp))
      have sl8 := Seal.mk (And.intro hdc6.1 (And.intro hdp.1 (And.intro h334k (And.intro h342k hgens))))
      clear hdc6 hdp h334k h342k hlend hgens sl7
      dsimp only
      try k_fold
      repeat' (kd_addW; kd_p1)
      rename Fr _ _ _ _ => F7
      rename News _ _ _ _ => N7
      refine list_keys rfl F7 N7 hm7 hDs (by assumption) hkl2 fun Bk ck hk tkk vs F8 N8 hvl hvk => ?_
      have sl9 := Seal.mk (And.intro hvl hvk)
      clear F7 N7 hvl hvk
      dsimp only
      try k_fold
      repeat' (kd_addW; kd_p1)
      rename Fr _ _ _ _ => F7
      rename News _ _ _ _ => N7
      refine list_keys rfl F7 N7 (.tail _ hp7) hDp hlop hkp fun Bk2 ck2 hk2 tkk2 vs2 F9 N9 hvl2 hvk2 => ?_
      have sl10 := Seal.mk (And.intro hvl2 hvk2)
      clear F7 N7 hvl2 hvk2
      dsimp only
      try k_fold
      repeat' (kd_addW; kd_p1)
      rename Fr _ _ _ _ => F7
      rename News _ _ _ _ => N7
      obtain ⟨k1, k2, h334k, h342k, hgens⟩ := sl8.out
      obtain ⟨hvl, hvk⟩ := sl9.out
      obtain ⟨hvl2, hvk2⟩ := sl10.out
      rw [k2.trans k1.symm] at hvl2 hvk2
      refine eq_keys N7 (Nat.le_of_ble_eq_true rfl) (.tail _ (.head _)) (.head _) hvl hvl2 hvk hvk2 ?_
      try k_fold
      repeat' (first | (k_unfold; (try dsimp only)) | ((first | (with_reducible show wpAny _ _ _ _ _ _) | (with_reducible show (if _ then _ else _))); kd_addW; kd_p1))
      repeat (first | k_unfold | dsimp only)
      exact ⟨goodW_bool F7 rfl (fun _ => rfl) (by first | kc_post | wrow_post) rfl, bare_of hgens (by assumption), grown_of N7 (fun p hp => .tail _ (.tail _ (.tail _ (.tail _ hp)))) h334k h342k⟩
  case hE =>
    clear F9 N9 ht1 ht2
    intro e t msg tz news gens' g' h4 tk4 hlend R9 F9 U9 hkp hgens h334 h342
    rw [two_readings hitems.length] at hlend
    have hro2 := hkp _ hro
    have hrw2 := hrw.mono fun _ _ z => z.mono hkp
    dsimp only
    try k_fold
    have sl3 := Seal.mk (And.intro hgens (And.intro h334 (And.intro h342 (And.intro hrw2 (And.intro hlend hro2)))))
    clear hitems hkp hgens h334 h342 hrows hgood hrw hro hrw2 hlend hro2 oD sl sl2
    repeat' (kd_addW; kd_p1)
    rename Fr _ _ _ _ => F7
    rename Got _ _ _ _ _ => G9
    refine str_err (by first | units_room | k_room | exact Nat.le_of_ble_eq_true rfl) X9 F7 (by assumption) G9 ?_
    try k_fold
    repeat' (kd_addW; kd_p1)
    rename Fr _ _ _ _ => F7
    rename News _ _ _ _ => N7
    obtain ⟨hgens, h334, h342, hrw2, hlend, hro2⟩ := sl3.out
    refine plain_law B9 X9 T9 F7 N7 hro2 hrw2 hlen rfl rfl rfl (Nat.le_of_ble_eq_true rfl) (Nat.le_of_ble_eq_true rfl) ?_
    intro R kR v0 z tz2 tl6 h6 tk6 F6 N6 hres hk6
    rw [hlend] at hres
    obtain ⟨rfl, rfl⟩ := hres
    have h334k := h334.elim fun ps h9 => (⟨ps, hk6 _ h9⟩ : ∃ ps, (334, tabObj ps) ∈ tl6)
    have h342k := h342.elim fun ps h9 => (⟨ps, hk6 _ h9⟩ : ∃ ps, (342, tabObj ps) ∈ tl6)
    have sl7 := Seal.mk (And.intro h334k (And.intro h342k hgens))
    clear F7 N7 h334 h342 h334k h342k hgens hrw2 hlend hro2 sl3 hk6
    dsimp only
    try k_fold
    repeat' (kd_addW; kd_p1)
    rename Fr _ _ _ _ => F7
    rename News _ _ _ _ => N7
    obtain ⟨h334k, h342k, hgens⟩ := sl7.out
    refine ne_lists (items := #[.none, .str _ _]) (items2 := #[.none, .str _ tz2]) ⟨_, (N7 _ (.head _)).1, rfl, _, rfl⟩ ⟨_, (N7 _ (.tail _ (.head _))).1, rfl, _, rfl⟩ rfl (Nat.le_of_ble_eq_true rfl) ?eqs ?_
    case eqs =>
      intro j j1 j2
      have hj : j < 2 := j1
      rcases j with _ | _ | j
      · exact eqW_none
      · exact eqW_str
      · omega
    have sl8 := Seal.mk (And.intro h334k (And.intro h342k hgens))
    clear h334k h342k hgens sl7
    dsimp only
    try k_fold
    repeat' (first | (k_unfold; (try dsimp only)) | ((first | (with_reducible show wpAny _ _ _ _ _ _) | (with_reducible show (if _ then _ else _))); kd_addW; kd_p1))
    repeat (first | k_unfold | dsimp only)
    rename Fr _ _ _ _ => F7
    rename News _ _ _ _ => N7
    obtain ⟨h334k, h342k, hgens⟩ := sl8.out
    exact ⟨goodW_bool F7 rfl (fun _ => rfl) (by first | kc_post | wrow_post) rfl, bare_of hgens (by assumption), grown_of N7 (fun p hp => .tail _ (.tail _ hp)) h334k h342k⟩)
end
end Mine
set_option maxRecDepth 100000 in
theorem PySem.Challenge.cw_fy0012_01_holds : PySem.Challenge.rw_fy0012_01.Holds := by
  exact Mine.lawHolds
