import PyProof.Rows.All
import Wide.All
import OpenK.AllK
import Wide.FinOn
import PySem.Challenge.RW_pg0135_01
set_option Elab.async false
section
open PySem PySem.W PyProof.Rows
namespace Mine
open_top hd for PySem.Challenge.rw_pg0135_01
end Mine
end
section
open PySem PySem.W PyProof.Rows
namespace Mine
section
variable {prog : Program} {w : World} {A : Around} {E : Value → Shared → Prop} {s : Shared} {env : Env} {h₀ : Heap} {x : Str} {body : List Stmt} {Q : Flow → Shared → Prop}
theorem iter_list_led {l : Addr} {vs : List Value} {m₀ : Str → Option Value} {news : List (Addr × Obj)} (J : Nat → (Str → Option Value) → List (Addr × Obj) → Prop)
    (hh : A.handled = none) (hl : s.heap.IsList l vs.toArray) (hln : ∀ p ∈ news, p.1 ≠ l) (hlL : l ≠ env.locals)
    (F : Fr h₀ env.locals s.heap m₀) (N : News h₀ env.locals s.heap news) (hj : J 0 m₀ news)
    (turn : ∀ i v m₁ news₁ h tk own, vs[i]? = some v → news₁.map (·.1) = news.map (·.1) → OwnOff own (news.map (·.1)) → J i m₁ news₁ → Fr h₀ env.locals h (fun y => if y = x then some v else m₁ y) → News h₀ env.locals h (news₁ ++ own) →
      wpAny (model prog w) A (execs body env) (InvPostN h₀ env.locals (J (i + 1)) own (news.map (·.1)) { s with heap := h, toks := tk } Q) E { s with heap := h, toks := tk })
    (done : ∀ m₁ news₁ h tk, J vs.length m₁ news₁ → Fr h₀ env.locals h m₁ → News h₀ env.locals h news₁ → Q .next { s with heap := h, toks := tk }) :
    wpAny (model prog w) A (pyIter (.ref l)) (fun it s₂ => LoopAtV prog w A h₀ env x body Q E it s₂) E s := by
  obtain ⟨ol, hol, hr⟩ := id hl
  have hlt : l < s.heap.objs.size := Heap.lt_size hol
  have hne : l ≠ s.heap.objs.size := Nat.ne_of_lt hlt
  refine wpAny_pyIter_list hl ?_
  have W := Walks.list (prog := prog) (w := w) hh s.heap.objs.size l hne vs.toArray
  have hlen : vs.toArray.size = vs.length := by simp
  rw [hlen] at W
  refine loop_invN J W ?_ ?_ ?_ ?_ ⟨⟨_, Heap.get?_push_size _ rfl, rfl, rfl⟩, hl.at fun o e => Heap.get?_push_of_some _ e⟩ (F.push _) (fun p hp => ⟨Heap.get?_push_of_some _ (N p hp).1, (N p hp).2⟩) hj ?_ ?_
  · intro hm
    rcases List.mem_cons.mp hm with e | hm
    · exact absurd F.ns.lt (e ▸ Nat.lt_irrefl _)
    · exact hlL (List.mem_singleton.mp hm).symm
  · intro b hb
    rw [List.mem_singleton.mp hb]
    exact next_is_new F
  · intro p hp hI
    exact absurd (Heap.lt_size (N p hp).1) ((List.mem_singleton.mp hI) ▸ Nat.lt_irrefl _)
  · intro p hp hI
    rcases List.mem_cons.mp hI with e | hI
    · exact absurd (Heap.lt_size (N p hp).1) (e ▸ Nat.lt_irrefl _)
    · exact hln p hp (List.mem_singleton.mp hI)
  · intro i v m₁ news₁ h tk own _ hP ha ho hJ F₁ N₁
    exact turn i v m₁ news₁ h tk own (by simpa using hP) ha ho hJ F₁ N₁
  · intro m₁ news₁ h tk hJ F₁ N₁
    exact done m₁ news₁ h tk hJ F₁ N₁
end
end Mine
namespace Mine
theorem fr_ps {h₀ h : Heap} {L : Addr} {x : Str} {v : Value} {m₁ : Str → Option Value} {ps : List (Str × Value)} (F : Fr h₀ L h (fun y => if y = x then some v else m₁ y)) (e : ∀ p ∈ ps, m₁ p.1 = some p.2) :
    Fr h₀ L h (fun y => if y = x then some v else kstB m₁ ps y) := by
  have em : (fun y => if y = x then some v else kstB m₁ ps y) = fun y => if y = x then some v else m₁ y := by
    funext y
    by_cases hy : y = x
    · rw [if_pos hy, if_pos hy]
    · rw [if_neg hy, if_neg hy, kstB_eq e fun _ => rfl]
  rw [em]; exact F
theorem fr_ps0 {h₀ h : Heap} {L : Addr} {m₁ : Str → Option Value} {ps : List (Str × Value)} (F : Fr h₀ L h m₁) (e : ∀ p ∈ ps, m₁ p.1 = some p.2) : Fr h₀ L h (kstB m₁ ps) := by
  have em : kstB m₁ ps = m₁ := by funext y; exact kstB_eq e fun _ => rfl
  rw [em]; exact F
theorem news_sub {h₀ h : Heap} {L : Addr} {news news' : List (Addr × Obj)} (N : News h₀ L h news') (hs : ∀ p ∈ news, p ∈ news') : News h₀ L h news := fun p hp => N p (hs p hp)
open PySem.Builtin PySem.Builtin.Str in
theorem gives_find4 (x y : Str) (i j : Int) (t u v v' : Tok) : Gives («str.find» ⟨[.str x t, .str y u, .int i v, .int j v'], []⟩) (.int (match occurrences x y (fromIndex x.length i) (min (fromIndex x.length j) x.length) 1 with | k :: _ => (k : Int) | [] => -1)) := by
  show Gives (match occurrences x y (fromIndex x.length i) (min (fromIndex x.length j) x.length) 1 with | k :: _ => retInt k | [] => (do rule "str.find.not-found"; retInt (-1))) _
  cases occurrences x y (fromIndex x.length i) (min (fromIndex x.length j) x.length) 1 with
  | nil => exact .rule (.of_eq rfl)
  | cons k _ => exact .of_eq rfl
theorem find4 {prog : Program} {w : World} {A : Around} {E : Value → Shared → Prop} {s : Shared} {x y : Str} {t u v v' : Tok} {i : Int} {Q : Value → Shared → Prop}
    (hq : Q (.int (Txt.find3 x y i) s.toks) { s with toks := s.toks + 1 }) : wpAny (model prog w) A (call (.builtin "str.find") [.str x t, .str y u, .int i v, .int (x.length : Int) v']) Q E s := by
  refine call_gives F.slot_str_find (typeIs_str _ _ _) F.entry_str_find (F.args_str_find_4 _ _ _ _) (gives_find4 x y i (x.length : Int) t u v v') ?_
  have e : min (fromIndex x.length (x.length : Int)) x.length = x.length := by
    unfold fromIndex
    rw [if_neg (by omega)]
    omega
  rw [e]
  exact hq
end Mine
namespace Mine
def Stop (P : Prop) : Prop := P
theorem Stop.out {P : Prop} (h : Stop P) : P := h
theorem Stop.inn {P : Prop} (h : P) : Stop P := h
end Mine
namespace Mine
inductive StopAt : String → Prop
  | mk (s : String) : StopAt s
inductive StopCall : Addr → Prop
  | mk (f : Addr) : StopCall f
theorem stopCall_out {M : Model} {A : Around} {Q E : Value → Shared → Prop} {s : Shared} {f : Addr} {pos : List Value} {kw : List (Str × Value)} (_ : StopCall f) (k : Stop (wpAny M A (call (.ref f) pos kw) Q E s)) : wpAny M A (call (.ref f) pos kw) Q E s := k
end Mine
end
section
open PySem PyProof.Rows
namespace Mine
open PySem.Builtin PySem.Builtin.Str PySem.StrLaws
def chr1 (c : Nat) : Str := ⟨#[c]⟩
theorem getD_ne_of {g : List Nat} {sp c : Nat} (h : ∀ v, sp ≤ v → v < g.length → g.getD v 0 ≠ c) : c ∉ g.drop sp := by
  intro hm
  obtain ⟨i, hi, e⟩ := List.mem_iff_getElem.mp hm
  rw [List.getElem_drop] at e
  have hl : sp + i < g.length := by simp at hi; omega
  refine h (sp + i) (by omega) hl ?_
  rw [List.getD_eq_getElem?_getD, List.getElem?_eq_getElem hl]; exact e
theorem scan_fail {g : List Nat} {sp c : Nat} {rem : List Nat} (h : ∀ v, sp ≤ v → v < g.length → g.getD v 0 ≠ c) : ¬ List.Sublist (c :: rem) (g.drop sp) :=
  fun hs => getD_ne_of h (hs.subset (List.mem_cons_self ..))
theorem drop_split {g : List Nat} {k : Nat} (hk : k < g.length) : ∀ d sp, k - sp = d → sp ≤ k → (∀ v, sp ≤ v → v < k → g.getD v 0 ≠ g.getD k 0) →
    ∃ pre, g.drop sp = pre ++ g.getD k 0 :: g.drop (k + 1) ∧ g.getD k 0 ∉ pre
  | 0, sp, hd, h1, _ => by
    have e : sp = k := by omega
    subst e
    refine ⟨[], ?_, by simp⟩
    rw [List.getD_eq_getElem?_getD, List.getElem?_eq_getElem hk]
    simpa using List.drop_eq_getElem_cons hk
  | d + 1, sp, hd, h1, hv => by
    obtain ⟨pre, e, hn⟩ := drop_split hk d (sp + 1) (by omega) (by omega) (fun v a b => hv v (by omega) b)
    have hs : sp < g.length := by omega
    refine ⟨g[sp] :: pre, ?_, ?_⟩
    · rw [List.drop_eq_getElem_cons hs, e]; rfl
    · intro hm
      rcases List.mem_cons.mp hm with q | q
      · refine hv sp (Nat.le_refl _) (by omega) ?_
        rw [q, List.getD_eq_getElem?_getD, List.getElem?_eq_getElem hs]; rfl
      · exact hn q
theorem sub_skip {c : Nat} {rem : List Nat} : ∀ {pre t : List Nat}, c ∉ pre → (List.Sublist (c :: rem) (pre ++ c :: t) ↔ List.Sublist rem t)
  | [], t, _ => by simp [List.cons_sublist_cons]
  | p :: pre, t, h => by
    have h1 : c ≠ p := fun e => h (by rw [e]; exact List.mem_cons_self ..)
    have h2 : c ∉ pre := fun e => h (List.mem_cons_of_mem _ e)
    rw [List.cons_append, ← sub_skip (pre := pre) (t := t) h2]
    constructor
    · intro hs
      cases hs with
      | cons _ hs => exact hs
      | cons_cons _ _ => exact absurd rfl h1
    · exact fun hs => hs.cons _
theorem scan_step {g : List Nat} {sp k c : Nat} {rem : List Nat} (h1 : sp ≤ k) (hk : k < g.length) (hc : g.getD k 0 = c) (hv : ∀ v, sp ≤ v → v < k → g.getD v 0 ≠ c) :
    List.Sublist (c :: rem) (g.drop sp) ↔ List.Sublist rem (g.drop (k + 1)) := by
  subst hc
  obtain ⟨pre, e, hn⟩ := drop_split hk (k - sp) sp rfl h1 hv
  rw [e]; exact sub_skip hn
/-- the want-text of a word -/
def dotsL (word : List Nat) : List Nat := (word.flatMap fun c => [46, 46, 46, c]) ++ [46, 46, 46]
theorem dotsL_nil : dotsL [] = [46, 46, 46] := rfl
theorem dotsL_cons (c : Nat) (r : List Nat) : dotsL (c :: r) = 46 :: 46 :: 46 :: c :: dotsL r := rfl
def dots (word : List Nat) : Str := ⟨(dotsL word).toArray⟩
def d3 : Str := ⟨#[46, 46, 46]⟩
theorem d3_eq : Str.ofString "..." = d3 := by decide +kernel
theorem at_iff (x : Str) (i : Nat) : At x d3 x.length i ↔ (x.cps.toList.drop i).take 3 = [46, 46, 46] := by
  unfold At
  rw [subAt_eq]
  show i + 3 ≤ x.cps.size ∧ ((x.cps.toList.drop i).take 3 == [46, 46, 46]) = true ↔ _
  rw [beq_iff_eq]
  constructor
  · exact fun h => h.2
  · intro h
    refine ⟨?_, h⟩
    have := congrArg List.length h
    simp at this
    omega
theorem sub_at {x : Str} {a : Nat} {p r : List Nat} (h : x.cps.toList.drop a = p ++ r) : strSub x a (a + p.length) = ⟨p.toArray⟩ := by
  refine Str.ext' (Array.toList_inj.mp ?_)
  rw [strSub_toList, h]
  simp
theorem split_chain (x : Str) : ∀ (word p : List Nat) (a f : Nat) (cuts : List Nat), (p = [] ∨ ∃ d, d ≠ 46 ∧ p = [d]) → (∀ d ∈ word, d ≠ 46) → x.cps.toList.drop a = p ++ dotsL word →
    ChainG x d3 x.length a cuts f → (∀ k, f ≤ k → ¬ At x d3 x.length k) → partsFrom x 3 a cuts = ⟨p.toArray⟩ :: (word.map chr1 ++ [⟨#[]⟩])
  | word, p, a, f, cuts, hp, hw, hd, hG, hn => by
    have hat : At x d3 x.length (a + p.length) := by
      rw [at_iff, ← List.drop_drop, hd]
      cases word <;> simp [dotsL]
    have hbefore : ∀ k, a ≤ k → k < a + p.length → ¬ At x d3 x.length k := by
      intro k h1 h2
      rcases hp with rfl | ⟨d, hd46, rfl⟩
      · simp at h2; omega
      · have : k = a := by simp at h2; omega
        subst this
        rw [at_iff, hd]
        intro h
        cases word <;> simp [dotsL] at h <;> exact hd46 h
    cases cuts with
    | nil =>
      have ef : f = a := hG
      exact absurd hat (hn _ (by omega))
    | cons c r =>
      obtain ⟨hac, hc, hno, hG'⟩ := hG
      have ec : c = a + p.length := by
        rcases Nat.lt_trichotomy c (a + p.length) with q | q | q
        · exact absurd hc (hbefore c hac q)
        · exact q
        · exact absurd hat (hno _ (by omega) q)
      subst ec
      show strSub x a (a + p.length) :: partsFrom x 3 (a + p.length + 3) r = _
      rw [sub_at hd]
      congr 1
      have hd2 : x.cps.toList.drop (a + p.length + 3) = (dotsL word).drop 3 := by
        rw [Nat.add_assoc, ← List.drop_drop, hd, ← List.drop_drop]
        simp
      cases word with
      | nil =>
        simp [dotsL] at hd2
        cases r with
        | nil =>
          show [strSub x (a + p.length + 3) x.length] = [⟨#[]⟩]
          congr 1
          refine Str.ext' (Array.toList_inj.mp ?_)
          rw [strSub_toList]
          rw [List.drop_eq_nil_of_le (by simpa using hd2)]
          simp
        | cons c' r' =>
          obtain ⟨h1, h2, _, _⟩ := hG'
          have h3 : c' + 3 ≤ x.cps.size := h2.1
          have h4 : a + p.length + 3 ≤ c' := h1
          omega
      | cons d rest =>
        have hd3 : x.cps.toList.drop (a + p.length + 3) = [d] ++ dotsL rest := by rw [hd2, dotsL_cons]; rfl
        have := split_chain x rest [d] (a + p.length + 3) f r (.inr ⟨d, hw d (List.mem_cons_self ..), rfl⟩) (fun q hq => hw q (List.mem_cons_of_mem _ hq)) hd3 hG' hn
        rw [this]
        rfl
theorem occ_dots (word : List Nat) (lim : Nat) (hl : 1 ≤ lim) : (occurrences (dots word) d3 0 (dots word).length lim).isEmpty = false := by
  rcases occ_head (dots word) d3 lim hl with ⟨_, h⟩ | ⟨i, r, e, _⟩
  · refine absurd ((at_iff _ 0).mpr ?_) (h 0)
    show (dotsL word).take 3 = _
    cases word <;> rfl
  · rw [e]; rfl
theorem split_dots (word : List Nat) (hw : ∀ d ∈ word, d ≠ 46) : Txt.split (dots word) d3 = ⟨#[]⟩ :: (word.map chr1 ++ [⟨#[]⟩]) := by
  obtain ⟨f, hG, hn⟩ := occ_tight (dots word) d3 (by decide)
  unfold Txt.split
  have h1 : (decide ((dots word).length < d3.length) || decide (Builtin.Str.strKind (dots word) < Builtin.Str.strKind d3)) = false := by
    have hk3 : Builtin.Str.strKind d3 = 1 := by decide +kernel
    have hk : 1 ≤ Builtin.Str.strKind (dots word) := by unfold Builtin.Str.strKind; split <;> (try split) <;> omega
    have hlen : 3 ≤ (dots word).length := by
      show 3 ≤ (dotsL word).toArray.size
      simp [dotsL]
    rw [hk3]
    have hl3 : d3.length = 3 := rfl
    simp [hl3]; omega
  rw [h1, if_neg (by decide), if_neg (by rw [occ_dots word _ (by omega)]; decide), partsBetween_eq]
  exact split_chain (dots word) word [] 0 f _ (.inl rfl) hw rfl hG hn
theorem find3_empty (x : Str) (sp : Nat) (h : sp ≤ x.length) : Txt.find3 x ⟨#[]⟩ (sp : Int) = (sp : Int) := by
  unfold Txt.find3
  have e : fromIndex x.length (sp : Int) = sp := by unfold fromIndex; rw [if_neg (by omega)]; omega
  rw [e]
  have hat : At x ⟨#[]⟩ x.length sp := by
    refine ⟨by show sp + 0 ≤ x.length; omega, ?_⟩
    rw [subAt_eq]; rfl
  rcases occ_head_from x ⟨#[]⟩ sp 1 (Nat.le_refl 1) with ⟨_, h2⟩ | ⟨i, r, e2, h3, _, h5⟩
  · exact absurd hat (h2 sp (Nat.le_refl _))
  · rw [e2]
    have : i = sp := by
      rcases Nat.lt_or_ge sp i with q | q
      · exact absurd hat (h5 sp (Nat.le_refl _) q)
      · omega
    rw [this]
end Mine
end
section
open PySem PySem.W PyProof.Rows PySem.Calls PySem.Spec
namespace Mine
open LCg LCt
section
variable {prog : Program} {w : World} {A : Around} {E : Value → Shared → Prop} {s : Shared} {h₀ : Heap} {L : Addr} {m : Str → Option Value} {env : Env}
def SrcS (prog : Program) (w : World) (A : Around) (h₀ : Heap) (L : Addr) (m : Str → Option Value) (env : Env) (elt : Expr) (x : Str) (scope : Scope) (cl : List (Str × Addr)) (Fin : Shared → List Value → List (Addr × Obj) → Prop) (xv : Value) (s₁ : Shared) : Prop :=
  ∃ xt t news, xv = .str xt t ∧ A.handled = none ∧ Fr h₀ L s₁.heap m ∧ News h₀ L s₁.heap news ∧ xt.length ≤ sizeLine ∧
    ∀ s₂ : Shared, (∃ h, s₂ = { s₁ with heap := h }) → CompRest prog w A h₀ L m env elt x scope cl s₂ (fun _ => True) (SignAt xt) (Fin s₂) xt.cps.size 0 [] news
theorem ListComp_S {elt iter : Expr} {x : Str} {px : Pos} {scope : Scope} {cl : List (Str × Addr)} {pos : Pos} {Q : Value → Shared → Prop} (F₀ : Fr h₀ L s.heap m)
    (hclos : closureFor scope env = pure cl) (hcell : ∀ y ∈ scope.names, y.2 ≠ .cell) (hkind : scope.kind = .function)
    (hnames : ∀ y ∈ scope.names, y.2 = .local → scope.names.lookup y.1 = some .local) (hx : scope.names.lookup x = some .local)
    (h : wpAny (model prog w) A (eval iter env) (SrcS prog w A h₀ L m env elt x scope cl (fun s₂ => FinE h₀ L m s₂ Q)) E s)
    (hs : ∀ x, foldedSetIterable iter env x = pure x := by intro _; rfl) :
    wpAny (model prog w) A (eval (.ListComp elt [⟨.Name x px, iter, [], 0⟩] scope pos) env) Q E s := by
  rw [eval_ListComp]
  refine wpAny_comprehension_free (use := none) rfl hs hclos hkind hnames (wpAny_mono h (fun xv s₁ h₁ => ?_) fun _ _ e => e)
  obtain ⟨xt, t, news, rfl, hh, F, N, hsz, R⟩ := h₁
  have up : ∀ o, ∀ b o', s₁.heap.get? b = some o' → (s₁.heap.push o).get? b = some o' := fun o b o' e => Heap.get?_push_of_some _ e
  have fin : ∀ o D C h tk m' ys news', Fr h₀ L h m → News h₀ L h ((D, lst ys) :: news') → Off1 D news' → h.Ns C m' → h₀.get? C = none → h₀.get? D = none → C ≠ L → D ≠ L → C ≠ D → (∀ p ∈ news', p.1 ≠ C) → FinE h₀ L m { s₁ with heap := s₁.heap.push o } Q ys news' →
      ∃ m₁, h.Ns C m₁ ∧ ∀ h'', Heap.SameBut C h h'' → Q (.ref D) { s₁ with heap := h'', toks := tk } := by
    intro o D C h tk m' ys news' F' N' o1 hn hC₀ hD₀ hCL hDL hCD offC fin
    refine ⟨m', hn, fun h'' hs'' => fin D h'' tk (F'.change hs'' hCL hC₀) (fun p hp => ?_) o1⟩
    refine ⟨hs''.extBut _ _ ?_ (N' p hp).1, (N' p hp).2⟩
    rcases List.mem_cons.mp hp with rfl | hp
    · exact Ne.symm hCD
    · exact offC p hp
  have hlt : ∀ o, ∀ b ∈ [s₁.heap.objs.size], b < (s₁.heap.push o).objs.size := by
    intro o b hb
    rw [List.mem_singleton.mp hb, Heap.size_push]; exact Nat.lt_succ_self _
  cases ha : xt.cps.all (· < 128)
  · refine wpAny_pyIter_wide ha ?_
    refine block_U (S := fun _ => True) (Walks.strWide hh _ xt t) hsz (fun i h st => by obtain ⟨o, e, _⟩ := st; exact ⟨o, e⟩)
      (fun i h h' o nw st e e' _ _ _ => (Walks.strWide (prog := prog) (w := w) (A := A) hh _ xt t).frame i h h' st fun b hb o' eo => by rw [List.mem_singleton.mp hb] at eo ⊢; rw [e] at eo; rw [e', eo])
      hcell hkind hx ⟨_, Heap.get?_push_size _ rfl, rfl, rfl⟩ (hlt _) (F.keeps (up _)) (N.grown (up _)) (Nat.ne_of_lt F.ns.lt) (next_is_new F) (fun p hp => Nat.ne_of_lt (Heap.lt_size (N p hp).1)) trivial (R _ ⟨_, rfl⟩) ?_
    intro D C h tk m' ys news' F' N' o1 hn hC₀ hD₀ hCL hDL hCD offC f
    exact fin _ D C h tk m' ys news' F' N' o1 hn hC₀ hD₀ hCL hDL hCD offC f
  · refine wpAny_pyIter_ascii ha ?_
    refine block_U (S := fun _ => True) (Walks.strAscii hh _ xt t) hsz (fun i h st => by obtain ⟨o, e, _⟩ := st; exact ⟨o, e⟩)
      (fun i h h' o nw st e e' _ _ _ => (Walks.strAscii (prog := prog) (w := w) (A := A) hh _ xt t).frame i h h' st fun b hb o' eo => by rw [List.mem_singleton.mp hb] at eo ⊢; rw [e] at eo; rw [e', eo])
      hcell hkind hx ⟨_, Heap.get?_push_size _ rfl, rfl, rfl⟩ (hlt _) (F.keeps (up _)) (N.grown (up _)) (Nat.ne_of_lt F.ns.lt) (next_is_new F) (fun p hp => Nat.ne_of_lt (Heap.lt_size (N p hp).1)) trivial (R _ ⟨_, rfl⟩) ?_
    intro D C h tk m' ys news' F' N' o1 hn hC₀ hD₀ hCL hDL hCD offC f
    exact fin _ D C h tk m' ys news' F' N' o1 hn hC₀ hD₀ hCL hDL hCD offC f
/-- each sign's element a text of its own -/
theorem rest_S {elt : Expr} {x : Str} {scope : Scope} {cl : List (Str × Addr)} {S : List (Addr × Obj) → Prop} {Fin : List Value → List (Addr × Obj) → Prop} {news : List (Addr × Obj)} {xt : Str} (g : Nat → Str)
    (turn : ∀ c t I oI C oC D m₂ ys h tk (E' : Value → Shared → Prop), c ∈ xt.cps.toList → NsObj oC m₂ → m₂ x = some (.str ⟨#[c]⟩ t) → Fr h₀ L h m → News h₀ L h ((I, oI) :: (C, oC) :: (D, lst ys) :: news) → Off3 I C D news → ((@Ne Nat I C) ∧ (@Ne Nat I D) ∧ (@Ne Nat C D)) →
      wpAny (model prog w) A (eval elt (compEnvC scope cl C env)) (CompEnd h₀ L m { s with heap := h, toks := tk } I oI C oC D (lst ys) S (fun y news' => KCtEl news (g c) y news')) E' { s with heap := h, toks := tk })
    (fin : ∀ ys, StrsAre ys (xt.cps.toList.map g) → Fin ys news) : CompRest prog w A h₀ L m env elt x scope cl s S (SignAt xt) Fin xt.cps.size 0 [] news := by
  have key : ∀ (j i : Nat) (ys : List Value), i + j = xt.cps.size → StrsAre ys ((xt.cps.toList.take i).map g) → CompRest prog w A h₀ L m env elt x scope cl s S (SignAt xt) Fin j i ys news := by
    intro j
    induction j with
    | zero =>
      intro i ys hi hy
      rw [List.take_of_length_le (by simp; omega)] at hy
      exact CompRest.zero (fin ys hy)
    | succ j ih =>
      intro i ys hi hy
      refine CompRest.succ ?_
      intro v I oI C oC D m₂ h tk E' hv hC hx F N off ne
      obtain ⟨c, u, hc, rfl⟩ := hv
      have hc' : xt.cps.toList[i]? = some c := by simpa using hc
      refine wpAny_mono (turn c u I oI C oC D m₂ ys h tk E' (List.mem_of_getElem? hc') hC hx F N off ne) (fun y s₂ hq => ?_) fun _ _ e => e
      obtain ⟨h', tk', nw, e, F', N', off', hS, hn, t', hy'⟩ := hq
      rw [hn] at N' off' hS
      refine ⟨h', tk', news, e, F', N', off', hS, ?_⟩
      rw [hy']
      refine ih (i + 1) _ (by omega) ?_
      rw [List.take_add_one, hc']
      simpa using kct_snoc hy
  exact key _ 0 [] (by omega) (by simp only [List.take_zero, List.map_nil]; exact .nil)
end
end Mine
end
section
open PySem PySem.W PyProof.Rows
namespace Mine
local macro_rules | `(tactic| k_all) => `(tactic| assumption)

theorem strs_split {l : List (Str × Tok)} {word : List Nat} (h : l.map (·.1) = ⟨#[]⟩ :: (word.map chr1 ++ [⟨#[]⟩])) :
    ∃ t0 te lw, l = (⟨#[]⟩, t0) :: (lw ++ [(⟨#[]⟩, te)]) ∧ lw.map (·.1) = word.map chr1 := by
  cases l with
  | nil => simp at h
  | cons p r =>
    obtain ⟨y, t⟩ := p
    simp only [List.map_cons, List.cons.injEq] at h
    obtain ⟨rfl, h⟩ := h
    obtain ⟨lw, le, rfl, h1, h2⟩ := List.map_eq_append_iff.mp h
    match le, h2 with
    | [(y, te)], h2 =>
      simp at h2
      subst h2
      exact ⟨t, te, lw, rfl, h1⟩
def remL (l : List (Str × Tok)) (i : Nat) : List Nat := ((l.drop i).map (fun p => p.1.cps.toList)).flatten
def EllJ (l : List (Str × Tok)) (word : List Nat) (got : Str) (t2 : Tok) (rest : List (Addr × Obj)) (i : Nat) (m₁ : Str → Option Value) (news₁ : List (Addr × Obj)) : Prop :=
  news₁ = rest ∧ ∃ (sp : Nat) (t te : Tok), sp ≤ got.length ∧ (∀ p ∈ [(Str.ofString "got", Value.str got t2), (Str.ofString "endpos", Value.int (got.length : Int) te), (Str.ofString "startpos", Value.int (sp : Int) t)], m₁ p.1 = some p.2) ∧
    ((remL l i).Sublist (got.cps.toList.drop sp) ↔ word.Sublist got.cps.toList)
section
variable {w : World} {loose : List Str} {mean : ExcName → Option Value} {mg mb : Str → Option Value} {dp un : Nat} {gd : Option (List Code)} {cn : Str} {cs : Scope} {a : Addr} {ccd : Value} {cl : List (Str × Addr)} {outer : List Env} {A₀ : Around} {base h₀ : Heap} {L : Addr} {m : Str → Option Value} {s : Shared} {Q E : Value → Shared → Prop}
variable (B : Below A₀ base outer h₀) (F : Fr h₀ L s.heap m) (X : Frag.In (hd.heap_39 w.params) h₀) (T : Top topProg loose mean mg mb h₀) (hk : cs.kind = .function)
include B F X T hk
set_option maxRecDepth 100000 in
set_option maxHeartbeats 4000000 in
theorem ellipsis {rest : List (Addr × Obj)} {got : Str} {t1 t2 : Tok} {word : List Nat}
    (N : News h₀ L s.heap rest)
    (hsz : word.length < 100) (hgz : got.length < 1000) (hw46 : ∀ d ∈ word, d ≠ 46)
    (hdp : dp + 1 < recursionLimit) (hu : un + 8 < cLine)
    (hret : ∀ h' tk', Fr h₀ L h' m → News h₀ L h' rest → Q (.bool (word.isSublist got.cps.toList)) { s with heap := h', toks := tk' }) :
    wpAny (model PySem.Challenge.rw_pg0135_01.row.prog w) (ktrTop dp un gd cn cs L a ccd cl outer) (call (.ref 21) [.str (dots word) t1, .str got t2]) Q E s := by
  w_on
  revert X; k_fill; intro X
  have hin : (Builtin.Str.occurrences (dots word) (Str.ofString "...") 0 (dots word).length 1).isEmpty = false := by rw [d3_eq]; exact occ_dots word 1 (Nat.le_refl _)
  have hspl : Txt.split (dots word) (Str.ofString "...") = ⟨#[]⟩ :: (word.map chr1 ++ [⟨#[]⟩]) := by rw [d3_eq]; exact split_dots word hw46
  have hlen : (dots word).length < 1000 := by
    show (dotsL word).toArray.size < 1000
    have : (word.flatMap fun c => [46, 46, 46, c]).length = 4 * word.length := by
      clear hsz hw46 hin hspl hret
      induction word with
      | nil => rfl
      | cons c r ih => rw [List.flatMap_cons, List.length_append, ih]; simp; omega
    simp only [dotsL, List.size_toArray, List.length_append, this, List.length_cons, List.length_nil]; omega
  generalize dots word = want at hin hspl hlen
  refine wpAny_call ?_
  k_dflt ktr_enter
  rename_i g1 L1 hp1 FG1 F1 N1 B1 X1 T1
  have hlt1 : ∀ p ∈ rest, p.1 ≠ hp1.objs.size := fun p hp => Nat.ne_of_lt (Heap.lt_size (N1 p hp).1)
  refine wpAny_mono (E := fun _ _ => False) ?_ (fun _ _ h => h) (fun _ _ h => h.elim)
  k_steps
  · rename (List.map _ _ = Txt.split _ _) => hl
    obtain ⟨t0, te, lw, rfl, hlw⟩ := strs_split (hl.trans hspl)
    rename (_[_]? = some _) => hy
    simp at hy
    subst hy
    k_steps
    have hend : ∀ k : Nat, k = lw.length + 1 → (List.map (fun x => x.fst) (((⟨#[]⟩ : Str), t0) :: (lw ++ [((⟨#[]⟩ : Str), te)]))).getD k Str.empty = ⟨#[]⟩ := by
      intro k hk; subst hk; simp [List.getD]
    rw [hend _ (by simp; omega)]
    k_steps
    refine For_invV (hE := PassesOwn.never) g1 (by rfl) (by rfl) ?_
    walk1
    rename News g1 L1 _ _ => NN
    rename Fr g1 L1 _ _ => FF
    have hitems : ∀ y ∈ (((⟨#[]⟩ : Str), t0) :: (lw ++ [((⟨#[]⟩ : Str), te)])), y.1 = ⟨#[]⟩ ∨ ∃ c, y.1 = ⟨#[c]⟩ := by
      intro y hy
      have hy' := List.mem_map_of_mem (f := Prod.fst) hy
      rw [hl, hspl] at hy'
      rcases List.mem_cons.mp hy' with q | q
      · exact .inl q
      · rcases List.mem_append.mp q with q | q
        · obtain ⟨c, _, e⟩ := List.mem_map.mp q
          exact .inr ⟨c, e.symm⟩
        · exact .inl (List.mem_singleton.mp q)
    have hrem : remL (((⟨#[]⟩ : Str), t0) :: (lw ++ [((⟨#[]⟩ : Str), te)])) 0 = word := by
      unfold remL
      have e1 : (((⟨#[]⟩ : Str), t0) :: (lw ++ [((⟨#[]⟩ : Str), te)])).map (fun p => p.1.cps.toList) = ((((⟨#[]⟩ : Str), t0) :: (lw ++ [((⟨#[]⟩ : Str), te)])).map (·.1)).map (fun y => y.cps.toList) := by rw [List.map_map]; rfl
      rw [List.drop_zero, e1, hl, hspl]
      simp only [List.map_cons, List.map_append, List.map_map, List.map_nil, List.flatten_cons, List.flatten_append, List.flatten_nil, List.append_nil]
      show [] ++ (word.map (fun c => [c])).flatten = word
      rw [List.nil_append]
      clear hl hspl hlw hret hsz hw46
      induction word with
      | nil => rfl
      | cons c r ih => rw [List.map_cons, List.flatten_cons, ih]; rfl
    generalize hL : (((⟨#[]⟩ : Str), t0) :: (lw ++ [((⟨#[]⟩ : Str), te)])) = l at *
    refine iter_list_led (vs := strValues l) (EllJ l word got t2 rest) rfl (News.isList NN (.tail _ (.head _))) (fun p hp => hlt1 p hp) (NN _ (.tail _ (.head _))).2.1 FF (news_sub NN (fun p hp => .tail _ (.tail _ hp))) ?hj ?turn ?done
    case hj =>
      refine ⟨rfl, 0, _, _, Nat.zero_le _, List.forall_mem_cons.mpr ⟨rfl, List.forall_mem_cons.mpr ⟨rfl, List.forall_mem_cons.mpr ⟨rfl, List.forall_mem_nil _⟩⟩⟩, ?_⟩
      rw [hrem, List.drop_zero]
    case turn =>
      intro i v m₁ news₁ h tk own hv _ hoff hJ F₁ N₁
      obtain ⟨rfl, sp, t, te', hsp, hps, hrel⟩ := hJ
      have F₂ := fr_ps F₁ hps
      clear F₁ FF NN
      dsimp only [kstB] at F₂
      obtain ⟨y, ty, hly, rfl⟩ : ∃ y ty, l[i]? = some (y, ty) ∧ v = .str y ty := by
        unfold strValues at hv
        rw [List.getElem?_map] at hv
        cases hq : l[i]? with
        | none => rw [hq] at hv; cases hv
        | some p => rw [hq] at hv; exact ⟨p.1, p.2, rfl, (Option.some.inj hv).symm⟩
      have hremi : remL l i = y.cps.toList ++ remL l (i + 1) := by
        unfold remL
        have hi : i < l.length := by
          rcases Nat.lt_or_ge i l.length with q | q
          · exact q
          · rw [List.getElem?_eq_none q] at hly; cases hly
        rw [List.drop_eq_getElem_cons hi, List.map_cons, List.flatten_cons]
        rw [List.getElem?_eq_getElem hi] at hly
        rw [Option.some.inj hly]
      rw [hremi] at hrel
      have efi : fromIndex got.length (sp : Int) = sp := by unfold fromIndex; rw [if_neg (by omega)]; omega
      have hgl : got.cps.toList.length = got.length := by simp [Str.length]
      have hgD : ∀ v, got.cps.getD v 0 = got.cps.toList.getD v 0 := by
        intro v; simp [Array.getD_eq_getD_getElem?, List.getD_eq_getElem?_getD]
      k_steps
      refine find4 ?_
      have hy : y = ⟨#[]⟩ ∨ ∃ c, y = ⟨#[c]⟩ := hitems (y, ty) (List.mem_of_getElem? hly)
      rcases hy with hy | ⟨c, hy⟩
      · have e : Txt.find3 got y (sp : Int) = (sp : Int) := by rw [hy]; exact find3_empty _ _ hsp
        have hyl : y.length = 0 := by rw [hy]; rfl
        rw [e]
        rw [show y.cps.toList = [] by rw [hy], List.nil_append] at hrel
        clear hy
        k_steps
        exact ⟨_, _, _, _, news₁, rfl, by assumption, by assumption, fun p hp => List.mem_append_left _ hp, fun p hp => List.mem_append_right _ hp, rfl,
          ⟨rfl, sp, _, _, hsp, List.forall_mem_cons.mpr ⟨rfl, List.forall_mem_cons.mpr ⟨rfl, List.forall_mem_cons.mpr ⟨congrArg (fun z => some (Value.int z _)) (show (sp : Int) + (y.length : Int) = (sp : Int) by omega), List.forall_mem_nil _⟩⟩⟩, hrel⟩⟩
      · rw [show y.cps.toList = [c] by rw [hy]] at hrel
        have hyl : y.length = 1 := by rw [hy]; rfl
        rcases StrLaws.find3_spec got c sp with ⟨e, hno⟩ | ⟨k, e, h1, h2, h3, h4⟩
        · rw [← hy] at e
          rw [e]
          have hfin : word.isSublist got.cps.toList = false := by
            rw [← Bool.not_eq_true, List.isSublist_iff_sublist, ← hrel]
            exact scan_fail (fun v a b => by rw [← hgD]; exact hno v (by rw [efi]; exact a) (by omega))
          k_steps
          rw [hfin] at hret
          exact hret _ _ (by assumption) (news_sub (by assumption) fun p hp => List.mem_append_left _ hp)
        · rw [← hy] at e
          rw [e]
          rw [efi] at h1 h4
          have hrel' := (scan_step (rem := remL l (i + 1)) h1 (by omega) (by rw [← hgD]; exact h3) (fun v a b => by rw [← hgD]; exact h4 v a b)).symm.trans hrel
          clear hy
          k_steps
          exact ⟨_, _, _, _, news₁, rfl, by assumption, by assumption, fun p hp => List.mem_append_left _ hp, fun p hp => List.mem_append_right _ hp, rfl,
            ⟨rfl, k + 1, _, _, h2, List.forall_mem_cons.mpr ⟨rfl, List.forall_mem_cons.mpr ⟨rfl, List.forall_mem_cons.mpr ⟨congrArg (fun z => some (Value.int z _)) (show (k : Int) + (y.length : Int) = ((k + 1 : Nat) : Int) by omega), List.forall_mem_nil _⟩⟩⟩, hrel'⟩⟩
    case done =>
      intro m₁ news₁ h tk hJ F₁ N₁
      obtain ⟨rfl, sp, t, te', hsp, hps, hrel⟩ := hJ
      have hfin : word.isSublist got.cps.toList = true := by
        rw [List.isSublist_iff_sublist, ← hrel]
        unfold remL
        rw [List.drop_eq_nil_of_le (by simp [strValues])]
        simp
      clear FF NN
      k_steps
      rw [hfin] at hret
      exact hret _ _ (by assumption) (by assumption)
  · rename (List.map _ _ = Txt.split _ _) => hl
    obtain ⟨t0, te, lw, rfl, hlw⟩ := strs_split (hl.trans hspl)
    rename (¬ 2 ≤ _) => hlt
    exfalso; apply hlt; simp; omega
end
end Mine
end
section
open PySem PySem.W PyProof.Rows
namespace Mine
local macro_rules | `(tactic| k_all) => `(tactic| assumption)
local macro_rules | `(tactic| walk_at "call builtin:list.append") => `(tactic| (k_here; k_dflt (refine' append_K ?k1 ?k2 ?k3 ?_ ?z; (case k1 => k_asm); (case k2 => k_asm); (case k3 => k_upd); (case z => first | size_fits | (rw [sizeLine_eq]; (try simp only [List.size_toArray, Array.size_push]); omega))); intro h' F' N'; (try k_sweep)))
theorem join_nil_eq : ∀ l : List Str, Txt.join (Str.ofString "") l = ⟨(l.flatMap fun y => y.cps.toList).toArray⟩ := by
  intro l
  have e0 : Str.ofString "" = ⟨#[]⟩ := by decide +kernel
  rw [e0]
  unfold Txt.join
  rw [StrLaws.glued_eq_join]
  induction l with
  | nil => rfl
  | cons x r ih =>
    cases r with
    | nil => refine Str.ext' (Array.toList_inj.mp ?_); simp [Str.join]
    | cons y r =>
      show x ++ ⟨#[]⟩ ++ Str.join ⟨#[]⟩ (y :: r) = _
      rw [ih]
      refine Str.ext' (Array.toList_inj.mp ?_)
      simp [Str.cps_append]
theorem dots_eq (word : Str) : (⟨((word.cps.toList.map fun c => Str.ofString "..." ++ (⟨#[c]⟩ : Str)).flatMap fun y => y.cps.toList).toArray⟩ : Str) ++ Str.ofString "..." = dots word.cps.toList := by
  rw [d3_eq]
  refine Str.ext' (Array.toList_inj.mp ?_)
  rw [Str.cps_append, Array.toList_append]
  show List.flatMap _ _ ++ [46, 46, 46] = dotsL word.cps.toList
  unfold dotsL
  congr 1
  rw [List.flatMap_map]
  rfl
section
variable {w : World} {loose : List Str} {mean : ExcName → Option Value} {mg mb : Str → Option Value} {dp un : Nat} {gd : Option (List Code)} {cn : Str} {cs : Scope} {a : Addr} {ccd : Value} {cl : List (Str × Addr)} {outer : List Env} {A₀ : Around} {base h₀ : Heap} {L : Addr} {m : Str → Option Value} {s : Shared} {Q E : Value → Shared → Prop}
variable (B : Below A₀ base outer h₀) (F : Fr h₀ L s.heap m) (X : Frag.In (hd.heap_39 w.params) h₀) (T : Top topProg loose mean mg mb h₀) (hk : cs.kind = .function)
include B F X T hk
set_option maxRecDepth 100000 in
set_option maxHeartbeats 4000000 in
theorem stands {q n : Nat} {its : Array Value} {rest : List (Addr × Obj)} {word text : Str} {t1 t2 : Tok}
    (N : News h₀ L s.heap ((q, listOf its n) :: rest)) (hq : ∀ p ∈ rest, p.1 ≠ q) (hz : its.size ≤ 1000)
    (hsz : word.length < 100) (hgz : text.length < 1000) (hw46 : ∀ d ∈ word.cps.toList, d ≠ 46)
    (hdp : dp + 2 < recursionLimit) (hu : un + 16 < cLine)
    (hret : ∀ h' tk', Fr h₀ L h' m → News h₀ L h' ((q, listOf (its.push (.str word t1)) (n + 1)) :: rest) → Q (.bool (word.cps.toList.isSublist text.cps.toList)) { s with heap := h', toks := tk' }) :
    wpAny (model PySem.Challenge.rw_pg0135_01.row.prog w) (ktrTop dp un gd cn cs L a ccd cl outer) (call (.ref 96) [.str word t1, .str text t2, .ref q]) Q E s := by
  w_on
  revert X; k_fill; intro X
  refine wpAny_call ?_
  k_dflt ktr_enter
  rename_i g1 L1 hp1 FG1 F1 N1 B1 X1 T1
  refine wpAny_mono (E := fun _ _ => False) ?_ (fun _ _ h => h) (fun _ _ h => h.elim)
  k_with_none
  k_with "call ref" => (refine Stop.out ?_)
  k_with "eval ListComp" => (refine Stop.out ?_)
  k_steps
  refine Stop.inn ?_
  have hsz' : word.length ≤ sizeLine := by rw [sizeLine_eq]; omega
  refine ListComp_S (h₀ := g1) (L := L1) (by k_asm) (by with_unfolding_all rfl) (by decide) (by rfl) (by decide) (by rfl) ?_
  walk1
  rename News g1 L1 _ _ => NN
  rename Fr g1 L1 _ _ => FF
  refine ⟨word, _, _, rfl, rfl, FF, NN, hsz', fun s₂ ⟨hh2, e2⟩ => e2 ▸ ?_⟩
  refine rest_S (fun c => Str.ofString "..." ++ ⟨#[c]⟩) ?_ ?_
  · intro c t I oI C oC D m₂ ys h tk E' hc hC hx F₂ N₂ off ne
    clear FF NN
    k_steps
    exact ⟨h, _, _, rfl, F₂, N₂, off, trivial, rfl, _, rfl⟩
  · intro ys hys D h tk F₂ N₂ off
    clear FF NN
    k_steps
    refine join_list (News.isList N₂ (.head _)) (by simpa using hys) ?hok ?_
    case hok =>
      have e3 : (Str.ofString "").length = 0 := by decide +kernel
      rw [e3, Nat.mul_zero, Nat.add_zero, List.map_map]
      have e4 : (Str.length ∘ fun c => Str.ofString "..." ++ (⟨#[c]⟩ : Str)) = fun _ => 4 := by
        funext c; show (Str.ofString "..." ++ (⟨#[c]⟩ : Str)).length = 4; rw [d3_eq]; rfl
      rw [e4, List.map_const', List.sum_replicate_nat]
      have : word.cps.toList.length = word.length := by simp [Str.length]
      omega
    intro t' k
    rw [join_nil_eq]
    have hdl := dots_eq word
    have hlen : (⟨((word.cps.toList.map fun c => Str.ofString "..." ++ (⟨#[c]⟩ : Str)).flatMap fun y => y.cps.toList).toArray⟩ : Str).length ≤ 1000 := by
      have h1 := congrArg Str.length hdl
      rw [Str.length_append] at h1
      have h2 : (dots word.cps.toList).length ≤ 1000 := by
        have : (word.cps.toList.flatMap fun c => [46, 46, 46, c]).length = 4 * word.length := by
          have e5 : word.length = word.cps.toList.length := by simp [Str.length]
          rw [e5]
          generalize word.cps.toList = l
          induction l with
          | nil => rfl
          | cons c r ih => rw [List.flatMap_cons, List.length_append, ih]; simp; omega
        show (dotsL word.cps.toList).toArray.size ≤ 1000
        simp only [dotsL, List.size_toArray, List.length_append, this, List.length_cons, List.length_nil]; omega
      omega
    generalize (⟨((word.cps.toList.map fun c => Str.ofString "..." ++ (⟨#[c]⟩ : Str)).flatMap fun y => y.cps.toList).toArray⟩ : Str) = jj at hdl hlen ⊢
    k_steps
    refine Stop.inn ?_
    rw [hdl]
    have hwl : word.cps.toList.length = word.length := by simp [Str.length]
    refine ellipsis B1 F₂ X1 T1 rfl (news_sub N₂ (fun p hp => .tail _ hp)) (by omega) hgz hw46 (by omega) (by show un + 3 + 8 < cLine; omega) ?_
    intro h' tk' F₃ N₃
    k_steps
    exact hret _ _ (by assumption) (by assumption)
theorem stands_in {pre tl : List (Addr × Obj)} {q n : Nat} {its : Array Value} {word text : Str} {t1 t2 : Tok}
    (N : News h₀ L s.heap (pre ++ (q, listOf its n) :: tl)) (hp : ∀ p ∈ pre, p.1 ≠ q) (ht : ∀ p ∈ tl, p.1 ≠ q) (hz : its.size ≤ 1000)
    (hsz : word.length < 100) (hgz : text.length < 1000) (hw46 : ∀ d ∈ word.cps.toList, d ≠ 46)
    (hdp : dp + 2 < recursionLimit) (hu : un + 16 < cLine)
    (hret : ∀ h' tk', Fr h₀ L h' m → News h₀ L h' (pre ++ (q, listOf (its.push (.str word t1)) (n + 1)) :: tl) → Q (.bool (word.cps.toList.isSublist text.cps.toList)) { s with heap := h', toks := tk' }) :
    wpAny (model PySem.Challenge.rw_pg0135_01.row.prog w) (ktrTop dp un gd cn cs L a ccd cl outer) (call (.ref 96) [.str word t1, .str text t2, .ref q]) Q E s := by
  refine stands B F X T hk (n := n) (rest := pre ++ tl) (news_sub N ?_) ?_ hz hsz hgz hw46 hdp hu ?_
  · intro p hp'
    rcases List.mem_cons.mp hp' with e | hp'
    · rw [e]; exact List.mem_append_right _ (.head _)
    · rcases List.mem_append.mp hp' with h | h
      · exact List.mem_append_left _ h
      · exact List.mem_append_right _ (.tail _ h)
  · intro p hp'
    rcases List.mem_append.mp hp' with h | h
    · exact hp p h
    · exact ht p h
  · intro h' tk' F' N'
    refine hret h' tk' F' (news_sub N' ?_)
    intro p hp'
    rcases List.mem_append.mp hp' with h | h
    · exact .tail _ (List.mem_append_left _ h)
    · rcases List.mem_cons.mp h with e | h
      · rw [e]; exact .head _
      · exact .tail _ (List.mem_append_right _ h)
  k_with_none
end
end Mine
end
section
open PySem PyProof.Rows
namespace Mine
/-- how many questions a merging asks -/
def msteps (p q : Nat → Bool) : List Nat → Nat
  | [] => 0
  | h :: t => if (h :: t).any p && (h :: t).any q then 1 + msteps p q t else 0
theorem msteps_stop {p q : Nat → Bool} : ∀ {l : List Nat}, (l.filter p = [] ∨ l.filter q = []) → msteps p q l = 0
  | [], _ => rfl
  | h :: t, hl => by
    unfold msteps
    rw [if_neg]
    rw [Bool.and_eq_true, List.any_eq_true, List.any_eq_true]
    rintro ⟨⟨a, ha, hpa⟩, b, hb, hqb⟩
    rcases hl with e | e
    · exact absurd (List.mem_filter.mpr ⟨ha, hpa⟩) (by rw [e]; simp)
    · exact absurd (List.mem_filter.mpr ⟨hb, hqb⟩) (by rw [e]; simp)
theorem msteps_go {p q : Nat → Bool} {h : Nat} {t : List Nat} (h1 : (h :: t).filter p ≠ []) (h2 : (h :: t).filter q ≠ []) : msteps p q (h :: t) = 1 + msteps p q t := by
  rw [msteps, if_pos]
  rw [Bool.and_eq_true, List.any_eq_true, List.any_eq_true]
  obtain ⟨a, ha⟩ := List.exists_mem_of_ne_nil _ h1
  obtain ⟨b, hb⟩ := List.exists_mem_of_ne_nil _ h2
  exact ⟨⟨a, List.mem_filter.mp ha⟩, b, List.mem_filter.mp hb⟩
theorem filter_of_all {p : Nat → Bool} {l : List Nat} (h : ∀ a ∈ l, p a = true) : l.filter p = l := List.filter_eq_self.mpr h
/-- the answer to a merging's question -/
theorem merge_q {p q : Nat → Bool} {text wd t one' : List Nat} {h o : Nat} (dis : ∀ c, p c = true → q c = false)
    (hP : text.filter (fun c => p c || q c) = wd ++ h :: t) (ho : (h :: t).filter p = o :: one') :
    (wd ++ o :: (h :: t).filter q).isSublist text = p h := by
  have hsubT : (wd ++ h :: t).Sublist text := by rw [← hP]; exact List.filter_sublist
  have hmem : ∀ c ∈ wd ++ h :: t, (p c || q c) = true := by
    intro c hc; rw [← hP] at hc; exact (List.mem_filter.mp hc).2
  cases hph : p h with
  | true =>
    rw [List.isSublist_iff_sublist]
    have hqh : q h = false := dis h hph
    rw [List.filter_cons, if_pos hph] at ho
    injection ho with e1 e2
    subst e1
    rw [List.filter_cons, if_neg (by rw [hqh]; decide)]
    refine List.Sublist.trans ?_ hsubT
    exact (List.append_sublist_append_left _).mpr (List.cons_sublist_cons.mpr List.filter_sublist)
  | false =>
    rw [← Bool.not_eq_true, List.isSublist_iff_sublist]
    intro hs
    have hqh : q h = true := by have := hmem h (by simp); rw [hph] at this; simpa using this
    have hpo : p o = true := (List.mem_filter.mp (show o ∈ (h :: t).filter p by rw [ho]; simp)).2
    have hall : ∀ c ∈ wd ++ o :: (h :: t).filter q, (p c || q c) = true := by
      intro c hc
      rcases List.mem_append.mp hc with hc | hc
      · exact hmem c (List.mem_append_left _ hc)
      · rcases List.mem_cons.mp hc with rfl | hc
        · rw [hpo]; rfl
        · rw [(List.mem_filter.mp hc).2]; simp
    have hs2 := hs.filter (fun c => p c || q c)
    rw [filter_of_all hall, hP, List.append_sublist_append_left] at hs2
    have hne : o ≠ h := by rintro rfl; rw [hpo] at hph; cases hph
    have hs3 : (o :: (h :: t).filter q).Sublist t := by
      cases hs2 with
      | cons _ hs => exact hs
      | cons_cons _ _ => exact absurd rfl hne
    have hs4 := ((List.sublist_cons_self o _).trans hs3).filter q
    rw [filter_of_all (p := q) (fun a ha => (List.mem_filter.mp ha).2)] at hs4
    have hl := hs4.length_le
    rw [List.filter_cons, if_pos hqh, List.length_cons] at hl
    omega
theorem merge_end {p q : Nat → Bool} {wd tl P : List Nat} (hP : P = wd ++ tl) (hall : ∀ c ∈ P, (p c || q c) = true) (dis : ∀ c, p c = true → q c = false)
    (hend : tl.filter p = [] ∨ tl.filter q = []) : wd ++ tl.filter p ++ tl.filter q = P := by
  have hm : ∀ c ∈ tl, (p c || q c) = true := fun c hc => hall c (by rw [hP]; exact List.mem_append_right _ hc)
  rcases hend with e | e
  · have : ∀ c ∈ tl, q c = true := by
      intro c hc
      have h1 := hm c hc
      have h2 : p c = false := by
        cases hpc : p c with
        | false => rfl
        | true => exact absurd (List.mem_filter.mpr ⟨hc, hpc⟩) (by rw [e]; simp)
      rw [h2] at h1; simpa using h1
    rw [e, filter_of_all this, hP, List.append_nil]
  · have : ∀ c ∈ tl, p c = true := by
      intro c hc
      have h1 := hm c hc
      have h2 : q c = false := by
        cases hpc : q c with
        | false => rfl
        | true => exact absurd (List.mem_filter.mpr ⟨hc, hpc⟩) (by rw [e]; simp)
      rw [h2] at h1; simpa using h1
    rw [e, filter_of_all this, hP, List.append_nil]
def sOf (l : List Nat) : Str := ⟨l.toArray⟩
theorem sOf_length (l : List Nat) : (sOf l).length = l.length := by simp [sOf, Str.length]
theorem sOf_cps (l : List Nat) : (sOf l).cps.toList = l := rfl
theorem sOf_append (a b : List Nat) : sOf a ++ sOf b = sOf (a ++ b) := by
  refine Str.ext' (Array.toList_inj.mp ?_)
  rw [Str.cps_append, Array.toList_append]; rfl
theorem sOf_toList (x : Str) : sOf x.cps.toList = x := by
  refine Str.ext' ?_; simp [sOf]
theorem sOf_eq_empty {l : List Nat} : (sOf l == Str.ofString "") = l.isEmpty := by
  have e : Str.ofString "" = sOf [] := by decide +kernel
  rw [e]
  cases l with
  | nil => rfl
  | cons a r =>
    rw [beq_eq_false_iff_ne.mpr]; rfl
    intro h
    have := congrArg (fun s : Str => s.cps.toList) h
    simp [sOf] at this

theorem slice1 (c : Nat) (r : List Nat) : PySem.StrLaws.sliceText (sOf (c :: r)) (some 1) none = sOf r := by
  rw [StrLaws.sliceText_from (by simp [sOf]; omega)]
  simp [sOf]
end Mine
end
section
open PySem PySem.W PyProof.Rows
namespace Mine
local macro_rules | `(tactic| k_all) => `(tactic| assumption)
local macro_rules | `(tactic| walk_at "call builtin:list.append") => `(tactic| (k_here; k_dflt (refine' append_K ?k1 ?k2 ?k3 ?_ ?z; (case k1 => k_asm); (case k2 => k_asm); (case k3 => k_upd); (case z => first | size_fits | (rw [sizeLine_eq]; (try simp only [List.size_toArray, Array.size_push]); omega))); intro h' F' N'; (try k_sweep)))
theorem item0_eq (o : Nat) (l : List Nat) : Txt.item (sOf (o :: l)) 0 = sOf [o] := by
  unfold Txt.item Txt.charAt
  rw [StrLaws.at_nonneg (n := o) (by omega) (by simp [sOf])]
  rfl
theorem slice1_eq (o : Nat) (l : List Nat) : Txt.slice (sOf (o :: l)) (some 1) none = sOf l := slice1 o l
def MerJ (p r : Nat → Bool) (text : Str) (t3 : Tok) (q n0 : Nat) (rest : List (Addr × Obj)) (k : Nat) (m₁ : Str → Option Value) (nx : List (Addr × Obj)) : Prop :=
  ∃ (wd tl : List Nat) (its' : Array Value) (n' : Nat) (ta tb tc : Tok), k = tl.length ∧ nx = (q, listOf its' n') :: rest ∧ text.cps.toList.filter (fun c => p c || r c) = wd ++ tl ∧ its'.size + msteps p r tl = n0 ∧
    (∀ x ∈ [(Str.ofString "word", Value.str (sOf wd) ta), (Str.ofString "one", Value.str (sOf (tl.filter p)) tb), (Str.ofString "other", Value.str (sOf (tl.filter r)) tc), (Str.ofString "text", Value.str text t3), (Str.ofString "asked", Value.ref q)], m₁ x.1 = some x.2)
section
variable {w : World} {loose : List Str} {mean : ExcName → Option Value} {mg mb : Str → Option Value} {dp un : Nat} {gd : Option (List Code)} {cn : Str} {cs : Scope} {a : Addr} {ccd : Value} {cl : List (Str × Addr)} {outer : List Env} {A₀ : Around} {base h₀ : Heap} {L : Addr} {m : Str → Option Value} {s : Shared} {Q E : Value → Shared → Prop}
variable (B : Below A₀ base outer h₀) (F : Fr h₀ L s.heap m) (X : Frag.In (hd.heap_39 w.params) h₀) (T : Top topProg loose mean mg mb h₀) (hk : cs.kind = .function)
include B F X T hk
set_option maxRecDepth 100000 in
set_option maxHeartbeats 4000000 in
theorem merged {q n : Nat} {its : Array Value} {rest : List (Addr × Obj)} {text : Str} {t1 t2 t3 : Tok} {p r : Nat → Bool}
    (N : News h₀ L s.heap ((q, listOf its n) :: rest)) (hq : ∀ p ∈ rest, p.1 ≠ q) (hz : its.size + msteps p r (text.cps.toList.filter (fun c => p c || r c)) ≤ 1000)
    (hgz : text.length ≤ 10) (hw46 : ∀ d ∈ text.cps.toList, d ≠ 46) (dis : ∀ c, p c = true → r c = false)
    (hdp : dp + 3 < recursionLimit) (hu : un + 24 < cLine)
    (hret : ∀ h' tk' its' n' t, its'.size = its.size + msteps p r (text.cps.toList.filter (fun c => p c || r c)) → Fr h₀ L h' m → News h₀ L h' ((q, listOf its' n') :: rest) → Q (.str (sOf (text.cps.toList.filter (fun c => p c || r c))) t) { s with heap := h', toks := tk' }) :
    wpAny (model PySem.Challenge.rw_pg0135_01.row.prog w) (ktrTop dp un gd cn cs L a ccd cl outer) (call (.ref 110) [.str (sOf (text.cps.toList.filter p)) t1, .str (sOf (text.cps.toList.filter r)) t2, .str text t3, .ref q]) Q E s := by
  w_on
  revert X; k_fill; intro X
  refine wpAny_call ?_
  k_dflt ktr_enter
  rename_i g1 L1 hp1 FG1 F1 N1 B1 X1 T1
  refine wpAny_mono (E := fun _ _ => False) ?_ (fun _ _ h => h) (fun _ _ h => h.elim)
  k_with_none
  k_with "call ref" => (refine Stop.out ?_)
  k_with "exec While" => (refine Stop.out ?_)
  k_steps
  refine Stop.inn ?_
  rename News g1 L1 _ _ => NN
  rename Fr g1 L1 _ _ => FF
  have hff : ∀ (f : Nat → Bool) (g : Nat → Bool), (∀ c, f c = true → g c = true) → (text.cps.toList.filter g).filter f = text.cps.toList.filter f := by
    intro f g hfg
    rw [List.filter_filter]
    congr 1
    funext c
    cases h : f c with
    | false => rfl
    | true => simp [hfg c h]
  refine While_inv2 (MerJ p r text t3 q (its.size + msteps p r (text.cps.toList.filter (fun c => p c || r c))) rest) (n₀ := (text.cps.toList.filter (fun c => p c || r c)).length) FF NN ?hj ?turn PassesOwn.never
  case hj =>
    refine ⟨[], text.cps.toList.filter (fun c => p c || r c), its, n, _, t1, t2, rfl, rfl, rfl, rfl, List.forall_mem_cons.mpr ⟨rfl, List.forall_mem_cons.mpr ⟨?_, List.forall_mem_cons.mpr ⟨?_, List.forall_mem_cons.mpr ⟨rfl, List.forall_mem_cons.mpr ⟨rfl, List.forall_mem_nil _⟩⟩⟩⟩⟩⟩
    · rw [hff p _ (fun c h => by rw [h]; rfl)]; rfl
    · rw [hff r _ (fun c h => by rw [h]; simp)]; rfl
  case turn =>
    intro k m₁ nx h tk F₁ N₁ hJ
    obtain ⟨wd, tl, its', n', ta, tb, tc, rfl, rfl, hP, hcnt, hps⟩ := hJ
    have F₂ := fr_ps0 F₁ hps
    clear F₁ FF NN
    dsimp only [kstB] at F₂
    have hPl : wd.length + tl.length ≤ 10 := by
      have h1 := congrArg List.length hP
      rw [List.length_append] at h1
      have h2 := List.length_filter_le (fun c => p c || r c) text.cps.toList
      have h3 : text.cps.toList.length = text.length := by simp [Str.length]
      omega
    have hlp := List.length_filter_le p tl
    have hlr := List.length_filter_le r tl
    have l1 : (sOf wd).length = wd.length := sOf_length _
    have l2 : (sOf (tl.filter p)).length = (tl.filter p).length := sOf_length _
    have l3 : (sOf (tl.filter r)).length = (tl.filter r).length := sOf_length _
    have hend : (tl.filter p = [] ∨ tl.filter r = []) → msteps p r tl = 0 ∧ sOf wd ++ sOf (tl.filter p) ++ sOf (tl.filter r) = sOf (text.cps.toList.filter (fun c => p c || r c)) := by
      intro he
      refine ⟨msteps_stop he, ?_⟩
      rw [sOf_append, sOf_append, merge_end hP (fun c hc => (List.mem_filter.mp hc).2) dis he]
    by_cases e1 : tl.filter p = []
    · have b1 : (sOf (tl.filter p) != Str.ofString "") = false := by rw [bne, sOf_eq_empty, e1]; rfl
      obtain ⟨he1, he2⟩ := hend (.inl e1)
      generalize tl.filter p = one at *
      generalize tl.filter r = other at *
      k_steps
      rw [he2]
      exact hret _ _ its' n' _ (by omega) (by assumption) (by assumption)
    · by_cases e2 : tl.filter r = []
      · have b1 : (sOf (tl.filter p) != Str.ofString "") = true := by
          rw [bne, sOf_eq_empty]
          cases hh : tl.filter p with
          | nil => exact absurd hh e1
          | cons _ _ => rfl
        have b2 : (sOf (tl.filter r) != Str.ofString "") = false := by rw [bne, sOf_eq_empty, e2]; rfl
        obtain ⟨he1, he2⟩ := hend (.inr e2)
        generalize tl.filter p = one at *
        generalize tl.filter r = other at *
        k_steps
        rw [he2]
        exact hret _ _ its' n' _ (by omega) (by assumption) (by assumption)
      · have b1 : (sOf (tl.filter p) != Str.ofString "") = true := by
          rw [bne, sOf_eq_empty]
          cases hh : tl.filter p with
          | nil => exact absurd hh e1
          | cons _ _ => rfl
        have b2 : (sOf (tl.filter r) != Str.ofString "") = true := by
          rw [bne, sOf_eq_empty]
          cases hh : tl.filter r with
          | nil => exact absurd hh e2
          | cons _ _ => rfl
        cases tl with
        | nil => exact absurd rfl e1
        | cons hd' tl' =>
        have hgo := msteps_go e1 e2
        obtain ⟨o, one', ho⟩ := List.exists_cons_of_ne_nil e1
        obtain ⟨o2, other', ho2⟩ := List.exists_cons_of_ne_nil e2
        have hans := merge_q dis hP ho
        have hmem : ∀ d ∈ wd ++ hd' :: tl', d ≠ 46 := fun d hd => hw46 d (by rw [← hP] at hd; exact (List.mem_filter.mp hd).1)
        have hw46' : ∀ d ∈ wd ++ o :: (hd' :: tl').filter r, d ≠ 46 := by
          intro d hd
          rcases List.mem_append.mp hd with hd | hd
          · exact hmem d (List.mem_append_left _ hd)
          · rcases List.mem_cons.mp hd with rfl | hd
            · exact hmem d (List.mem_append_right _ (List.mem_filter.mp (show d ∈ (hd' :: tl').filter p by rw [ho]; simp)).1)
            · exact hmem d (List.mem_append_right _ (List.mem_filter.mp hd).1)
        have e3 : sOf wd ++ sOf [o] ++ sOf ((hd' :: tl').filter r) = sOf (wd ++ o :: (hd' :: tl').filter r) := by rw [sOf_append, sOf_append, List.append_assoc]; rfl
        have l4 : (sOf [o]).length = 1 := rfl
        simp only [List.length_cons] at hPl
        have hlo : ((hd' :: tl').filter p).length = one'.length + 1 := by rw [ho]; rfl
        have hlr' : ((hd' :: tl').filter r).length ≤ tl'.length + 1 := hlr
        have hlp' : ((hd' :: tl').filter p).length ≤ tl'.length + 1 := hlp
        have e4 : (sOf (wd ++ o :: (hd' :: tl').filter r)).length < 100 := by rw [sOf_length]; simp only [List.length_append, List.length_cons]; omega
        have hfp : p hd' = true → o = hd' ∧ one' = tl'.filter p := by
          intro hh; rw [List.filter_cons, if_pos hh] at ho; injection ho with a b; exact ⟨a.symm, b.symm⟩
        have hfr : r hd' = true → o2 = hd' ∧ other' = tl'.filter r := by
          intro hh; rw [List.filter_cons, if_pos hh] at ho2; injection ho2 with a b; exact ⟨a.symm, b.symm⟩
        have hnp : p hd' = false → o :: one' = tl'.filter p := by
          intro hh; rw [List.filter_cons, if_neg (by rw [hh]; decide)] at ho; exact ho.symm
        have hnr : r hd' = false → o2 :: other' = tl'.filter r := by
          intro hh; rw [List.filter_cons, if_neg (by rw [hh]; decide)] at ho2; exact ho2.symm
        clear hlp hlr e1 e2 hend
        generalize (hd' :: tl').filter p = one at *
        generalize (hd' :: tl').filter r = other at *
        subst ho
        subst ho2
        k_steps
        refine Stop.inn ?_
        rw [item0_eq, e3]
        refine stands B1 F₂ X1 T1 rfl N₁ hq (by omega) e4 (by omega) (by rw [sOf_cps]; exact hw46') (by omega) (by show un + 3 + 16 < cLine; omega) ?_
        intro h' tk' F₃ N₃
        rw [sOf_cps, hans]
        cases hph : p hd' with
        | true =>
          obtain ⟨f1, f2⟩ := hfp hph
          have f3 := hnr (dis _ hph)
          have e5 : sOf wd ++ Txt.item (sOf (o :: one')) 0 = sOf (wd ++ [hd']) := by rw [item0_eq, sOf_append, f1]
          have e6 : Txt.slice (sOf (o :: one')) (some 1) none = sOf (tl'.filter p) := by rw [slice1_eq, f2]
          have e7 : sOf (o2 :: other') = sOf (tl'.filter r) := by rw [f3]
          have hP' : text.cps.toList.filter (fun c => p c || r c) = (wd ++ [hd']) ++ tl' := by rw [hP, List.append_assoc]; rfl
          k_steps
          exact ⟨_, _, _, _, tl'.length, rfl, by assumption, by assumption, Nat.lt_succ_self _, ⟨wd ++ [hd'], tl', _, _, _, _, _, rfl, rfl, hP', by rw [Array.size_push]; omega,
            List.forall_mem_cons.mpr ⟨congrArg (fun z => some (Value.str z _)) e5, List.forall_mem_cons.mpr ⟨congrArg (fun z => some (Value.str z _)) e6, List.forall_mem_cons.mpr ⟨congrArg (fun z => some (Value.str z _)) e7, List.forall_mem_cons.mpr ⟨rfl, List.forall_mem_cons.mpr ⟨rfl, List.forall_mem_nil _⟩⟩⟩⟩⟩⟩⟩
        | false =>
          have hrh : r hd' = true := by
            have hm := (List.mem_filter.mp (show hd' ∈ text.cps.toList.filter (fun c => p c || r c) by rw [hP]; simp)).2
            rw [hph] at hm; simpa using hm
          obtain ⟨f1, f2⟩ := hfr hrh
          have f3 := hnp hph
          have e5 : sOf wd ++ Txt.item (sOf (o2 :: other')) 0 = sOf (wd ++ [hd']) := by rw [item0_eq, sOf_append, f1]
          have e6 : Txt.slice (sOf (o2 :: other')) (some 1) none = sOf (tl'.filter r) := by rw [slice1_eq, f2]
          have e7 : sOf (o :: one') = sOf (tl'.filter p) := by rw [f3]
          have hP' : text.cps.toList.filter (fun c => p c || r c) = (wd ++ [hd']) ++ tl' := by rw [hP, List.append_assoc]; rfl
          k_steps
          exact ⟨_, _, _, _, tl'.length, rfl, by assumption, by assumption, Nat.lt_succ_self _, ⟨wd ++ [hd'], tl', _, _, _, _, _, rfl, rfl, hP', by rw [Array.size_push]; omega,
            List.forall_mem_cons.mpr ⟨congrArg (fun z => some (Value.str z _)) e5, List.forall_mem_cons.mpr ⟨congrArg (fun z => some (Value.str z _)) e7, List.forall_mem_cons.mpr ⟨congrArg (fun z => some (Value.str z _)) e6, List.forall_mem_cons.mpr ⟨rfl, List.forall_mem_cons.mpr ⟨rfl, List.forall_mem_nil _⟩⟩⟩⟩⟩⟩⟩
  k_with_none
end
end Mine
end
section
open PySem PyProof.Rows
namespace Mine
theorem foldl_one (c : Nat) : ∀ (k : Nat) (acc : Array Nat), ((List.replicate k (#[c] : Array Nat)).foldl (· ++ ·) acc).toList = acc.toList ++ List.replicate k c
  | 0, acc => by simp
  | k + 1, acc => by
    rw [List.replicate_succ, List.foldl_cons, foldl_one c k, List.replicate_succ]
    simp
theorem mul_one_eq (c k : Nat) : Txt.mul (sOf [c]) (k : Int) = sOf (List.replicate k c) := by
  unfold Txt.mul
  by_cases h0 : (k : Int) < 1
  · rw [if_pos h0]
    have : k = 0 := by omega
    subst this
    rfl
  · rw [if_neg h0]
    by_cases h1 : k = 1
    · subst h1; rfl
    · have hb : ((k : Int) == 1 || (sOf [c]).length == 0) = false := by
        have e1 : ((k : Int) == 1) = false := by rw [beq_eq_false_iff_ne]; omega
        rw [e1, sOf_length]; rfl
      rw [if_neg (by rw [hb]; decide)]
      refine Str.ext' (Array.toList_inj.mp ?_)
      show ((List.replicate (k : Int).toNat (#[c] : Array Nat)).foldl (· ++ ·) #[]).toList = List.replicate k c
      rw [foldl_one]
      simp
theorem mul_one {prog : Program} {w : World} {A : Around} {E : Value → Shared → Prop} {s : Shared} {c k : Nat} {t u : Tok} {Q : Value → Shared → Prop} (hk : k ≤ 1000)
    (h : ∀ t' tk, Q (.str (sOf (List.replicate k c)) t') { s with toks := tk }) : wpAny (model prog w) A (binaryOp .Mult (.str (sOf [c]) t) (.int (k : Int) u)) Q E s := by
  refine SB.mul (mulOk_of 1 1000 (by rw [sOf_length]; exact Nat.le_refl _) (by omega) (by omega) (by decide) (by decide)) fun t' tk => ?_
  rw [mul_one_eq]
  exact h t' tk
theorem range_at {i : Nat} (h : i < 15) : (List.map (fun a => a) (rangeInts 1 1 (16 - 1 : Int).toNat)).getD i 0 = ((i + 1 : Nat) : Int) := by
  have e : (List.map (fun a => a) (rangeInts 1 1 (16 - 1 : Int).toNat)) = [1, 2, 3, 4, 5, 6, 7, 8, 9, 10, 11, 12, 13, 14, 15] := by decide +kernel
  rw [e]
  match i, h with
  | 0, _ => rfl | 1, _ => rfl | 2, _ => rfl | 3, _ => rfl | 4, _ => rfl | 5, _ => rfl | 6, _ => rfl | 7, _ => rfl | 8, _ => rfl | 9, _ => rfl | 10, _ => rfl | 11, _ => rfl | 12, _ => rfl | 13, _ => rfl | 14, _ => rfl
theorem rep_sub (c k : Nat) (l : List Nat) : (List.replicate k c).isSublist l = decide (k ≤ l.count c) := by
  rw [Bool.eq_iff_iff, List.isSublist_iff_sublist, decide_eq_true_eq, List.replicate_sublist_iff]
end Mine
end
section
open PySem PySem.W PyProof.Rows
namespace Mine
section
variable {prog : Program} {w : World} {A : Around} {E : Value → Shared → Prop} {Q : Flow → Shared → Prop} {s : Shared} {env : Env} {h₀ : Heap} {L : Addr}
def WEnd (h₀ : Heap) (L : Addr) (s : Shared) (pre : List (Addr × Obj)) (q : Nat) (tl : List (Addr × Obj)) (P : Nat → Array Value → (Str → Option Value) → Prop) (Q : Flow → Shared → Prop) (k : Nat) (f : Flow) (s₃ : Shared) : Prop :=
  match f with
  | .next | .cont => ∃ h' tk m₂ its₂ n₂ k', s₃ = { s with heap := h', toks := tk } ∧ Fr h₀ L h' m₂ ∧ News h₀ L h' (pre ++ (q, listOf its₂ n₂) :: tl) ∧ k' < k ∧ P k' its₂ m₂
  | .brk => Q .next s₃
  | .ret v => Q (.ret v) s₃
theorem while_led {test : Expr} {body : List Stmt} {pos : Pos} {m : Str → Option Value} {k₀ : Nat} {pre tl : List (Addr × Obj)} {q n₀ : Nat} {its₀ : Array Value} (P : Nat → Array Value → (Str → Option Value) → Prop)
    (F : Fr h₀ L s.heap m) (N : News h₀ L s.heap (pre ++ (q, listOf its₀ n₀) :: tl)) (hJ : P k₀ its₀ m)
    (turn : ∀ k its' n' m₁ h tk, Fr h₀ L h m₁ → News h₀ L h (pre ++ (q, listOf its' n') :: tl) → P k its' m₁ →
      wpAny (model prog w) A (isTrue test env (eval test env)) (fun b s₂ =>
        if b = true then wpAny (model prog w) A (execs body env) (WEnd h₀ L s pre q tl P Q k) E s₂ else Q .next s₂) E { s with heap := h, toks := tk })
    (hE : PassesOwn (model prog w) A env E := by passes_own) :
    wpAny (model prog w) A (exec (.While test body [] pos) env) Q E s := by
  refine While_inv2 (fun k m nx => ∃ its' n', nx = pre ++ (q, listOf its' n') :: tl ∧ P k its' m) F N ⟨its₀, n₀, rfl, hJ⟩ ?_ hE
  rintro k m₁ nx h tk F₁ N₁ ⟨its', n', rfl, hP⟩
  refine wpAny_mono (turn k its' n' m₁ h tk F₁ N₁ hP) (fun b s₂ h₂ => ?_) fun _ _ e => e
  cases b with
  | false => simpa using h₂
  | true =>
    simp only [if_true] at h₂ ⊢
    refine wpAny_mono h₂ (fun f s₃ h₃ => ?_) fun _ _ e => e
    cases f with
    | next =>
      obtain ⟨h', tk', m₂, its₂, n₂, k', e, F₂, N₂, hk, hP₂⟩ := h₃
      exact ⟨h', tk', m₂, _, k', e, F₂, N₂, hk, its₂, n₂, rfl, hP₂⟩
    | cont =>
      obtain ⟨h', tk', m₂, its₂, n₂, k', e, F₂, N₂, hk, hP₂⟩ := h₃
      exact ⟨h', tk', m₂, _, k', e, F₂, N₂, hk, its₂, n₂, rfl, hP₂⟩
    | brk => exact h₃
    | ret v => exact h₃
end
end Mine
end
section
open PySem PySem.W PyProof.Rows
namespace Mine
local macro_rules | `(tactic| k_all) => `(tactic| assumption)
local macro_rules | `(tactic| walk_at "call builtin:list.append") => `(tactic| (k_here; k_dflt (refine' append_K ?k1 ?k2 ?k3 ?_ ?z; (case k1 => k_asm); (case k2 => k_asm); (case k3 => k_upd); (case z => first | size_fits | (rw [sizeLine_eq]; (try simp only [List.size_toArray, Array.size_push]); omega))); intro h' F' N'; (try k_sweep)))
local macro_rules | `(tactic| k_room) => `(tactic| ktr_room)
local macro_rules | `(tactic| k_units) => `(tactic| (have hcL9 := cLine_is; (try simp only [units_in1, units_deeper, Around.mark_units, units_caller] at *); (try dsimp only [ktrTop] at *); omega))
local macro_rules | `(tactic| walk_at $s:str) => `(tactic| ((have h9 : StopAt $s := by assumption); clear h9; refine Stop.out ?_))
local macro_rules | `(tactic| walk_at "call ref") => `(tactic| (refine' stopCall_out ?a ?b; (case a => assumption)))
theorem allLt_memM {d : Nat} : ∀ {l : List (Addr × Obj)}, AllLt d l → ∀ p ∈ l, p.1 < d
  | [], _, _, h => nomatch h
  | _ :: _, x, p, h => by
    rcases List.mem_cons.mp h with rfl | h
    · exact x.1
    · exact allLt_memM x.2 p h
def BisJ (D f cnt n0 : Nat) (k : Nat) (its' : Array Value) (m₁ : Str → Option Value) : Prop :=
  ∃ (lo hi r : Nat) (ta tb tc : Tok), lo ≤ cnt ∧ cnt ≤ hi ∧ hi ≤ 15 ∧ k = hi - lo ∧ ((hi = lo ∧ r = 0) ∨ (hi = lo + 1 ∧ r = 1) ∨ (hi = lo + 3 ∧ r = 2) ∨ (hi = lo + 7 ∧ r = 3) ∨ (hi = lo + 15 ∧ r = 4)) ∧ its'.size + r = n0 ∧
    (∀ x ∈ [(Str.ofString "a", Value.ref D), (Str.ofString "x", Value.int 1 ta), (Str.ofString "lo", Value.int (lo : Int) tb), (Str.ofString "hi", Value.int (hi : Int) tc), (Str.ofString "key", Value.ref f)], m₁ x.1 = some x.2)
theorem half_at (lo d : Nat) : (lo + (lo + (d + d + 1))) / 2 = lo + d := by omega
theorem bis_half {lo hi r : Nat} (hne : hi ≠ lo) (hr : ((hi = lo ∧ r = 0) ∨ (hi = lo + 1 ∧ r = 1) ∨ (hi = lo + 3 ∧ r = 2) ∨ (hi = lo + 7 ∧ r = 3) ∨ (hi = lo + 15 ∧ r = 4))) :
    ∃ r', r = r' + 1 ∧ lo ≤ (lo + hi) / 2 ∧ (lo + hi) / 2 + 1 ≤ hi ∧ ((hi = ((lo + hi) / 2 + 1) ∧ r' = 0) ∨ (hi = ((lo + hi) / 2 + 1) + 1 ∧ r' = 1) ∨ (hi = ((lo + hi) / 2 + 1) + 3 ∧ r' = 2) ∨ (hi = ((lo + hi) / 2 + 1) + 7 ∧ r' = 3) ∨ (hi = ((lo + hi) / 2 + 1) + 15 ∧ r' = 4)) ∧ ((((lo + hi) / 2) = lo ∧ r' = 0) ∨ (((lo + hi) / 2) = lo + 1 ∧ r' = 1) ∨ (((lo + hi) / 2) = lo + 3 ∧ r' = 2) ∨ (((lo + hi) / 2) = lo + 7 ∧ r' = 3) ∨ (((lo + hi) / 2) = lo + 15 ∧ r' = 4)) := by
  rcases hr with ⟨e, _⟩ | ⟨rfl, rfl⟩ | ⟨rfl, rfl⟩ | ⟨rfl, rfl⟩ | ⟨rfl, rfl⟩
  · exact absurd e hne
  · rw [show (lo + (lo + 1)) / 2 = lo from half_at lo 0]
    exact ⟨0, rfl, Nat.le_refl _, Nat.le_refl _, .inl ⟨rfl, rfl⟩, .inl ⟨rfl, rfl⟩⟩
  · rw [show (lo + (lo + 3)) / 2 = lo + 1 from half_at lo 1]
    exact ⟨1, rfl, Nat.le_add_right .., (show lo + 2 ≤ lo + 3 from Nat.add_le_add_left (by decide) lo), .inr (.inl ⟨rfl, rfl⟩), .inr (.inl ⟨rfl, rfl⟩)⟩
  · rw [show (lo + (lo + 7)) / 2 = lo + 3 from half_at lo 3]
    exact ⟨2, rfl, Nat.le_add_right .., (show lo + 4 ≤ lo + 7 from Nat.add_le_add_left (by decide) lo), .inr (.inr (.inl ⟨rfl, rfl⟩)), .inr (.inr (.inl ⟨rfl, rfl⟩))⟩
  · rw [show (lo + (lo + 15)) / 2 = lo + 7 from half_at lo 7]
    exact ⟨3, rfl, Nat.le_add_right .., (show lo + 8 ≤ lo + 15 from Nat.add_le_add_left (by decide) lo), .inr (.inr (.inr (.inl ⟨rfl, rfl⟩))), .inr (.inr (.inr (.inl ⟨rfl, rfl⟩)))⟩
theorem bis_size {a b n0 r : Nat} (h : a + (r + 1) = n0) (e : b = a + 1) : b + r = n0 := by
  rw [e, Nat.add_assoc, Nat.add_comm 1 r]; exact h
theorem bis_r0 {lo hi r : Nat} (e : hi = lo) (hr : ((hi = lo ∧ r = 0) ∨ (hi = lo + 1 ∧ r = 1) ∨ (hi = lo + 3 ∧ r = 2) ∨ (hi = lo + 7 ∧ r = 3) ∨ (hi = lo + 15 ∧ r = 4))) : r = 0 := by
  subst e
  have ne : ∀ d, hi ≠ hi + (d + 1) := fun d => Nat.ne_of_lt (Nat.lt_add_of_pos_right (Nat.succ_pos d))
  rcases hr with ⟨_, h⟩ | ⟨h, _⟩ | ⟨h, _⟩ | ⟨h, _⟩ | ⟨h, _⟩
  · exact h
  · exact absurd h (ne 0)
  · exact absurd h (ne 2)
  · exact absurd h (ne 6)
  · exact absurd h (ne 14)
theorem bis_lo {D f cnt n0 lo hi r : Nat} {its' its2 : Array Value} {m' : Str → Option Value} {ta tb tc : Tok} (h1 : lo ≤ cnt) (h2 : cnt ≤ hi) (h3 : hi ≤ 15) (hne : hi ≠ lo)
    (hr : (hi = lo ∧ r = 0) ∨ (hi = lo + 1 ∧ r = 1) ∨ (hi = lo + 3 ∧ r = 2) ∨ (hi = lo + 7 ∧ r = 3) ∨ (hi = lo + 15 ∧ r = 4)) (hsz : its'.size + r = n0) (h4 : (lo + hi) / 2 + 1 ≤ cnt) (e : its2.size = its'.size + 1)
    (hps : ∀ x ∈ [(Str.ofString "a", Value.ref D), (Str.ofString "x", Value.int 1 ta), (Str.ofString "lo", Value.int (((lo + hi) / 2 + 1 : Nat) : Int) tb), (Str.ofString "hi", Value.int (hi : Int) tc), (Str.ofString "key", Value.ref f)], m' x.1 = some x.2) :
    BisJ D f cnt n0 (hi - ((lo + hi) / 2 + 1)) its2 m' ∧ hi - ((lo + hi) / 2 + 1) < hi - lo := by
  obtain ⟨r', rfl, g1, g2, g3, g4⟩ := bis_half hne hr
  exact ⟨⟨(lo + hi) / 2 + 1, hi, r', ta, tb, tc, h4, h2, h3, rfl, g3, bis_size hsz e, hps⟩, Nat.sub_lt_sub_left (Nat.lt_of_lt_of_le (Nat.lt_succ_of_le g1) g2) (Nat.lt_succ_of_le g1)⟩
theorem bis_hi {D f cnt n0 lo hi r : Nat} {its' its2 : Array Value} {m' : Str → Option Value} {ta tb tc : Tok} (h1 : lo ≤ cnt) (h2 : cnt ≤ hi) (h3 : hi ≤ 15) (hne : hi ≠ lo)
    (hr : (hi = lo ∧ r = 0) ∨ (hi = lo + 1 ∧ r = 1) ∨ (hi = lo + 3 ∧ r = 2) ∨ (hi = lo + 7 ∧ r = 3) ∨ (hi = lo + 15 ∧ r = 4)) (hsz : its'.size + r = n0) (h4 : ¬ (lo + hi) / 2 + 1 ≤ cnt) (e : its2.size = its'.size + 1)
    (hps : ∀ x ∈ [(Str.ofString "a", Value.ref D), (Str.ofString "x", Value.int 1 ta), (Str.ofString "lo", Value.int (lo : Int) tb), (Str.ofString "hi", Value.int (((lo + hi) / 2 : Nat) : Int) tc), (Str.ofString "key", Value.ref f)], m' x.1 = some x.2) :
    BisJ D f cnt n0 ((lo + hi) / 2 - lo) its2 m' ∧ (lo + hi) / 2 - lo < hi - lo := by
  obtain ⟨r', rfl, g1, g2, g3, g4⟩ := bis_half hne hr
  exact ⟨⟨lo, (lo + hi) / 2, r', ta, tb, tc, h1, Nat.le_of_lt_succ (Nat.lt_of_not_le h4), Nat.le_trans (Nat.le_of_succ_le g2) h3, rfl, g4, bis_size hsz e, hps⟩, Nat.sub_lt_sub_right g1 g2⟩
/-- the lambda's qualified name -/
def lamQ : Str := Str.ofString "_law_many" ++ Str.ofString ".<locals>." ++ Str.ofString "<lambda>"
abbrev tab98 (cc : Nat) : Obj := tabObj #[rawInt 119, rawInt 50, .ref cc]
def Tab2 (q : Nat) (rest Tb : List (Addr × Obj)) : Prop := ∃ (cc : Nat) (oc : Obj) (vs : Array Value) (tq : Tok), Tb = (98, tab98 cc) :: (cc, oc) :: rest ∧ oc.data = .fields vs ∧ vs[1]? = some (.str lamQ tq) ∧ q ≠ cc ∧ ∀ r ∈ rest, r.1 ≠ cc
/-- the table of the code objects that _law_many has made: none yet, or the lambda's -/
def TabS (q : Nat) (rest Tb : List (Addr × Obj)) : Prop := Tb = (98, tabObj #[]) :: rest ∨ Tab2 q rest Tb
theorem TabS.mem98 {q : Nat} {rest Tb : List (Addr × Obj)} (h : TabS q rest Tb) : ∃ o, (98, o) ∈ Tb := by
  rcases h with rfl | ⟨_, _, _, _, rfl, _⟩
  · exact ⟨_, .head _⟩
  · exact ⟨_, .head _⟩
theorem lam_both {M : Model} {A : Around} {E : Value → Shared → Prop} {s : Shared} {h₀ : Heap} {L a c : Addr} {m mg mb : Str → Option Value} {cn : Str} {cs : Scope} {ccd : Value} {cl : List (Str × Addr)} {p : Program} {loose : List Str} {mean : ExcName → Option Value} {name qual : Str} {params : Arguments} {body : Expr} {scope : Scope} {pos : Pos} {firstLine : Nat} {clos : List (Str × Addr)} {Q : Value → Shared → Prop} {q : Nat} {pre rest Tb : List (Addr × Obj)}
    (F : Fr h₀ L s.heap m) (N : News h₀ L s.heap (pre ++ Tb)) (T : Top p loose mean mg mb h₀) (C : CodeHd h₀ c 98) (hcd : ccd = .ref c) (hT : TabS q rest Tb) (h98 : ∀ x ∈ pre ++ rest, x.1 ≠ 98) (hl : pos.line = 119) (hc : pos.col = 50) (hqual : qual = lamQ) (hq : ∃ x ∈ pre, x.1 = q)
    (hcl : closureFor scope (envX cn cs L a ccd cl) = pure clos)
    (h : ∀ f (cc : Nat) oc vs tq ctv h' tk, Fr h₀ L h' m → News h₀ L h' ((f, kla_obj name qual params body scope clos ((mg "__name__").getD .none) cc ctv) :: (pre ++ (98, tab98 cc) :: (cc, oc) :: rest)) → oc.data = .fields vs → vs[1]? = some (.str lamQ tq) → q ≠ cc → (∀ r ∈ rest, r.1 ≠ cc) → (∀ x ∈ pre, x.1 < f) → Q (.ref f) { s with heap := h', toks := tk }) :
    wpAny M A (makeFunction name qual params (.expr body) scope (envX cn cs L a ccd cl) [] [] [] pos firstLine) Q E s := by
  subst hqual
  obtain ⟨x, hx, rfl⟩ := hq
  rcases hT with rfl | ⟨cc, oc, vs, tq, rfl, h1, h2, h3, h4⟩
  · have N2 : News h₀ L s.heap ((98, tabObj #[]) :: (pre ++ rest)) := news_sub N fun p hp => by
      rcases List.mem_cons.mp hp with e | hp
      · exact List.mem_append_right _ (e ▸ .head _)
      · rcases List.mem_append.mp hp with hp | hp
        · exact List.mem_append_left _ hp
        · exact List.mem_append_right _ (.tail _ hp)
    refine kla_nest F N2 T C hcd (.head h98) trivial rfl hcl fun f cc oc vs t ctv h' tk F' N' g1 g2 g3 g4 => ?_
    have gp : ∀ y ∈ pre, y.1 < cc := fun y hy => g3 y (.tail _ (List.mem_append_left _ hy))
    refine h f cc oc vs t ctv h' tk F' (news_sub N' fun p hp => ?_) g1 g2 (Nat.ne_of_lt (gp x hx)) (fun r hr => Nat.ne_of_lt (g3 r (.tail _ (List.mem_append_right _ hr)))) (fun y hy => Nat.lt_trans (gp y hy) g4)
    rw [hl, hc] 
    rcases List.mem_cons.mp hp with e | hp
    · exact e ▸ .head _
    · refine .tail _ ?_
      rcases List.mem_append.mp hp with hp | hp
      · exact .tail _ (.tail _ (List.mem_append_left _ hp))
      · rcases List.mem_cons.mp hp with e | hp
        · exact e ▸ .tail _ (.head _)
        · rcases List.mem_cons.mp hp with e | hp
          · exact e ▸ .head _
          · exact .tail _ (.tail _ (List.mem_append_right _ hp))
  · refine kla_hit F N T C hcd (List.mem_append_right _ (.head _)) trivial (by show codeAmong pos [rawInt 119, rawInt 50, .ref cc] = _; unfold codeAmong; rw [hl, hc]; rfl) hcl fun f ctv h' tk F' N' g => ?_
    exact h f cc oc vs tq ctv h' tk F' N' h1 h2 h3 h4 fun y hy => g y (List.mem_append_left _ hy)
theorem while_bis2 {prog : Program} {w : World} {A : Around} {E : Value → Shared → Prop} {Q : Flow → Shared → Prop} {s : Shared} {env : Env} {h₀ : Heap} {L : Addr} {test : Expr} {body : List Stmt} {pos : Pos} {m : Str → Option Value} {k₀ : Nat} {tl : List (Addr × Obj)} {q n₀ f D : Nat} {oF oD : Obj} {e4 e5 e6 : Addr × Obj} {its₀ : Array Value} (cnt n0 : Nat)
    (F : Fr h₀ L s.heap m) (N : News h₀ L s.heap ((f, oF) :: (D, oD) :: e4 :: e5 :: e6 :: (q, listOf its₀ n₀) :: tl)) (hJ : BisJ D f cnt n0 k₀ its₀ m)
    (turn : ∀ k its' n' m₁ h tk, Fr h₀ L h m₁ → News h₀ L h ((f, oF) :: (D, oD) :: e4 :: e5 :: e6 :: (q, listOf its' n') :: tl) → BisJ D f cnt n0 k its' m₁ →
      wpAny (model prog w) A (isTrue test env (eval test env)) (fun b s₂ =>
        if b = true then wpAny (model prog w) A (execs body env) (WEnd h₀ L s [(f, oF), (D, oD), e4, e5, e6] q tl (BisJ D f cnt n0) Q k) E s₂ else Q .next s₂) E { s with heap := h, toks := tk })
    (hE : PassesOwn (model prog w) A env E) :
    wpAny (model prog w) A (exec (.While test body [] pos) env) Q E s :=
  while_led (pre := [(f, oF), (D, oD), e4, e5, e6]) (BisJ D f cnt n0) F N hJ turn hE
section
variable {w : World} {loose : List Str} {mean : ExcName → Option Value} {mg mb : Str → Option Value} {dp un : Nat} {gd : Option (List Code)} {cn : Str} {cs : Scope} {a : Addr} {ccd : Value} {cl : List (Str × Addr)} {outer : List Env} {A₀ : Around} {base h₀ : Heap} {L : Addr} {m : Str → Option Value} {s : Shared} {Q E : Value → Shared → Prop}
variable (B : Below A₀ base outer h₀) (F : Fr h₀ L s.heap m) (X : Frag.In (hd.heap_39 w.params) h₀) (T : Top topProg loose mean mg mb h₀) (hk : cs.kind = .function)
include B F X T hk
set_option maxRecDepth 100000 in
set_option maxHeartbeats 8000000 in
theorem many {q n : Nat} {its : Array Value} {rest Tb : List (Addr × Obj)} {text : Str} {t1 t2 : Tok} {c : Nat} (C98 : CodeHd h₀ 102 98)
    (N : News h₀ L s.heap ((q, listOf its n) :: Tb)) (hT : TabS q rest Tb) (hq : ∀ p ∈ rest, p.1 ≠ q) (hq98 : q ≠ 98) (h98 : ∀ p ∈ rest, p.1 ≠ 98) (hz : its.size ≤ 900)
    (hgz : text.length ≤ 10) (hc46 : c ≠ 46)
    (hdp : dp + 5 < recursionLimit) (hu : un + 48 < cLine)
    (hret : ∀ h' tk' its' n' t Tb', its'.size = its.size + 4 → Tab2 q rest Tb' → Fr h₀ L h' m → News h₀ L h' ((q, listOf its' n') :: Tb') → Q (.int (text.cps.toList.count c) t) { s with heap := h', toks := tk' }) :
    wpAny (model PySem.Challenge.rw_pg0135_01.row.prog w) (ktrTop dp un gd cn cs L a ccd cl outer) (call (.ref 103) [.str (sOf [c]) t1, .str text t2, .ref q]) Q E s := by
  w_on
  revert X; k_fill; intro X
  refine wpAny_call ?_
  have mk96 : StopCall 96 := .mk _
  have mkL : StopAt "eval Lambda" := .mk _
  have mkW : StopAt "exec While Compare cons nil" := .mk _
  have mkM : StopAt "binaryOp Mult str int" := .mk _
  k_dflt (refine' code_defC ?k1 ?k2 ?k3 ?k4 ?k5 ?kA ?kF ?kK ?k6 ?k7 ?k8 ?k9 ?kB ?kD ?_ ?c2 ?c3 ?c4; (case kA => exact rfl); (case kF => exact rfl); (case kK => assumption); (case k1 => k_asm); (case k2 => k_asm); (case k3 => k_asm); (case k4 => k_asm); (case k5 => k_asm); (case k6 => k_is); (case k7 => k_is); (case k8 => ktr_room); (case k9 => exact BindsTo.of_eq rfl); (case kB => exact rfl); (case kD => decide +kernel); (case c2 => exact rfl); (case c3 => exact rfl); (case c4 => exact rfl); k_whole)
  intro g1 L1 hp1 tk1 cells1 FG1 F1 N1 Y1 B1 X1 T1 l1
  obtain ⟨o98, hm98⟩ := hT.mem98
  have l98 := ltN (l1 (98, o98) (.tail _ hm98))
  dsimp only at l98
  k_lt l1
  k_cells Y1
  simp only [List.cons_append, List.nil_append] at N1
  try dsimp only
  try k_fold
  have C1 := C98.keeps FG1.keep
  refine wpAny_mono (E := fun _ _ => False) ?_ (fun _ _ h => h) (fun _ _ h => h.elim)
  k_steps
  refine Stop.inn ?_
  rename NewPlain _ _ _ _ => nP
  have hDne := nP.2
  k_made
  try clear nP
  simp only [List.forall_mem_cons] at hDne
  obtain ⟨d1, d2, d3, d4, d6⟩ := hDne
  replace d1 := neN d1; replace d2 := neN d2; replace d3 := neN d3; replace d4 := neN d4
  have d98 := neN (d6 (98, o98) hm98)
  dsimp only at d98
  clear mkL
  k_dflt (refine' kla_eval ?d0 ?_; (case d0 => exact rfl))
  rename News _ _ _ _ => NN
  rename Fr _ _ _ _ => FF
  k_dflt (refine' lam_both (pre := [_, _, _, _, _]) (rest := rest) (q := q) FF NN T1 C1 ?hcd hT ?h98 ?hl ?hc ?hqual ?hq ?hcl ?_; (case hcd => exact rfl); (case hl => exact rfl); (case hc => exact rfl); (case hqual => exact rfl); (case hq => exact ⟨_, .tail _ (.tail _ (.tail _ (.tail _ (.head _)))), rfl⟩); (case hcl => exact rfl); (case h98 => exact List.forall_mem_cons.mpr ⟨by k_ne, List.forall_mem_cons.mpr ⟨by k_ne, List.forall_mem_cons.mpr ⟨by k_ne, List.forall_mem_cons.mpr ⟨by k_ne, List.forall_mem_cons.mpr ⟨by k_ne, h98⟩⟩⟩⟩⟩))
  intro f9 cc oc vs tq ctv h9 tk9 F9 N9 hoc hov hqc hrc hlt9
  clear FF NN
  simp only [List.cons_append, List.nil_append] at N9
  simp only [List.forall_mem_cons] at hlt9
  obtain ⟨i1, i2, i3, i4, i5, _⟩ := hlt9
  replace i1 := ltN i1; replace i2 := ltN i2; replace i3 := ltN i3; replace i4 := ltN i4; replace i5 := ltN i5
  try dsimp only at i1 i2 i3 i4 i5
  k_steps
  refine Stop.inn ?_
  clear mkW
  rename News _ _ _ _ => NN
  rename Fr _ _ _ _ => FF
  rename IntsAre _ _ => iX
  have hyl := iX.length
  have hcnt : text.cps.toList.count c ≤ 10 := by
    have h1 := List.count_le_length (a := c) (l := text.cps.toList)
    have h3 : text.cps.toList.length = text.length := by simp [Str.length]
    omega
  refine wpAny_mono (E := fun _ _ => False) ?_ (fun _ _ h => h) (fun _ _ h => h.elim)
  refine while_bis2 (its₀ := its) (text.cps.toList.count c) (its.size + 4) (k₀ := 15) FF NN ?hj ?turn PassesOwn.never
  case hj =>
    refine ⟨0, 15, 4, _, _, _, Nat.zero_le _, by omega, Nat.le_refl _, rfl, .inr (.inr (.inr (.inr ⟨rfl, rfl⟩))), rfl, List.forall_mem_cons.mpr ⟨rfl, List.forall_mem_cons.mpr ⟨rfl, List.forall_mem_cons.mpr ⟨rfl, List.forall_mem_cons.mpr ⟨congrArg (fun z => some (Value.int z _)) ?e, List.forall_mem_cons.mpr ⟨rfl, List.forall_mem_nil _⟩⟩⟩⟩⟩⟩
    case e => first | rfl | decide +kernel | (simp only [List.size_toArray, hyl]; decide +kernel)
  case turn =>
    intro k its' n' m₁ h tk F₁ N₁ hP
    obtain ⟨lo, hi, r, ta, tb, tc, h1, h2, h3, rfl, hr, hsz, hps⟩ := hP
    have F₂ := fr_ps0 F₁ hps
    clear F₁ FF NN
    dsimp only [kstB] at F₂
    by_cases e0 : hi = lo
    · have e1 : lo = text.cps.toList.count c := Nat.le_antisymm h1 (e0 ▸ h2)
      have hsz' : its'.size = its.size + 4 := by rw [bis_r0 e0 hr] at hsz; exact hsz
      rw [e1] at F₂
      rw [e1] at e0
      k_steps
      refine hret _ _ its' n' _ _ hsz' ⟨cc, oc, vs, tq, rfl, hoc, hov, hqc, hrc⟩ (by assumption) (news_sub (by assumption) ?_)
      intro p hp
      simp only [List.mem_cons] at hp ⊢
      rcases hp with rfl | rfl | rfl | hp
      · simp
      · simp
      · simp
      · simp [hp]
    · have hmid : ((lo : Int) + (hi : Int)).fdiv 2 = (((lo + hi) / 2 : Nat) : Int) := by
        rw [Int.fdiv_eq_ediv_of_nonneg _ (by decide)]; omega
      k_steps
      refine Stop.inn ?_
      have hml : (lo + hi) / 2 < 15 := by omega
      rw [hmid, Int.toNat_natCast, range_at hml]
      refine mul_one (by omega) ?_
      intro t9 tk9
      clear mkM
      k_steps
      refine Stop.inn ?_
      refine' stands_in (pre := [_, _, _, _, _]) ?k1 ?k2 ?k3 ?k4 ?k5 ?k6 ?k7 ?k8 ?k9 ?k10 ?k11 ?k12 ?k13 ?k14 ?_
      (case k1 => k_asm); (case k2 => k_asm); (case k3 => k_asm); (case k4 => k_asm); (case k5 => exact rfl); (case k6 => k_asm); (case k7 => k_all)
      (case k8 => k_all)
      (case k9 => omega); (case k10 => rw [sOf_length, List.length_replicate]; omega); (case k11 => omega)
      (case k12 => rw [sOf_cps]; intro d hd; rw [List.eq_of_mem_replicate hd]; exact hc46)
      (case k13 => ktr_room); (case k14 => ktr_units)
      intro h9 tk8 F9 N9
      rw [sOf_cps, rep_sub]
      have hpsz : ∀ v : Value, (its'.push v).size = its'.size + 1 := fun v => Array.size_push ..
      by_cases hle : (lo + hi) / 2 + 1 ≤ text.cps.toList.count c
      · rw [decide_eq_true hle]
        k_steps
        refine ⟨_, _, _, _, _, hi - ((lo + hi) / 2 + 1), rfl, by assumption, by assumption, ?_⟩
        exact (bis_lo h1 h2 h3 e0 hr hsz hle (hpsz _) (List.forall_mem_cons.mpr ⟨rfl, List.forall_mem_cons.mpr ⟨rfl, List.forall_mem_cons.mpr ⟨congrArg (fun z => some (Value.int z _)) (show ((lo : Int) + (hi : Int)).fdiv 2 + 1 = (((lo + hi) / 2 + 1 : Nat) : Int) by rw [hmid]; rfl), List.forall_mem_cons.mpr ⟨rfl, List.forall_mem_cons.mpr ⟨rfl, List.forall_mem_nil _⟩⟩⟩⟩⟩)).symm
      · rw [decide_eq_false hle]
        k_steps
        refine ⟨_, _, _, _, _, (lo + hi) / 2 - lo, rfl, by assumption, by assumption, ?_⟩
        exact (bis_hi h1 h2 h3 e0 hr hsz hle (hpsz _) (List.forall_mem_cons.mpr ⟨rfl, List.forall_mem_cons.mpr ⟨rfl, List.forall_mem_cons.mpr ⟨rfl, List.forall_mem_cons.mpr ⟨congrArg (fun z => some (Value.int z _)) (show ((lo : Int) + (hi : Int)).fdiv 2 = (((lo + hi) / 2 : Nat) : Int) by rw [hmid]), List.forall_mem_cons.mpr ⟨rfl, List.forall_mem_nil _⟩⟩⟩⟩⟩)).symm
end
end Mine
end
section
open PySem PySem.W PyProof.Rows PySem.Calls PySem.Spec
set_option maxRecDepth 100000
namespace Mine
theorem slot_fn_sa : Slot "function" "__setattr__" "object.__setattr__" :=
  .of (owner := "object") (n := "__setattr__") (by rw [typeLookup_type, builtinLookup_eq_fast]; kernel_rfl) (by decide +kernel) (by decide +kernel) (by decide +kernel)
    (by first | exact .inl (by decide +kernel) | exact .inr (by decide +kernel)) (by rw [isSubtype_type]; kernel_rfl)
theorem slot_fn_ga : Slot "function" "__getattribute__" "object.__getattribute__" :=
  .of (owner := "object") (n := "__getattribute__") (by rw [typeLookup_type, builtinLookup_eq_fast]; kernel_rfl) (by decide +kernel) (by decide +kernel) (by decide +kernel)
    (by first | exact .inl (by decide +kernel) | exact .inr (by decide +kernel)) (by rw [isSubtype_type]; kernel_rfl)
theorem fn_getattr_none : typeLookup (.type "function") "__getattr__" = pure none := by rw [typeLookup_type, builtinLookup_eq_fast]; kernel_rfl
theorem mro_fn : mroOf (.type "function") = pure [.type "function", .type "object"] := by rw [mroOf_type]; kernel_rfl
theorem miss_fn_read : typeLookup (.type "function") (Str.ofString "read") = pure none := by rw [typeLookup_type, builtinLookup_eq_fast]; kernel_rfl
theorem refuse_fn (self : Value) : refuseLoop self "__setattr__" [.type "function", .type "object"] = pure () := by kernel_rfl
section
variable {prog : Program} {w : World} {A : Around} {E : Value → Shared → Prop} {s : Shared}
theorem fn_setattr {f : Addr} {fd : FuncData} {sl : Array (Option Value)} {v : Value} {Q : Unit → Shared → Prop}
    (hx : s.heap.get? f = some { cls := .type "function", dict := none, data := .func fd, slots := sl })
    (h : ∀ h', h'.get? f = some { cls := .type "function", dict := some s.heap.objs.size, data := .func fd, slots := sl } → h'.get? s.heap.objs.size = some { cls := .type "dict", data := .dict #[⟨PyData.keyHash w.params (Str.ofString "read"), .str (Str.ofString "read") (s.toks + 1), v⟩] 1 } →
      (∀ b, b ≠ f → b ≠ s.heap.objs.size → h'.get? b = s.heap.get? b) → Q () { s with heap := h', toks := s.toks + 2 }) :
    wpAny (model prog w) A (setAttr (.ref f) (Str.ofString "read") v) Q E s := by
  have hT : s.TypeIs (.ref f) "function" := ⟨_, hx, rfl⟩
  refine wpAny_bind (wpAny_mkText (wpAny_bind (wpAny_callSpecial?_slot (name := Str.ofString "__setattr__") (s := { s with toks := s.toks + 1 }) hT slot_fn_sa
    (wpAny_call_entry slot_fn_sa hT PySem.F.entry_object_sa ?_ (PySem.F.store_object.args _ _ _)))))
  rw [osa_eq, refuse_eq]
  obtain ⟨h0, g, d, tk, os⟩ := s
  dsimp only at hx hT ⊢
  have hT' : ∀ tk', (⟨h0, g, d, tk', os⟩ : Shared).TypeIs (.ref f) "function" := fun _ => ⟨_, hx, rfl⟩
  have hne : f ≠ h0.objs.size := Nat.ne_of_lt (Heap.lt_size hx)
  have hx1 : (h0.push { cls := .type "dict", data := .dict #[] }).get? f = some _ := Heap.get?_push_of_some _ hx
  repeat (any_goals (first | assumption | exact hT' _ | rw [mro_fn] | rw [refuse_fn] | rw [miss_fn_read] | wp_step))
  have e1 : ((h0.push { cls := .type "dict", data := .dict #[] }).update f fun o => { cls := o.cls, dict := some h0.objs.size, data := o.data, slots := o.slots }).get? h0.objs.size = some { cls := .type "dict", data := .dict #[] } := by
    rw [Heap.get?_update_other _ _ hne]; exact Heap.get?_push_size _ rfl
  refine wpAny_askSetting (wpAny_pure (wpAny_bind (wpAny_mkText (wpAny_bind (wpAny_loadPart e1 ?_)))))
  dsimp only
  rw [if_neg (by decide)]
  refine wpAny_updatePart e1 ?_
  have e2 := Heap.get?_update_self (Obj.putName (Str.ofString "read") (PyData.keyHash w.params (Str.ofString "read")) (.str (Str.ofString "read") (tk + 1)) v) e1 rfl
  refine wpAny_bind (wpAny_lookBehind e2 ?_ ?_)
  · exact pastItsLine_dict (by rw [sizeLine_eq]; show (1 : Nat) ≤ _; decide)
  refine wpAny_pure ⟨_, rfl, wpAny_pure (h _ ?_ e2 ?_)⟩
  · rw [Heap.get?_update_other _ _ (Ne.symm hne)]
    exact Heap.get?_update_self _ hx1 rfl
  · intro b hb1 hb2
    rw [Heap.get?_update_other _ _ (Ne.symm hb2), Heap.get?_update_other _ _ (Ne.symm hb1)]
    exact Heap.get?_push_ne _ _ _ hb2
theorem fn_getread {f dx r : Addr} {fd : FuncData} {sl sl' : Array (Option Value)} {kh : Int} {tk0 : Tok} {n : Nat} {pl : Sem Bool} {Q : Value × List Value → Shared → Prop}
    (hx : s.heap.get? f = some { cls := .type "function", dict := some dx, data := .func fd, slots := sl })
    (hd : s.heap.get? dx = some { cls := .type "dict", data := .dict #[⟨kh, .str (Str.ofString "read") tk0, .ref r⟩] n, slots := sl' })
    (h : ∀ tk', Q (.ref r, []) { s with toks := tk' }) :
    wpAny (model prog w) A (getMethod (.ref f) (Str.ofString "read") pl) Q E s := by
  obtain ⟨h0, g, d, tk, os⟩ := s
  dsimp only at hx hd ⊢
  have hT' : ∀ tk', (⟨h0, g, d, tk', os⟩ : Shared).TypeIs (.ref f) "function" := fun _ => ⟨_, hx, rfl⟩
  unfold getMethod
  refine wpAny_bind (wpAny_specialOf (hT' _) slot_fn_ga.lookup ?_)
  show wpAny _ _ (if (Manifest.canonical "object.__getattribute__" != "object.__getattribute__") = true then _ else _) Q E _
  rw [if_neg (by decide +kernel)]
  refine wpAny_bind (wpAny_specialOf (hT' _) fn_getattr_none ?_)
  refine wpAny_bind (wpAny_specialOf (hT' _) miss_fn_read ?_)
  show wpAny _ _ (getAttr _ _ _ >>= _) _ _ _
  unfold getAttr getAttrBy
  repeat (any_goals (first | assumption | exact hT' _ | rw [fn_getattr_none] | rw [mro_fn] | rw [slot_fn_ga.lookup] | rw [slot_fn_ga.bind] | rw [miss_fn_read] | ((with_reducible show wpAny _ _ (call (Value.builtin "object.__getattribute__") _ _) _ _ _); refine wpAny_call_entry slot_fn_ga (hT' _) PySem.F.entry_object_getattribute ?_ (PySem.F.args_object_getattribute_2 _ _); unfold Builtin.«object.__getattribute__») | wp_step))
  refine ⟨_, rfl, ?_⟩
  show wpAny _ _ (handedOut (.ref r)) _ _ _
  exact wpAny_of_eq (a := Value.ref r) (handedOut_of rfl) (wpAny_pure (h _))
end
end Mine
end
section
open PySem PySem.W PyProof.Rows PySem.Calls PySem.Spec
set_option maxRecDepth 100000
namespace Mine
abbrev fnO (d : Option Addr) (fd : FuncData) : Obj := { cls := .type "function", dict := d, data := .func fd }
abbrev rdD (w : World) (tk : Tok) (r : Addr) : Obj := { cls := .type "dict", data := .dict #[⟨PyData.keyHash w.params (Str.ofString "read"), .str (Str.ofString "read") tk, .ref r⟩] 1 }
section
variable {prog : Program} {w : World} {A : Around} {E : Value → Shared → Prop} {s : Shared} {h₀ : Heap} {L : Addr} {m : Str → Option Value} {news : List (Addr × Obj)} {g : Obj → List (Addr × Obj)}
theorem fn_setattr_K {f r : Addr} {fd : FuncData} {Q : Unit → Shared → Prop} (F : Fr h₀ L s.heap m) (N : News h₀ L s.heap news) (U : UpdF f (fnO none fd) news g)
    (h : ∀ h' D tk, Fr h₀ L h' m → News h₀ L h' ((D, rdD w tk r) :: g (fnO (some D) fd)) → (∀ p ∈ news, p.1 < D) → Q () { s with heap := h', toks := s.toks + 2 }) :
    wpAny (model prog w) A (setAttr (.ref f) (Str.ofString "read") (.ref r)) Q E s := by
  obtain ⟨own, rest, rfl, hg, h1, h2⟩ := U.split
  have hmem := N (f, fnO none fd) (List.mem_append_right _ (.head _))
  refine fn_setattr hmem.1 fun h' e1 e2 e3 => ?_
  have keep : ∀ b o, b ≠ f → s.heap.get? b = some o → h'.get? b = some o := fun b o hb e => by
    rw [e3 b hb (Nat.ne_of_lt (Heap.lt_size e)), e]
  have hfn : ∀ b o, h₀.get? b = some o → b ≠ f := fun b o e q => by rw [q, hmem.2.2] at e; cases e
  refine h h' s.heap.objs.size (s.toks + 1) ⟨F.ns.at' fun o e => keep _ o (Ne.symm hmem.2.1) e, fun b o e => keep b o (hfn b o e) (F.keep b o e), F.above⟩ ?_ fun p hp => Heap.lt_size (N p hp).1
  rw [hg]
  intro p hp
  rcases List.mem_cons.mp hp with rfl | hp
  · refine ⟨e2, fun q => absurd F.ns.lt (q ▸ Nat.lt_irrefl _), ?_⟩
    cases hh : h₀.get? s.heap.objs.size with
    | none => rfl
    | some o => exact absurd (Heap.lt_size (F.keep _ _ hh)) (Nat.lt_irrefl _)
  · rcases List.mem_append.mp hp with hp | hp
    · have := N p (List.mem_append_left _ hp)
      exact ⟨keep _ _ (h1 p hp) this.1, this.2⟩
    · rcases List.mem_cons.mp hp with rfl | hp
      · exact ⟨e1, hmem.2⟩
      · have := N p (List.mem_append_right _ (.tail _ hp))
        exact ⟨keep _ _ (h2 p hp) this.1, this.2⟩
theorem fn_getread_K {f r dx : Addr} {fd : FuncData} {tk0 : Tok} {pl : Sem Bool} {Q : Value × List Value → Shared → Prop} (N : News h₀ L s.heap news) (hf : (f, fnO (some dx) fd) ∈ news) (hd : (dx, rdD w tk0 r) ∈ news)
    (h : ∀ tk', Q (.ref r, []) { s with toks := tk' }) : wpAny (model prog w) A (getMethod (.ref f) (Str.ofString "read") pl) Q E s :=
  fn_getread (N _ hf).1 (N _ hd).1 h
end
end Mine
end
section
open PySem PySem.W PyProof.Rows
namespace Mine
theorem allLt_mem {d : Nat} : ∀ {l : List (Addr × Obj)}, AllLt d l → ∀ p ∈ l, p.1 < d
  | [], _, _, h => nomatch h
  | _ :: _, x, p, h => by
    rcases List.mem_cons.mp h with rfl | h
    · exact x.1
    · exact allLt_mem x.2 p h
def Low (b : Nat) (l : List (Addr × Obj)) : Prop := ∀ p ∈ l, @LT.lt Nat _ p.1 b
theorem Low.of {b : Nat} {l : List (Addr × Obj)} (h : AllLt b l) : Low b l := allLt_mem h
theorem Low.ne {b c : Nat} {l : List (Addr × Obj)} (x : Low b l) (h : b ≤ c) : ∀ p ∈ l, p.1 ≠ c := fun p hp => Nat.ne_of_lt (Nat.lt_of_lt_of_le (x p hp) h)
theorem Low.mono {b c : Nat} {l : List (Addr × Obj)} (x : Low b l) (h : b ≤ c) : Low c l := fun p hp => Nat.lt_of_lt_of_le (x p hp) h
theorem Low.ofNews {h₀ h : Heap} {L : Addr} {l : List (Addr × Obj)} (N : News h₀ L h l) : Low h.objs.size l := fun p hp => Heap.lt_size (N p hp).1
end Mine
end
section
open PySem PySem.W PyProof.Rows PySem.Calls PySem.Spec
set_option maxRecDepth 100000
namespace Mine
/-- what the closure that hands out the signs does -/
def ReadOK (w : World) (fd : FuncData) (rd c1 cell : Addr) (c1o co : Obj) (q : Addr) : Prop :=
  ∀ {loose : List Str} {mean : ExcName → Option Value} {mg mb : Str → Option Value} {dp un : Nat} {gd : Option (List Code)} {cn : Str} {cs : Scope} {a : Addr} {ccd : Value} {cl : List (Str × Addr)} {outer : List Env} {A₀ : Around} {base h₀ : Heap} {L : Addr} {m : Str → Option Value} {s : Shared} {Q E : Value → Shared → Prop} {news : List (Addr × Obj)} {n : Nat} {ys : List Value} {l : List Nat} {t : Tok},
    Below A₀ base outer h₀ → Fr h₀ L s.heap m → Frag.In (hd.heap_39 w.params) h₀ → Top topProg loose mean mg mb h₀ → cs.kind = .function → News h₀ L s.heap ((q, listOf ys.toArray n) :: news) → (rd, fnO none fd) ∈ news → (c1, c1o) ∈ news → (cell, co) ∈ news → (∀ p ∈ news, p.1 ≠ q) →
    StrsAre ys (l.map chr1) → l.length ≤ 100 → dp + 2 < recursionLimit → un + 16 < cLine →
    (∀ h' tk' n' t', Fr h₀ L h' m → News h₀ L h' ((q, listOf ys.tail.toArray n') :: news) → Q (.str (sOf (l.take 1)) t') { s with heap := h', toks := tk' }) →
    wpAny (model PySem.Challenge.rw_pg0135_01.row.prog w) (ktrTop dp un gd cn cs L a ccd cl outer) (call (.ref rd) [.int 1 t]) Q E s
/-- what a reader holds -/
abbrev lexD (w : World) (ln : Int) (st pb : Addr) (ta tb tc td te tf : Tok) : Obj :=
  dictOf [⟨PyData.keyHash w.params (Str.ofString "lineno"), .str (Str.ofString "lineno") ta, .int ln tb⟩, ⟨PyData.keyHash w.params (Str.ofString "instream"), .str (Str.ofString "instream") tc, .ref st⟩,
    ⟨PyData.keyHash w.params (Str.ofString "whitespace"), .str (Str.ofString "whitespace") td, .str (Str.ofString "\n\t\r ") te⟩, ⟨PyData.keyHash w.params (Str.ofString "pushback"), .str (Str.ofString "pushback") tf, .ref pb⟩] 4
end Mine
end
section
open PySem PySem.W PyProof.Rows
namespace Mine
local macro_rules | `(tactic| k_all) => `(tactic| first | assumption | (refine' Low.ne ?lx ?lh; (case lx => assumption); (case lh => omega)))
local macro_rules | `(tactic| walk_at "call builtin:list.append") => `(tactic| (k_here; k_dflt (refine' append_K ?k1 ?k2 ?k3 ?_ ?z; (case k1 => k_asm); (case k2 => k_asm); (case k3 => k_upd); (case z => first | size_fits | (rw [sizeLine_eq]; (try simp only [List.size_toArray, Array.size_push]); omega))); intro h' F' N'; (try k_sweep)))
local macro_rules | `(tactic| k_room) => `(tactic| ktr_room)
local macro_rules | `(tactic| k_units) => `(tactic| (have hcL9 := cLine_is; (try simp only [units_in1, units_deeper, Around.mark_units, units_caller] at *); (try dsimp only [ktrTop] at *); omega))
local macro_rules | `(tactic| walk_at $s:str) => `(tactic| ((have h9 : StopAt $s := by assumption); clear h9; refine Stop.out ?_))
local macro_rules | `(tactic| walk_at "call ref") => `(tactic| (k_dflt (refine' stopCall_out ?sca9 ?scb9; (case sca9 => assumption))))
local macro_rules | `(tactic| walk_at "setAttr ref") => `(tactic| (k_here; k_dflt (refine' fn_setattr_K ?F ?N ?U ?_; (case F => k_asm); (case N => k_asm); (case U => k_updF)); intro h' D' tk' F' N' l1; (try k_lt l1); (try k_sweep)))
local macro_rules | `(tactic| walk_at "getMethod ref") => `(tactic| (k_here; k_dflt (refine' fn_getread_K ?N ?f ?d ?_; (case N => k_asm); (case f => k_mem); (case d => k_mem)); intro tk'))
theorem seq0 (k : Nat) : seqIndex? 0 (k + 1) = some 0 := by
  unfold seqIndex?
  simp
theorem strs_cons {ys : List Value} {x : Str} {l : List Str} (h : StrsAre ys (x :: l)) : ∃ t vs, ys = .str x t :: vs ∧ StrsAre vs l := by
  cases h with
  | cons _ t h => exact ⟨t, _, rfl, h⟩
theorem news_drop {h₀ h : Heap} {L : Addr} {e0 e1 e2 e3 : Addr × Obj} {news : List (Addr × Obj)} (N : News h₀ L h (e0 :: e1 :: e2 :: e3 :: news)) : News h₀ L h (e0 :: news) := news_sub N fun p hp => by
  rcases List.mem_cons.mp hp with rfl | hp
  · exact .head _
  · exact .tail _ (.tail _ (.tail _ (.tail _ hp)))
theorem news_dup {h₀ h : Heap} {L : Addr} {e0 e1 e2 e3 : Addr × Obj} {news : List (Addr × Obj)} (N : News h₀ L h (e0 :: news)) (h1 : e1 ∈ news) (h2 : e2 ∈ news) (h3 : e3 ∈ news) : News h₀ L h (e0 :: e1 :: e2 :: e3 :: news) := fun p hp => by
  rcases List.mem_cons.mp hp with rfl | hp
  · exact N _ (.head _)
  rcases List.mem_cons.mp hp with rfl | hp
  · exact N _ (.tail _ h1)
  rcases List.mem_cons.mp hp with rfl | hp
  · exact N _ (.tail _ h2)
  rcases List.mem_cons.mp hp with rfl | hp
  · exact N _ (.tail _ h3)
  · exact N _ (.tail _ hp)
theorem carried_strs : ∀ {vs : List Value} {ss : List Str}, CarriedAll vs (ss.map .str) → StrsAre vs ss
  | _, [], .nil => .nil
  | _, _ :: _, .cons (.str _ _) h => .cons _ _ (carried_strs h)
theorem carried_signs {vs : List Value} {l : List Nat} (h : CarriedAll vs ((signs (sOf l)).map .str)) : StrsAre vs (l.map chr1) := carried_strs h
section
variable {w : World} {loose : List Str} {mean : ExcName → Option Value} {mg mb : Str → Option Value} {dp un : Nat} {gd : Option (List Code)} {cn : Str} {cs : Scope} {a : Addr} {ccd : Value} {cl : List (Str × Addr)} {outer : List Env} {A₀ : Around} {base h₀ : Heap} {L : Addr} {m : Str → Option Value} {s : Shared} {Q E : Value → Shared → Prop}
variable (B : Below A₀ base outer h₀) (F : Fr h₀ L s.heap m) (X : Frag.In (hd.heap_39 w.params) h₀) (T : Top topProg loose mean mg mb h₀) (hk : cs.kind = .function)
include B F X T hk
set_option maxRecDepth 100000 in
set_option maxHeartbeats 8000000 in
theorem reader {rest : List (Addr × Obj)} {txt : List Nat} {t1 : Tok} (C86 : CodeHd h₀ 90 86)
    (N : News h₀ L s.heap ((86, tabObj #[]) :: rest)) (h86 : ∀ p ∈ rest, p.1 ≠ 86) 
    (hgz : txt.length ≤ 100)
    (hdp : dp + 5 < recursionLimit) (hu : un + 48 < cLine)
    (hret : ∀ h' tk' (pb x dx D st c2 rd c1 q cell : Nat) (fd fd2 : FuncData) (c2o c1o co : Obj) (tbs : Array Value) (ys : List Value) (n : Nat) (t0 ta tb tc td te tf : Tok), Fr h₀ L h' m →
      News h₀ L h' ((pb, listOf (#[] : Array Value) 0) :: (x, instObj 68 dx) :: (dx, lexD w 1 st pb ta tb tc td te tf) :: (D, rdD w t0 rd) :: (st, fnO (some D) fd2) :: (c2, c2o) :: (rd, fnO none fd) :: (c1, c1o) :: (q, listOf ys.toArray n) :: (cell, co) :: (86, tabObj tbs) :: rest) →
      ReadOK w fd rd c1 cell c1o co q → StrsAre ys (txt.map chr1) → (Low cell rest ∧ 86 < cell ∧ cell < q ∧ q < c1 ∧ c1 < rd ∧ rd < c2 ∧ c2 < st ∧ st < D ∧ D < dx ∧ dx < x ∧ x < pb) → Q (.ref x) { s with heap := h', toks := tk' }) :
    wpAny (model PySem.Challenge.rw_pg0135_01.row.prog w) (ktrTop dp un gd cn cs L a ccd cl outer) (call (.ref 91) [.str (sOf txt) t1]) Q E s := by
  w_on
  revert X; k_fill; intro X
  refine wpAny_call ?_
  k_dflt (refine' code_defC ?k1 ?k2 ?k3 ?k4 ?k5 ?kA ?kF ?kK ?k6 ?k7 ?k8 ?k9 ?kB ?kD ?_ ?c2 ?c3 ?c4; (case kA => exact rfl); (case kF => exact rfl); (case kK => assumption); (case k1 => k_asm); (case k2 => k_asm); (case k3 => k_asm); (case k4 => k_asm); (case k5 => k_asm); (case k6 => k_is); (case k7 => k_is); (case k8 => ktr_room); (case k9 => exact BindsTo.of_eq rfl); (case kB => exact rfl); (case kD => decide +kernel); (case c2 => exact rfl); (case c3 => exact rfl); (case c4 => exact rfl); k_whole)
  intro g1 L1 hp1 tk1 cells1 FG1 F1 N1 Y1 B1 X1 T1 l1
  k_lt l1
  k_cells Y1
  simp only [List.cons_append, List.nil_append] at N1
  try dsimp only
  try k_fold
  have C1 := C86.keeps FG1.keep
  refine wpAny_mono (E := fun _ _ => False) ?_ (fun _ _ h => h) (fun _ _ h => h.elim)
  have mk1 : StopAt "call type:list" := .mk _
  k_steps
  refine Stop.inn ?_
  clear mk1
  have hcl := ltN (Heap.lt_size (N1 _ (.head _)).1)
  refine list_strD rfl F1 N1 ?_ (by rw [sOf_length, sizeLine_eq]; omega)
  intro h2 tk2 ys F2 N2 hk2 hn2 hL2 nP2 hc2
  have iS := carried_signs hc2
  clear hc2
  have hDne := nP2.2
  k_made
  try clear nP2
  simp only [List.forall_mem_cons] at hDne
  obtain ⟨d1, d2, d3⟩ := hDne
  replace d1 := neN d1; replace d2 := neN d2
  try dsimp only at *
  rename News g1 L1 h2 ((hp1.objs.size, _) :: _) => NX
  clear N2 N1
  have hlow := Low.of l1.2
  k_steps

  rename News h₀ L _ _ => NN
  rename Fr h₀ L _ _ => FF
  have hcl : L1 + 1 < hp1.objs.size := hcl
  refine hret _ _ _ _ _ _ _ _ _ _ _ _ _ _ _ _ _ _ _ _ _ _ _ _ _ _ _ FF NN ?ok iS ?ord
  case ord =>
    refine ⟨hlow.mono (by omega), ?_⟩
    omega
  case ok =>
    intro loose mean mg mb dp un gd cn cs a ccd cl outer A₀ base h₀ L m s Q E news n ys l t B F X T hk N h1 h2 h3 h4 hy hl hdp hun hret
    have N2 := news_dup N h1 h2 h3
    clear N
    have g1' := neN (h4 _ h1)
    have g2' := neN (h4 _ h2)
    have g3' := neN (h4 _ h3)
    dsimp only at g1' g2' g3'
    refine wpAny_call ?_
    k_dflt (refine' code_nest ?k1 ?k2 ?k3 ?k4 ?k5 ?kA ?kF ?kK ?k6 ?k7 ?k8 ?k9 ?kB ?_ ?c2 ?c3 ?c4 ?c5; (case kA => exact rfl); (case kF => exact rfl); (case kK => assumption); (case k1 => exact B); (case k2 => exact F); (case k3 => exact X); (case k4 => exact N2); (case k5 => exact T); (case k6 => exact List.mem_cons_of_mem _ (List.mem_cons_self ..)); (case k7 => exact codeRec_news N2 (.tail _ (.tail _ (.head _))) (by assumption) (by assumption)); (case k8 => ktr_room); (case k9 => exact BindsTo.of_eq rfl); (case c5 => decide); (case kB => exact locs rfl); (case c2 => exact rfl); (case c3 => exact rfl); (case c4 => exact rfl); k_whole)
    intro g' L' h' FG' F' N' B' X' T'
    (try dsimp only); (try k_lift B'); (try k_fold)
    clear h1 h2 h3 N2
    cases l with
    | nil =>
      cases hy
      k_steps
      exact hret _ _ _ _ (by assumption) (news_drop (by assumption))
    | cons c l =>
      obtain ⟨tz, vs9, rfl, hy⟩ := strs_cons hy
      have hyl := hy.length
      simp only [List.length_map, List.length_cons] at hyl hl
      have mkL : StopAt "call builtin:len" := .mk _
      k_steps
      refine Stop.inn ?_
      clear mkL
      have esz : ∀ v : Value, (v :: vs9).toArray.size = l.length + 1 := fun v => by rw [List.size_toArray, List.length_cons, hyl]
      refine Calls.call_len_list (News.isList (by assumption) (.head _)) (by rw [esz]; omega) ?_
      rw [esz]
      have mkP : StopAt "call builtin:list.pop" := .mk _
      k_steps
      refine Stop.inn ?_
      clear mkP
      refine' kl_popAt (k := 0) (p := []) (q := vs9) ?F ?N ?f ?k ?e ?U ?z ?_
      (case F => k_asm); (case N => k_asm); (case U => k_upd); (case f => rfl); (case e => rfl)
      (case k => (rw [esz]; exact seq0 _))
      (case z => (rw [sizeLine_eq]; simp only [List.toList_toArray, List.length_cons]; omega))
      kl_rest
      k_steps
      exact hret _ _ _ _ (by assumption) (news_drop (by assumption))
end
end Mine
end
section
open PySem PySem.W PyProof.Rows
namespace Mine
local macro_rules | `(tactic| k_all) => `(tactic| first | assumption | (refine' Low.ne ?lx ?lh; (case lx => assumption); (case lh => omega)))
local macro_rules | `(tactic| walk_at "call builtin:list.append") => `(tactic| (k_here; k_dflt (refine' append_K ?k1 ?k2 ?k3 ?_ ?z; (case k1 => k_asm); (case k2 => k_asm); (case k3 => k_upd); (case z => first | size_fits | (rw [sizeLine_eq]; (try simp only [List.size_toArray, Array.size_push]); omega))); intro h' F' N'; (try k_sweep)))
local macro_rules | `(tactic| k_room) => `(tactic| ktr_room)
local macro_rules | `(tactic| k_units) => `(tactic| (have hcL9 := cLine_is; (try simp only [units_in1, units_deeper, Around.mark_units, units_caller] at *); (try dsimp only [ktrTop] at *); omega))
local macro_rules | `(tactic| walk_at $s:str) => `(tactic| ((have h9 : StopAt $s := by assumption); clear h9; refine Stop.out ?_))
local macro_rules | `(tactic| walk_at "call ref") => `(tactic| (refine' stopCall_out ?a ?b; (case a => assumption)))
local macro_rules | `(tactic| walk_at "setAttr ref") => `(tactic| (k_here; k_dflt (refine' fn_setattr_K ?F ?N ?U ?_; (case F => k_asm); (case N => k_asm); (case U => k_updF)); intro h' D' tk' F' N' l1; (try k_lt l1); (try k_sweep)))
local macro_rules | `(tactic| walk_at "getMethod ref") => `(tactic| (k_here; k_dflt (refine' fn_getread_K ?N ?f ?d ?_; (case N => k_asm); (case f => k_mem); (case d => k_mem)); intro tk'))
section
variable {w : World} {loose : List Str} {mean : ExcName → Option Value} {mg mb : Str → Option Value} {dp un : Nat} {gd : Option (List Code)} {cn : Str} {cs : Scope} {a : Addr} {ccd : Value} {cl : List (Str × Addr)} {outer : List Env} {A₀ : Around} {base h₀ : Heap} {L : Addr} {m : Str → Option Value} {s : Shared} {Q E : Value → Shared → Prop}
variable (B : Below A₀ base outer h₀) (F : Fr h₀ L s.heap m) (X : Frag.In (hd.heap_39 w.params) h₀) (T : Top topProg loose mean mg mb h₀) (hk : cs.kind = .function)
include B F X T hk
set_option maxRecDepth 100000 in
set_option maxHeartbeats 8000000 in
theorem readcharC {q dx x D st rd c1 cell pb n : Nat} {ys : List Value} {l : List Nat} {ln : Int} {ta tb tc td te tf t0 : Tok} {fd fd2 : FuncData} {c1o co : Obj} {rest : List (Addr × Obj)}
    (N : News h₀ L s.heap ((q, listOf ys.toArray n) :: (dx, lexD w ln st pb ta tb tc td te tf) :: (x, instObj 68 dx) :: (D, rdD w t0 rd) :: (st, fnO (some D) fd2) :: (rd, fnO none fd) :: (c1, c1o) :: (cell, co) :: rest))
    (ok : ReadOK w fd rd c1 cell c1o co q) (hy : StrsAre ys (l.map chr1)) (hl : l.length ≤ 100) (hq : ∀ p ∈ rest, p.1 ≠ q) (hdx : ∀ p ∈ rest, p.1 ≠ dx)
    (hord : cell < q ∧ q < c1 ∧ c1 < rd ∧ rd < st ∧ st < D ∧ D < dx ∧ dx < x) (hln : 0 ≤ ln ∧ ln ≤ 1000)
    (hdp : dp + 4 < recursionLimit) (hu : un + 32 < cLine)
    (hret : ∀ h' tk' n' t' ln' tb', ln ≤ ln' → ln' ≤ ln + 1 → Fr h₀ L h' m → News h₀ L h' ((q, listOf ys.tail.toArray n') :: (dx, lexD w ln' st pb ta tb' tc td te tf) :: (x, instObj 68 dx) :: (D, rdD w t0 rd) :: (st, fnO (some D) fd2) :: (rd, fnO none fd) :: (c1, c1o) :: (cell, co) :: rest) → Q (.str (sOf (l.take 1)) t') { s with heap := h', toks := tk' }) :
    codeAny (model PySem.Challenge.rw_pg0135_01.row.prog w) (ktrTop dp un gd cn cs L a ccd cl outer) (.call (.ref 51) ⟨[.ref x], []⟩) (fun r s' => match r with | .ok (.ret v) => Q v s' | .ok _ => False | .error e => E e s') s := by
  w_on
  revert X; k_fill; intro X
  k_dflt ktr_enter
  rename_i g1 L1 hp1 FG1 F1 N1 B1 X1 T1
  refine wpAny_mono (E := fun _ _ => False) ?_ (fun _ _ h => h) (fun _ _ h => h.elim)
  have mk1 : StopCall rd := .mk _
  k_steps
  k_dflt (refine' callWith_F ?k1 ?_; (case k1 => exact FnAt.of (by k_asm) (by k_mem)); k_whole)
  k_steps
  refine Stop.inn ?_
  clear mk1
  refine' ok B1 F1 X1 T1 rfl N1 ?m1 ?m2 ?m3 ?ap hy hl ?dp ?un ?_
  case m1 => k_mem
  case m2 => k_mem
  case m3 => k_mem
  case ap => exact List.forall_mem_cons.mpr ⟨by k_ne, List.forall_mem_cons.mpr ⟨by k_ne, List.forall_mem_cons.mpr ⟨by k_ne, List.forall_mem_cons.mpr ⟨by k_ne, List.forall_mem_cons.mpr ⟨by k_ne, List.forall_mem_cons.mpr ⟨by k_ne, List.forall_mem_cons.mpr ⟨by k_ne, hq⟩⟩⟩⟩⟩⟩⟩
  case dp => ktr_room
  case un => show un + 3 + 16 < cLine; omega
  intro h' tk' n' t' F2 N2
  clear F1 N1
  k_steps
  · exact hret _ _ _ _ (ln + 1) _ (by omega) (by omega) (by assumption) (by assumption)
  · exact hret _ _ _ _ ln _ (by omega) (by omega) (by assumption) (by assumption)
end
end Mine
end
section
open PySem PySem.W PyProof.Rows PySem.Calls PySem.Spec
set_option maxRecDepth 100000
namespace Mine
theorem slot_cit_next : Slot "callable_iterator" "__next__" "callable_iterator.__next__" :=
  .of (owner := "callable_iterator") (n := "__next__") (by rw [typeLookup_type, builtinLookup_eq_fast]; kernel_rfl) (by decide +kernel) (by decide +kernel) (by decide +kernel)
    (by first | exact .inl (by decide +kernel) | exact .inr (by decide +kernel)) (by rw [isSubtype_type]; kernel_rfl)
theorem slot_cit_iter : Slot "callable_iterator" "__iter__" "callable_iterator.__iter__" :=
  .of (owner := "callable_iterator") (n := "__iter__") (by rw [typeLookup_type, builtinLookup_eq_fast]; kernel_rfl) (by decide +kernel) (by decide +kernel) (by decide +kernel)
    (by first | exact .inl (by decide +kernel) | exact .inr (by decide +kernel)) (by rw [isSubtype_type]; kernel_rfl)
theorem entry_cit_next : entryFor table "callable_iterator.__next__" = some Builtin.«callable_iterator.__next__» := entryFor_of_tree (by kernel_rfl)
theorem entry_cit_iter : entryFor table "callable_iterator.__iter__" = some Builtin.«dict_keyiterator.__iter__» :=
  entryFor_alias (id' := "dict_keyiterator.__iter__") (by kernel_rfl) (by first | rfl | decide +kernel | (unfold String.splitOn; simp +decide [String.splitOnAux])) (by decide +kernel) (by kernel_rfl)
theorem args_cit_next (a : Value) : argsOk "callable_iterator.__next__" ⟨[a], []⟩ := by unfold argsOk; kernel_rfl
theorem args_cit_iter (a : Value) : argsOk "callable_iterator.__iter__" ⟨[a], []⟩ := by unfold argsOk; kernel_rfl
theorem slot_method_call : Slot "method" "__call__" "method.__call__" :=
  .of (owner := "method") (n := "__call__") (by rw [typeLookup_type, builtinLookup_eq_fast]; kernel_rfl) (by decide +kernel) (by decide +kernel) (by decide +kernel)
    (by first | exact .inl (by decide +kernel) | exact .inr (by decide +kernel)) (by rw [isSubtype_type]; kernel_rfl)
theorem args_iter2 (a b : Value) : argsOk "iter" ⟨[a, b], []⟩ := by unfold argsOk; kernel_rfl
end Mine
end
section
open PySem PySem.W PyProof.Rows PySem.Calls PySem.Spec
set_option maxRecDepth 100000
namespace Mine
abbrev citO (f sen : Value) (b : Bool) : Obj := { cls := .type "callable_iterator", data := .fields #[f, sen, .bool b] }
section
variable {prog : Program} {w : World} {A : Around} {E : Value → Shared → Prop} {s : Shared} {h₀ : Heap} {L : Addr} {m : Str → Option Value} {news : List (Addr × Obj)}
theorem iter2 {f self sen : Value} {m0 : Addr} {Q : Value → Shared → Prop} (F : Fr h₀ L s.heap m) (N : News h₀ L s.heap news) (hm : (m0, methodObj f self) ∈ news)
    (h : ∀ I h', Fr h₀ L h' m → News h₀ L h' ((I, citO (.ref m0) sen false) :: news) → (∀ p ∈ news, p.1 < I) → Q (.ref I) { s with heap := h' }) :
    wpAny (model prog w) A (call (.builtin "iter") [.ref m0, sen]) Q E s := by
  have hT : s.TypeIs (.ref m0) "method" := ⟨_, (N _ hm).1, rfl⟩
  refine call_function_entry (by decide +kernel) (by decide +kernel) kdk_entry_iter (args_iter2 _ _) ?_
  unfold Builtin.«iter»
  refine wpAny_bind (m := someArgs "iter" 1 2 _) (wpAny_of_eq (a := [Value.ref m0, sen]) (by first | rfl | kernel_rfl!) ?_)
  dsimp only
  refine wpAny_bind (wpAny_specialOf hT slot_method_call.lookup ?_)
  refine wpAny_bind (wpAny_rule ?_)
  refine wpAny_bind ?_
  unfold newFields
  refine wpAny_newObj_type ?_ (by size_fits)
  exact wpAny_pure ⟨_, rfl, h _ _ (F.push _) (News.push F N _ rfl) (fun q hq => Heap.lt_size (N q hq).1)⟩
theorem cit_iter {I : Addr} {f sen : Value} {b : Bool} {Q : Value → Shared → Prop} (hI : s.heap.get? I = some (citO f sen b)) (h : Q (.ref I) s) : wpAny (model prog w) A (pyIter (.ref I)) Q E s := by
  have hT : s.TypeIs (.ref I) "callable_iterator" := ⟨_, hI, rfl⟩
  refine wpAny_pyIter_slot hT slot_cit_iter (wpAny_call_entry slot_cit_iter hT entry_cit_iter ?_ (args_cit_iter _))
  show wpAny _ _ (ret (.ref I)) _ _ s
  exact wpAny_pure ⟨_, rfl, "callable_iterator", _, hT, slot_cit_next.lookup, h⟩
theorem wpAny_callBorrowed {M : Model} {f : Value} {pos : List Value} {Q : Value → Shared → Prop}
    (hc : codeAny M A (.call f ⟨pos, []⟩) (fun r s' => match r with | .ok (.ret v) => Q v s' | .ok _ => False | .error e => E e s') s) :
    wpAny M A (callBorrowed f pos) Q E s := by
  have h := wpAny_call (kw := []) hc
  intro Γ p hΓ
  have h2 := h Γ p hΓ
  rw [Sem.wp_cmd_call] at h2
  unfold callBorrowed
  rw [Sem.wp_call]
  refine cast ?_ h2
  congr 1
  funext r s'
  cases r with
  | error e => rfl
  | ok f => cases f <;> rfl
theorem borrows_meth {f : Addr} {self : Value} {m0 : Addr} {o : Obj} {fd : FuncData} {Q : Bool → Shared → Prop} {M : Model} (hm : s.heap.get? m0 = some (methodObj (.ref f) self)) (hf : s.heap.get? f = some o) (hd : o.data = .func fd) (h : Q true s) :
    wpAny M A (borrowsExactly (.ref m0)) Q E s := by
  unfold borrowsExactly
  refine wpAny_bind (wpAny_load hm ?_)
  dsimp only
  rw [if_pos (by decide)]
  show wpAny _ _ (load f >>= _) _ _ _
  refine wpAny_bind (wpAny_load hf ?_)
  rw [hd]
  exact wpAny_pure h
def CitBack (I m0 f : Addr) (self : Value) (t : Tok) (of : Obj) (Q : Option Value → Shared → Prop) (v : Value) (s' : Shared) : Prop :=
  ∃ y ty, v = .str y ty ∧ s'.heap.get? I = some (citO (.ref m0) (.str (Str.ofString "") t) false) ∧ s'.heap.get? m0 = some (methodObj (.ref f) self) ∧ s'.heap.get? f = some of ∧ (y ≠ Str.ofString "" → Q (some v) s') ∧ (y = Str.ofString "" → ∀ h', Heap.ExtBut I s'.heap h' → Q none { s' with heap := h' })
theorem cit_next {I m0 f : Addr} {self : Value} {t : Tok} {of : Obj} {fd : FuncData} {Q : Option Value → Shared → Prop} (hh : A.handled = none)
    (hI : s.heap.get? I = some (citO (.ref m0) (.str (Str.ofString "") t) false)) (hm : s.heap.get? m0 = some (methodObj (.ref f) self)) (hf : s.heap.get? f = some of) (hd : of.data = .func fd)
    (h : codeAny (model prog w) A.in1 (.call (.ref f) ⟨[self], []⟩) (fun r s' => match r with | .ok (.ret v) => CitBack I m0 f self t of Q v s' | .ok _ => False | .error _ => False) s) : wpAny (model prog w) A (pyNext (.ref I)) Q E s := by
  have hT : s.TypeIs (.ref I) "callable_iterator" := ⟨_, hI, rfl⟩
  unfold pyNext
  refine wpAny_bind (wpAny_attempt (wpAny_callSpecial?_slot (name := Str.ofString "__next__") hT slot_cit_next
    (wpAny_call_entry slot_cit_next hT entry_cit_next ?_ (args_cit_next _))))
  unfold Builtin.«callable_iterator.__next__»
  refine wpAny_bind (wpAny_of_eq (a := (Value.ref I, [])) rfl ?_)
  try dsimp only
  refine wpAny_bind (wpAny_field hI rfl (x := .bool false) rfl ?_)
  rw [if_neg (by decide)]
  show wpAny _ _ (field (.ref I) 0 >>= _) _ _ s
  refine wpAny_bind (wpAny_field hI rfl (x := .ref m0) rfl ?_)
  refine wpAny_bind (wpAny_attempt ?_)
  unfold callOutOfASlot
  refine wpAny_bind (borrows_meth hm hf hd ?_)
  rw [if_pos rfl]
  refine wpAny_callBorrowed (method_call hm ?_)
  refine codeAny_mono h fun r s' hr => ?_
  cases r with
  | error e => exact hr.elim
  | ok fl =>
  cases fl with
  | ret v =>
    obtain ⟨y, ty, rfl, e1, e2, e3, q1, q2⟩ := hr
    show wpAny _ _ (field (.ref I) 2 >>= _) _ _ s'
    refine wpAny_bind (wpAny_field e1 rfl (x := .bool false) rfl ?_)
    rw [if_neg (by decide)]
    show wpAny _ _ (field (.ref I) 1 >>= _) _ _ s'
    refine wpAny_bind (wpAny_field e1 rfl (x := .str (Str.ofString "") t) rfl ?_)
    refine wpAny_bind (wpAny_holding ((PySem.strKind prog w).eqBool (a := Str.ofString "") (b := y) (by simp [PySem.strKind, Value.isStrOf]) (by simp [PySem.strKind, Value.isStrOf]) ?_))
    by_cases hy : Str.ofString "" = y
    · rw [decide_eq_true hy]
      rw [if_neg (by decide)]
      refine wpAny_bind (wpAny_rule ?_)
      refine wpAny_bind ?_
      show wpAny _ _ (field (.ref I) 0 >>= _) _ _ s'
      refine wpAny_bind (wpAny_field e1 rfl (x := .ref m0) rfl ?_)
      refine wpAny_bind ?_
      unfold slotLetsGo
      refine wpAny_bind (borrows_meth e2 e3 hd ?_)
      rw [if_pos rfl]
      refine wpAny_pure ?_
      refine wpAny_bind (wpAny_setField_rec e1 (show (0 : Nat) < 3 by decide) fun h1 g1 s1 => ?_)
      refine wpAny_bind (wpAny_setField_rec g1 (show (1 : Nat) < 3 by decide) fun h2 g2 s2 => ?_)
      refine wpAny_setField_rec g2 (show (2 : Nat) < 3 by decide) fun h3 g3 s3 => ?_
      have ext := ((s1.trans s2).trans s3).extBut
      show wpAny _ _ (newExc (.type "StopIteration") [] >>= _) _ _ _
      refine wpAny_bind ?_
      simp only [newExc, newTuple]
      refine wpAny_bind (wpAny_newObj_type ?_ (by size_fits))
      refine wpAny_bind (m := firstArgMember _ _) (wpAny_of_eq (a := Value.none) (by first | rfl | (simp only [firstArgMember]; rfl)) ?_)
      refine wpAny_newObj_type ?_ (by size_fits)
      simp only [raiseNew]
      refine wpAny_bind (wpAny_handled ?_)
      first | rw [show A.in1.handled = none from hh] | rw [hh]
      refine wpAny_bind (wpAny_pure (wpAny_throw ?_))
      refine wpAny_bind (wpAny_isInstance (T := "StopIteration") (b := true) ⟨_, Heap.get?_push_size _ rfl, rfl⟩ isSubtype_stop ?_)
      exact wpAny_pure (q2 hy.symm _ ((ext.push _).push _))
    · rw [decide_eq_false hy, if_pos (by decide)]
      exact wpAny_pure ⟨_, rfl, wpAny_pure (q1 (Ne.symm hy))⟩
  | _ => exact hr.elim
end
end Mine
end
section
open PySem PySem.W PyProof.Rows
namespace Mine
local macro_rules | `(tactic| k_all) => `(tactic| first | assumption | (refine' Low.ne ?lx ?lh; (case lx => assumption); (case lh => omega)))
local macro_rules | `(tactic| walk_at "call builtin:list.append") => `(tactic| (k_here; k_dflt (refine' append_K ?k1 ?k2 ?k3 ?_ ?z; (case k1 => k_asm); (case k2 => k_asm); (case k3 => k_upd); (case z => first | size_fits | (rw [sizeLine_eq]; (try simp only [List.size_toArray, Array.size_push]); omega))); intro h' F' N'; (try k_sweep)))
local macro_rules | `(tactic| k_room) => `(tactic| ktr_room)
local macro_rules | `(tactic| k_units) => `(tactic| (have hcL9 := cLine_is; (try simp only [units_in1, units_deeper, Around.mark_units, units_caller] at *); (try dsimp only [ktrTop] at *); omega))
local macro_rules | `(tactic| walk_at $s:str) => `(tactic| ((have h9 : StopAt $s := by assumption); clear h9; refine Stop.out ?_))
local macro_rules | `(tactic| walk_at "call ref") => `(tactic| (refine' stopCall_out ?a ?b; (case a => assumption)))
local macro_rules | `(tactic| walk_at "setAttr ref") => `(tactic| (k_here; k_dflt (refine' fn_setattr_K ?F ?N ?U ?_; (case F => k_asm); (case N => k_asm); (case U => k_updF)); intro h' D' tk' F' N' l1; (try k_lt l1); (try k_sweep)))
local macro_rules | `(tactic| walk_at "getMethod ref") => `(tactic| (k_here; k_dflt (refine' fn_getread_K ?N ?f ?d ?_; (case N => k_asm); (case f => k_mem); (case d => k_mem)); intro tk'))
theorem news_rot {h₀ h : Heap} {L : Addr} {pre blk rest : List (Addr × Obj)} (N : News h₀ L h (pre ++ (blk ++ rest))) : News h₀ L h (blk ++ (pre ++ rest)) := news_sub N fun p hp => by
  simp only [List.mem_append] at hp ⊢
  rcases hp with h | h | h <;> simp [h]
section
variable {w : World} {loose : List Str} {mean : ExcName → Option Value} {mg mb : Str → Option Value} {dp un : Nat} {gd : Option (List Code)} {cn : Str} {cs : Scope} {a : Addr} {ccd : Value} {cl : List (Str × Addr)} {outer : List Env} {A₀ : Around} {base h₀ : Heap} {L : Addr} {m : Str → Option Value} {s : Shared} {Q E : Value → Shared → Prop}
variable (B : Below A₀ base outer h₀) (F : Fr h₀ L s.heap m) (X : Frag.In (hd.heap_39 w.params) h₀) (T : Top topProg loose mean mg mb h₀) (hk : cs.kind = .function)
include B F X T hk
set_option maxRecDepth 100000 in
set_option maxHeartbeats 8000000 in
theorem next_sign {q dx x D st rd c1 cell pb n : Nat} {ys : List Value} {l : List Nat} {ln : Int} {ta tb tc td te tf t0 : Tok} {fd fd2 : FuncData} {c1o co : Obj} {rest : List (Addr × Obj)} {I m0 : Nat} {ts : Tok} {Q : Option Value → Shared → Prop}
    (N : News h₀ L s.heap ((I, citO (.ref m0) (.str (Str.ofString "") ts) false) :: (m0, methodObj (.ref 51) (.ref x)) :: (q, listOf ys.toArray n) :: (dx, lexD w ln st pb ta tb tc td te tf) :: (x, instObj 68 dx) :: (D, rdD w t0 rd) :: (st, fnO (some D) fd2) :: (rd, fnO none fd) :: (c1, c1o) :: (cell, co) :: rest))
    (ok : ReadOK w fd rd c1 cell c1o co q) (hy : StrsAre ys (l.map chr1)) (hl : l.length ≤ 100) (hq : ∀ p ∈ rest, p.1 ≠ q) (hdx : ∀ p ∈ rest, p.1 ≠ dx)
    (hord : cell < q ∧ q < c1 ∧ c1 < rd ∧ rd < st ∧ st < D ∧ D < dx ∧ dx < x) (hln : 0 ≤ ln ∧ ln ≤ 1000) (hI : x < m0 ∧ m0 < I) (hrI : ∀ p ∈ rest, p.1 ≠ I)
    (hdp : dp + 4 < recursionLimit) (hu : un + 33 < cLine)
    (hret : ∀ h' tk' n' t' ln' tb', ln ≤ ln' → ln' ≤ ln + 1 → Fr h₀ L h' m → News h₀ L h' ((I, citO (.ref m0) (.str (Str.ofString "") ts) false) :: (m0, methodObj (.ref 51) (.ref x)) :: (q, listOf ys.tail.toArray n') :: (dx, lexD w ln' st pb ta tb' tc td te tf) :: (x, instObj 68 dx) :: (D, rdD w t0 rd) :: (st, fnO (some D) fd2) :: (rd, fnO none fd) :: (c1, c1o) :: (cell, co) :: rest) → l ≠ [] → Q (some (.str (sOf (l.take 1)) t')) { s with heap := h', toks := tk' })
    (hend : ∀ h' tk' n' ln' tb', ln ≤ ln' → ln' ≤ ln + 1 → Fr h₀ L h' m → News h₀ L h' ((q, listOf ys.tail.toArray n') :: (dx, lexD w ln' st pb ta tb' tc td te tf) :: (x, instObj 68 dx) :: (D, rdD w t0 rd) :: (st, fnO (some D) fd2) :: (rd, fnO none fd) :: (c1, c1o) :: (cell, co) :: (m0, methodObj (.ref 51) (.ref x)) :: rest) → l = [] → Q none { s with heap := h', toks := tk' }) :
    wpAny (model PySem.Challenge.rw_pg0135_01.row.prog w) (ktrTop dp un gd cn cs L a ccd cl outer) (pyNext (.ref I)) Q E s := by
  w_on
  revert X; k_fill; intro X
  have hfn : ∃ of fd, (hd.heap_39 w.params).lookup 51 = some of ∧ of.data = .func fd := ⟨_, _, by k_is, rfl⟩
  obtain ⟨of, fd51, hlk, hdat⟩ := hfn
  have h51 := (X.keeps F.keep) _ _ hlk
  refine cit_next rfl (N _ (.head _)).1 (N _ (.tail _ (.head _))).1 h51 hdat ?_
  have N2 := news_rot (pre := [(I, citO (.ref m0) (.str (Str.ofString "") ts) false), (m0, methodObj (.ref 51) (.ref x))]) (blk := [_, _, _, _, _, _, _, _]) N
  refine readcharC B F X T hk N2 ok hy hl ?_ ?_ hord hln hdp (by omega) ?_
  · exact List.forall_mem_cons.mpr ⟨by k_ne, List.forall_mem_cons.mpr ⟨by k_ne, hq⟩⟩
  · exact List.forall_mem_cons.mpr ⟨by k_ne, List.forall_mem_cons.mpr ⟨by k_ne, hdx⟩⟩
  intro h' tk' n' t' ln' tb' a1 a2 F' N'
  have N3 := news_rot (pre := [_, _, _, _, _, _, _, _]) (blk := [_, _]) N'
  refine ⟨sOf (l.take 1), t', rfl, (N3 _ (.head _)).1, (N3 _ (.tail _ (.head _))).1, (X.keeps F'.keep) _ _ hlk, ?_, ?_⟩
  · intro hne
    refine hret h' tk' n' t' ln' tb' a1 a2 F' N3 ?_
    rintro rfl
    exact hne (by decide +kernel)
  · intro he h2 ext
    have hnI : ∀ b o, h₀.get? b = some o → b ≠ I := fun b o e hb => by rw [hb, (N _ (.head _)).2.2] at e; cases e
    refine hend h2 tk' n' ln' tb' a1 a2 ⟨F'.ns.at' fun o e => ext _ _ (Ne.symm (N _ (.head _)).2.1) e, fun b o e => ext b o (hnI b o e) (F'.keep b o e), F'.above⟩ ?_ ?_
    · intro p hp
      have hm : p ∈ (q, listOf ys.tail.toArray n') :: (dx, lexD w ln' st pb ta tb' tc td te tf) :: (x, instObj 68 dx) :: (D, rdD w t0 rd) :: (st, fnO (some D) fd2) :: (rd, fnO none fd) :: (c1, c1o) :: (cell, co) :: (I, citO (.ref m0) (.str (Str.ofString "") ts) false) :: (m0, methodObj (.ref 51) (.ref x)) :: rest := by
        simp only [List.mem_cons] at hp ⊢
        rcases hp with h | h | h | h | h | h | h | h | h | h <;> simp [h]
      have hpI : p.1 ≠ I := by
        simp only [List.mem_cons] at hp
        rcases hp with h | h | h | h | h | h | h | h | h | h
        iterate 9 (rw [h]; k_ne)
        exact hrI p h
      exact ⟨ext _ _ hpI (N' p hm).1, (N' p hm).2⟩
    · cases l with
      | nil => rfl
      | cons c r =>
        exfalso
        have := congrArg Str.length he
        rw [sOf_length] at this
        exact absurd this (by show ¬ (1 : Nat) = (Str.ofString "").length; decide +kernel)
set_option maxRecDepth 100000 in
set_option maxHeartbeats 8000000 in
theorem read_sign {q dx x D st rd c1 cell pb n : Nat} {ys : List Value} {l : List Nat} {ln : Int} {ta tb tc td te tf t0 : Tok} {fd fd2 : FuncData} {c1o co : Obj} {rest : List (Addr × Obj)} {e1 e2 : Addr × Obj}
    (N : News h₀ L s.heap (e1 :: e2 :: (q, listOf ys.toArray n) :: (dx, lexD w ln st pb ta tb tc td te tf) :: (x, instObj 68 dx) :: (D, rdD w t0 rd) :: (st, fnO (some D) fd2) :: (rd, fnO none fd) :: (c1, c1o) :: (cell, co) :: rest))
    (ok : ReadOK w fd rd c1 cell c1o co q) (hy : StrsAre ys (l.map chr1)) (hl : l.length ≤ 100) (hq : ∀ p ∈ rest, p.1 ≠ q) (hdx : ∀ p ∈ rest, p.1 ≠ dx)
    (hord : cell < q ∧ q < c1 ∧ c1 < rd ∧ rd < st ∧ st < D ∧ D < dx ∧ dx < x) (hln : 0 ≤ ln ∧ ln ≤ 1000) (hI : q ≠ e1.1 ∧ q ≠ e2.1 ∧ dx ≠ e1.1 ∧ dx ≠ e2.1)
    (hdp : dp + 4 < recursionLimit) (hu : un + 33 < cLine)
    (hret : ∀ h' tk' n' t' ln' tb', ln ≤ ln' → ln' ≤ ln + 1 → Fr h₀ L h' m → News h₀ L h' (e1 :: e2 :: (q, listOf ys.tail.toArray n') :: (dx, lexD w ln' st pb ta tb' tc td te tf) :: (x, instObj 68 dx) :: (D, rdD w t0 rd) :: (st, fnO (some D) fd2) :: (rd, fnO none fd) :: (c1, c1o) :: (cell, co) :: rest) → Q (.str (sOf (l.take 1)) t') { s with heap := h', toks := tk' }) :
    wpAny (model PySem.Challenge.rw_pg0135_01.row.prog w) (ktrTop dp un gd cn cs L a ccd cl outer) (call (.ref 51) [.ref x]) Q E s := by
  have N2 := news_rot (pre := [e1, e2]) (blk := [_, _, _, _, _, _, _, _]) N
  refine wpAny_call (readcharC B F X T hk N2 ok hy hl ?_ ?_ hord hln hdp (by omega) ?_)
  · exact List.forall_mem_cons.mpr ⟨Ne.symm hI.1, List.forall_mem_cons.mpr ⟨Ne.symm hI.2.1, hq⟩⟩
  · exact List.forall_mem_cons.mpr ⟨Ne.symm hI.2.2.1, List.forall_mem_cons.mpr ⟨Ne.symm hI.2.2.2, hdx⟩⟩
  intro h' tk' n' t' ln' tb' a1 a2 F' N'
  exact hret h' tk' n' t' ln' tb' a1 a2 F' (news_rot (pre := [_, _, _, _, _, _, _, _]) (blk := [_, _]) N')
end
end Mine
end
section
open PySem PySem.W PyProof.Rows
namespace Mine
theorem e34 : sOf [34] = Str.ofString "\"" := by decide +kernel
theorem e92 : sOf [92] = Str.ofString "\\" := by decide +kernel
theorem e10 : sOf [10] = Str.ofString "\n" := by decide +kernel
theorem i34 : (!(Builtin.Str.occurrences (Str.ofString "\n\t\r ") (Str.ofString "\"") 0 (Str.ofString "\n\t\r ").length 1).isEmpty) = false := by decide +kernel
theorem i92 : (!(Builtin.Str.occurrences (Str.ofString "\n\t\r ") (Str.ofString "\\") 0 (Str.ofString "\n\t\r ").length 1).isEmpty) = false := by decide +kernel
theorem i10 : (!(Builtin.Str.occurrences (Str.ofString "\n\t\r ") (Str.ofString "\n") 0 (Str.ofString "\n\t\r ").length 1).isEmpty) = true := by decide +kernel
theorem ite_T {b : Bool} {P Q : Prop} (h : b = true) (q : P) : if b = true then P else Q := by rw [if_pos h]; exact q
theorem ite_F {b : Bool} {P Q : Prop} (h : b = false) (q : Q) : if b = true then P else Q := by rw [if_neg (by rw [h]; decide)]; exact q
theorem strs_tail {ys : List Value} {x : Str} {l : List Str} (h : StrsAre ys (x :: l)) : StrsAre ys.tail l := by
  cases h with
  | cons _ _ h => exact h
theorem e0c (c : Nat) : Str.ofString "" ++ sOf [c] = sOf [c] := by
  have e : Str.ofString "" = sOf [] := by decide +kernel
  rw [e, sOf_append]; rfl
end Mine
end
section
open PySem PySem.W PyProof.Rows
namespace Mine
theorem tok_any {α : Type} {M : Model} {A : Around} {t : Sem α} {Q : α → Shared → Prop} {E : Value → Shared → Prop} {h : Heap} {g d X os} (H : ∀ tk, wpAny M A t Q E ⟨h, g, d, tk, os⟩) : wpAny M A t Q E ⟨h, g, d, X, os⟩ := H X
end Mine
end
section
open PySem PySem.W PyProof.Rows
namespace Mine
local macro_rules | `(tactic| k_all) => `(tactic| first | assumption | (refine' Low.ne ?lx ?lh; (case lx => assumption); (case lh => omega)))
local macro_rules | `(tactic| walk_at "call builtin:list.append") => `(tactic| (k_here; k_dflt (refine' append_K ?k1 ?k2 ?k3 ?_ ?z; (case k1 => k_asm); (case k2 => k_asm); (case k3 => k_upd); (case z => first | size_fits | (rw [sizeLine_eq]; (try simp only [List.size_toArray, Array.size_push]); omega))); intro h' F' N'; (try k_sweep)))
local macro_rules | `(tactic| k_room) => `(tactic| ktr_room)
local macro_rules | `(tactic| k_units) => `(tactic| (have hcL9 := cLine_is; (try simp only [units_in1, units_deeper, Around.mark_units, units_caller] at *); (try dsimp only [ktrTop] at *); omega))
local macro_rules | `(tactic| walk_at $s:str) => `(tactic| ((have h9 : StopAt $s := by assumption); clear h9; refine Stop.out ?_))
local macro_rules | `(tactic| walk_at "call ref") => `(tactic| (refine' stopCall_out ?a ?b; (case a => assumption)))
local macro_rules | `(tactic| walk_at "setAttr ref") => `(tactic| (k_here; k_dflt (refine' fn_setattr_K ?F ?N ?U ?_; (case F => k_asm); (case N => k_asm); (case U => k_updF)); intro h' D' tk' F' N' l1; (try k_lt l1); (try k_sweep)))
local macro_rules | `(tactic| walk_at "getMethod ref") => `(tactic| (k_here; k_dflt (refine' fn_getread_K ?N ?f ?d ?_; (case N => k_asm); (case f => k_mem); (case d => k_mem)); intro tk'))
section
variable {w : World} {loose : List Str} {mean : ExcName → Option Value} {mg mb : Str → Option Value} {dp un : Nat} {gd : Option (List Code)} {cn : Str} {cs : Scope} {a : Addr} {ccd : Value} {cl : List (Str × Addr)} {outer : List Env} {A₀ : Around} {base h₀ : Heap} {L : Addr} {m : Str → Option Value} {s : Shared} {Q E : Value → Shared → Prop}
variable (B : Below A₀ base outer h₀) (F : Fr h₀ L s.heap m) (X : Frag.In (hd.heap_39 w.params) h₀) (T : Top topProg loose mean mg mb h₀) (hk : cs.kind = .function)
include B F X T hk
set_option maxRecDepth 100000 in
set_option maxHeartbeats 8000000 in
theorem pushtok {dx x st pb n : Nat} {its : Array Value} {ln : Int} {ta tb tc td te tf tz : Tok} {z : Str} {rest : List (Addr × Obj)}
    (N : News h₀ L s.heap ((pb, listOf its n) :: (dx, lexD w ln st pb ta tb tc td te tf) :: (x, instObj 68 dx) :: rest)) (hpb : ∀ p ∈ rest, p.1 ≠ pb) (hord : dx < x ∧ x < pb) (hz : its.size ≤ 100)
    (hdp : dp + 3 < recursionLimit) (hu : un + 24 < cLine)
    (hret : ∀ h' tk', Fr h₀ L h' m → News h₀ L h' ((pb, listOf (its.push (.str z tz)) (n + 1)) :: (dx, lexD w ln st pb ta tb tc td te tf) :: (x, instObj 68 dx) :: rest) → Q .none { s with heap := h', toks := tk' }) :
    wpAny (model PySem.Challenge.rw_pg0135_01.row.prog w) (ktrTop dp un gd cn cs L a ccd cl outer) (call (.ref 65) [.ref x, .str z tz]) Q E s := by
  w_on
  revert X; k_fill; intro X
  refine wpAny_call ?_
  k_dflt ktr_enter
  rename_i g1 L1 hp1 FG1 F1 N1 B1 X1 T1
  refine wpAny_mono (E := fun _ _ => False) ?_ (fun _ _ h => h) (fun _ _ h => h.elim)
  k_steps
  exact hret _ _ (by assumption) (by assumption)
set_option maxRecDepth 100000 in
set_option maxHeartbeats 8000000 in
theorem tokA {dx x st pb n : Nat} {vs : List Value} {ln : Int} {ta tb tc td te tf tz : Tok} {z : Str} {rest : List (Addr × Obj)}
    (N : News h₀ L s.heap ((pb, listOf (Value.str z tz :: vs).toArray n) :: (dx, lexD w ln st pb ta tb tc td te tf) :: (x, instObj 68 dx) :: rest)) (hpb : ∀ p ∈ rest, p.1 ≠ pb) (hord : dx < x ∧ x < pb) (hz : vs.length ≤ 100)
    (hdp : dp + 3 < recursionLimit) (hu : un + 24 < cLine)
    (hret : ∀ h' tk', Fr h₀ L h' m → News h₀ L h' ((pb, listOf vs.toArray (n + 1)) :: (dx, lexD w ln st pb ta tb tc td te tf) :: (x, instObj 68 dx) :: rest) → Q (.str z tz) { s with heap := h', toks := tk' }) :
    wpAny (model PySem.Challenge.rw_pg0135_01.row.prog w) (ktrTop dp un gd cn cs L a ccd cl outer) (call (.ref 58) [.ref x]) Q E s := by
  w_on
  revert X; k_fill; intro X
  refine wpAny_call ?_
  k_dflt ktr_enter
  rename_i g1 L1 hp1 FG1 F1 N1 B1 X1 T1
  refine wpAny_mono (E := fun _ _ => False) ?_ (fun _ _ h => h) (fun _ _ h => h.elim)
  have mkP : StopAt "call builtin:list.pop" := .mk _
  k_steps
  refine Stop.inn ?_
  clear mkP
  have esz : ∀ v : Value, (v :: vs).toArray.size = vs.length + 1 := fun v => by rw [List.size_toArray, List.length_cons]
  refine' kl_popAt (k := 0) (p := []) (q := vs) ?F ?N ?f ?k ?e ?U ?z ?_
  (case F => k_asm); (case N => k_asm); (case U => k_upd); (case f => rfl); (case e => rfl)
  (case k => (rw [esz]; exact seq0 _))
  (case z => (rw [sizeLine_eq]; simp only [List.length_cons]; omega))
  kl_rest
  k_steps
  exact hret _ _ (by assumption) (by assumption)
end
end Mine
end
section
open PySem PySem.W PyProof.Rows
namespace Mine
local macro_rules | `(tactic| k_all) => `(tactic| first | assumption | (refine' Low.ne ?lx ?lh; (case lx => assumption); (case lh => omega)))
local macro_rules | `(tactic| walk_at "call builtin:list.append") => `(tactic| (k_here; k_dflt (refine' append_K ?k1 ?k2 ?k3 ?_ ?z; (case k1 => k_asm); (case k2 => k_asm); (case k3 => k_upd); (case z => first | size_fits | (rw [sizeLine_eq]; (try simp only [List.size_toArray, Array.size_push]); omega))); intro h' F' N'; (try k_sweep)))
local macro_rules | `(tactic| k_room) => `(tactic| ktr_room)
local macro_rules | `(tactic| k_units) => `(tactic| (have hcL9 := cLine_is; (try simp only [units_in1, units_deeper, Around.mark_units, units_caller] at *); (try dsimp only [ktrTop] at *); omega))
local macro_rules | `(tactic| walk_at $s:str) => `(tactic| ((have h9 : StopAt $s := by assumption); clear h9; refine Stop.out ?_))
local macro_rules | `(tactic| walk_at "call ref") => `(tactic| (refine' stopCall_out ?a ?b; (case a => assumption)))
local macro_rules | `(tactic| walk_at "setAttr ref") => `(tactic| (k_here; k_dflt (refine' fn_setattr_K ?F ?N ?U ?_; (case F => k_asm); (case N => k_asm); (case U => k_updF)); intro h' D' tk' F' N' l1; (try k_lt l1); (try k_sweep)))
local macro_rules | `(tactic| walk_at "getMethod ref") => `(tactic| (k_here; k_dflt (refine' fn_getread_K ?N ?f ?d ?_; (case N => k_asm); (case f => k_mem); (case d => k_mem)); intro tk'))
local macro_rules | `(tactic| walk_at "ite") => `(tactic| (first | (refine ite_T ?h9 ?_; (case h9 => with_reducible assumption)) | (refine ite_F ?h9 ?_; (case h9 => with_reducible assumption))))
section
variable {w : World} {loose : List Str} {mean : ExcName → Option Value} {mg mb : Str → Option Value} {dp un : Nat} {gd : Option (List Code)} {cn : Str} {cs : Scope} {a : Addr} {ccd : Value} {cl : List (Str × Addr)} {outer : List Env} {A₀ : Around} {base h₀ : Heap} {L : Addr} {m : Str → Option Value} {s : Shared} {Q E : Value → Shared → Prop}
variable (B : Below A₀ base outer h₀) (F : Fr h₀ L s.heap m) (X : Frag.In (hd.heap_39 w.params) h₀) (T : Top topProg loose mean mg mb h₀) (hk : cs.kind = .function)
include B F X T hk
set_option maxRecDepth 100000 in
set_option maxHeartbeats 8000000 in
theorem tokB {q dx x D st rd c1 cell pb n np c : Nat} {ys : List Value} {l : List Nat} {ln : Int} {ta tb tc td te tf t0 : Tok} {fd fd2 : FuncData} {c1o co : Obj} {rest : List (Addr × Obj)} (hy : StrsAre ys ((34 :: 92 :: c :: 34 :: l).map chr1))
    (N : News h₀ L s.heap ((q, listOf ys.toArray n) :: (dx, lexD w ln st pb ta tb tc td te tf) :: (x, instObj 68 dx) :: (D, rdD w t0 rd) :: (st, fnO (some D) fd2) :: (rd, fnO none fd) :: (c1, c1o) :: (cell, co) :: (pb, listOf (#[] : Array Value) np) :: rest))
    (ok : ReadOK w fd rd c1 cell c1o co q) (hl : l.length ≤ 90) (hq : ∀ p ∈ rest, p.1 ≠ q) (hdx : ∀ p ∈ rest, p.1 ≠ dx) (hpb : ∀ p ∈ rest, p.1 ≠ pb)
    (hord : cell < q ∧ q < c1 ∧ c1 < rd ∧ rd < st ∧ st < D ∧ D < dx ∧ dx < x) (hord2 : x < pb) (hln : 0 ≤ ln ∧ ln ≤ 900)
    (hdp : dp + 8 < recursionLimit) (hu : un + 64 < cLine)
    (hret : ∀ h' tk' n' t' ln' tb' ys', ln ≤ ln' → ln' ≤ ln + 8 → StrsAre ys' (l.map chr1) → Fr h₀ L h' m → News h₀ L h' ((q, listOf ys'.toArray n') :: (dx, lexD w ln' st pb ta tb' tc td te tf) :: (x, instObj 68 dx) :: (D, rdD w t0 rd) :: (st, fnO (some D) fd2) :: (rd, fnO none fd) :: (c1, c1o) :: (cell, co) :: (pb, listOf (#[] : Array Value) np) :: rest) → Q (.str (sOf [c]) t') { s with heap := h', toks := tk' }) :
    wpAny (model PySem.Challenge.rw_pg0135_01.row.prog w) (ktrTop dp un gd cn cs L a ccd cl outer) (call (.ref 58) [.ref x]) Q E s := by
  w_on
  revert X; k_fill; intro X
  refine wpAny_call ?_
  k_dflt ktr_enter
  rename_i g1 L1 hp1 FG1 F1 N1 B1 X1 T1
  refine wpAny_mono (E := fun _ _ => False) ?_ (fun _ _ h => h) (fun _ _ h => h.elim)
  have mkI : StopAt "call builtin:iter" := .mk _
  k_steps
  refine Stop.inn ?_
  clear mkI
  rename News g1 L1 _ _ => NN
  rename Fr g1 L1 _ _ => FF
  refine iter2 FF NN (.head _) ?_
  intro I h9 F9 N9 lI
  clear FF NN
  have hrI : ∀ p ∈ rest, p.1 ≠ I := fun p hp => Nat.ne_of_lt (lI p (by repeat (first | exact hp | apply List.mem_cons_of_mem)))
  k_lt lI
  have lc : (sOf [c]).length = 1 := rfl
  have i34 := i34
  have i92 := i92
  have i10 := i10
  have mkF : StopAt "exec For Name Name cons nil" := .mk _
  have mkR : StopCall 51 := .mk _
  k_steps
  refine Stop.inn ?_
  refine owit_for (hE := PassesOwn.never) ?_
  k_steps
  rename News g1 L1 _ _ => NN
  refine cit_iter (NN _ (.head _)).1 ?_
  refine OwitAt.intro (OwitRest.succ ?_)
  rename News g1 L1 _ _ => NN
  rename Fr g1 L1 _ _ => FF
  refine next_sign B1 FF X1 T1 rfl NN ok hy (by simp only [List.length_cons]; omega) (List.forall_mem_cons.mpr ⟨by k_ne, hq⟩) (List.forall_mem_cons.mpr ⟨by k_ne, hdx⟩) hord (by omega) (by omega) (List.forall_mem_cons.mpr ⟨by k_ne, hrI⟩) (by ktr_room) (by k_units) ?_ (by intro _ _ _ _ _ _ _ _ _ hnil; cases hnil)
  intro h' tk' n' t' ln' tb' a1' a2' F' N' _
  clear FF NN
  change OwitTurn _ _ _ _ _ _ _ _ _ (some (Value.str (sOf [34]) _)) _
  rw [e34]
  have hy1 := strs_tail hy
  have hy2 := strs_tail hy1
  have hy3 := strs_tail hy2
  have hy4 := strs_tail hy3
  k_steps
  refine Stop.inn ?_
  refine owit_for (hE := PassesOwn.never) ?_
  k_steps
  rename News g1 L1 _ _ => NN
  refine cit_iter (NN _ (.head _)).1 ?_
  refine OwitAt.intro (OwitRest.succ ?_)
  rename News g1 L1 _ _ => NN
  rename Fr g1 L1 _ _ => FF
  refine next_sign B1 FF X1 T1 rfl NN ok hy1 (by simp only [List.length_cons]; omega) (List.forall_mem_cons.mpr ⟨by k_ne, hq⟩) (List.forall_mem_cons.mpr ⟨by k_ne, hdx⟩) hord (by omega) (by omega) (List.forall_mem_cons.mpr ⟨by k_ne, hrI⟩) (by ktr_room) (by k_units) ?_ (by intro _ _ _ _ _ _ _ _ _ hnil; cases hnil)
  intro h' tk' n' t' ln' tb' a1' a2' F' N' _
  clear FF NN
  change OwitTurn _ _ _ _ _ _ _ _ _ (some (Value.str (sOf [92]) _)) _
  rw [e92]
  k_steps
  refine Stop.inn ?_
  rename News g1 L1 _ _ => NN
  rename Fr g1 L1 _ _ => FF
  refine read_sign (l := c :: 34 :: l) B1 FF X1 T1 rfl NN ok hy2 (by simp only [List.length_cons]; omega) (List.forall_mem_cons.mpr ⟨by k_ne, hq⟩) (List.forall_mem_cons.mpr ⟨by k_ne, hdx⟩) hord (by omega) (by dsimp only; omega) (by ktr_room) (by k_units) ?_
  intro h' tk' n' t' ln' tb' a1' a2' F' N'
  clear FF NN
  rw [show sOf (List.take 1 (c :: 34 :: l)) = sOf [c] from rfl]
  k_steps
  rename News g1 L1 _ _ => NN
  rename Fr g1 L1 _ _ => FF
  refine next_sign B1 FF X1 T1 rfl NN ok hy3 (by simp only [List.length_cons]; omega) (List.forall_mem_cons.mpr ⟨by k_ne, hq⟩) (List.forall_mem_cons.mpr ⟨by k_ne, hdx⟩) hord (by omega) (by omega) (List.forall_mem_cons.mpr ⟨by k_ne, hrI⟩) (by ktr_room) (by k_units) ?_ (by intro _ _ _ _ _ _ _ _ _ hnil; cases hnil)
  intro h' tk' n' t' ln' tb' a1' a2' F' N' _
  clear FF NN
  change OwitTurn _ _ _ _ _ _ _ _ _ (some (Value.str (sOf [34]) _)) _
  rw [e34]
  k_steps
  rw [e0c]
  refine hret _ _ n' _ ln' tb' _ (by omega) (by omega) hy4 (by assumption) ?_
  rename News h₀ L _ _ => NN
  exact news_sub NN fun p hp => .tail _ (.tail _ hp)
set_option maxRecDepth 100000 in
set_option maxHeartbeats 8000000 in
theorem tokB2 {q dx x D st rd c1 cell pb n np c : Nat} {ys : List Value} {l : List Nat} {ln : Int} {ta tb tc td te tf t0 : Tok} {fd fd2 : FuncData} {c1o co : Obj} {rest : List (Addr × Obj)} (hy : StrsAre ys ((92 :: c :: 10 :: l).map chr1))
    (N : News h₀ L s.heap ((q, listOf ys.toArray n) :: (dx, lexD w ln st pb ta tb tc td te tf) :: (x, instObj 68 dx) :: (D, rdD w t0 rd) :: (st, fnO (some D) fd2) :: (rd, fnO none fd) :: (c1, c1o) :: (cell, co) :: (pb, listOf (#[] : Array Value) np) :: rest))
    (ok : ReadOK w fd rd c1 cell c1o co q) (hl : l.length ≤ 90) (hq : ∀ p ∈ rest, p.1 ≠ q) (hdx : ∀ p ∈ rest, p.1 ≠ dx) (hpb : ∀ p ∈ rest, p.1 ≠ pb)
    (hord : cell < q ∧ q < c1 ∧ c1 < rd ∧ rd < st ∧ st < D ∧ D < dx ∧ dx < x) (hord2 : x < pb) (hln : 0 ≤ ln ∧ ln ≤ 900)
    (hdp : dp + 8 < recursionLimit) (hu : un + 64 < cLine)
    (hret : ∀ h' tk' n' t' ln' tb' ys', ln ≤ ln' → ln' ≤ ln + 8 → StrsAre ys' ((l).map chr1) → Fr h₀ L h' m → News h₀ L h' ((q, listOf ys'.toArray n') :: (dx, lexD w ln' st pb ta tb' tc td te tf) :: (x, instObj 68 dx) :: (D, rdD w t0 rd) :: (st, fnO (some D) fd2) :: (rd, fnO none fd) :: (c1, c1o) :: (cell, co) :: (pb, listOf (#[] : Array Value) np) :: rest) → Q (.str (sOf [c]) t') { s with heap := h', toks := tk' }) :
    wpAny (model PySem.Challenge.rw_pg0135_01.row.prog w) (ktrTop dp un gd cn cs L a ccd cl outer) (call (.ref 58) [.ref x]) Q E s := by
  w_on
  revert X; k_fill; intro X
  refine wpAny_call ?_
  k_dflt ktr_enter
  rename_i g1 L1 hp1 FG1 F1 N1 B1 X1 T1
  refine wpAny_mono (E := fun _ _ => False) ?_ (fun _ _ h => h) (fun _ _ h => h.elim)
  have mkI : StopAt "call builtin:iter" := .mk _
  k_steps
  refine Stop.inn ?_
  clear mkI
  rename News g1 L1 _ _ => NN
  rename Fr g1 L1 _ _ => FF
  refine iter2 FF NN (.head _) ?_
  intro I h9 F9 N9 lI
  clear FF NN
  have hrI : ∀ p ∈ rest, p.1 ≠ I := fun p hp => Nat.ne_of_lt (lI p (by repeat (first | exact hp | apply List.mem_cons_of_mem)))
  k_lt lI
  have lc : (sOf [c]).length = 1 := rfl
  have i34 := i34
  have i92 := i92
  have i10 := i10
  have mkF : StopAt "exec For Name Name cons nil" := .mk _
  have mkR : StopCall 51 := .mk _
  k_steps
  refine Stop.inn ?_
  refine owit_for (hE := PassesOwn.never) ?_
  k_steps
  rename News g1 L1 _ _ => NN
  refine cit_iter (NN _ (.head _)).1 ?_
  refine OwitAt.intro (OwitRest.succ ?_)
  rename News g1 L1 _ _ => NN
  rename Fr g1 L1 _ _ => FF
  refine next_sign B1 FF X1 T1 rfl NN ok hy (by simp only [List.length_cons]; omega) (List.forall_mem_cons.mpr ⟨by k_ne, hq⟩) (List.forall_mem_cons.mpr ⟨by k_ne, hdx⟩) hord (by omega) (by omega) (List.forall_mem_cons.mpr ⟨by k_ne, hrI⟩) (by ktr_room) (by k_units) ?_ (by intro _ _ _ _ _ _ _ _ _ hnil; cases hnil)
  intro h' tk' n' t' ln' tb' a1' a2' F' N' _
  clear FF NN
  change OwitTurn _ _ _ _ _ _ _ _ _ (some (Value.str (sOf [92]) _)) _
  rw [e92]
  have hy1 := strs_tail hy
  have hy2 := strs_tail hy1
  have hy3 := strs_tail hy2
  k_steps
  refine Stop.inn ?_
  rename News g1 L1 _ _ => NN
  rename Fr g1 L1 _ _ => FF
  refine read_sign (l := c :: 10 :: l) B1 FF X1 T1 rfl NN ok hy1 (by simp only [List.length_cons]; omega) (List.forall_mem_cons.mpr ⟨by k_ne, hq⟩) (List.forall_mem_cons.mpr ⟨by k_ne, hdx⟩) hord (by omega) (by dsimp only; omega) (by ktr_room) (by k_units) ?_
  intro h' tk' n' t' ln' tb' a1' a2' F' N'
  clear FF NN
  rw [show sOf (List.take 1 (c :: 10 :: l)) = sOf [c] from rfl]
  k_steps
  refine Stop.inn ?_
  refine owit_for (hE := PassesOwn.never) ?_
  k_steps
  rename News g1 L1 _ _ => NN
  refine cit_iter (NN _ (.head _)).1 ?_
  refine OwitAt.intro (OwitRest.succ ?_)
  rename News g1 L1 _ _ => NN
  rename Fr g1 L1 _ _ => FF
  refine next_sign B1 FF X1 T1 rfl NN ok hy2 (by simp only [List.length_cons]; omega) (List.forall_mem_cons.mpr ⟨by k_ne, hq⟩) (List.forall_mem_cons.mpr ⟨by k_ne, hdx⟩) hord (by omega) (by omega) (List.forall_mem_cons.mpr ⟨by k_ne, hrI⟩) (by ktr_room) (by k_units) ?_ (by intro _ _ _ _ _ _ _ _ _ hnil; cases hnil)
  intro h' tk' n' t' ln' tb' a1' a2' F' N' _
  clear FF NN
  change OwitTurn _ _ _ _ _ _ _ _ _ (some (Value.str (sOf [10]) _)) _
  rw [e10]
  k_steps
  rw [e0c]
  refine hret _ _ n' _ ln' tb' _ (by omega) (by omega) hy3 (by assumption) ?_
  rename News h₀ L _ _ => NN
  exact news_sub NN fun p hp => .tail _ (.tail _ hp)
set_option maxRecDepth 100000 in
set_option maxHeartbeats 8000000 in
theorem tokC {q dx x D st rd c1 cell pb n np : Nat} {ys : List Value} {l : List Nat} {ln : Int} {ta tb tc td te tf t0 : Tok} {fd fd2 : FuncData} {c1o co : Obj} {rest : List (Addr × Obj)} (hy : StrsAre ys ((([] : List Nat)).map chr1))
    (N : News h₀ L s.heap ((q, listOf ys.toArray n) :: (dx, lexD w ln st pb ta tb tc td te tf) :: (x, instObj 68 dx) :: (D, rdD w t0 rd) :: (st, fnO (some D) fd2) :: (rd, fnO none fd) :: (c1, c1o) :: (cell, co) :: (pb, listOf (#[] : Array Value) np) :: rest))
    (ok : ReadOK w fd rd c1 cell c1o co q) (hl : l.length ≤ 90) (hq : ∀ p ∈ rest, p.1 ≠ q) (hdx : ∀ p ∈ rest, p.1 ≠ dx) (hpb : ∀ p ∈ rest, p.1 ≠ pb)
    (hord : cell < q ∧ q < c1 ∧ c1 < rd ∧ rd < st ∧ st < D ∧ D < dx ∧ dx < x) (hord2 : x < pb) (hln : 0 ≤ ln ∧ ln ≤ 900)
    (hdp : dp + 8 < recursionLimit) (hu : un + 64 < cLine)
    (hret : ∀ h' tk' n' t' ln' tb' ys', ln ≤ ln' → ln' ≤ ln + 8 → StrsAre ys' ((([] : List Nat)).map chr1) → Fr h₀ L h' m → News h₀ L h' ((q, listOf ys'.toArray n') :: (dx, lexD w ln' st pb ta tb' tc td te tf) :: (x, instObj 68 dx) :: (D, rdD w t0 rd) :: (st, fnO (some D) fd2) :: (rd, fnO none fd) :: (c1, c1o) :: (cell, co) :: (pb, listOf (#[] : Array Value) np) :: rest) → Q (.str (Str.ofString "") t') { s with heap := h', toks := tk' }) :
    wpAny (model PySem.Challenge.rw_pg0135_01.row.prog w) (ktrTop dp un gd cn cs L a ccd cl outer) (call (.ref 58) [.ref x]) Q E s := by
  w_on
  revert X; k_fill; intro X
  refine wpAny_call ?_
  k_dflt ktr_enter
  rename_i g1 L1 hp1 FG1 F1 N1 B1 X1 T1
  refine wpAny_mono (E := fun _ _ => False) ?_ (fun _ _ h => h) (fun _ _ h => h.elim)
  have mkI : StopAt "call builtin:iter" := .mk _
  k_steps
  refine Stop.inn ?_
  clear mkI
  rename News g1 L1 _ _ => NN
  rename Fr g1 L1 _ _ => FF
  refine iter2 FF NN (.head _) ?_
  intro I h9 F9 N9 lI
  clear FF NN
  have hrI : ∀ p ∈ rest, p.1 ≠ I := fun p hp => Nat.ne_of_lt (lI p (by repeat (first | exact hp | apply List.mem_cons_of_mem)))
  k_lt lI
  have i34 := i34
  have i92 := i92
  have i10 := i10
  have mkF : StopAt "exec For Name Name cons nil" := .mk _
  have mkR : StopCall 51 := .mk _
  k_steps
  refine Stop.inn ?_
  refine owit_for (hE := PassesOwn.never) ?_
  k_steps
  rename News g1 L1 _ _ => NN
  refine cit_iter (NN _ (.head _)).1 ?_
  refine OwitAt.intro (OwitRest.succ ?_)
  rename News g1 L1 _ _ => NN
  rename Fr g1 L1 _ _ => FF
  refine next_sign B1 FF X1 T1 rfl NN ok hy (by simp only [List.length_nil]; omega) (List.forall_mem_cons.mpr ⟨by k_ne, hq⟩) (List.forall_mem_cons.mpr ⟨by k_ne, hdx⟩) hord (by omega) (by omega) (List.forall_mem_cons.mpr ⟨by k_ne, hrI⟩) (by ktr_room) (by k_units) (by intro _ _ _ _ _ _ _ _ _ _ hne; exact absurd rfl hne) ?_
  intro h' tk' n' ln' tb' a1' a2' F' N' _
  clear FF NN
  k_steps
  have hy1 : StrsAre ys.tail (([] : List Nat).map chr1) := by cases hy; exact .nil
  refine hret _ _ n' _ ln' tb' _ (by omega) (by omega) hy1 (by assumption) ?_
  rename News h₀ L _ _ => NN
  exact news_sub NN fun p hp => by
    simp only [List.mem_cons] at hp ⊢
    rcases hp with h | h | h | h | h | h | h | h | h | h <;> simp [h]
end
end Mine
end
section
open PySem PySem.W PyProof.Rows
namespace Mine
local macro_rules | `(tactic| k_all) => `(tactic| first | assumption | (refine' Low.ne ?lx ?lh; (case lx => assumption); (case lh => omega)))
local macro_rules | `(tactic| walk_at "call builtin:list.append") => `(tactic| (k_here; k_dflt (refine' append_K ?k1 ?k2 ?k3 ?_ ?z; (case k1 => k_asm); (case k2 => k_asm); (case k3 => k_upd); (case z => first | size_fits | (rw [sizeLine_eq]; (try simp only [List.size_toArray, Array.size_push]); omega))); intro h' F' N'; (try k_sweep)))
local macro_rules | `(tactic| k_room) => `(tactic| ktr_room)
local macro_rules | `(tactic| k_units) => `(tactic| (have hcL9 := cLine_is; (try simp only [units_in1, units_deeper, Around.mark_units, units_caller] at *); (try dsimp only [ktrTop] at *); omega))
local macro_rules | `(tactic| walk_at $s:str) => `(tactic| ((have h9 : StopAt $s := by assumption); clear h9; refine Stop.out ?_))
local macro_rules | `(tactic| walk_at "call ref") => `(tactic| (k_dflt (refine' stopCall_out ?sca9 ?scb9; (case sca9 => assumption))))
local macro_rules | `(tactic| walk_at "setAttr ref") => `(tactic| (k_here; k_dflt (refine' fn_setattr_K ?F ?N ?U ?_; (case F => k_asm); (case N => k_asm); (case U => k_updF)); intro h' D' tk' F' N' l1; (try k_lt l1); (try k_sweep)))
local macro_rules | `(tactic| walk_at "getMethod ref") => `(tactic| (k_here; k_dflt (refine' fn_getread_K ?N ?f ?d ?_; (case N => k_asm); (case f => k_mem); (case d => k_mem)); intro tk'))
theorem rep_filter (c : Nat) (l : List Nat) : List.replicate (l.count c) c = l.filter (fun x => x == c) := (List.filter_beq ..).symm
theorem msteps_le (p q : Nat → Bool) : ∀ l : List Nat, msteps p q l ≤ l.length
  | [] => Nat.le_refl _
  | h :: t => by
    have := msteps_le p q t
    rw [msteps, List.length_cons]
    split <;> omega
/-- how one letter is written -/
def wr (c : Nat) (b : Bool) : List Nat := if b then [34, 92, c, 34] else [92, c, 10]
section
variable {w : World} {loose : List Str} {mean : ExcName → Option Value} {mg mb : Str → Option Value} {dp un : Nat} {gd : Option (List Code)} {cn : Str} {cs : Scope} {a : Addr} {ccd : Value} {cl : List (Str × Addr)} {outer : List Env} {A₀ : Around} {base h₀ : Heap} {L : Addr} {m : Str → Option Value} {s : Shared} {Q E : Value → Shared → Prop}
variable (B : Below A₀ base outer h₀) (F : Fr h₀ L s.heap m) (X : Frag.In (hd.heap_39 w.params) h₀) (T : Top topProg loose mean mg mb h₀) (hk : cs.kind = .function)
include B F X T hk
set_option maxRecDepth 100000 in
set_option maxHeartbeats 8000000 in
theorem tokW {q dx x D st rd c1 cell pb n np : Nat} {ys : List Value} {l : List Nat} {ln : Int} {ta tb tc td te tf t0 : Tok} {fd fd2 : FuncData} {c1o co : Obj} {rest : List (Addr × Obj)} {c : Nat} {b : Bool} (hy : StrsAre ys ((wr c b ++ l).map chr1))
    (N : News h₀ L s.heap ((q, listOf ys.toArray n) :: (dx, lexD w ln st pb ta tb tc td te tf) :: (x, instObj 68 dx) :: (D, rdD w t0 rd) :: (st, fnO (some D) fd2) :: (rd, fnO none fd) :: (c1, c1o) :: (cell, co) :: (pb, listOf (#[] : Array Value) np) :: rest))
    (ok : ReadOK w fd rd c1 cell c1o co q) (hl : l.length ≤ 90) (hq : ∀ p ∈ rest, p.1 ≠ q) (hdx : ∀ p ∈ rest, p.1 ≠ dx) (hpb : ∀ p ∈ rest, p.1 ≠ pb)
    (hord : cell < q ∧ q < c1 ∧ c1 < rd ∧ rd < st ∧ st < D ∧ D < dx ∧ dx < x) (hord2 : x < pb) (hln : 0 ≤ ln ∧ ln ≤ 900)
    (hdp : dp + 8 < recursionLimit) (hu : un + 64 < cLine)
    (hret : ∀ h' tk' n' t' ln' tb' ys', ln ≤ ln' → ln' ≤ ln + 8 → StrsAre ys' (l.map chr1) → Fr h₀ L h' m → News h₀ L h' ((q, listOf ys'.toArray n') :: (dx, lexD w ln' st pb ta tb' tc td te tf) :: (x, instObj 68 dx) :: (D, rdD w t0 rd) :: (st, fnO (some D) fd2) :: (rd, fnO none fd) :: (c1, c1o) :: (cell, co) :: (pb, listOf (#[] : Array Value) np) :: rest) → Q (.str (sOf [c]) t') { s with heap := h', toks := tk' }) :
    wpAny (model PySem.Challenge.rw_pg0135_01.row.prog w) (ktrTop dp un gd cn cs L a ccd cl outer) (call (.ref 58) [.ref x]) Q E s := by
  cases b with
  | true => exact tokB B F X T hk hy N ok hl hq hdx hpb hord hord2 hln hdp hu hret
  | false => exact tokB2 B F X T hk hy N ok hl hq hdx hpb hord hord2 hln hdp hu hret
set_option maxRecDepth 100000 in
set_option maxHeartbeats 8000000 in
theorem pushW {q dx x D st rd c1 cell pb n np : Nat} {ys : List Value} {ln : Int} {ta tb tc td te tf t0 : Tok} {fd fd2 : FuncData} {c1o co : Obj} {rest : List (Addr × Obj)} {its : Array Value} {z : Str} {tz : Tok}
    (N : News h₀ L s.heap ((q, listOf ys.toArray n) :: (dx, lexD w ln st pb ta tb tc td te tf) :: (x, instObj 68 dx) :: (D, rdD w t0 rd) :: (st, fnO (some D) fd2) :: (rd, fnO none fd) :: (c1, c1o) :: (cell, co) :: (pb, listOf its np) :: rest)) (hpb : ∀ p ∈ rest, p.1 ≠ pb) (hord : cell < q ∧ q < c1 ∧ c1 < rd ∧ rd < st ∧ st < D ∧ D < dx ∧ dx < x) (hord2 : x < pb) (hz : its.size ≤ 100)
    (hdp : dp + 3 < recursionLimit) (hu : un + 24 < cLine)
    (hret : ∀ h' tk', Fr h₀ L h' m → News h₀ L h' ((q, listOf ys.toArray n) :: (dx, lexD w ln st pb ta tb tc td te tf) :: (x, instObj 68 dx) :: (D, rdD w t0 rd) :: (st, fnO (some D) fd2) :: (rd, fnO none fd) :: (c1, c1o) :: (cell, co) :: (pb, listOf (its.push (.str z tz)) (np + 1)) :: rest) → Q .none { s with heap := h', toks := tk' }) :
    wpAny (model PySem.Challenge.rw_pg0135_01.row.prog w) (ktrTop dp un gd cn cs L a ccd cl outer) (call (.ref 65) [.ref x, .str z tz]) Q E s := by
  have N2 : News h₀ L s.heap ((pb, listOf its np) :: (dx, lexD w ln st pb ta tb tc td te tf) :: (x, instObj 68 dx) :: (q, listOf ys.toArray n) :: (D, rdD w t0 rd) :: (st, fnO (some D) fd2) :: (rd, fnO none fd) :: (c1, c1o) :: (cell, co) :: rest) := news_sub N (fun p hp => by
    simp only [List.mem_cons] at hp ⊢
    rcases hp with h | h | h | h | h | h | h | h | h | h <;> (repeat (first | exact Or.inl h | exact h | refine Or.inr ?_)))
  refine pushtok B F X T hk N2 (List.forall_mem_cons.mpr ⟨by k_ne, List.forall_mem_cons.mpr ⟨by k_ne, List.forall_mem_cons.mpr ⟨by k_ne, List.forall_mem_cons.mpr ⟨by k_ne, List.forall_mem_cons.mpr ⟨by k_ne, List.forall_mem_cons.mpr ⟨by k_ne, hpb⟩⟩⟩⟩⟩⟩) (by omega) hz hdp hu ?_
  intro h' tk' F' N'
  exact hret h' tk' F' (news_sub N' (fun p hp => by
    simp only [List.mem_cons] at hp ⊢
    rcases hp with h | h | h | h | h | h | h | h | h | h <;> (repeat (first | exact Or.inl h | exact h | refine Or.inr ?_))))
set_option maxRecDepth 100000 in
set_option maxHeartbeats 8000000 in
theorem pushV {q dx x D st rd c1 cell pb n np : Nat} {ys : List Value} {ln : Int} {ta tb tc td te tf t0 : Tok} {fd fd2 : FuncData} {c1o co : Obj} {rest : List (Addr × Obj)} {vs : List Value} {z : Str} {tz : Tok}
    (N : News h₀ L s.heap ((q, listOf ys.toArray n) :: (dx, lexD w ln st pb ta tb tc td te tf) :: (x, instObj 68 dx) :: (D, rdD w t0 rd) :: (st, fnO (some D) fd2) :: (rd, fnO none fd) :: (c1, c1o) :: (cell, co) :: (pb, listOf vs.toArray np) :: rest)) (hpb : ∀ p ∈ rest, p.1 ≠ pb) (hord : cell < q ∧ q < c1 ∧ c1 < rd ∧ rd < st ∧ st < D ∧ D < dx ∧ dx < x) (hord2 : x < pb) (hz : vs.length ≤ 100)
    (hdp : dp + 3 < recursionLimit) (hu : un + 24 < cLine)
    (hret : ∀ h' tk', Fr h₀ L h' m → News h₀ L h' ((q, listOf ys.toArray n) :: (dx, lexD w ln st pb ta tb tc td te tf) :: (x, instObj 68 dx) :: (D, rdD w t0 rd) :: (st, fnO (some D) fd2) :: (rd, fnO none fd) :: (c1, c1o) :: (cell, co) :: (pb, listOf (vs ++ [Value.str z tz]).toArray (np + 1)) :: rest) → Q .none { s with heap := h', toks := tk' }) :
    wpAny (model PySem.Challenge.rw_pg0135_01.row.prog w) (ktrTop dp un gd cn cs L a ccd cl outer) (call (.ref 65) [.ref x, .str z tz]) Q E s := by
  refine pushW B F X T hk N hpb hord hord2 (by simpa using hz) hdp hu ?_
  intro h' tk' F' N'
  rw [List.push_toArray] at N'
  exact hret h' tk' F' N'
set_option maxRecDepth 100000 in
set_option maxHeartbeats 8000000 in
theorem tokAW {q dx x D st rd c1 cell pb n np : Nat} {ys : List Value} {ln : Int} {ta tb tc td te tf t0 : Tok} {fd fd2 : FuncData} {c1o co : Obj} {rest : List (Addr × Obj)} {vs : List Value} {z : Str} {tz : Tok}
    (N : News h₀ L s.heap ((q, listOf ys.toArray n) :: (dx, lexD w ln st pb ta tb tc td te tf) :: (x, instObj 68 dx) :: (D, rdD w t0 rd) :: (st, fnO (some D) fd2) :: (rd, fnO none fd) :: (c1, c1o) :: (cell, co) :: (pb, listOf (Value.str z tz :: vs).toArray np) :: rest)) (hpb : ∀ p ∈ rest, p.1 ≠ pb) (hord : cell < q ∧ q < c1 ∧ c1 < rd ∧ rd < st ∧ st < D ∧ D < dx ∧ dx < x) (hord2 : x < pb) (hz : vs.length ≤ 100)
    (hdp : dp + 3 < recursionLimit) (hu : un + 24 < cLine)
    (hret : ∀ h' tk', Fr h₀ L h' m → News h₀ L h' ((q, listOf ys.toArray n) :: (dx, lexD w ln st pb ta tb tc td te tf) :: (x, instObj 68 dx) :: (D, rdD w t0 rd) :: (st, fnO (some D) fd2) :: (rd, fnO none fd) :: (c1, c1o) :: (cell, co) :: (pb, listOf vs.toArray (np + 1)) :: rest) → Q (.str z tz) { s with heap := h', toks := tk' }) :
    wpAny (model PySem.Challenge.rw_pg0135_01.row.prog w) (ktrTop dp un gd cn cs L a ccd cl outer) (call (.ref 58) [.ref x]) Q E s := by
  have N2 : News h₀ L s.heap ((pb, listOf (Value.str z tz :: vs).toArray np) :: (dx, lexD w ln st pb ta tb tc td te tf) :: (x, instObj 68 dx) :: (q, listOf ys.toArray n) :: (D, rdD w t0 rd) :: (st, fnO (some D) fd2) :: (rd, fnO none fd) :: (c1, c1o) :: (cell, co) :: rest) := news_sub N (fun p hp => by
    simp only [List.mem_cons] at hp ⊢
    rcases hp with h | h | h | h | h | h | h | h | h | h <;> (repeat (first | exact Or.inl h | exact h | refine Or.inr ?_)))
  refine tokA B F X T hk N2 (List.forall_mem_cons.mpr ⟨by k_ne, List.forall_mem_cons.mpr ⟨by k_ne, List.forall_mem_cons.mpr ⟨by k_ne, List.forall_mem_cons.mpr ⟨by k_ne, List.forall_mem_cons.mpr ⟨by k_ne, List.forall_mem_cons.mpr ⟨by k_ne, hpb⟩⟩⟩⟩⟩⟩) (by omega) hz hdp hu ?_
  intro h' tk' F' N'
  exact hret h' tk' F' (news_sub N' (fun p hp => by
    simp only [List.mem_cons] at hp ⊢
    rcases hp with h | h | h | h | h | h | h | h | h | h <;> (repeat (first | exact Or.inl h | exact h | refine Or.inr ?_))))
end
end Mine
end
section
open PySem PySem.W PyProof.Rows PySem.Calls PySem.Spec
namespace Mine
open LCg LCt
section
variable {prog : Program} {w : World} {A : Around} {E : Value → Shared → Prop} {s : Shared} {h₀ : Heap} {L : Addr} {m : Str → Option Value} {env : Env}
def SrcST (prog : Program) (w : World) (A : Around) (h₀ : Heap) (L : Addr) (m : Str → Option Value) (env : Env) (ct elt : Expr) (x : Str) (scope : Scope) (cl : List (Str × Addr)) (Fin : Shared → List Value → List (Addr × Obj) → Prop) (xv : Value) (s₁ : Shared) : Prop :=
  ∃ xt t news, xv = .str xt t ∧ A.handled = none ∧ Fr h₀ L s₁.heap m ∧ News h₀ L s₁.heap news ∧ xt.length ≤ sizeLine ∧
    ∀ s₂ : Shared, (∃ h, s₂ = { s₁ with heap := h }) → CompRestT prog w A h₀ L m env ct elt x scope cl s₂ (fun _ => True) (SignAt xt) (Fin s₂) xt.cps.size 0 [] news
theorem ListComp_ST {ct elt iter : Expr} {x : Str} {px : Pos} {scope : Scope} {cl : List (Str × Addr)} {pos : Pos} {Q : Value → Shared → Prop} (F₀ : Fr h₀ L s.heap m)
    (hclos : closureFor scope env = pure cl) (hcell : ∀ y ∈ scope.names, y.2 ≠ .cell) (hkind : scope.kind = .function)
    (hnames : ∀ y ∈ scope.names, y.2 = .local → scope.names.lookup y.1 = some .local) (hx : scope.names.lookup x = some .local)
    (h : wpAny (model prog w) A (eval iter env) (SrcST prog w A h₀ L m env ct elt x scope cl (fun s₂ => FinE h₀ L m s₂ Q)) E s)
    (hs : ∀ x, foldedSetIterable iter env x = pure x := by intro _; rfl) :
    wpAny (model prog w) A (eval (.ListComp elt [⟨.Name x px, iter, [ct], 0⟩] scope pos) env) Q E s := by
  rw [eval_ListComp]
  refine wpAny_comprehension_free (use := none) rfl hs hclos hkind hnames (wpAny_mono h (fun xv s₁ h₁ => ?_) fun _ _ e => e)
  obtain ⟨xt, t, news, rfl, hh, F, N, hsz, R⟩ := h₁
  have up : ∀ o, ∀ b o', s₁.heap.get? b = some o' → (s₁.heap.push o).get? b = some o' := fun o b o' e => Heap.get?_push_of_some _ e
  have fin : ∀ o D C h tk m' ys news', Fr h₀ L h m → News h₀ L h ((D, lst ys) :: news') → Off1 D news' → h.Ns C m' → h₀.get? C = none → h₀.get? D = none → C ≠ L → D ≠ L → C ≠ D → (∀ p ∈ news', p.1 ≠ C) → FinE h₀ L m { s₁ with heap := s₁.heap.push o } Q ys news' →
      ∃ m₁, h.Ns C m₁ ∧ ∀ h'', Heap.SameBut C h h'' → Q (.ref D) { s₁ with heap := h'', toks := tk } := by
    intro o D C h tk m' ys news' F' N' o1 hn hC₀ hD₀ hCL hDL hCD offC fin
    refine ⟨m', hn, fun h'' hs'' => fin D h'' tk (F'.change hs'' hCL hC₀) (fun p hp => ?_) o1⟩
    refine ⟨hs''.extBut _ _ ?_ (N' p hp).1, (N' p hp).2⟩
    rcases List.mem_cons.mp hp with rfl | hp
    · exact Ne.symm hCD
    · exact offC p hp
  have hlt : ∀ o, ∀ b ∈ [s₁.heap.objs.size], b < (s₁.heap.push o).objs.size := by
    intro o b hb
    rw [List.mem_singleton.mp hb, Heap.size_push]; exact Nat.lt_succ_self _
  cases ha : xt.cps.all (· < 128)
  · refine wpAny_pyIter_wide ha ?_
    refine block_T (S := fun _ => True) (Walks.strWide hh _ xt t) hsz (fun i h st => by obtain ⟨o, e, _⟩ := st; exact ⟨o, e⟩)
      (fun i h h' o nw st e e' _ _ _ => (Walks.strWide (prog := prog) (w := w) (A := A) hh _ xt t).frame i h h' st fun b hb o' eo => by rw [List.mem_singleton.mp hb] at eo ⊢; rw [e] at eo; rw [e', eo])
      hcell hkind hx ⟨_, Heap.get?_push_size _ rfl, rfl, rfl⟩ (hlt _) (F.keeps (up _)) (N.grown (up _)) (Nat.ne_of_lt F.ns.lt) (next_is_new F) (fun p hp => Nat.ne_of_lt (Heap.lt_size (N p hp).1)) trivial (R _ ⟨_, rfl⟩) ?_
    intro D C h tk m' ys news' F' N' o1 hn hC₀ hD₀ hCL hDL hCD offC f
    exact fin _ D C h tk m' ys news' F' N' o1 hn hC₀ hD₀ hCL hDL hCD offC f
  · refine wpAny_pyIter_ascii ha ?_
    refine block_T (S := fun _ => True) (Walks.strAscii hh _ xt t) hsz (fun i h st => by obtain ⟨o, e, _⟩ := st; exact ⟨o, e⟩)
      (fun i h h' o nw st e e' _ _ _ => (Walks.strAscii (prog := prog) (w := w) (A := A) hh _ xt t).frame i h h' st fun b hb o' eo => by rw [List.mem_singleton.mp hb] at eo ⊢; rw [e] at eo; rw [e', eo])
      hcell hkind hx ⟨_, Heap.get?_push_size _ rfl, rfl, rfl⟩ (hlt _) (F.keeps (up _)) (N.grown (up _)) (Nat.ne_of_lt F.ns.lt) (next_is_new F) (fun p hp => Nat.ne_of_lt (Heap.lt_size (N p hp).1)) trivial (R _ ⟨_, rfl⟩) ?_
    intro D C h tk m' ys news' F' N' o1 hn hC₀ hD₀ hCL hDL hCD offC f
    exact fin _ D C h tk m' ys news' F' N' o1 hn hC₀ hD₀ hCL hDL hCD offC f
theorem rest_ST {ct elt : Expr} {x : Str} {scope : Scope} {cl : List (Str × Addr)} {S : List (Addr × Obj) → Prop} {Fin : List Value → List (Addr × Obj) → Prop} {news : List (Addr × Obj)} {xt : Str} (pr : Nat → Bool) (g : Nat → Str)
    (turn : ∀ c t I oI C oC D m₂ ys h tk (E' : Value → Shared → Prop), c ∈ xt.cps.toList → NsObj oC m₂ → m₂ x = some (.str ⟨#[c]⟩ t) → Fr h₀ L h m → News h₀ L h ((I, oI) :: (C, oC) :: (D, lst ys) :: news) → Off3 I C D news → ((@Ne Nat I C) ∧ (@Ne Nat I D) ∧ (@Ne Nat C D)) →
      wpAny (model prog w) A (isTrue ct (compEnvC scope cl C env) (eval ct (compEnvC scope cl C env))) (fun ok s' => if ok = true then
        wpAny (model prog w) A (eval elt (compEnvC scope cl C env)) (CompEnd h₀ L m { s with heap := h, toks := tk } I oI C oC D (lst ys) S (fun y news' => pr c = true ∧ KCtEl news (g c) y news')) E' s'
        else CompEnd h₀ L m { s with heap := h, toks := tk } I oI C oC D (lst ys) S (fun _ news' => pr c = false ∧ news' = news) Value.none s') E' { s with heap := h, toks := tk })
    (fin : ∀ ys, StrsAre ys ((xt.cps.toList.filter pr).map g) → Fin ys news) : CompRestT prog w A h₀ L m env ct elt x scope cl s S (SignAt xt) Fin xt.cps.size 0 [] news := by
  have key : ∀ (j i : Nat) (ys : List Value), i + j = xt.cps.size → StrsAre ys (((xt.cps.toList.take i).filter pr).map g) → CompRestT prog w A h₀ L m env ct elt x scope cl s S (SignAt xt) Fin j i ys news := by
    intro j
    induction j with
    | zero =>
      intro i ys hi hy
      rw [List.take_of_length_le (by simp; omega)] at hy
      exact CompRestT.zero (fin ys hy)
    | succ j ih =>
      intro i ys hi hy
      refine CompRestT.succ ?_
      intro v I oI C oC D m₂ h tk E' hv hC hx F N off ne
      obtain ⟨c, u, hc, rfl⟩ := hv
      have hc' : xt.cps.toList[i]? = some c := by simpa using hc
      refine wpAny_mono (turn c u I oI C oC D m₂ ys h tk E' (List.mem_of_getElem? hc') hC hx F N off ne) (fun ok s₂ hq => ?_) fun _ _ e => e
      cases ok with
      | true =>
        rw [if_pos rfl] at hq ⊢
        refine wpAny_mono hq (fun y s₃ hq => ?_) fun _ _ e => e
        obtain ⟨h', tk', nw, e, F', N', off', hS, hp, hn, t', hy'⟩ := hq
        rw [hn] at N' off' hS
        refine ⟨h', tk', news, e, F', N', off', hS, ?_⟩
        rw [hy']
        refine ih (i + 1) _ (by omega) ?_
        rw [List.take_add_one, hc', List.filter_append]
        simpa [hp] using kct_snoc hy
      | false =>
        rw [if_neg (by decide)] at hq ⊢
        obtain ⟨h', tk', nw, e, F', N', off', hS, hp, hn⟩ := hq
        rw [hn] at N' off' hS
        refine ⟨h', tk', news, e, F', N', off', hS, ?_⟩
        refine ih (i + 1) _ (by omega) ?_
        rw [List.take_add_one, hc', List.filter_append]
        simpa [hp] using hy
  exact key _ 0 [] (by omega) (by simp only [List.take_zero, List.filter_nil, List.map_nil]; exact .nil)
end
end Mine
end
section
open PySem PySem.W PyProof.Rows
namespace Mine
section
variable {prog : Program} {w : World} {A : Around} {E : Value → Shared → Prop} {s : Shared} {env : Env} {h₀ : Heap} {x : Str} {body : List Stmt} {Q : Flow → Shared → Prop}
theorem iter_range_led {r : Addr} {a₀ b₀ : Int} {t₀ u₀ v₀ : Tok} {n : Nat} {m₀ : Str → Option Value} {news : List (Addr × Obj)} (J : Nat → (Str → Option Value) → List (Addr × Obj) → Prop)
    (hh : A.handled = none) (hr : IsRange s.heap r a₀ b₀ 1 t₀ u₀ v₀) (hsmall : Builtin.Range.small a₀ b₀ 1 = true) (hn : Builtin.Range.rangeSize a₀ b₀ 1 = (n : Int)) (F : Fr h₀ env.locals s.heap m₀) (N : News h₀ env.locals s.heap news) (hj : J 0 m₀ news)
    (turn : ∀ i t m₁ news₁ h tk own, i < n → news₁.map (·.1) = news.map (·.1) → OwnOff own (news.map (·.1)) → J i m₁ news₁ → Fr h₀ env.locals h (fun y => if y = x then some (.int (a₀ + (i : Int)) t) else m₁ y) → News h₀ env.locals h (news₁ ++ own) →
      wpAny (model prog w) A (execs body env) (InvPostN h₀ env.locals (J (i + 1)) own (news.map (·.1)) { s with heap := h, toks := tk } Q) E { s with heap := h, toks := tk })
    (done : ∀ m₁ news₁ h tk, J n m₁ news₁ → Fr h₀ env.locals h m₁ → News h₀ env.locals h news₁ → Q .next { s with heap := h, toks := tk }) :
    wpAny (model prog w) A (pyIter (.ref r)) (fun it s₂ => LoopAtV prog w A h₀ env x body Q E it s₂) E s := by
  refine wpAny_pyIter_range hr hsmall ?_
  have W : Walks prog w A s.heap.objs.size [s.heap.objs.size] [s.heap.objs.size] n (fun i v => i < n ∧ ∃ t, v = .int (a₀ + i * 1) t)
      (fun i h => IsRangeIter h s.heap.objs.size (a₀ + (i : Nat) * 1) ((n : Int) - (i : Nat)) 1) := (Walks.range hh _ a₀ 1 n).bound
  refine loop_invN J W ?_ ?_ ?_ ?_ (by show IsRangeIter _ _ _ _ _; rw [hn]; simpa using Heap.get?_push_size _ rfl) (F.push _) (fun p hp => ⟨Heap.get?_push_of_some _ (N p hp).1, (N p hp).2⟩) hj ?_ ?_
  · intro hm
    exact absurd F.ns.lt ((List.mem_singleton.mp hm) ▸ Nat.lt_irrefl _)
  · intro b hb
    rw [List.mem_singleton.mp hb]
    exact next_is_new F
  · intro p hp hI
    exact absurd (Heap.lt_size (N p hp).1) ((List.mem_singleton.mp hI) ▸ Nat.lt_irrefl _)
  · intro p hp hI
    exact absurd (Heap.lt_size (N p hp).1) ((List.mem_singleton.mp hI) ▸ Nat.lt_irrefl _)
  · rintro i v m₁ news₁ h tk own hi ⟨_, t, rfl⟩ ha ho hJ F₁ N₁
    rw [Int.mul_one] at F₁
    exact turn i t m₁ news₁ h tk own hi ha ho hJ F₁ N₁
  · exact done
end
end Mine
end
section
open PySem PyProof.Rows PySem.Builtin PySem.Builtin.Str
namespace Mine
open PySem.StrLaws in
theorem occ_in (l : List Nat) (c : Nat) : (!(Builtin.Str.occurrences (sOf l) (⟨#[c]⟩ : Str) 0 (sOf l).length 1).isEmpty) = l.contains c := by
  have hat : ∀ i, At (sOf l) ⟨#[c]⟩ (sOf l).length i ↔ l[i]? = some c := fun i => by
    unfold At
    rw [subAt_eq]
    show i + 1 ≤ (sOf l).length ∧ ((l.drop i).take 1 == [c]) = true ↔ _
    rw [beq_iff_eq, sOf_length]
    constructor
    · rintro ⟨h1, h2⟩
      have hi : i < l.length := by omega
      rw [List.drop_eq_getElem_cons hi, List.take_succ_cons, List.take_zero] at h2
      rw [List.getElem?_eq_getElem hi, (List.cons.inj h2).1]
    · intro h
      have hi : i < l.length := by
        rcases Nat.lt_or_ge i l.length with q | q
        · exact q
        · rw [List.getElem?_eq_none q] at h; cases h
      refine ⟨by omega, ?_⟩
      rw [List.drop_eq_getElem_cons hi, List.take_succ_cons, List.take_zero]
      rw [List.getElem?_eq_getElem hi] at h
      rw [Option.some.inj h]
  rcases occ_head (sOf l) ⟨#[c]⟩ 1 (Nat.le_refl 1) with ⟨e, h⟩ | ⟨i, r, e, h⟩
  · rw [e]
    symm
    rw [List.isEmpty_nil, Bool.not_true, ← Bool.not_eq_true, List.contains_iff_mem]
    intro hm
    obtain ⟨i, hi, e2⟩ := List.mem_iff_getElem.mp hm
    exact h i ((hat i).mpr (by rw [List.getElem?_eq_getElem hi, e2]))
  · rw [e]
    symm
    rw [List.isEmpty_cons, Bool.not_false, List.contains_iff_mem]
    exact List.mem_of_getElem? ((hat i).mp h.1)
theorem msteps_swap (p q : Nat → Bool) : ∀ l, msteps p q l = msteps q p l
  | [] => rfl
  | h :: t => by rw [msteps, msteps, msteps_swap p q t, Bool.and_comm]
theorem msteps_blk {p q : Nat → Bool} {T : List Nat} (hT : T ≠ []) (hp : ∀ c ∈ T, p c = true) (hd : ∀ c, p c = true → q c = false) : ∀ D : List Nat, (D = [] ∨ ∃ z D', D = D' ++ [z] ∧ q z = true) → msteps p q (D ++ T) = D.length
  | [], _ => by
    rw [List.nil_append]
    exact msteps_stop (.inr (List.filter_eq_nil_iff.mpr fun c hc => by rw [hd c (hp c hc)]; decide))
  | h :: D, hD => by
    obtain ⟨t, ht⟩ := List.exists_mem_of_ne_nil _ hT
    have hz : ∃ z ∈ h :: D, q z = true := by
      rcases hD with e | ⟨z, D', e, hz⟩
      · cases e
      · exact ⟨z, by rw [e]; simp, hz⟩
    obtain ⟨z, hzm, hzq⟩ := hz
    have h1 : (h :: (D ++ T)).filter p ≠ [] := fun e => by
      have := List.mem_filter.mpr ⟨(show t ∈ h :: (D ++ T) from List.mem_cons_of_mem _ (List.mem_append_right _ ht)), hp t ht⟩
      rw [e] at this; cases this
    have h2 : (h :: (D ++ T)).filter q ≠ [] := fun e => by
      have := List.mem_filter.mpr ⟨(show z ∈ h :: (D ++ T) from List.mem_append_left T hzm), hzq⟩
      rw [e] at this; cases this
    rw [List.cons_append, msteps_go h1 h2, msteps_blk hT hp hd D, List.length_cons, Nat.add_comm]
    rcases hD with e | ⟨z, D', e, hz⟩
    · cases e
    · cases D' with
      | nil => left; exact (List.cons.inj e).2
      | cons a D' => right; exact ⟨z, D', (List.cons.inj e).2, hz⟩
theorem msteps_strip {p q : Nat → Bool} {P : List Nat} (hall : ∀ c ∈ P, (p c || q c) = true) (hd : ∀ c, p c = true → q c = false) {P' : List Nat} {z : Nat} (hP : P = P' ++ [z]) (hz : p z = true) :
    P.length - (P.reverse.takeWhile p).length = msteps p q P := by
  have e : P = (P.reverse.dropWhile p).reverse ++ (P.reverse.takeWhile p).reverse := by
    rw [← List.reverse_append, List.takeWhile_append_dropWhile, List.reverse_reverse]
  have hT : (P.reverse.takeWhile p).reverse ≠ [] := by
    rw [hP, List.reverse_append, List.reverse_singleton, List.singleton_append, List.takeWhile_cons_of_pos hz]
    simp
  have hp : ∀ c ∈ (P.reverse.takeWhile p).reverse, p c = true := fun c hc => by
    rw [List.mem_reverse] at hc
    exact List.all_eq_true.mp (List.all_takeWhile ..) c hc
  have hD : (P.reverse.dropWhile p).reverse = [] ∨ ∃ z D', (P.reverse.dropWhile p).reverse = D' ++ [z] ∧ q z = true := by
    cases h : P.reverse.dropWhile p with
    | nil => left; rfl
    | cons a r =>
      right
      refine ⟨a, r.reverse, by rw [List.reverse_cons], ?_⟩
      have ha : p a = false := by
        have := List.head?_dropWhile_not p P.reverse
        rw [h] at this
        simpa using this
      have hm : a ∈ P := by
        have : a ∈ P.reverse.dropWhile p := by rw [h]; exact List.mem_cons_self ..
        exact List.mem_reverse.mp (List.dropWhile_subset _ this)
      have := hall a hm
      rw [ha] at this; simpa using this
  have hm := msteps_blk hT hp hd _ hD
  rw [← e] at hm
  rw [hm]
  have hl := congrArg List.length e
  rw [List.length_append, List.length_reverse, List.length_reverse] at hl
  rw [List.length_reverse]
  omega
theorem takeWhile_congr {p q : Nat → Bool} (h : ∀ c, p c = q c) (l : List Nat) : l.takeWhile p = l.takeWhile q := by
  have : p = q := funext h
  rw [this]
theorem rs_len (P A : List Nat) {p : Nat → Bool} (hp : ∀ c, A.contains c = p c) : (Txt.rstripChars (sOf P) (sOf A)).length = P.length - (P.reverse.takeWhile p).length := by
  unfold Txt.rstripChars
  rw [stripBy_eq]
  have e0 : stripLo (sOf A).cps.contains false (sOf P) = 0 := rfl
  rw [e0]
  have e1 : stripHi (sOf A).cps.contains true (sOf P) 0 = P.length - (P.reverse.takeWhile p).length := by
    show (sOf P).length - ((P.drop 0).reverse.takeWhile (sOf A).cps.contains).length = _
    rw [sOf_length, List.drop_zero, takeWhile_congr (q := p)]
    intro c
    rw [← hp]
    simp [sOf]
  rw [e1]
  generalize hn : P.length - (P.reverse.takeWhile p).length = n
  have hle : n ≤ P.length := by omega
  show (strSub (sOf P) 0 n).cps.size = n
  rw [← Array.length_toList, StrLaws.strSub_toList]
  show ((P.drop 0).take (n - 0)).length = n
  rw [List.drop_zero, List.length_take]; omega
theorem slice_last (P' : List Nat) (z : Nat) : Txt.slice (sOf (P' ++ [z])) (some (-1)) none = sOf [z] := by
  show PySem.StrLaws.sliceText (sOf (P' ++ [z])) (some (-1)) none = sOf [z]
  have hl : (sOf (P' ++ [z])).length = P'.length + 1 := by rw [sOf_length]; simp
  rw [StrLaws.sliceText_from_neg (by decide) (by rw [hl]; omega)]
  rw [hl]
  have e1 : (-1 + ((P'.length + 1 : Nat) : Int)).toNat = P'.length := by omega
  have e2 : (((sOf (P' ++ [z])).cps.toList.length : Int) - (-1 + ((P'.length + 1 : Nat) : Int))).toNat = 1 := by
    show (((P' ++ [z]).length : Int) - _).toNat = 1
    rw [List.length_append, List.length_singleton]; omega
  rw [e1, e2]
  show (⟨(((P' ++ [z]).drop P'.length).take 1).toArray⟩ : Str) = _
  rw [List.drop_left]; rfl
theorem snoc_or (P : List Nat) : P = [] ∨ ∃ P' z, P = P' ++ [z] := by
  rcases List.eq_nil_or_concat P with h | ⟨P', z, h⟩
  · exact .inl h
  · exact .inr ⟨P', z, by rw [h, List.concat_eq_append]⟩
theorem rs_yes {P A : List Nat} {SA SP : Str} {p q : Nat → Bool} (hA : SA = sOf A) (hp : ∀ c, A.contains c = p c) (hSP : SP = sOf P) (hall : ∀ c ∈ P, (p c || q c) = true) (hd : ∀ c, p c = true → q c = false)
    (h : (Builtin.Str.occurrences SA (Txt.slice SP (some (-1)) none) 0 SA.length 1).isEmpty = false) : (Txt.rstripChars SP SA).length = msteps p q P := by
  subst hA hSP
  rw [rs_len P A hp]
  rcases snoc_or P with rfl | ⟨P', z, rfl⟩
  · rfl
  · rw [slice_last] at h
    have e := occ_in A z
    have h' : (!(Builtin.Str.occurrences (sOf A) (⟨#[z]⟩ : Str) 0 (sOf A).length 1).isEmpty) = true := by rw [show (⟨#[z]⟩ : Str) = sOf [z] from rfl, h]; rfl
    rw [h', hp] at e
    exact msteps_strip hall hd rfl e.symm
theorem rs_no {P A B : List Nat} {SA SB SP : Str} {p q : Nat → Bool} (hA : SA = sOf A) (hB : SB = sOf B) (hp : ∀ c, A.contains c = p c) (hq : ∀ c, B.contains c = q c) (hSP : SP = sOf P) (hall : ∀ c ∈ P, (p c || q c) = true) (hd : ∀ c, p c = true → q c = false)
    (h : (Builtin.Str.occurrences SA (Txt.slice SP (some (-1)) none) 0 SA.length 1).isEmpty = true) : (Txt.rstripChars SP SB).length = msteps p q P := by
  subst hA hB hSP
  rw [rs_len P B hq]
  rcases snoc_or P with rfl | ⟨P', z, rfl⟩
  · rfl
  · rw [slice_last] at h
    have e := occ_in A z
    have h' : (!(Builtin.Str.occurrences (sOf A) (⟨#[z]⟩ : Str) 0 (sOf A).length 1).isEmpty) = false := by rw [show (⟨#[z]⟩ : Str) = sOf [z] from rfl, h]; rfl
    rw [h', hp] at e
    have hz : q z = true := by
      have := hall z (by simp)
      rw [← e] at this; simpa using this
    rw [msteps_swap]
    refine msteps_strip (fun c hc => by rw [Bool.or_comm]; exact hall c hc) (fun c hc => ?_) rfl hz
    cases hpc : p c with
    | false => rfl
    | true => rw [hd c hpc] at hc; cases hc
/-- how many questions are asked -/
def evs (k0 k1 k2 k3 : Nat) (l : List Nat) : Nat :=
  16 + msteps (fun c => c == k0) (fun c => c == k1) (l.filter fun c => c == k0 || c == k1) + msteps (fun c => c == k2) (fun c => c == k3) (l.filter fun c => c == k2 || c == k3) + msteps (fun c => c == k0 || c == k1) (fun c => c == k2 || c == k3) l
theorem c1 (k c : Nat) : [k].contains c = (c == k) := by rw [List.contains_cons]; simp
theorem c2 (k k' c : Nat) : [k, k'].contains c = (c == k || c == k') := by rw [List.contains_cons, List.contains_cons]; simp
theorem dis1 {a b : Nat} (h : a ≠ b) : ∀ c : Nat, (c == a) = true → (c == b) = false := fun c e => by
  rw [beq_iff_eq] at e; rw [e]; exact beq_eq_false_iff_ne.mpr h
theorem dis2 {k0 k1 k2 k3 : Nat} (h02 : k0 ≠ k2) (h03 : k0 ≠ k3) (h12 : k1 ≠ k2) (h13 : k1 ≠ k3) : ∀ c : Nat, (c == k0 || c == k1) = true → (c == k2 || c == k3) = false := fun c e => by
  rw [Bool.or_eq_true, beq_iff_eq, beq_iff_eq] at e
  rcases e with e | e <;> rw [e, beq_eq_false_iff_ne.mpr (by assumption), beq_eq_false_iff_ne.mpr (by assumption)] <;> rfl
theorem all_filter {k0 k1 k2 k3 : Nat} {l : List Nat} (h : ∀ c ∈ l, c = k0 ∨ c = k1 ∨ c = k2 ∨ c = k3) : l.filter (fun c => (c == k0 || c == k1) || (c == k2 || c == k3)) = l := by
  rw [List.filter_eq_self]
  intro c hc
  rcases h c hc with e | e | e | e <;> simp [e]
end Mine
end
section
open PySem PySem.W PyProof.Rows
namespace Mine
local macro_rules | `(tactic| k_all) => `(tactic| first | assumption | (refine' Low.ne ?lx ?lh; (case lx => assumption); (case lh => omega)))
local macro_rules | `(tactic| walk_at "call builtin:list.append") => `(tactic| (k_here; k_dflt (refine' append_K ?k1 ?k2 ?k3 ?_ ?z; (case k1 => k_asm); (case k2 => k_asm); (case k3 => k_upd); (case z => first | size_fits | (rw [sizeLine_eq]; (try simp only [List.size_toArray, Array.size_push]); omega))); intro h' F' N'; (try k_sweep)))
local macro_rules | `(tactic| k_room) => `(tactic| ktr_room)
local macro_rules | `(tactic| k_units) => `(tactic| (have hcL9 := cLine_is; (try simp only [units_in1, units_deeper, Around.mark_units, units_caller] at *); (try dsimp only [ktrTop] at *); omega))
local macro_rules | `(tactic| walk_at $s:str) => `(tactic| ((have h9 : StopAt $s := by assumption); clear h9; refine Stop.out ?_))
local macro_rules | `(tactic| walk_at "call ref") => `(tactic| (k_dflt (refine' stopCall_out ?sca9 ?scb9; (case sca9 => assumption))))
local macro_rules | `(tactic| walk_at "setAttr ref") => `(tactic| (k_here; k_dflt (refine' fn_setattr_K ?F ?N ?U ?_; (case F => k_asm); (case N => k_asm); (case U => k_updF)); intro h' D' tk' F' N' l1; (try k_lt l1); (try k_sweep)))
local macro_rules | `(tactic| walk_at "getMethod ref") => `(tactic| (k_here; k_dflt (refine' fn_getread_K ?N ?f ?d ?_; (case N => k_asm); (case f => k_mem); (case d => k_mem)); intro tk'))
local macro_rules | `(tactic| walk_at "execs cons") => `(tactic| ((first | (with_reducible show wpAny _ _ _ _ _ (Shared.mk _ _ _ (_ + _) _)) | (with_reducible show wpAny _ _ _ _ _ (Shared.mk _ _ _ (Shared.toks _) _))); (with_reducible refine tok_any (fun tk9 => ?_)); (try dsimp only)))
local macro_rules | `(tactic| walk_at "execs nil") => `(tactic| ((first | (with_reducible show wpAny _ _ _ _ _ (Shared.mk _ _ _ (_ + _) _)) | (with_reducible show wpAny _ _ _ _ _ (Shared.mk _ _ _ (Shared.toks _) _))); (with_reducible refine tok_any (fun tk9 => ?_)); (try dsimp only)))
local macro_rules | `(tactic| k_in) => `(tactic| exact Frag.In.keeps (by k_asm) (Fr.keep (by k_asm)))
def ringAt (i : Int) : Nat := [97, 32, 34, 92, 10, 35, 9, 98].getD i.toNat 0
theorem ring_item (i : Int) (h0 : 0 ≤ i) (h1 : i < 8) : Txt.item (Str.ofString "a \"\\\n#\tb") i = sOf [ringAt i] := by
  have h : i = 0 ∨ i = 1 ∨ i = 2 ∨ i = 3 ∨ i = 4 ∨ i = 5 ∨ i = 6 ∨ i = 7 := by omega
  rcases h with rfl | rfl | rfl | rfl | rfl | rfl | rfl | rfl <;> decide +kernel
def lk (total : Int) (i : Int) : Nat := ringAt ((total + i).fmod 8)
theorem lk_facts (t : Int) : (lk t 0 ≠ 46 ∧ lk t 1 ≠ 46 ∧ lk t 2 ≠ 46 ∧ lk t 3 ≠ 46) ∧ (lk t 0 ≠ lk t 1 ∧ lk t 0 ≠ lk t 2 ∧ lk t 0 ≠ lk t 3 ∧ lk t 1 ≠ lk t 2 ∧ lk t 1 ≠ lk t 3 ∧ lk t 2 ≠ lk t 3) := by
  unfold lk
  have e : ∀ i : Int, (t + i).fmod 8 = (t.fmod 8 + i).fmod 8 := fun i => by
    simp only [Int.fmod_eq_emod_of_nonneg _ (show (0 : Int) ≤ 8 by decide)]; omega
  rw [e 0, e 1, e 2, e 3]
  have h0 : 0 ≤ t.fmod 8 := by rw [Int.fmod_eq_emod_of_nonneg _ (by decide)]; omega
  have h1 : t.fmod 8 < 8 := by rw [Int.fmod_eq_emod_of_nonneg _ (by decide)]; omega
  generalize t.fmod 8 = r at *
  have h : r = 0 ∨ r = 1 ∨ r = 2 ∨ r = 3 ∨ r = 4 ∨ r = 5 ∨ r = 6 ∨ r = 7 := by omega
  rcases h with rfl | rfl | rfl | rfl | rfl | rfl | rfl | rfl <;> decide +kernel
theorem off_mem {D : Addr} : ∀ {l : List (Addr × Obj)}, LCg.Off1 D l → ∀ p ∈ l, p.1 ≠ D
  | [], _, _, h => nomatch h
  | _ :: _, x, p, h => by
    rcases List.mem_cons.mp h with rfl | h
    · exact x.1
    · exact off_mem x.2 p h
theorem carried_strs2 {vs : List Value} (g : Int → Str) : ∀ {ks : List Int}, CarriedAll vs (ks.map fun k => PyData.str (g k)) → StrsAre vs (ks.map g) := fun {ks} h => by
  have e : (ks.map fun k => PyData.str (g k)) = (ks.map g).map PyData.str := by rw [List.map_map]; rfl
  rw [e] at h
  exact carried_strs h
section
variable {w : World} {loose : List Str} {mean : ExcName → Option Value} {mg mb : Str → Option Value} {dp un : Nat} {gd : Option (List Code)} {cn : Str} {cs : Scope} {a : Addr} {ccd : Value} {cl : List (Str × Addr)} {outer : List Env} {A₀ : Around} {base h₀ : Heap} {L : Addr} {m : Str → Option Value} {s : Shared} {Q E : Value → Shared → Prop}
variable (B : Below A₀ base outer h₀) (F : Fr h₀ L s.heap m) (X : Frag.In (hd.heap_39 w.params) h₀) (T : Top topProg loose mean mg mb h₀) (hk : cs.kind = .function)
include B F X T hk
set_option maxRecDepth 100000 in
set_option maxHeartbeats 8000000 in
theorem letters {rest : List (Addr × Obj)} {total : Int} {tt : Tok}
    (N : News h₀ L s.heap rest)
    (hdp : dp + 5 < recursionLimit) (hu : un + 64 < cLine)
    (hret : ∀ h' tk' (D n : Nat) ys, Fr h₀ L h' m → News h₀ L h' ((D, listOf ys.toArray n) :: rest) → StrsAre ys [sOf [lk total 0], sOf [lk total 1], sOf [lk total 2], sOf [lk total 3]] → (∀ p ∈ rest, p.1 ≠ D) → Q (.ref D) { s with heap := h', toks := tk' }) :
    wpAny (model PySem.Challenge.rw_pg0135_01.row.prog w) (ktrTop dp un gd cn cs L a ccd cl outer) (call (.ref 77) [.int total tt]) Q E s := by
  w_on
  revert X; k_fill; intro X
  refine wpAny_call ?_
  k_dflt (refine' code_defC ?k1 ?k2 ?k3 ?k4 ?k5 ?kA ?kF ?kK ?k6 ?k7 ?k8 ?k9 ?kB ?kD ?_ ?c2 ?c3 ?c4; (case kA => exact rfl); (case kF => exact rfl); (case kK => assumption); (case k1 => k_asm); (case k2 => k_asm); (case k3 => k_asm); (case k4 => k_asm); (case k5 => k_asm); (case k6 => k_is); (case k7 => k_is); (case k8 => ktr_room); (case k9 => exact BindsTo.of_eq rfl); (case kB => exact rfl); (case kD => decide +kernel); (case c2 => exact rfl); (case c3 => exact rfl); (case c4 => exact rfl); k_whole)
  intro g1 L1 hp1 tk1 cells1 FG1 F1 N1 Y1 B1 X1 T1 l1
  try k_lt l1
  k_cells Y1
  try simp only [List.cons_append, List.nil_append] at N1
  try dsimp only
  try k_fold
  refine wpAny_mono (E := fun _ _ => False) ?_ (fun _ _ h => h) (fun _ _ h => h.elim)
  have mkS : StopAt "CompSrc" := .mk _
  k_steps
  refine Stop.inn ?_
  clear mkS
  rename News g1 _ _ _ => NN
  rename Fr g1 _ _ _ => FF
  refine LCg.CompSrc.range (n := 4) (by rfl) FF NN (by assumption) (by decide) (by rfl) (by rw [sizeLine_eq]; decide) ?_
  intro g'
  refine kct_range (fun k => sOf [lk total k]) (fun k t I oI C oC D m2 ys h tk E' hlo hhi hC hx F2 N2 off ne mk => ?_) ?_
  · clear FF NN
    have h0 : 0 ≤ (total + k).fmod 8 := by rw [Int.fmod_eq_emod_of_nonneg _ (by decide)]; omega
    have h1 : (total + k).fmod 8 < 8 := by rw [Int.fmod_eq_emod_of_nonneg _ (by decide)]; omega
    have hit := ring_item _ h0 h1
    k_steps
    rw [hit]
    exact ⟨h, _, _, rfl, F2, N2, off, trivial, rfl, _, rfl⟩
  · unfold KPfDone
    intro ys hc hn D h tk F2 N2 off
    clear FF NN
    k_steps
    rename News h₀ L _ _ => NN
    refine hret _ _ D ys.length ys (by assumption) (news_sub NN fun p hp => ?_) (carried_strs2 (fun k => sOf [lk total k]) hc) (off_mem off.2)
    rcases List.mem_cons.mp hp with rfl | hp
    · exact .head _
    · exact .tail _ (.tail _ hp)
end
end Mine
end
section
open PySem PySem.W PyProof.Rows
namespace Mine
local macro_rules | `(tactic| k_all) => `(tactic| first | assumption | (refine' Low.ne ?lx ?lh; (case lx => assumption); (case lh => omega)))
local macro_rules | `(tactic| walk_at "call builtin:list.append") => `(tactic| (k_here; k_dflt (refine' append_K ?k1 ?k2 ?k3 ?_ ?z; (case k1 => k_asm); (case k2 => k_asm); (case k3 => k_upd); (case z => first | size_fits | (rw [sizeLine_eq]; (try simp only [List.size_toArray, Array.size_push]); omega))); intro h' F' N'; (try k_sweep)))
local macro_rules | `(tactic| k_room) => `(tactic| ktr_room)
local macro_rules | `(tactic| k_units) => `(tactic| (have hcL9 := cLine_is; (try simp only [units_in1, units_deeper, Around.mark_units, units_caller] at *); (try dsimp only [ktrTop] at *); omega))
local macro_rules | `(tactic| walk_at $s:str) => `(tactic| ((have h9 : StopAt $s := by assumption); clear h9; refine Stop.out ?_))
local macro_rules | `(tactic| walk_at "call ref") => `(tactic| (k_dflt (refine' stopCall_out ?sca9 ?scb9; (case sca9 => assumption))))
local macro_rules | `(tactic| walk_at "setAttr ref") => `(tactic| (k_here; k_dflt (refine' fn_setattr_K ?F ?N ?U ?_; (case F => k_asm); (case N => k_asm); (case U => k_updF)); intro h' D' tk' F' N' l1; (try k_lt l1); (try k_sweep)))
local macro_rules | `(tactic| walk_at "getMethod ref") => `(tactic| (k_here; k_dflt (refine' fn_getread_K ?N ?f ?d ?_; (case N => k_asm); (case f => k_mem); (case d => k_mem)); intro tk'))
local macro_rules | `(tactic| walk_at "execs cons") => `(tactic| ((first | (with_reducible show wpAny _ _ _ _ _ (Shared.mk _ _ _ (_ + _) _)) | (with_reducible show wpAny _ _ _ _ _ (Shared.mk _ _ _ (Shared.toks _) _))); (with_reducible refine tok_any (fun tk9 => ?_)); (try dsimp only)))
local macro_rules | `(tactic| walk_at "execs nil") => `(tactic| ((first | (with_reducible show wpAny _ _ _ _ _ (Shared.mk _ _ _ (_ + _) _)) | (with_reducible show wpAny _ _ _ _ _ (Shared.mk _ _ _ (Shared.toks _) _))); (with_reducible refine tok_any (fun tk9 => ?_)); (try dsimp only)))
local macro_rules | `(tactic| k_in) => `(tactic| exact Frag.In.keeps (by k_asm) (Fr.keep (by k_asm)))
def kat (k0 k1 k2 k3 : Nat) : Nat → Nat
  | 0 => k0 | 1 => k1 | 2 => k2 | _ => k3
def wrs (k0 k1 k2 k3 : Nat) (b : Nat → Bool) : Nat → List Nat
  | 0 => []
  | n + 1 => wrs k0 k1 k2 k3 b n ++ wr (kat k0 k1 k2 k3 n) (b n)
theorem wr_le (c : Nat) (b : Bool) : (wr c b).length ≤ 4 := by cases b <;> simp [wr]
theorem wrs_le (k0 k1 k2 k3 : Nat) (b : Nat → Bool) : ∀ n, (wrs k0 k1 k2 k3 b n).length ≤ 4 * n
  | 0 => Nat.le_refl _
  | n + 1 => by
    have h1 := wrs_le k0 k1 k2 k3 b n
    have h2 := wr_le (kat k0 k1 k2 k3 n) (b n)
    rw [wrs, List.length_append]; omega
theorem e00 : Str.ofString "" = sOf [] := by decide +kernel
theorem wrs_eq (k0 k1 k2 k3 : Nat) {b c : Nat → Bool} : ∀ {n : Nat}, (∀ j, j < n → b j = c j) → wrs k0 k1 k2 k3 b n = wrs k0 k1 k2 k3 c n
  | 0, _ => rfl
  | n + 1, h => by rw [wrs, wrs, wrs_eq k0 k1 k2 k3 (fun j hj => h j (Nat.lt_succ_of_lt hj)), h n (Nat.lt_succ_self n)]
theorem wrs_upd (k0 k1 k2 k3 : Nat) (b : Nat → Bool) (i : Nat) (v : Bool) : wrs k0 k1 k2 k3 (fun j => if j = i then v else b j) (i + 1) = wrs k0 k1 k2 k3 b i ++ wr (kat k0 k1 k2 k3 i) v := by
  rw [wrs, wrs_eq k0 k1 k2 k3 (c := b) fun j hj => if_neg (Nat.ne_of_lt hj)]; simp
theorem e3492 : Str.ofString "\"\\" = sOf [34, 92] := by decide +kernel
theorem wr_t (l : List Nat) (c : Nat) : sOf l ++ Str.ofString "\"\\" ++ sOf [c] ++ Str.ofString "\"" = sOf (l ++ wr c true) := by
  rw [e3492, ← e34, sOf_append, sOf_append, sOf_append, List.append_assoc, List.append_assoc]; rfl
theorem wr_f (l : List Nat) (c : Nat) : sOf l ++ Str.ofString "\\" ++ sOf [c] ++ Str.ofString "\n" = sOf (l ++ wr c false) := by
  rw [← e92, ← e10, sOf_append, sOf_append, sOf_append, List.append_assoc, List.append_assoc]; rfl
theorem upd_t {k0 k1 k2 k3 : Nat} {b : Nat → Bool} {i c : Nat} {W : List Nat} (hW : wrs k0 k1 k2 k3 b i = W) (hk : kat k0 k1 k2 k3 i = c) : sOf W ++ Str.ofString "\"\\" ++ sOf [c] ++ Str.ofString "\"" = sOf (wrs k0 k1 k2 k3 (fun j => if j = i then true else b j) (i + 1)) := by
  rw [wrs_upd, hW, hk]; exact wr_t W c
theorem upd_f {k0 k1 k2 k3 : Nat} {b : Nat → Bool} {i c : Nat} {W : List Nat} (hW : wrs k0 k1 k2 k3 b i = W) (hk : kat k0 k1 k2 k3 i = c) : sOf W ++ Str.ofString "\\" ++ sOf [c] ++ Str.ofString "\n" = sOf (wrs k0 k1 k2 k3 (fun j => if j = i then false else b j) (i + 1)) := by
  rw [wrs_upd, hW, hk]; exact wr_f W c
def WrJ (k0 k1 k2 k3 : Nat) (total : Int) (D n : Nat) (vs : List Value) (rest : List (Addr × Obj)) (tt : Tok) (i : Nat) (m₁ : Str → Option Value) (nx : List (Addr × Obj)) : Prop :=
  nx = (D, listOf vs.toArray n) :: rest ∧ ∃ (b : Nat → Bool) (t : Tok), (∀ x ∈ [(Str.ofString "letters", Value.ref D), (Str.ofString "total", Value.int total tt), (Str.ofString "text", Value.str (sOf (wrs k0 k1 k2 k3 b i)) t)], m₁ x.1 = some x.2)
section
variable {w : World} {loose : List Str} {mean : ExcName → Option Value} {mg mb : Str → Option Value} {dp un : Nat} {gd : Option (List Code)} {cn : Str} {cs : Scope} {a : Addr} {ccd : Value} {cl : List (Str × Addr)} {outer : List Env} {A₀ : Around} {base h₀ : Heap} {L : Addr} {m : Str → Option Value} {s : Shared} {Q E : Value → Shared → Prop}
variable (B : Below A₀ base outer h₀) (F : Fr h₀ L s.heap m) (X : Frag.In (hd.heap_39 w.params) h₀) (T : Top topProg loose mean mg mb h₀) (hk : cs.kind = .function)
include B F X T hk
set_option maxRecDepth 100000 in
set_option maxHeartbeats 8000000 in
theorem written {rest : List (Addr × Obj)} {total : Int} {tt : Tok} {D n : Nat} {ys : List Value} {k0 k1 k2 k3 : Nat}
    (N : News h₀ L s.heap ((D, listOf ys.toArray n) :: rest)) (hy : StrsAre ys [sOf [k0], sOf [k1], sOf [k2], sOf [k3]])
    (hdp : dp + 5 < recursionLimit) (hu : un + 64 < cLine)
    (hret : ∀ h' tk' t b, Fr h₀ L h' m → News h₀ L h' ((D, listOf ys.toArray n) :: rest) → Q (.str (sOf (wrs k0 k1 k2 k3 b 4)) t) { s with heap := h', toks := tk' }) :
    wpAny (model PySem.Challenge.rw_pg0135_01.row.prog w) (ktrTop dp un gd cn cs L a ccd cl outer) (call (.ref 84) [.ref D, .int total tt]) Q E s := by
  obtain ⟨u0, ys1, rfl, hy1⟩ := strs_cons hy
  obtain ⟨u1, ys2, rfl, hy2⟩ := strs_cons hy1
  obtain ⟨u2, ys3, rfl, hy3⟩ := strs_cons hy2
  obtain ⟨u3, ys4, rfl, hy4⟩ := strs_cons hy3
  cases hy4
  clear hy hy1 hy2 hy3
  w_on
  revert X; k_fill; intro X
  refine wpAny_call ?_
  k_dflt ktr_enter
  rename_i g1 L1 hp1 FG1 F1 N1 B1 X1 T1
  refine wpAny_mono (E := fun _ _ => False) ?_ (fun _ _ h => h) (fun _ _ h => h.elim)
  have mkF : StopAt "exec For Name Call cons nil" := .mk _
  k_steps
  refine Stop.inn ?_
  clear mkF
  refine For_invV (hE := PassesOwn.never) g1 (by rfl) (by rfl) ?_
  have mkP : StopAt "pyIter ref" := .mk _
  k_steps
  refine Stop.inn ?_
  clear mkP
  rename News g1 L1 _ _ => NN
  rename Fr g1 L1 _ _ => FF
  try (rename (∀ (b : Addr) (o : Obj), Heap.get? _ b = some o → Heap.get? _ b = some o) => hkeep; clear hkeep)
  refine iter_range_led (n := 4) (WrJ k0 k1 k2 k3 total D n [Value.str (sOf [k0]) u0, Value.str (sOf [k1]) u1, Value.str (sOf [k2]) u2, Value.str (sOf [k3]) u3] rest tt) rfl (by assumption) (by decide) (by rfl) FF NN ?hj ?turn ?done
  case hj =>
    refine ⟨rfl, fun _ => true, _, List.forall_mem_cons.mpr ⟨rfl, List.forall_mem_cons.mpr ⟨rfl, List.forall_mem_cons.mpr ⟨congrArg (fun z => some (Value.str z _)) e00, List.forall_mem_nil _⟩⟩⟩⟩
  case turn =>
    intro i t m₁ nx h tk own hi _ hoff hJ F₁ N₁
    obtain ⟨rfl, b, t2, hps⟩ := hJ
    have hi4 : i = 0 ∨ i = 1 ∨ i = 2 ∨ i = 3 := by omega
    rcases hi4 with rfl | rfl | rfl | rfl
    · have F₂ := fr_ps F₁ hps
      clear F₁ FF NN
      dsimp only [kstB] at F₂
      have hk : kat k0 k1 k2 k3 0 = k0 := rfl
      have l0 : (sOf (wrs k0 k1 k2 k3 b 0)).length ≤ 16 := by rw [sOf_length]; have := wrs_le k0 k1 k2 k3 b 0; omega
      generalize hW : wrs k0 k1 k2 k3 b 0 = W at *
      k_steps
      · exact ⟨_, _, _, _, _, rfl, by assumption, by assumption, fun p hp => List.mem_append_left _ hp, fun p hp => List.mem_append_right _ hp, rfl,
          ⟨rfl, fun j => if j = 0 then true else b j, _, List.forall_mem_cons.mpr ⟨rfl, List.forall_mem_cons.mpr ⟨rfl, List.forall_mem_cons.mpr ⟨congrArg (fun z => some (Value.str z _)) (upd_t hW hk), List.forall_mem_nil _⟩⟩⟩⟩⟩
      · exact ⟨_, _, _, _, _, rfl, by assumption, by assumption, fun p hp => List.mem_append_left _ hp, fun p hp => List.mem_append_right _ hp, rfl,
          ⟨rfl, fun j => if j = 0 then false else b j, _, List.forall_mem_cons.mpr ⟨rfl, List.forall_mem_cons.mpr ⟨rfl, List.forall_mem_cons.mpr ⟨congrArg (fun z => some (Value.str z _)) (upd_f hW hk), List.forall_mem_nil _⟩⟩⟩⟩⟩
    · have F₂ := fr_ps F₁ hps
      clear F₁ FF NN
      dsimp only [kstB] at F₂
      have hk : kat k0 k1 k2 k3 1 = k1 := rfl
      have l0 : (sOf (wrs k0 k1 k2 k3 b 1)).length ≤ 16 := by rw [sOf_length]; have := wrs_le k0 k1 k2 k3 b 1; omega
      generalize hW : wrs k0 k1 k2 k3 b 1 = W at *
      k_steps
      · exact ⟨_, _, _, _, _, rfl, by assumption, by assumption, fun p hp => List.mem_append_left _ hp, fun p hp => List.mem_append_right _ hp, rfl,
          ⟨rfl, fun j => if j = 1 then true else b j, _, List.forall_mem_cons.mpr ⟨rfl, List.forall_mem_cons.mpr ⟨rfl, List.forall_mem_cons.mpr ⟨congrArg (fun z => some (Value.str z _)) (upd_t hW hk), List.forall_mem_nil _⟩⟩⟩⟩⟩
      · exact ⟨_, _, _, _, _, rfl, by assumption, by assumption, fun p hp => List.mem_append_left _ hp, fun p hp => List.mem_append_right _ hp, rfl,
          ⟨rfl, fun j => if j = 1 then false else b j, _, List.forall_mem_cons.mpr ⟨rfl, List.forall_mem_cons.mpr ⟨rfl, List.forall_mem_cons.mpr ⟨congrArg (fun z => some (Value.str z _)) (upd_f hW hk), List.forall_mem_nil _⟩⟩⟩⟩⟩
    · have F₂ := fr_ps F₁ hps
      clear F₁ FF NN
      dsimp only [kstB] at F₂
      have hk : kat k0 k1 k2 k3 2 = k2 := rfl
      have l0 : (sOf (wrs k0 k1 k2 k3 b 2)).length ≤ 16 := by rw [sOf_length]; have := wrs_le k0 k1 k2 k3 b 2; omega
      generalize hW : wrs k0 k1 k2 k3 b 2 = W at *
      k_steps
      · exact ⟨_, _, _, _, _, rfl, by assumption, by assumption, fun p hp => List.mem_append_left _ hp, fun p hp => List.mem_append_right _ hp, rfl,
          ⟨rfl, fun j => if j = 2 then true else b j, _, List.forall_mem_cons.mpr ⟨rfl, List.forall_mem_cons.mpr ⟨rfl, List.forall_mem_cons.mpr ⟨congrArg (fun z => some (Value.str z _)) (upd_t hW hk), List.forall_mem_nil _⟩⟩⟩⟩⟩
      · exact ⟨_, _, _, _, _, rfl, by assumption, by assumption, fun p hp => List.mem_append_left _ hp, fun p hp => List.mem_append_right _ hp, rfl,
          ⟨rfl, fun j => if j = 2 then false else b j, _, List.forall_mem_cons.mpr ⟨rfl, List.forall_mem_cons.mpr ⟨rfl, List.forall_mem_cons.mpr ⟨congrArg (fun z => some (Value.str z _)) (upd_f hW hk), List.forall_mem_nil _⟩⟩⟩⟩⟩
    · have F₂ := fr_ps F₁ hps
      clear F₁ FF NN
      dsimp only [kstB] at F₂
      have hk : kat k0 k1 k2 k3 3 = k3 := rfl
      have l0 : (sOf (wrs k0 k1 k2 k3 b 3)).length ≤ 16 := by rw [sOf_length]; have := wrs_le k0 k1 k2 k3 b 3; omega
      generalize hW : wrs k0 k1 k2 k3 b 3 = W at *
      k_steps
      · exact ⟨_, _, _, _, _, rfl, by assumption, by assumption, fun p hp => List.mem_append_left _ hp, fun p hp => List.mem_append_right _ hp, rfl,
          ⟨rfl, fun j => if j = 3 then true else b j, _, List.forall_mem_cons.mpr ⟨rfl, List.forall_mem_cons.mpr ⟨rfl, List.forall_mem_cons.mpr ⟨congrArg (fun z => some (Value.str z _)) (upd_t hW hk), List.forall_mem_nil _⟩⟩⟩⟩⟩
      · exact ⟨_, _, _, _, _, rfl, by assumption, by assumption, fun p hp => List.mem_append_left _ hp, fun p hp => List.mem_append_right _ hp, rfl,
          ⟨rfl, fun j => if j = 3 then false else b j, _, List.forall_mem_cons.mpr ⟨rfl, List.forall_mem_cons.mpr ⟨rfl, List.forall_mem_cons.mpr ⟨congrArg (fun z => some (Value.str z _)) (upd_f hW hk), List.forall_mem_nil _⟩⟩⟩⟩⟩
  case done =>
    intro m₁ nx h tk hJ F₁ N₁
    obtain ⟨rfl, b, t2, hps⟩ := hJ
    have F₂ := fr_ps0 F₁ hps
    clear F₁ FF NN
    dsimp only [kstB] at F₂
    k_steps
    exact hret _ _ _ b (by assumption) (by assumption)
end
end Mine
end
section
open PySem PySem.W PyProof.Rows
namespace Mine
section
variable {prog : Program} {w : World} {A : Around} {E : Value → Shared → Prop} {s : Shared} {env : Env} {h₀ : Heap} {x : Str} {body : List Stmt} {Q : Flow → Shared → Prop}
/-- the end of a turn of a loop whose ledger may grow -/
def EndF (h₀ : Heap) (L : Addr) (wr : List Addr) (own : List (Addr × Obj)) (Jn : (Str → Option Value) → List (Addr × Obj) → Prop) (s₁ : Shared) (Q : Flow → Shared → Prop) (f : Flow) (s₂ : Shared) : Prop :=
  match f with
  | .ret v => Q (.ret v) s₂
  | .brk => Q .next s₂
  | _ => ∃ h' tk m' nx, s₂ = { s₁ with heap := h', toks := tk } ∧ Fr h₀ L h' m' ∧ News h₀ L h' (own ++ nx) ∧ (∀ p ∈ nx, p.1 ∉ wr) ∧ Jn m' nx
theorem loopF {I : Addr} {fp wr : List Addr} {n : Nat} {P : Nat → Value → Prop} {St : Nat → Heap → Prop} {m₀ : Str → Option Value} {news : List (Addr × Obj)} (J : Nat → (Str → Option Value) → List (Addr × Obj) → Prop)
    (W : Walks prog w A I fp wr n P St) (hLf : env.locals ∉ fp) (hwr : ∀ b ∈ wr, h₀.get? b = none) (hfn : ∀ b ∈ fp, h₀.get? b = none) (hob : ∀ i h, St i h → ∀ b ∈ fp, ∃ o, h.get? b = some o) (hnw : ∀ p ∈ news, p.1 ∉ wr) (hst : St 0 s.heap) (F : Fr h₀ env.locals s.heap m₀) (N : News h₀ env.locals s.heap news) (hj : J 0 m₀ news)
    (turn : ∀ i v m₁ news₁ h tk (ob : Addr → Obj), i < n → P i v → (∀ p ∈ news₁, p.1 ∉ wr) → J i m₁ news₁ → Fr h₀ env.locals h (fun y => if y = x then some v else m₁ y) → News h₀ env.locals h (fp.map (fun b => (b, ob b)) ++ news₁) →
      wpAny (model prog w) A (execs body env) (EndF h₀ env.locals wr (fp.map fun b => (b, ob b)) (J (i + 1)) { s with heap := h, toks := tk } Q) E { s with heap := h, toks := tk })
    (done : ∀ m₁ news₁ h tk, J n m₁ news₁ → Fr h₀ env.locals h m₁ → News h₀ env.locals h news₁ → Q .next { s with heap := h, toks := tk }) :
    LoopAtV prog w A h₀ env x body Q E (.ref I) s := by
  refine ⟨I, fp, wr, n, P, St, m₀, news, J, rfl, W, hLf, hwr, hnw, hst, F, N, hj, ?_, ?_⟩
  · rintro i v m₁ news₁ s₁ own ⟨hh', tk', rfl⟩ hin hP hJ hoff hown hget hall hSt F₁ N₁
    have hmem : ∀ b ∈ fp, ∃ o, hh'.get? b = some o := hob _ _ hSt
    have N₂ : News h₀ env.locals hh' (fp.map (fun b => (b, (hh'.get? b).getD (listOf #[] 0))) ++ news₁) := fun p hp => by
      rcases List.mem_append.mp hp with hp | hp
      · obtain ⟨b, hb, rfl⟩ := List.mem_map.mp hp
        obtain ⟨o, ho⟩ := hmem b hb
        have := N₁ (b, o) (List.mem_append_left _ (hall b hb (hfn b hb) o ho))
        simpa [ho] using this
      · exact N₁ p (List.mem_append_right _ hp)
    refine wpAny_mono (turn i v m₁ news₁ hh' tk' (fun b => (hh'.get? b).getD (listOf #[] 0)) hin hP hoff hJ F₁ N₂) (fun f s₂ p => ?_) fun _ _ e => e
    have hsub : ∀ p ∈ own, p ∈ fp.map (fun b => (b, (hh'.get? b).getD (listOf #[] 0))) := fun p hp => by
      refine List.mem_map.mpr ⟨p.1, hown p hp, ?_⟩
      have := hget p hp
      show (p.1, (hh'.get? p.1).getD _) = p
      rw [show hh'.get? p.1 = some p.2 from this]; rfl
    cases f with
    | ret v => exact .ret p
    | brk => exact .brk p
    | next =>
      obtain ⟨h', tk, m', nx, e, F', N', hn, hm⟩ := p
      exact .next ⟨rfl, h', tk, m', nx, e, F', fun p hp => N' p ((List.mem_append.mp hp).elim (fun q => List.mem_append_left _ (hsub p q)) fun q => List.mem_append_right _ q), hn, hm⟩
    | cont =>
      obtain ⟨h', tk, m', nx, e, F', N', hn, hm⟩ := p
      exact .cont ⟨rfl, h', tk, m', nx, e, F', fun p hp => N' p ((List.mem_append.mp hp).elim (fun q => List.mem_append_left _ (hsub p q)) fun q => List.mem_append_right _ q), hn, hm⟩
  · rintro h' tk m' news' F' N' _ hJ
    exact done m' news' h' tk hJ F' N'
theorem iter_rangeF {r : Addr} {a₀ b₀ : Int} {t₀ u₀ v₀ : Tok} {n : Nat} {m₀ : Str → Option Value} {news : List (Addr × Obj)} (J : Nat → (Str → Option Value) → List (Addr × Obj) → Prop)
    (hh : A.handled = none) (hr : IsRange s.heap r a₀ b₀ 1 t₀ u₀ v₀) (hsmall : Builtin.Range.small a₀ b₀ 1 = true) (hn : Builtin.Range.rangeSize a₀ b₀ 1 = (n : Int)) (F : Fr h₀ env.locals s.heap m₀) (N : News h₀ env.locals s.heap news) (hj : J 0 m₀ news)
    (turn : ∀ i t m₁ news₁ h tk (I : Addr) (o : Obj), i < n → (∀ p ∈ news₁, p.1 ≠ I) → J i m₁ news₁ → Fr h₀ env.locals h (fun y => if y = x then some (.int (a₀ + (i : Int)) t) else m₁ y) → News h₀ env.locals h ((I, o) :: news₁) →
      wpAny (model prog w) A (execs body env) (EndF h₀ env.locals [I] [(I, o)] (J (i + 1)) { s with heap := h, toks := tk } Q) E { s with heap := h, toks := tk })
    (done : ∀ m₁ news₁ h tk, J n m₁ news₁ → Fr h₀ env.locals h m₁ → News h₀ env.locals h news₁ → Q .next { s with heap := h, toks := tk }) :
    wpAny (model prog w) A (pyIter (.ref r)) (fun it s₂ => LoopAtV prog w A h₀ env x body Q E it s₂) E s := by
  refine wpAny_pyIter_range hr hsmall ?_
  have W : Walks prog w A s.heap.objs.size [s.heap.objs.size] [s.heap.objs.size] n (fun i v => i < n ∧ ∃ t, v = .int (a₀ + i * 1) t)
      (fun i h => IsRangeIter h s.heap.objs.size (a₀ + (i : Nat) * 1) ((n : Int) - (i : Nat)) 1) := (Walks.range hh _ a₀ 1 n).bound
  have hnone : ∀ b ∈ [s.heap.objs.size], h₀.get? b = none := fun b hb => by
    rw [List.mem_singleton.mp hb]
    exact next_is_new F
  refine loopF J W ?_ hnone hnone ?_ ?_ (by show IsRangeIter _ _ _ _ _; rw [hn]; simpa using Heap.get?_push_size _ rfl) (F.push _) (fun p hp => ⟨Heap.get?_push_of_some _ (N p hp).1, (N p hp).2⟩) hj ?_ ?_
  · intro hm
    exact absurd F.ns.lt ((List.mem_singleton.mp hm) ▸ Nat.lt_irrefl _)
  · intro i h hS b hb
    rw [List.mem_singleton.mp hb]
    exact ⟨_, hS⟩
  · intro p hp hI
    exact absurd (Heap.lt_size (N p hp).1) ((List.mem_singleton.mp hI) ▸ Nat.lt_irrefl _)
  · rintro i v m₁ news₁ h tk ob hi ⟨_, t, rfl⟩ ha hJ F₁ N₁
    rw [Int.mul_one] at F₁
    exact turn i t m₁ news₁ h tk _ (ob s.heap.objs.size) hi (fun p hp e => ha p hp (List.mem_singleton.mpr e)) hJ F₁ N₁
  · exact done
theorem iter_listF {l : Addr} {vs : List Value} {m₀ : Str → Option Value} {news : List (Addr × Obj)} (J : Nat → (Str → Option Value) → List (Addr × Obj) → Prop)
    (hh : A.handled = none) (hl : s.heap.IsList l vs.toArray) (hl0 : h₀.get? l = none) (hlL : l ≠ env.locals)
    (F : Fr h₀ env.locals s.heap m₀) (N : News h₀ env.locals s.heap news) (hj : J 0 m₀ news)
    (turn : ∀ i v m₁ news₁ h tk (I : Addr) (o ol : Obj), vs[i]? = some v → (∀ p ∈ news₁, p.1 ≠ I) → J i m₁ news₁ → Fr h₀ env.locals h (fun y => if y = x then some v else m₁ y) → News h₀ env.locals h ((I, o) :: (l, ol) :: news₁) →
      wpAny (model prog w) A (execs body env) (EndF h₀ env.locals [I] [(I, o), (l, ol)] (J (i + 1)) { s with heap := h, toks := tk } Q) E { s with heap := h, toks := tk })
    (done : ∀ m₁ news₁ h tk, J vs.length m₁ news₁ → Fr h₀ env.locals h m₁ → News h₀ env.locals h news₁ → Q .next { s with heap := h, toks := tk }) :
    wpAny (model prog w) A (pyIter (.ref l)) (fun it s₂ => LoopAtV prog w A h₀ env x body Q E it s₂) E s := by
  obtain ⟨ol, hol, hr⟩ := id hl
  have hlt : l < s.heap.objs.size := Heap.lt_size hol
  have hne : l ≠ s.heap.objs.size := Nat.ne_of_lt hlt
  refine wpAny_pyIter_list hl ?_
  have W := Walks.list (prog := prog) (w := w) hh s.heap.objs.size l hne vs.toArray
  have hlen : vs.toArray.size = vs.length := by simp
  rw [hlen] at W
  refine loopF J W ?_ ?_ ?_ ?_ ?_ ⟨⟨_, Heap.get?_push_size _ rfl, rfl, rfl⟩, hl.at fun o e => Heap.get?_push_of_some _ e⟩ (F.push _) (fun p hp => ⟨Heap.get?_push_of_some _ (N p hp).1, (N p hp).2⟩) hj ?_ ?_
  · intro hm
    rcases List.mem_cons.mp hm with e | hm
    · exact absurd F.ns.lt (e ▸ Nat.lt_irrefl _)
    · exact hlL (List.mem_singleton.mp hm).symm
  · intro b hb
    rw [List.mem_singleton.mp hb]
    exact next_is_new F
  · intro b hb
    rcases List.mem_cons.mp hb with rfl | hb
    · exact next_is_new F
    · rw [List.mem_singleton.mp hb]; exact hl0
  · rintro i h ⟨⟨o, ho, _⟩, ⟨o2, ho2, _⟩⟩ b hb
    rcases List.mem_cons.mp hb with rfl | hb
    · exact ⟨o, ho⟩
    · rw [List.mem_singleton.mp hb]; exact ⟨o2, ho2⟩
  · intro p hp hI
    exact absurd (Heap.lt_size (N p hp).1) ((List.mem_singleton.mp hI) ▸ Nat.lt_irrefl _)
  · intro i v m₁ news₁ h tk ob _ hP ha hJ F₁ N₁
    exact turn i v m₁ news₁ h tk _ (ob s.heap.objs.size) (ob l) (by simpa using hP) (fun p hp e => ha p hp (List.mem_singleton.mpr e)) hJ F₁ N₁
  · intro m₁ news₁ h tk hJ F₁ N₁
    exact done m₁ news₁ h tk hJ F₁ N₁
end
end Mine
end
section
open PySem PySem.W PyProof.Rows
set_option maxRecDepth 100000
namespace Mine
/-- the address stands nowhere in the ledger -/
def OffZ (a : Nat) (Z : List (Addr × Obj)) : Prop := ∀ r ∈ Z, r.1 ≠ a
theorem OffZ.map {a : Nat} {Z Z' : List (Addr × Obj)} (h : OffZ a Z) (e : Z'.map (·.1) = Z.map (·.1)) : OffZ a Z' := fun r hr => by
  have h1 : r.1 ∈ Z'.map (·.1) := List.mem_map_of_mem hr
  rw [e] at h1
  obtain ⟨p, hp, hq⟩ := List.mem_map.mp h1
  rw [← hq]; exact h p hp
/-- the table of the code objects that _law_many has made: none yet, or the lambda's; `as`: addresses that the lambda's code is not at -/
def Tab (as : List Nat) (Tb : List (Addr × Obj)) : Prop := Tb = [(98, tabObj #[])] ∨ ∃ (cc : Nat) (oc : Obj) (vs : Array Value) (tq : Tok), Tb = [(98, tab98 cc), (cc, oc)] ∧ oc.data = .fields vs ∧ vs[1]? = some (.str lamQ tq) ∧ ∀ b ∈ as, b ≠ cc
theorem Tab.off {as : List Nat} {Tb : List (Addr × Obj)} (h : Tab as Tb) {b : Nat} (hb : b ∈ as) (h98 : 98 ≠ b) : OffZ b Tb := by
  rcases h with rfl | ⟨cc, oc, vs, tq, rfl, _, _, h⟩
  · exact fun r hr => by rw [List.mem_singleton.mp hr]; exact h98
  · intro r hr
    rcases List.mem_cons.mp hr with rfl | hr
    · exact h98
    · rw [List.mem_singleton.mp hr]; exact (h b hb).symm
theorem Tab.toS {as : List Nat} {Tb R : List (Addr × Obj)} {q : Nat} (h : Tab as Tb) (hq : q ∈ as) (hR : ∀ r ∈ R, r.1 ∈ as) : TabS q R (Tb ++ R) := by
  rcases h with rfl | ⟨cc, oc, vs, tq, rfl, h1, h2, h⟩
  · exact .inl rfl
  · exact .inr ⟨cc, oc, vs, tq, rfl, h1, h2, h q hq, fun r hr => h _ (hR r hr)⟩
theorem offApp {a : Nat} {X Y : List (Addr × Obj)} (h : OffZ a X) (k : OffZ a Y) : OffZ a (X ++ Y) := fun r hr => (List.mem_append.mp hr).elim (h r) (k r)
theorem offCons {a : Nat} {e : Addr × Obj} {Y : List (Addr × Obj)} (h : e.1 ≠ a) (k : OffZ a Y) : OffZ a (e :: Y) := List.forall_mem_cons.mpr ⟨h, k⟩
theorem offNil {a : Nat} : OffZ a [] := fun _ h => nomatch h
theorem OffZ.left {a : Nat} {X Y : List (Addr × Obj)} (h : OffZ a (X ++ Y)) : OffZ a X := fun r hr => h r (List.mem_append_left _ hr)
theorem OffZ.right {a : Nat} {X Y : List (Addr × Obj)} (h : OffZ a (X ++ Y)) : OffZ a Y := fun r hr => h r (List.mem_append_right _ hr)
theorem news_m1 {h₀ h : Heap} {L : Addr} {A B T R : List (Addr × Obj)} {y : Addr × Obj} (N : News h₀ L h (A ++ (B ++ y :: (T ++ R)))) : News h₀ L h (y :: (T ++ (A ++ (B ++ R)))) := news_sub N fun p hp => by
  simp only [List.mem_append, List.mem_cons] at hp ⊢
  rcases hp with h | h | h | h | h <;> simp [h]
theorem news_m2 {h₀ h : Heap} {L : Addr} {A B T R : List (Addr × Obj)} {y : Addr × Obj} (N : News h₀ L h (y :: (T ++ (A ++ (B ++ R))))) : News h₀ L h (A ++ (B ++ y :: (T ++ R))) := news_sub N fun p hp => by
  simp only [List.mem_append, List.mem_cons] at hp ⊢
  rcases hp with h | h | h | h | h <;> simp [h]
abbrev BLK (w : World) (q n : Nat) (ys : List Value) (dx : Nat) (ln : Int) (st pb : Nat) (ta tb tc td te tf : Tok) (x D : Nat) (t0 : Tok) (fd fd2 : FuncData) (rd c1 : Nat) (c1o : Obj) (cell : Nat) (co : Obj) (PB : List Value) (np : Nat) : List (Addr × Obj) :=
  [(q, listOf ys.toArray n), (dx, lexD w ln st pb ta tb tc td te tf), (x, instObj 68 dx), (D, rdD w t0 rd), (st, fnO (some D) fd2), (rd, fnO none fd), (c1, c1o), (cell, co), (pb, listOf PB.toArray np)]
/-- the ledger of the lexer, its reader (which still holds the signs W), what waits on the lexer (PB), and the list of what was asked (k of them) -/
inductive Mc (w : World) (x qa : Nat) (rest : List (Addr × Obj)) (W : List Nat) (lb : Int) (PB : List Value) (k : Nat) : List (Addr × Obj) → Prop
  | mk (q dx D st rd c1 cell pb n np na : Nat) (ys : List Value) (ln : Int) (ta tb tc td te tf t0 : Tok) (fd fd2 : FuncData) (c1o co : Obj) (its : Array Value) (Tb : List (Addr × Obj))
    (ok : ReadOK w fd rd c1 cell c1o co q) (hy : StrsAre ys (W.map chr1)) (hk1 : its.size = k) (hln : 0 ≤ ln ∧ ln ≤ lb)
    (hord : cell < q ∧ q < c1 ∧ c1 < rd ∧ rd < st ∧ st < D ∧ D < dx ∧ dx < x) (hord2 : x < pb) (hqa : qa < cell ∧ 98 < cell ∧ qa ≠ 98)
    (hlow : Low cell rest) (hra : OffZ qa rest) (hr8 : OffZ 98 rest) (htab : Tab (qa :: q :: dx :: x :: D :: st :: rd :: c1 :: cell :: pb :: rest.map (·.1)) Tb) :
    Mc w x qa rest W lb PB k (BLK w q n ys dx ln st pb ta tb tc td te tf x D t0 fd fd2 rd c1 c1o cell co PB np ++ (qa, listOf its na) :: (Tb ++ rest))
theorem wle (c : Nat) (b : Bool) {l : List Nat} : l.length ≤ (wr c b ++ l).length := by rw [List.length_append]; exact Nat.le_add_left ..
theorem blk_off {w : World} {q n : Nat} {ys : List Value} {dx : Nat} {ln : Int} {st pb : Nat} {ta tb tc td te tf : Tok} {x D : Nat} {t0 : Tok} {fd fd2 : FuncData} {rd c1 : Nat} {c1o : Obj} {cell : Nat} {co : Obj} {PB : List Value} {np : Nat} {b : Nat} (hord : cell < q ∧ q < c1 ∧ c1 < rd ∧ rd < st ∧ st < D ∧ D < dx ∧ dx < x) (hord2 : x < pb) (h : b < cell) :
    OffZ b (BLK w q n ys dx ln st pb ta tb tc td te tf x D t0 fd fd2 rd c1 c1o cell co PB np) := by
  obtain ⟨g1, g2, g3, g4, g5, g6, g7⟩ := hord
  have k1 := Nat.lt_trans h g1
  have k2 := Nat.lt_trans k1 g2
  have k3 := Nat.lt_trans k2 g3
  have k4 := Nat.lt_trans k3 g4
  have k5 := Nat.lt_trans k4 g5
  have k6 := Nat.lt_trans k5 g6
  have k7 := Nat.lt_trans k6 g7
  exact offCons (Nat.ne_of_gt k1) (offCons (Nat.ne_of_gt k6) (offCons (Nat.ne_of_gt k7) (offCons (Nat.ne_of_gt k5) (offCons (Nat.ne_of_gt k4) (offCons (Nat.ne_of_gt k3) (offCons (Nat.ne_of_gt k2) (offCons (Nat.ne_of_gt h) (offCons (Nat.ne_of_gt (Nat.lt_trans k7 hord2)) (fun _ h => nomatch h)))))))))
theorem OffZ.tail {a : Nat} {e : Addr × Obj} {Y : List (Addr × Obj)} (h : OffZ a (e :: Y)) : OffZ a Y := fun r hr => h r (.tail _ hr)
theorem Tab.ne98 {as : List Nat} {Tb : List (Addr × Obj)} (h : Tab as Tb) {b : Nat} (hb : OffZ b Tb) : b ≠ 98 := by
  rcases h with rfl | ⟨cc, oc, vs, tq, rfl, _⟩
  · exact (hb _ (.head _)).symm
  · exact (hb _ (.head _)).symm
theorem Tab.more {as : List Nat} {Tb : List (Addr × Obj)} (h : Tab as Tb) {b d : Nat} (hb : OffZ b Tb) (hd : OffZ d Tb) : Tab (b :: d :: as) Tb := by
  rcases h with rfl | ⟨cc, oc, vs, tq, rfl, h1, h2, h3⟩
  · exact .inl rfl
  · exact .inr ⟨cc, oc, vs, tq, rfl, h1, h2, List.forall_mem_cons.mpr ⟨(hb _ (.tail _ (.head _))).symm, List.forall_mem_cons.mpr ⟨(hd _ (.tail _ (.head _))).symm, h3⟩⟩⟩
theorem offTab {a cc : Nat} {oc : Obj} {X Y Tb : List (Addr × Obj)} {q : Nat} {o o' : Obj} {as : List Nat} (h : OffZ a (X ++ (q, o) :: (Tb ++ Y))) (ht : Tab as Tb) (hc : a ≠ cc) : OffZ a (X ++ (q, o') :: ([(98, tab98 cc), (cc, oc)] ++ Y)) :=
  offApp h.left (offCons (show q ≠ a from h.right (q, o) (.head _)) (offCons (ht.ne98 h.right.tail.left).symm (offCons hc.symm h.right.tail.right)))
section
variable {w : World} {loose : List Str} {mean : ExcName → Option Value} {mg mb : Str → Option Value} {dp un : Nat} {gd : Option (List Code)} {cn : Str} {cs : Scope} {a : Addr} {ccd : Value} {cl : List (Str × Addr)} {outer : List Env} {A₀ : Around} {base h₀ : Heap} {L : Addr} {m : Str → Option Value} {s : Shared} {Q E : Value → Shared → Prop}
variable (B : Below A₀ base outer h₀) (F : Fr h₀ L s.heap m) (X : Frag.In (hd.heap_39 w.params) h₀) (T : Top topProg loose mean mg mb h₀) (hk : cs.kind = .function)
include B F X T hk
set_option maxRecDepth 100000 in
set_option maxHeartbeats 8000000 in
theorem tokM {e1 e2 : Addr × Obj} {x qa : Nat} {rest Z : List (Addr × Obj)} {k : Nat} {c : Nat} {b : Bool} {W : List Nat} {lb : Int}
    (M : Mc w x qa rest (wr c b ++ W) lb [] k Z) (N : News h₀ L s.heap (e1 :: e2 :: Z)) (o1 : OffZ e1.1 Z) (o2 : OffZ e2.1 Z) (hW : W.length ≤ 90) (hlb : lb ≤ 900)
    (hdp : dp + 8 < recursionLimit) (hu : un + 64 < cLine)
    (hret : ∀ h' tk' Z' (t' : Tok), Mc w x qa rest W (lb + 8) [] k Z' → OffZ e1.1 Z' → OffZ e2.1 Z' → Fr h₀ L h' m → News h₀ L h' (e1 :: e2 :: Z') → Q (.str (sOf [c]) t') { s with heap := h', toks := tk' }) :
    wpAny (model PySem.Challenge.rw_pg0135_01.row.prog w) (ktrTop dp un gd cn cs L a ccd cl outer) (call (.ref 58) [.ref x]) Q E s := by
  obtain ⟨q, dx, D, st, rd, c1, cell, pb, n, np, na, ys, ln, ta, tb, tc, td, te, tf, t0, fd, fd2, c1o, co, its, Tb, ok, hy, hk1, hln, hord, hord2, hqa, hlow, hra, hr8, htab⟩ := M
  obtain ⟨g1, g2, g3, g4, g5, g6, g7⟩ := id hord
  obtain ⟨g8, g9, g10⟩ := id hqa
  have lq : qa < q := Nat.lt_trans g8 g1
  have l8 : 98 < q := Nat.lt_trans g9 g1
  have ldx : q < dx := Nat.lt_trans g2 (Nat.lt_trans g3 (Nat.lt_trans g4 (Nat.lt_trans g5 g6)))
  have lpb : q < pb := Nat.lt_trans ldx (Nat.lt_trans g7 hord2)
  refine tokW B F X T hk hy (news_rot (pre := [_, _]) (blk := [_, _, _, _, _, _, _, _, _]) N) ok hW (offCons (o1 _ (.head _)).symm (offCons (o2 _ (.head _)).symm (offCons (Nat.ne_of_lt (lq)) (offApp (htab.off (by simp) (Nat.ne_of_lt (l8))) (hlow.ne (Nat.le_of_lt (g1))))))) (offCons (o1 _ (.tail _ (.head _))).symm (offCons (o2 _ (.tail _ (.head _))).symm (offCons (Nat.ne_of_lt (Nat.lt_trans lq ldx)) (offApp (htab.off (by simp) (Nat.ne_of_lt (Nat.lt_trans l8 ldx))) (hlow.ne (Nat.le_of_lt (Nat.lt_trans g1 ldx))))))) (offCons (o1 _ (List.mem_append_left _ (.tail _ (.tail _ (.tail _ (.tail _ (.tail _ (.tail _ (.tail _ (.tail _ (.head _))))))))))).symm (offCons (o2 _ (List.mem_append_left _ (.tail _ (.tail _ (.tail _ (.tail _ (.tail _ (.tail _ (.tail _ (.tail _ (.head _))))))))))).symm (offCons (Nat.ne_of_lt (Nat.lt_trans lq lpb)) (offApp (htab.off (by simp) (Nat.ne_of_lt (Nat.lt_trans l8 lpb))) (hlow.ne (Nat.le_of_lt (Nat.lt_trans g1 lpb))))))) hord hord2 ⟨hln.1, Int.le_trans hln.2 hlb⟩ hdp hu ?_
  intro h' tk' n' t' ln' tb' ys' a1 a2 hy' F' N'
  exact hret h' tk' _ t' ⟨q, dx, D, st, rd, c1, cell, pb, n', np, na, ys', ln', ta, tb', tc, td, te, tf, t0, fd, fd2, c1o, co, its, Tb, ok, hy', hk1, ⟨Int.le_trans hln.1 a1, Int.le_trans a2 (Int.add_le_add_right hln.2 8)⟩, hord, hord2, hqa, hlow, hra, hr8, htab⟩ (o1.map rfl) (o2.map rfl) F' (news_rot (pre := [_, _, _, _, _, _, _, _, _]) (blk := [_, _]) N')
set_option maxRecDepth 100000 in
set_option maxHeartbeats 8000000 in
theorem endM {e1 e2 : Addr × Obj} {x qa : Nat} {rest Z : List (Addr × Obj)} {k : Nat} {lb : Int}
    (M : Mc w x qa rest [] lb [] k Z) (N : News h₀ L s.heap (e1 :: e2 :: Z)) (o1 : OffZ e1.1 Z) (o2 : OffZ e2.1 Z) (hlb : lb ≤ 900)
    (hdp : dp + 8 < recursionLimit) (hu : un + 64 < cLine)
    (hret : ∀ h' tk' Z' (t' : Tok), Mc w x qa rest [] (lb + 8) [] k Z' → OffZ e1.1 Z' → OffZ e2.1 Z' → Fr h₀ L h' m → News h₀ L h' (e1 :: e2 :: Z') → Q (.str (Str.ofString "") t') { s with heap := h', toks := tk' }) :
    wpAny (model PySem.Challenge.rw_pg0135_01.row.prog w) (ktrTop dp un gd cn cs L a ccd cl outer) (call (.ref 58) [.ref x]) Q E s := by
  obtain ⟨q, dx, D, st, rd, c1, cell, pb, n, np, na, ys, ln, ta, tb, tc, td, te, tf, t0, fd, fd2, c1o, co, its, Tb, ok, hy, hk1, hln, hord, hord2, hqa, hlow, hra, hr8, htab⟩ := M
  obtain ⟨g1, g2, g3, g4, g5, g6, g7⟩ := id hord
  obtain ⟨g8, g9, g10⟩ := id hqa
  have lq : qa < q := Nat.lt_trans g8 g1
  have l8 : 98 < q := Nat.lt_trans g9 g1
  have ldx : q < dx := Nat.lt_trans g2 (Nat.lt_trans g3 (Nat.lt_trans g4 (Nat.lt_trans g5 g6)))
  have lpb : q < pb := Nat.lt_trans ldx (Nat.lt_trans g7 hord2)
  refine tokC (l := []) B F X T hk hy (news_rot (pre := [_, _]) (blk := [_, _, _, _, _, _, _, _, _]) N) ok (by simp) (offCons (o1 _ (.head _)).symm (offCons (o2 _ (.head _)).symm (offCons (Nat.ne_of_lt (lq)) (offApp (htab.off (by simp) (Nat.ne_of_lt (l8))) (hlow.ne (Nat.le_of_lt (g1))))))) (offCons (o1 _ (.tail _ (.head _))).symm (offCons (o2 _ (.tail _ (.head _))).symm (offCons (Nat.ne_of_lt (Nat.lt_trans lq ldx)) (offApp (htab.off (by simp) (Nat.ne_of_lt (Nat.lt_trans l8 ldx))) (hlow.ne (Nat.le_of_lt (Nat.lt_trans g1 ldx))))))) (offCons (o1 _ (List.mem_append_left _ (.tail _ (.tail _ (.tail _ (.tail _ (.tail _ (.tail _ (.tail _ (.tail _ (.head _))))))))))).symm (offCons (o2 _ (List.mem_append_left _ (.tail _ (.tail _ (.tail _ (.tail _ (.tail _ (.tail _ (.tail _ (.tail _ (.head _))))))))))).symm (offCons (Nat.ne_of_lt (Nat.lt_trans lq lpb)) (offApp (htab.off (by simp) (Nat.ne_of_lt (Nat.lt_trans l8 lpb))) (hlow.ne (Nat.le_of_lt (Nat.lt_trans g1 lpb))))))) hord hord2 ⟨hln.1, Int.le_trans hln.2 hlb⟩ hdp hu ?_
  intro h' tk' n' t' ln' tb' ys' a1 a2 hy' F' N'
  exact hret h' tk' _ t' ⟨q, dx, D, st, rd, c1, cell, pb, n', np, na, ys', ln', ta, tb', tc, td, te, tf, t0, fd, fd2, c1o, co, its, Tb, ok, hy', hk1, ⟨Int.le_trans hln.1 a1, Int.le_trans a2 (Int.add_le_add_right hln.2 8)⟩, hord, hord2, hqa, hlow, hra, hr8, htab⟩ (o1.map rfl) (o2.map rfl) F' (news_rot (pre := [_, _, _, _, _, _, _, _, _]) (blk := [_, _]) N')
set_option maxRecDepth 100000 in
set_option maxHeartbeats 8000000 in
theorem pushM {e1 e2 : Addr × Obj} {x qa : Nat} {rest Z : List (Addr × Obj)} {k : Nat} {W : List Nat} {lb : Int} {PB : List Value} {z : Str} {tz : Tok}
    (M : Mc w x qa rest W lb PB k Z) (N : News h₀ L s.heap (e1 :: e2 :: Z)) (o1 : OffZ e1.1 Z) (o2 : OffZ e2.1 Z) (hPB : PB.length ≤ 100)
    (hdp : dp + 3 < recursionLimit) (hu : un + 24 < cLine)
    (hret : ∀ h' tk' Z' (t' : Tok), Mc w x qa rest W lb (PB ++ [Value.str z tz]) k Z' → OffZ e1.1 Z' → OffZ e2.1 Z' → Fr h₀ L h' m → News h₀ L h' (e1 :: e2 :: Z') → Q (.none) { s with heap := h', toks := tk' }) :
    wpAny (model PySem.Challenge.rw_pg0135_01.row.prog w) (ktrTop dp un gd cn cs L a ccd cl outer) (call (.ref 65) [.ref x, .str z tz]) Q E s := by
  obtain ⟨q, dx, D, st, rd, c1, cell, pb, n, np, na, ys, ln, ta, tb, tc, td, te, tf, t0, fd, fd2, c1o, co, its, Tb, ok, hy, hk1, hln, hord, hord2, hqa, hlow, hra, hr8, htab⟩ := M
  obtain ⟨g1, g2, g3, g4, g5, g6, g7⟩ := id hord
  obtain ⟨g8, g9, g10⟩ := id hqa
  have lq : qa < q := Nat.lt_trans g8 g1
  have l8 : 98 < q := Nat.lt_trans g9 g1
  have ldx : q < dx := Nat.lt_trans g2 (Nat.lt_trans g3 (Nat.lt_trans g4 (Nat.lt_trans g5 g6)))
  have lpb : q < pb := Nat.lt_trans ldx (Nat.lt_trans g7 hord2)
  refine pushV B F X T hk (news_rot (pre := [_, _]) (blk := [_, _, _, _, _, _, _, _, _]) N) (offCons (o1 _ (List.mem_append_left _ (.tail _ (.tail _ (.tail _ (.tail _ (.tail _ (.tail _ (.tail _ (.tail _ (.head _))))))))))).symm (offCons (o2 _ (List.mem_append_left _ (.tail _ (.tail _ (.tail _ (.tail _ (.tail _ (.tail _ (.tail _ (.tail _ (.head _))))))))))).symm (offCons (Nat.ne_of_lt (Nat.lt_trans lq lpb)) (offApp (htab.off (by simp) (Nat.ne_of_lt (Nat.lt_trans l8 lpb))) (hlow.ne (Nat.le_of_lt (Nat.lt_trans g1 lpb))))))) hord hord2 hPB hdp hu ?_
  intro h' tk' F' N'
  exact hret h' tk' _ 0 ⟨q, dx, D, st, rd, c1, cell, pb, n, (np + 1), na, ys, ln, ta, tb, tc, td, te, tf, t0, fd, fd2, c1o, co, its, Tb, ok, hy, hk1, hln, hord, hord2, hqa, hlow, hra, hr8, htab⟩ (o1.map rfl) (o2.map rfl) F' (news_rot (pre := [_, _, _, _, _, _, _, _, _]) (blk := [_, _]) N')
set_option maxRecDepth 100000 in
set_option maxHeartbeats 8000000 in
theorem popM {e1 e2 : Addr × Obj} {x qa : Nat} {rest Z : List (Addr × Obj)} {k : Nat} {W : List Nat} {lb : Int} {PB : List Value} {z : Str} {tz : Tok}
    (M : Mc w x qa rest W lb (Value.str z tz :: PB) k Z) (N : News h₀ L s.heap (e1 :: e2 :: Z)) (o1 : OffZ e1.1 Z) (o2 : OffZ e2.1 Z) (hPB : PB.length ≤ 100)
    (hdp : dp + 3 < recursionLimit) (hu : un + 24 < cLine)
    (hret : ∀ h' tk' Z' (t' : Tok), Mc w x qa rest W lb PB k Z' → OffZ e1.1 Z' → OffZ e2.1 Z' → Fr h₀ L h' m → News h₀ L h' (e1 :: e2 :: Z') → Q (.str z tz) { s with heap := h', toks := tk' }) :
    wpAny (model PySem.Challenge.rw_pg0135_01.row.prog w) (ktrTop dp un gd cn cs L a ccd cl outer) (call (.ref 58) [.ref x]) Q E s := by
  obtain ⟨q, dx, D, st, rd, c1, cell, pb, n, np, na, ys, ln, ta, tb, tc, td, te, tf, t0, fd, fd2, c1o, co, its, Tb, ok, hy, hk1, hln, hord, hord2, hqa, hlow, hra, hr8, htab⟩ := M
  obtain ⟨g1, g2, g3, g4, g5, g6, g7⟩ := id hord
  obtain ⟨g8, g9, g10⟩ := id hqa
  have lq : qa < q := Nat.lt_trans g8 g1
  have l8 : 98 < q := Nat.lt_trans g9 g1
  have ldx : q < dx := Nat.lt_trans g2 (Nat.lt_trans g3 (Nat.lt_trans g4 (Nat.lt_trans g5 g6)))
  have lpb : q < pb := Nat.lt_trans ldx (Nat.lt_trans g7 hord2)
  refine tokAW B F X T hk (news_rot (pre := [_, _]) (blk := [_, _, _, _, _, _, _, _, _]) N) (offCons (o1 _ (List.mem_append_left _ (.tail _ (.tail _ (.tail _ (.tail _ (.tail _ (.tail _ (.tail _ (.tail _ (.head _))))))))))).symm (offCons (o2 _ (List.mem_append_left _ (.tail _ (.tail _ (.tail _ (.tail _ (.tail _ (.tail _ (.tail _ (.tail _ (.head _))))))))))).symm (offCons (Nat.ne_of_lt (Nat.lt_trans lq lpb)) (offApp (htab.off (by simp) (Nat.ne_of_lt (Nat.lt_trans l8 lpb))) (hlow.ne (Nat.le_of_lt (Nat.lt_trans g1 lpb))))))) hord hord2 hPB hdp hu ?_
  intro h' tk' F' N'
  exact hret h' tk' _ 0 ⟨q, dx, D, st, rd, c1, cell, pb, n, (np + 1), na, ys, ln, ta, tb, tc, td, te, tf, t0, fd, fd2, c1o, co, its, Tb, ok, hy, hk1, hln, hord, hord2, hqa, hlow, hra, hr8, htab⟩ (o1.map rfl) (o2.map rfl) F' (news_rot (pre := [_, _, _, _, _, _, _, _, _]) (blk := [_, _]) N')
set_option maxRecDepth 100000 in
set_option maxHeartbeats 8000000 in
theorem manyM {e1 e2 : Addr × Obj} {x qa : Nat} {rest Z : List (Addr × Obj)} {k : Nat} {W : List Nat} {lb : Int} {PB : List Value} {c : Nat} {text : Str} {t1 t2 : Tok} (C98 : CodeHd h₀ 102 98)
    (M : Mc w x qa rest W lb PB k Z) (N : News h₀ L s.heap (e1 :: e2 :: Z)) (o1 : OffZ e1.1 Z) (o2 : OffZ e2.1 Z) (hk9 : k ≤ 900) (hgz : text.length ≤ 10) (hc46 : c ≠ 46)
    (hdp : dp + 5 < recursionLimit) (hu : un + 48 < cLine)
    (hret : ∀ h' tk' Z' (t' : Tok), Mc w x qa rest W lb PB (k + 4) Z' → OffZ e1.1 Z' → OffZ e2.1 Z' → Fr h₀ L h' m → News h₀ L h' (e1 :: e2 :: Z') → Q (.int (text.cps.toList.count c) t') { s with heap := h', toks := tk' }) :
    wpAny (model PySem.Challenge.rw_pg0135_01.row.prog w) (ktrTop dp un gd cn cs L a ccd cl outer) (call (.ref 103) [.str (sOf [c]) t1, .str text t2, .ref qa]) Q E s := by
  obtain ⟨q, dx, D, st, rd, c1, cell, pb, n, np, na, ys, ln, ta, tb, tc, td, te, tf, t0, fd, fd2, c1o, co, its, Tb, ok, hy, hk1, hln, hord, hord2, hqa, hlow, hra, hr8, htab⟩ := M
  obtain ⟨g1, g2, g3, g4, g5, g6, g7⟩ := id hord
  obtain ⟨g8, g9, g10⟩ := id hqa
  have lq : qa < q := Nat.lt_trans g8 g1
  have l8 : 98 < q := Nat.lt_trans g9 g1
  have ldx : q < dx := Nat.lt_trans g2 (Nat.lt_trans g3 (Nat.lt_trans g4 (Nat.lt_trans g5 g6)))
  have lpb : q < pb := Nat.lt_trans ldx (Nat.lt_trans g7 hord2)
  have N2 := news_m1 (A := [e1, e2]) (B := [_, _, _, _, _, _, _, _, _]) N
  have ra : ∀ r ∈ [e1, e2] ++ (BLK w q n ys dx ln st pb ta tb tc td te tf x D t0 fd fd2 rd c1 c1o cell co PB np ++ rest), r.1 ≠ qa := offApp (offCons (o1 _ (List.mem_append_right _ (.head _))).symm (offCons (o2 _ (List.mem_append_right _ (.head _))).symm offNil)) (offApp (blk_off hord hord2 g8) hra)
  have r8 : ∀ r ∈ [e1, e2] ++ (BLK w q n ys dx ln st pb ta tb tc td te tf x D t0 fd fd2 rd c1 c1o cell co PB np ++ rest), r.1 ≠ 98 := offApp (offCons (htab.ne98 (o1.right.tail.left)) (offCons (htab.ne98 (o2.right.tail.left)) offNil)) (offApp (blk_off hord hord2 g9) hr8)
  have hcc : TabS qa ([e1, e2] ++ (BLK w q n ys dx ln st pb ta tb tc td te tf x D t0 fd fd2 rd c1 c1o cell co PB np ++ rest)) (Tb ++ ([e1, e2] ++ (BLK w q n ys dx ln st pb ta tb tc td te tf x D t0 fd fd2 rd c1 c1o cell co PB np ++ rest))) := (htab.more (o1.right.tail.left) (o2.right.tail.left)).toS (.tail _ (.tail _ (.head _))) fun r hr => by
    rcases List.mem_append.mp hr with hr | hr
    · rcases List.mem_cons.mp hr with rfl | hr
      · exact .head _
      · rw [List.mem_singleton.mp hr]; exact .tail _ (.head _)
    · rcases List.mem_append.mp hr with hr | hr
      · simp only [List.mem_cons, List.not_mem_nil, or_false] at hr
        rcases hr with rfl | rfl | rfl | rfl | rfl | rfl | rfl | rfl | rfl <;> simp
      · exact .tail _ (.tail _ (.tail _ (.tail _ (.tail _ (.tail _ (.tail _ (.tail _ (.tail _ (.tail _ (.tail _ (.tail _ (List.mem_map_of_mem hr))))))))))))
  refine many B F X T hk C98 N2 hcc ra g10 r8 (by rw [hk1]; exact hk9) hgz hc46 hdp hu ?_
  intro h' tk' its' n' t' Tb' hs hT' F' N'
  obtain ⟨cc, oc, vs, tq, rfl, z1, z2, z3, z4⟩ := hT'
  have z4 : OffZ cc ([e1, e2] ++ (BLK w q n ys dx ln st pb ta tb tc td te tf x D t0 fd fd2 rd c1 c1o cell co PB np ++ rest)) := z4
  have zb := z4.right.left
  refine hret h' tk' _ t' ⟨q, dx, D, st, rd, c1, cell, pb, n, np, n', ys, ln, ta, tb, tc, td, te, tf, t0, fd, fd2, c1o, co, its', [(98, tab98 cc), (cc, oc)], ok, hy, (hs.trans (congrArg (· + 4) hk1)), hln, hord, hord2, hqa, hlow, hra, hr8, (.inr ⟨cc, oc, vs, tq, rfl, z1, z2, ?_⟩)⟩ ?_ ?_ F' (news_m2 (T := [_, _]) (A := [e1, e2]) (B := [_, _, _, _, _, _, _, _, _]) N')
  · exact List.forall_mem_cons.mpr ⟨z3, List.forall_mem_cons.mpr ⟨zb _ (.head _), List.forall_mem_cons.mpr ⟨zb _ (.tail _ (.head _)), List.forall_mem_cons.mpr ⟨zb _ (.tail _ (.tail _ (.head _))), List.forall_mem_cons.mpr ⟨zb _ (.tail _ (.tail _ (.tail _ (.head _)))), List.forall_mem_cons.mpr ⟨zb _ (.tail _ (.tail _ (.tail _ (.tail _ (.head _))))), List.forall_mem_cons.mpr ⟨zb _ (.tail _ (.tail _ (.tail _ (.tail _ (.tail _ (.head _)))))), List.forall_mem_cons.mpr ⟨zb _ (.tail _ (.tail _ (.tail _ (.tail _ (.tail _ (.tail _ (.head _))))))), List.forall_mem_cons.mpr ⟨zb _ (.tail _ (.tail _ (.tail _ (.tail _ (.tail _ (.tail _ (.tail _ (.head _)))))))), List.forall_mem_cons.mpr ⟨zb _ (.tail _ (.tail _ (.tail _ (.tail _ (.tail _ (.tail _ (.tail _ (.tail _ (.head _))))))))), fun b hb => by
      obtain ⟨p, hp, rfl⟩ := List.mem_map.mp hb
      exact z4.right.right p hp⟩⟩⟩⟩⟩⟩⟩⟩⟩⟩
  · exact offTab o1 htab (z4 _ (.head _))
  · exact offTab o2 htab (z4 _ (.tail _ (.head _)))
set_option maxRecDepth 100000 in
set_option maxHeartbeats 8000000 in
theorem mergedM {e1 e2 : Addr × Obj} {x qa : Nat} {rest Z : List (Addr × Obj)} {k : Nat} {W : List Nat} {lb : Int} {PB : List Value} {text : Str} {t1 t2 t3 : Tok} {p r : Nat → Bool}
    (M : Mc w x qa rest W lb PB k Z) (N : News h₀ L s.heap (e1 :: e2 :: Z)) (o1 : OffZ e1.1 Z) (o2 : OffZ e2.1 Z) (hz : k + msteps p r (text.cps.toList.filter (fun c => p c || r c)) ≤ 1000) (hgz : text.length ≤ 10) (hw46 : ∀ d ∈ text.cps.toList, d ≠ 46) (dis : ∀ c, p c = true → r c = false)
    (hdp : dp + 3 < recursionLimit) (hu : un + 24 < cLine)
    (hret : ∀ h' tk' Z' (t' : Tok), Mc w x qa rest W lb PB (k + msteps p r (text.cps.toList.filter (fun c => p c || r c))) Z' → OffZ e1.1 Z' → OffZ e2.1 Z' → Fr h₀ L h' m → News h₀ L h' (e1 :: e2 :: Z') → Q (.str (sOf (text.cps.toList.filter (fun c => p c || r c))) t') { s with heap := h', toks := tk' }) :
    wpAny (model PySem.Challenge.rw_pg0135_01.row.prog w) (ktrTop dp un gd cn cs L a ccd cl outer) (call (.ref 110) [.str (sOf (text.cps.toList.filter p)) t1, .str (sOf (text.cps.toList.filter r)) t2, .str text t3, .ref qa]) Q E s := by
  obtain ⟨q, dx, D, st, rd, c1, cell, pb, n, np, na, ys, ln, ta, tb, tc, td, te, tf, t0, fd, fd2, c1o, co, its, Tb, ok, hy, hk1, hln, hord, hord2, hqa, hlow, hra, hr8, htab⟩ := M
  obtain ⟨g1, g2, g3, g4, g5, g6, g7⟩ := id hord
  obtain ⟨g8, g9, g10⟩ := id hqa
  have lq : qa < q := Nat.lt_trans g8 g1
  have l8 : 98 < q := Nat.lt_trans g9 g1
  have ldx : q < dx := Nat.lt_trans g2 (Nat.lt_trans g3 (Nat.lt_trans g4 (Nat.lt_trans g5 g6)))
  have lpb : q < pb := Nat.lt_trans ldx (Nat.lt_trans g7 hord2)
  have ra : ∀ r ∈ [e1, e2] ++ (BLK w q n ys dx ln st pb ta tb tc td te tf x D t0 fd fd2 rd c1 c1o cell co PB np ++ (Tb ++ rest)), r.1 ≠ qa := offApp (offCons (o1 _ (List.mem_append_right _ (.head _))).symm (offCons (o2 _ (List.mem_append_right _ (.head _))).symm offNil)) (offApp (blk_off hord hord2 g8) (offApp (htab.off (.head _) g10.symm) hra))
  refine merged B F X T hk (news_m1 (A := [e1, e2]) (B := [_, _, _, _, _, _, _, _, _]) (T := []) N) ra (by rw [hk1]; exact hz) hgz hw46 dis hdp hu ?_
  intro h' tk' its' n' t' hs F' N'
  exact hret h' tk' _ t' ⟨q, dx, D, st, rd, c1, cell, pb, n, np, n', ys, ln, ta, tb, tc, td, te, tf, t0, fd, fd2, c1o, co, its', Tb, ok, hy, (hs.trans (congrArg (· + _) hk1)), hln, hord, hord2, hqa, hlow, hra, hr8, htab⟩ (o1.map rfl) (o2.map rfl) F' (news_m2 (T := []) (A := [e1, e2]) (B := [_, _, _, _, _, _, _, _, _]) N')
end
set_option maxRecDepth 100000 in
set_option maxHeartbeats 8000000 in
theorem getTokM {w : World} {h₀ : Heap} {L : Addr} {m : Str → Option Value} {s : Shared} {E : Value → Shared → Prop} (F : Fr h₀ L s.heap m) (X : Frag.In (hd.heap_39 w.params) h₀) {A : Around} {news : List (Addr × Obj)} {pl : Sem Bool} {Q2 : Value × List Value → Shared → Prop} {x qa : Nat} {rest Z : List (Addr × Obj)} {k : Nat} {W : List Nat} {lb : Int} {PB : List Value}
    (M : Mc w x qa rest W lb PB k Z) (N : News h₀ L s.heap news) (hZ : ∀ p ∈ Z, p ∈ news) (h : Q2 (.ref 58, [.ref x]) s) :
    wpAny (model PySem.Challenge.rw_pg0135_01.row.prog w) A (getMethod (.ref x) (Str.ofString "get_token") pl) Q2 E s := by
  obtain ⟨q, dx, D, st, rd, c1, cell, pb, n, np, na, ys, ln, ta, tb, tc, td, te, tf, t0, fd, fd2, c1o, co, its, Tb, ok, hy, hk1, hln, hord, hord2, hqa, hlow, hra, hr8, htab⟩ := M
  have N2 := news_sub N hZ
  clear N hZ
  w_on
  revert X; k_fill; intro X
  k_dflt (refine' method_inst ?k1 ?k2 ?k3 ?k4 ?k5 ?k6 ?k7 ?_; (case k1 => exact F); (case k2 => exact X); (case k3 => k_inst); (case k4 => k_is); (case k5 => k_is); (case k6 => k_is); (case k7 => k_get))
  exact h
set_option maxRecDepth 100000 in
set_option maxHeartbeats 8000000 in
theorem getPushM {w : World} {h₀ : Heap} {L : Addr} {m : Str → Option Value} {s : Shared} {E : Value → Shared → Prop} (F : Fr h₀ L s.heap m) (X : Frag.In (hd.heap_39 w.params) h₀) {A : Around} {news : List (Addr × Obj)} {pl : Sem Bool} {Q2 : Value × List Value → Shared → Prop} {x qa : Nat} {rest Z : List (Addr × Obj)} {k : Nat} {W : List Nat} {lb : Int} {PB : List Value}
    (M : Mc w x qa rest W lb PB k Z) (N : News h₀ L s.heap news) (hZ : ∀ p ∈ Z, p ∈ news) (h : Q2 (.ref 65, [.ref x]) s) :
    wpAny (model PySem.Challenge.rw_pg0135_01.row.prog w) A (getMethod (.ref x) (Str.ofString "push_token") pl) Q2 E s := by
  obtain ⟨q, dx, D, st, rd, c1, cell, pb, n, np, na, ys, ln, ta, tb, tc, td, te, tf, t0, fd, fd2, c1o, co, its, Tb, ok, hy, hk1, hln, hord, hord2, hqa, hlow, hra, hr8, htab⟩ := M
  have N2 := news_sub N hZ
  clear N hZ
  w_on
  revert X; k_fill; intro X
  k_dflt (refine' method_inst ?k1 ?k2 ?k3 ?k4 ?k5 ?k6 ?k7 ?_; (case k1 => exact F); (case k2 => exact X); (case k3 => k_inst); (case k4 => k_is); (case k5 => k_is); (case k6 => k_is); (case k7 => k_get))
  exact h
end Mine
end
section
open PySem PySem.W PyProof.Rows
namespace Mine
local macro_rules | `(tactic| k_all) => `(tactic| first | assumption | (refine' Low.ne ?lx ?lh; (case lx => assumption); (case lh => omega)))
local macro_rules | `(tactic| walk_at "call builtin:list.append") => `(tactic| (k_here; k_dflt (refine' append_K ?k1 ?k2 ?k3 ?_ ?z; (case k1 => k_asm); (case k2 => k_asm); (case k3 => k_upd); (case z => first | size_fits | (rw [sizeLine_eq]; (try simp only [List.size_toArray, Array.size_push]); omega))); intro h' F' N'; (try k_sweep)))
local macro_rules | `(tactic| k_room) => `(tactic| ktr_room)
local macro_rules | `(tactic| k_units) => `(tactic| (have hcL9 := cLine_is; (try simp only [units_in1, units_deeper, Around.mark_units, units_caller] at *); (try dsimp only [ktrTop] at *); omega))
local macro_rules | `(tactic| walk_at $s:str) => `(tactic| ((have h9 : StopAt $s := by assumption); clear h9; refine Stop.out ?_))
local macro_rules | `(tactic| walk_at "call ref") => `(tactic| (k_dflt (refine' stopCall_out ?sca9 ?scb9; (case sca9 => assumption))))
local macro_rules | `(tactic| walk_at "setAttr ref") => `(tactic| (k_here; k_dflt (refine' fn_setattr_K ?F ?N ?U ?_; (case F => k_asm); (case N => k_asm); (case U => k_updF)); intro h' D' tk' F' N' l1; (try k_lt l1); (try k_sweep)))
local macro_rules | `(tactic| walk_at "getMethod ref") => `(tactic| (k_here; k_dflt (refine' fn_getread_K ?N ?f ?d ?_; (case N => k_asm); (case f => k_mem); (case d => k_mem)); intro tk'))
local macro_rules | `(tactic| walk_at "execs cons") => `(tactic| ((first | (with_reducible show wpAny _ _ _ _ _ (Shared.mk _ _ _ (_ + _) _)) | (with_reducible show wpAny _ _ _ _ _ (Shared.mk _ _ _ (Shared.toks _) _))); (with_reducible refine tok_any (fun tk9 => ?_)); (try dsimp only)))
local macro_rules | `(tactic| walk_at "execs nil") => `(tactic| ((first | (with_reducible show wpAny _ _ _ _ _ (Shared.mk _ _ _ (_ + _) _)) | (with_reducible show wpAny _ _ _ _ _ (Shared.mk _ _ _ (Shared.toks _) _))); (with_reducible refine tok_any (fun tk9 => ?_)); (try dsimp only)))
local macro_rules | `(tactic| k_in) => `(tactic| exact Frag.In.keeps (by k_asm) (Fr.keep (by k_asm)))
theorem occ_pq {A B : List Nat} {SA SB : Str} {p q : Nat → Bool} (hA : SA = sOf A) (hB : SB = sOf B) (hp : ∀ c, A.contains c = p c) (hq : ∀ c, B.contains c = q c) (c : Nat) : (!(Builtin.Str.occurrences (SA ++ SB) (⟨#[c]⟩ : Str) 0 (SA ++ SB).length 1).isEmpty) = (p c || q c) := by
  subst hA hB
  rw [sOf_append, occ_in, List.contains_append, hp, hq]
theorem sum_chr1 : ∀ l : List Nat, (List.map Str.length (l.map chr1)).sum = l.length
  | [] => rfl
  | a :: r => by rw [List.map_cons, List.map_cons, List.sum_cons, sum_chr1 r, List.length_cons]; show 1 + r.length = _; omega
theorem join_ok (pr : Nat → Bool) (text : Str) (h : text.length ≤ 10) : (List.map (fun x : Str => x.length) ((text.cps.toList.filter pr).map chr1)).sum + ((text.cps.toList.filter pr).map chr1).length * (Str.ofString "").length ≤ 16777216 := by
  have e3 : (Str.ofString "").length = 0 := by decide +kernel
  have e4 := sum_chr1 (text.cps.toList.filter pr)
  rw [e3, Nat.mul_zero, Nat.add_zero]
  have h1 := List.length_filter_le pr text.cps.toList
  have h2 : text.cps.toList.length = text.length := by simp [Str.length]
  show (List.map Str.length ((text.cps.toList.filter pr).map chr1)).sum ≤ _
  omega
theorem join_chr1 (l : List Nat) : Txt.join (Str.ofString "") (l.map chr1) = sOf l := by
  rw [join_nil_eq, List.flatMap_map]
  congr 1
  congr 1
  induction l with
  | nil => rfl
  | cons a r ih => rw [List.flatMap_cons, ih]; rfl
theorem letQ {α : Type} {M : Model} {A : Around} {x : Sem α} {Q : α → Shared → Prop} {E : Value → Shared → Prop} {s : Shared} (h : let Q' := Q; wpAny M A x Q' E s) : wpAny M A x Q E s := h
def CutR (h₀ : Heap) (L : Addr) (m : Str → Option Value) (news : List (Addr × Obj)) (R : Str → Prop) (s : Shared) (v : Value) (s' : Shared) : Prop := ∃ z t h' tk, v = Value.str z t ∧ R z ∧ Fr h₀ L h' m ∧ News h₀ L h' news ∧ s' = { s with heap := h', toks := tk }
theorem cut_str {M : Model} {A : Around} {x : Sem Value} {Q E : Value → Shared → Prop} {s : Shared} {h₀ h : Heap} {L : Addr} {m : Str → Option Value} {news : List (Addr × Obj)} (_ : Fr h₀ L h m) (_ : News h₀ L h news) (R : Str → Prop) (h : wpAny M A x (CutR h₀ L m news R s) E s) (k : ∀ z t h' tk, R z → Fr h₀ L h' m → News h₀ L h' news → Q (.str z t) { s with heap := h', toks := tk }) : wpAny M A x Q E s :=
  wpAny_mono h (fun v s' ⟨z, t, h', tk, e1, r, F, N, e2⟩ => e1 ▸ e2 ▸ k z t h' tk r F N) (fun _ _ e => e)
section
variable {w : World} {loose : List Str} {mean : ExcName → Option Value} {mg mb : Str → Option Value} {dp un : Nat} {gd : Option (List Code)} {cn : Str} {cs : Scope} {a : Addr} {ccd : Value} {cl : List (Str × Addr)} {outer : List Env} {A₀ : Around} {base h₀ : Heap} {L : Addr} {m : Str → Option Value} {s : Shared} {Q E : Value → Shared → Prop}
variable (B : Below A₀ base outer h₀) (F : Fr h₀ L s.heap m) (X : Frag.In (hd.heap_39 w.params) h₀) (T : Top topProg loose mean mg mb h₀) (hk : cs.kind = .function)
include B F X T hk
set_option maxRecDepth 100000 in
set_option maxHeartbeats 8000000 in
theorem questions {rest : List (Addr × Obj)} {tx : Tok} {D n : Nat} {ys : List Value} {k0 k1 k2 k3 : Nat} {text : Str}
    (N : News h₀ L s.heap ((D, listOf ys.toArray n) :: rest)) (hy : StrsAre ys [sOf [k0], sOf [k1], sOf [k2], sOf [k3]]) (hrD : ∀ p ∈ rest, p.1 ≠ D)
    (hdp : dp + 5 < recursionLimit) (hu : un + 64 < cLine) (htx : text.length ≤ 10) (hd : k0 ≠ k1 ∧ k0 ≠ k2 ∧ k0 ≠ k3 ∧ k1 ≠ k2 ∧ k1 ≠ k3 ∧ k2 ≠ k3) (hall : ∀ c ∈ text.cps.toList, c = k0 ∨ c = k1 ∨ c = k2 ∨ c = k3)
    (hret : ∀ h' tk' t, Fr h₀ L h' m → News h₀ L h' ((D, listOf ys.toArray n) :: rest) → Q (.int ((evs k0 k1 k2 k3 text.cps.toList : Nat) : Int) t) { s with heap := h', toks := tk' }) :
    wpAny (model PySem.Challenge.rw_pg0135_01.row.prog w) (ktrTop dp un gd cn cs L a ccd cl outer) (call (.ref 122) [.ref D, .str text tx]) Q E s := by
  obtain ⟨u0, ys1, rfl, hy1⟩ := strs_cons hy
  obtain ⟨u1, ys2, rfl, hy2⟩ := strs_cons hy1
  obtain ⟨u2, ys3, rfl, hy3⟩ := strs_cons hy2
  obtain ⟨u3, ys4, rfl, hy4⟩ := strs_cons hy3
  cases hy4
  clear hy hy1 hy2 hy3
  w_on
  revert X; k_fill; intro X
  refine wpAny_call ?_
  k_dflt (refine' code_defC ?k1 ?k2 ?k3 ?k4 ?k5 ?kA ?kF ?kK ?k6 ?k7 ?k8 ?k9 ?kB ?kD ?_ ?c2 ?c3 ?c4; (case kA => exact rfl); (case kF => exact rfl); (case kK => assumption); (case k1 => k_asm); (case k2 => k_asm); (case k3 => k_asm); (case k4 => k_asm); (case k5 => k_asm); (case k6 => k_is); (case k7 => k_is); (case k8 => ktr_room); (case k9 => exact BindsTo.of_eq rfl); (case kB => exact rfl); (case kD => decide +kernel); (case c2 => exact rfl); (case c3 => exact rfl); (case c4 => exact rfl); k_whole)
  intro g1 L1 hp1 tk1 cells1 FG1 F1 N1 Y1 B1 X1 T1 l1
  try k_lt l1
  k_cells Y1
  try simp only [List.cons_append, List.nil_append] at N1
  try dsimp only
  try k_fold
  refine wpAny_mono (E := fun _ _ => False) ?_ (fun _ _ h => h) (fun _ _ h => h.elim)
  refine letQ ?_
  intro qk
  have hlow := Low.of l1.2
  have hsz' : text.length ≤ sizeLine := by rw [sizeLine_eq]; omega
  have l0 : (sOf [k0]).length = 1 := rfl
  have l1' : (sOf [k1]).length = 1 := rfl
  have l2 : (sOf [k2]).length = 1 := rfl
  have l3 : (sOf [k3]).length = 1 := rfl
  have mkC : StopAt "eval ListComp" := .mk _
  have mkI : StopAt "eval IfExp" := .mk _
  have mkP : StopAt "pyIter ref" := .mk _
  k_steps
  refine Stop.inn ?_
  rename News g1 _ _ _ => NN
  rename Fr g1 _ _ _ => FF
  refine iter_listTurns rfl FF NN (.head _) rfl rfl ?_
  intro I lI
  k_lt lI
  clear FF NN mkP
  have mkE : StopAt "execs cons" := .mk _
  k_steps
  refine Stop.inn ?_
  clear mkE
  try dsimp only
  refine letQ ?_
  intro qT0
  k_steps
  refine Stop.inn ?_
  rename News g1 _ _ _ => NN
  rename Fr g1 _ _ _ => FF
  refine ListComp_ST (h₀ := g1) (L := L1) FF (by with_unfolding_all rfl) (by decide) (by rfl) (by decide) (by rfl) ?_
  walk1
  refine ⟨text, _, _, rfl, rfl, FF, NN, hsz', fun s₂ ⟨hh2, e2⟩ => e2 ▸ ?_⟩
  have hA0 : sOf [k0] = sOf [k0] := rfl
  have hB0 : sOf [k1] = sOf [k1] := rfl
  have he : ∀ c, (!(Builtin.Str.occurrences (sOf [k0] ++ sOf [k1]) (⟨#[c]⟩ : Str) 0 (sOf [k0] ++ sOf [k1]).length 1).isEmpty) = ((c == k0) || (c == k1)) := occ_pq (p := fun c => c == k0) (q := fun c => c == k1) hA0 hB0 (fun c => c1 k0 c) (fun c => c1 k1 c)
  refine rest_ST (fun c => (c == k0) || (c == k1)) chr1 ?_ ?_
  · intro c t I2 oI C oC D2 m₂ ys h tk E' hc hC hx F₂ N₂ off ne
    clear FF NN
    k_steps
    · exact ⟨h, _, _, rfl, F₂, N₂, off, trivial, by rw [← he]; first | assumption | (rename ((Builtin.Str.occurrences _ _ _ _ _).isEmpty = _) => hz; rw [hz]; rfl), rfl⟩
    · exact ⟨h, _, _, rfl, F₂, N₂, off, trivial, by rw [← he]; first | assumption | (rename ((Builtin.Str.occurrences _ _ _ _ _).isEmpty = _) => hz; rw [hz]; rfl), rfl, _, rfl⟩
  intro ys hys D2 h tk F₂ N₂ off
  clear FF NN he
  k_steps
  refine join_list (News.isList N₂ (.head _)) (by simpa using hys) ?hok0 ?_
  case hok0 => exact join_ok (fun c => (c == k0) || (c == k1)) text htx
  intro t' kt
  rw [join_chr1]
  have hfl := List.length_filter_le (fun c => (c == k0) || (c == k1)) text.cps.toList
  have htl : text.cps.toList.length = text.length := by simp [Str.length]
  have hallP : ∀ c ∈ text.cps.toList.filter (fun c => (c == k0) || (c == k1)), ((c == k0) || (c == k1)) = true := fun c hc => (List.mem_filter.mp hc).2
  generalize hPe0 : text.cps.toList.filter (fun c => (c == k0) || (c == k1)) = P0 at *
  have lP : (sOf P0).length = P0.length := sOf_length P0
  clear hys
  k_steps
  refine Stop.inn ?_
  rename Fr g1 _ _ _ => FF
  rename News g1 _ _ _ => NN
  refine cut_str FF NN (fun z => (Txt.rstripChars (sOf P0) z).length = msteps (fun c => c == k0) (fun c => c == k1) P0) ?cut0 ?_
  case cut0 =>
    clear mkI
    k_steps
    all_goals first
      | exact ⟨_, _, _, _, rfl, rs_yes (p := fun c => c == k0) (q := fun c => c == k1) hA0 (fun c => c1 k0 c) rfl hallP (dis1 hd.1) (by assumption), by assumption, by assumption, rfl⟩
      | exact ⟨_, _, _, _, rfl, rs_no (p := fun c => c == k0) (q := fun c => c == k1) hA0 hB0 (fun c => c1 k0 c) (fun c => c1 k1 c) rfl hallP (dis1 hd.1) (by assumption), by assumption, by assumption, rfl⟩
  clear FF NN
  intro z tz hz9 tkz hz FZ NZ
  k_steps
  rename Fr g1 _ _ _ => FF
  rename News g1 _ _ _ => NN
  rw [hz] at FF
  clear hallP lP hfl hz
  have NN2 := news_sub NN (fun p hp => List.mem_cons_of_mem _ hp)
  refine ⟨_, _, _, _, rfl, FF, NN2, ?off0, ⟨?sub0, ?_⟩⟩
  case off0 =>
    intro p hp q hq
    rw [List.mem_singleton.mp hq]
    revert p
    repeat (first | exact hlow.ne (by omega) | refine List.forall_mem_cons.mpr ⟨by k_ne, ?_⟩)
  case sub0 => k_subL
  clear FF NN NN2
  have mkE : StopAt "execs cons" := .mk _
  k_steps
  refine Stop.inn ?_
  clear mkE
  try dsimp only
  refine letQ ?_
  intro qT1
  k_steps
  refine Stop.inn ?_
  rename News g1 _ _ _ => NN
  rename Fr g1 _ _ _ => FF
  refine ListComp_ST (h₀ := g1) (L := L1) FF (by with_unfolding_all rfl) (by decide) (by rfl) (by decide) (by rfl) ?_
  walk1
  refine ⟨text, _, _, rfl, rfl, FF, NN, hsz', fun s₂ ⟨hh2, e2⟩ => e2 ▸ ?_⟩
  have hA1 : sOf [k2] = sOf [k2] := rfl
  have hB1 : sOf [k3] = sOf [k3] := rfl
  have he : ∀ c, (!(Builtin.Str.occurrences (sOf [k2] ++ sOf [k3]) (⟨#[c]⟩ : Str) 0 (sOf [k2] ++ sOf [k3]).length 1).isEmpty) = ((c == k2) || (c == k3)) := occ_pq (p := fun c => c == k2) (q := fun c => c == k3) hA1 hB1 (fun c => c1 k2 c) (fun c => c1 k3 c)
  refine rest_ST (fun c => (c == k2) || (c == k3)) chr1 ?_ ?_
  · intro c t I2 oI C oC D2 m₂ ys h tk E' hc hC hx F₂ N₂ off ne
    clear FF NN
    k_steps
    · exact ⟨h, _, _, rfl, F₂, N₂, off, trivial, by rw [← he]; first | assumption | (rename ((Builtin.Str.occurrences _ _ _ _ _).isEmpty = _) => hz; rw [hz]; rfl), rfl⟩
    · exact ⟨h, _, _, rfl, F₂, N₂, off, trivial, by rw [← he]; first | assumption | (rename ((Builtin.Str.occurrences _ _ _ _ _).isEmpty = _) => hz; rw [hz]; rfl), rfl, _, rfl⟩
  intro ys hys D2 h tk F₂ N₂ off
  clear FF NN he
  k_steps
  refine join_list (News.isList N₂ (.head _)) (by simpa using hys) ?hok1 ?_
  case hok1 => exact join_ok (fun c => (c == k2) || (c == k3)) text htx
  intro t' kt
  rw [join_chr1]
  have hfl := List.length_filter_le (fun c => (c == k2) || (c == k3)) text.cps.toList
  have htl : text.cps.toList.length = text.length := by simp [Str.length]
  have hallP : ∀ c ∈ text.cps.toList.filter (fun c => (c == k2) || (c == k3)), ((c == k2) || (c == k3)) = true := fun c hc => (List.mem_filter.mp hc).2
  generalize hPe1 : text.cps.toList.filter (fun c => (c == k2) || (c == k3)) = P1 at *
  have lP : (sOf P1).length = P1.length := sOf_length P1
  clear hys
  k_steps
  refine Stop.inn ?_
  rename Fr g1 _ _ _ => FF
  rename News g1 _ _ _ => NN
  refine cut_str FF NN (fun z => (Txt.rstripChars (sOf P1) z).length = msteps (fun c => c == k2) (fun c => c == k3) P1) ?cut1 ?_
  case cut1 =>
    clear mkI
    k_steps
    all_goals first
      | exact ⟨_, _, _, _, rfl, rs_yes (p := fun c => c == k2) (q := fun c => c == k3) hA1 (fun c => c1 k2 c) rfl hallP (dis1 hd.2.2.2.2.2) (by assumption), by assumption, by assumption, rfl⟩
      | exact ⟨_, _, _, _, rfl, rs_no (p := fun c => c == k2) (q := fun c => c == k3) hA1 hB1 (fun c => c1 k2 c) (fun c => c1 k3 c) rfl hallP (dis1 hd.2.2.2.2.2) (by assumption), by assumption, by assumption, rfl⟩
  clear FF NN
  intro z tz hz9 tkz hz FZ NZ
  k_steps
  rename Fr g1 _ _ _ => FF
  rename News g1 _ _ _ => NN
  rw [hz] at FF
  clear hallP lP hfl hz
  have NN2 := news_sub NN (fun p hp => List.mem_cons_of_mem _ hp)
  refine ⟨_, _, _, _, rfl, FF, NN2, ?off1, ⟨?sub1, ?_⟩⟩
  case off1 =>
    intro p hp q hq
    rw [List.mem_singleton.mp hq]
    revert p
    repeat (first | exact hlow.ne (by omega) | refine List.forall_mem_cons.mpr ⟨by k_ne, ?_⟩)
  case sub1 => k_subL
  clear FF NN NN2
  have mkE : StopAt "execs cons" := .mk _
  k_steps
  refine Stop.inn ?_
  clear mkE
  try dsimp only
  refine letQ ?_
  intro qT2
  k_steps
  refine Stop.inn ?_
  rename News g1 _ _ _ => NN
  rename Fr g1 _ _ _ => FF
  refine ListComp_ST (h₀ := g1) (L := L1) FF (by with_unfolding_all rfl) (by decide) (by rfl) (by decide) (by rfl) ?_
  walk1
  refine ⟨text, _, _, rfl, rfl, FF, NN, hsz', fun s₂ ⟨hh2, e2⟩ => e2 ▸ ?_⟩
  have hA2 : (sOf [k0] ++ sOf [k1]) = sOf [k0, k1] := sOf_append _ _
  have hB2 : (sOf [k2] ++ sOf [k3]) = sOf [k2, k3] := sOf_append _ _
  have he : ∀ c, (!(Builtin.Str.occurrences ((sOf [k0] ++ sOf [k1]) ++ (sOf [k2] ++ sOf [k3])) (⟨#[c]⟩ : Str) 0 ((sOf [k0] ++ sOf [k1]) ++ (sOf [k2] ++ sOf [k3])).length 1).isEmpty) = ((c == k0 || c == k1) || (c == k2 || c == k3)) := occ_pq (p := fun c => c == k0 || c == k1) (q := fun c => c == k2 || c == k3) hA2 hB2 (fun c => c2 k0 k1 c) (fun c => c2 k2 k3 c)
  refine rest_ST (fun c => (c == k0 || c == k1) || (c == k2 || c == k3)) chr1 ?_ ?_
  · intro c t I2 oI C oC D2 m₂ ys h tk E' hc hC hx F₂ N₂ off ne
    clear FF NN
    k_steps
    · exact ⟨h, _, _, rfl, F₂, N₂, off, trivial, by rw [← he]; first | assumption | (rename ((Builtin.Str.occurrences _ _ _ _ _).isEmpty = _) => hz; rw [hz]; rfl), rfl⟩
    · exact ⟨h, _, _, rfl, F₂, N₂, off, trivial, by rw [← he]; first | assumption | (rename ((Builtin.Str.occurrences _ _ _ _ _).isEmpty = _) => hz; rw [hz]; rfl), rfl, _, rfl⟩
  intro ys hys D2 h tk F₂ N₂ off
  clear FF NN he
  k_steps
  refine join_list (News.isList N₂ (.head _)) (by simpa using hys) ?hok2 ?_
  case hok2 => exact join_ok (fun c => (c == k0 || c == k1) || (c == k2 || c == k3)) text htx
  intro t' kt
  rw [join_chr1]
  have hfl := List.length_filter_le (fun c => (c == k0 || c == k1) || (c == k2 || c == k3)) text.cps.toList
  have htl : text.cps.toList.length = text.length := by simp [Str.length]
  have hallP : ∀ c ∈ text.cps.toList.filter (fun c => (c == k0 || c == k1) || (c == k2 || c == k3)), ((c == k0 || c == k1) || (c == k2 || c == k3)) = true := fun c hc => (List.mem_filter.mp hc).2
  generalize hPe2 : text.cps.toList.filter (fun c => (c == k0 || c == k1) || (c == k2 || c == k3)) = P2 at *
  have lP : (sOf P2).length = P2.length := sOf_length P2
  clear hys
  k_steps
  refine Stop.inn ?_
  rename Fr g1 _ _ _ => FF
  rename News g1 _ _ _ => NN
  refine cut_str FF NN (fun z => (Txt.rstripChars (sOf P2) z).length = msteps (fun c => c == k0 || c == k1) (fun c => c == k2 || c == k3) P2) ?cut2 ?_
  case cut2 =>
    clear mkI
    k_steps
    all_goals first
      | exact ⟨_, _, _, _, rfl, rs_yes (p := fun c => c == k0 || c == k1) (q := fun c => c == k2 || c == k3) hA2 (fun c => c2 k0 k1 c) rfl hallP (dis2 hd.2.1 hd.2.2.1 hd.2.2.2.1 hd.2.2.2.2.1) (by assumption), by assumption, by assumption, rfl⟩
      | exact ⟨_, _, _, _, rfl, rs_no (p := fun c => c == k0 || c == k1) (q := fun c => c == k2 || c == k3) hA2 hB2 (fun c => c2 k0 k1 c) (fun c => c2 k2 k3 c) rfl hallP (dis2 hd.2.1 hd.2.2.1 hd.2.2.2.1 hd.2.2.2.2.1) (by assumption), by assumption, by assumption, rfl⟩
  clear FF NN
  intro z tz hz9 tkz hz FZ NZ
  k_steps
  rename Fr g1 _ _ _ => FF
  rename News g1 _ _ _ => NN
  rw [hz] at FF
  clear hallP lP hfl hz
  have NN2 := news_sub NN (fun p hp => List.mem_cons_of_mem _ hp)
  refine ⟨_, _, _, _, rfl, FF, NN2, ?off2, ⟨?sub2, ?_⟩⟩
  case off2 =>
    intro p hp q hq
    rw [List.mem_singleton.mp hq]
    revert p
    repeat (first | exact hlow.ne (by omega) | refine List.forall_mem_cons.mpr ⟨by k_ne, ?_⟩)
  case sub2 => k_subL
  clear FF NN NN2
  have hP2 : P2 = text.cps.toList := by rw [← hPe2]; exact all_filter hall
  have ev : (16 : Int) + (msteps (fun c => c == k0) (fun c => c == k1) P0 : Nat) + (msteps (fun c => c == k2) (fun c => c == k3) P1 : Nat) + (msteps (fun c => c == k0 || c == k1) (fun c => c == k2 || c == k3) P2 : Nat) = ((evs k0 k1 k2 k3 text.cps.toList : Nat) : Int) := by
    unfold evs
    rw [hPe0, hPe1, hP2]
    omega
  k_steps
  rw [ev]
  rename News h₀ L _ _ => NN
  exact hret _ _ _ (by assumption) (news_sub NN (fun p hp => by repeat (first | exact hp | apply List.mem_cons_of_mem)))
end
end Mine
end
section
open PySem PySem.W PyProof.Rows
namespace Mine
local macro_rules | `(tactic| k_all) => `(tactic| first | assumption | (refine' Low.ne ?lx ?lh; (case lx => assumption); (case lh => omega)))
local macro_rules | `(tactic| walk_at "call builtin:list.append") => `(tactic| (k_here; k_dflt (refine' append_K ?k1 ?k2 ?k3 ?_ ?z; (case k1 => k_asm); (case k2 => k_asm); (case k3 => k_upd); (case z => first | size_fits | (rw [sizeLine_eq]; (try simp only [List.size_toArray, Array.size_push]); omega))); intro h' F' N'; (try k_sweep)))
local macro_rules | `(tactic| k_room) => `(tactic| ktr_room)
local macro_rules | `(tactic| k_units) => `(tactic| (have hcL9 := cLine_is; (try simp only [units_in1, units_deeper, Around.mark_units, units_caller] at *); (try dsimp only [ktrTop] at *); omega))
local macro_rules | `(tactic| walk_at $s:str) => `(tactic| ((have h9 : StopAt $s := by assumption); clear h9; refine Stop.out ?_))
local macro_rules | `(tactic| walk_at "call ref") => `(tactic| (k_dflt (refine' stopCall_out ?sca9 ?scb9; (case sca9 => assumption))))
local macro_rules | `(tactic| walk_at "setAttr ref") => `(tactic| (k_here; k_dflt (refine' fn_setattr_K ?F ?N ?U ?_; (case F => k_asm); (case N => k_asm); (case U => k_updF)); intro h' D' tk' F' N' l1; (try k_lt l1); (try k_sweep)))
local macro_rules | `(tactic| walk_at "getMethod ref") => `(tactic| (k_here; k_dflt (refine' fn_getread_K ?N ?f ?d ?_; (case N => k_asm); (case f => k_mem); (case d => k_mem)); intro tk'))
local macro_rules | `(tactic| walk_at "execs cons") => `(tactic| ((first | (with_reducible show wpAny _ _ _ _ _ (Shared.mk _ _ _ (_ + _) _)) | (with_reducible show wpAny _ _ _ _ _ (Shared.mk _ _ _ (Shared.toks _) _))); (with_reducible refine tok_any (fun tk9 => ?_)); (try dsimp only)))
local macro_rules | `(tactic| walk_at "execs nil") => `(tactic| ((first | (with_reducible show wpAny _ _ _ _ _ (Shared.mk _ _ _ (_ + _) _)) | (with_reducible show wpAny _ _ _ _ _ (Shared.mk _ _ _ (Shared.toks _) _))); (with_reducible refine tok_any (fun tk9 => ?_)); (try dsimp only)))
local macro_rules | `(tactic| k_in) => `(tactic| exact Frag.In.keeps (by k_asm) (Fr.keep (by k_asm)))
local macro_rules | `(tactic| walk_at "getMethod ref") => `(tactic| (k_here; k_dflt (first | (refine' getTokM ?F ?X ?M ?N ?Z ?_; (case F => k_asm); (case X => k_asm); (case M => assumption); (case N => k_asm); (case Z => first | exact fun p hp => .tail _ (.tail _ hp) | exact fun p hp => .tail _ hp)) | (refine' getPushM ?F ?X ?M ?N ?Z ?_; (case F => k_asm); (case X => k_asm); (case M => assumption); (case N => k_asm); (case Z => first | exact fun p hp => .tail _ (.tail _ hp) | exact fun p hp => .tail _ hp)))))
abbrev tupP (text : Str) (t t2 : Tok) : Obj := { cls := .type "tuple", data := .seq #[Value.str text t, Value.str (Str.ofString "") t2] }
def bat (b0 b1 b2 b3 : Bool) : Nat → Bool
  | 0 => b0 | 1 => b1 | 2 => b2 | _ => b3
/-- what the reader still holds before turn i -/
def wds (k0 k1 k2 k3 : Nat) (b0 b1 b2 b3 : Bool) : Nat → List Nat
  | 0 => wr k0 b0 ++ (wr k1 b1 ++ (wr k2 b2 ++ (wr k3 b3 ++ [])))
  | 1 => wr k1 b1 ++ (wr k2 b2 ++ (wr k3 b3 ++ []))
  | 2 => wr k2 b2 ++ (wr k3 b3 ++ [])
  | 3 => wr k3 b3 ++ []
  | _ => []
theorem wds_step {k0 k1 k2 k3 : Nat} {b0 b1 b2 b3 : Bool} : ∀ {i : Nat}, i < 4 → wds k0 k1 k2 k3 b0 b1 b2 b3 i = wr (kat k0 k1 k2 k3 i) (bat b0 b1 b2 b3 i) ++ wds k0 k1 k2 k3 b0 b1 b2 b3 (i + 1)
  | 0, _ => rfl
  | 1, _ => rfl
  | 2, _ => rfl
  | 3, _ => rfl
  | i + 4, h => absurd h (Nat.not_lt.mpr (Nat.le_add_left 4 i))
theorem wds_le {k0 k1 k2 k3 : Nat} {b0 b1 b2 b3 : Bool} : ∀ {i : Nat}, i < 4 → (wds k0 k1 k2 k3 b0 b1 b2 b3 (i + 1)).length ≤ 90
  | 0, _ => by cases b1 <;> cases b2 <;> cases b3 <;> exact Nat.le_of_ble_eq_true rfl
  | 1, _ => by cases b2 <;> cases b3 <;> exact Nat.le_of_ble_eq_true rfl
  | 2, _ => by cases b3 <;> exact Nat.le_of_ble_eq_true rfl
  | 3, _ => Nat.zero_le _
  | i + 4, h => absurd h (Nat.not_lt.mpr (Nat.le_add_left 4 i))
def lbI : Nat → Int
  | 0 => 1
  | n + 1 => lbI n + 8
theorem lbI_le : ∀ {i : Nat}, i < 4 → lbI i ≤ 900
  | 0, _ => by decide
  | 1, _ => by decide
  | 2, _ => by decide
  | 3, _ => by decide
  | i + 4, h => absurd h (Nat.not_lt.mpr (Nat.le_add_left 4 i))
theorem kat46 {k0 k1 k2 k3 : Nat} (h : k0 ≠ 46 ∧ k1 ≠ 46 ∧ k2 ≠ 46 ∧ k3 ≠ 46) : ∀ i, kat k0 k1 k2 k3 i ≠ 46
  | 0 => h.1
  | 1 => h.2.1
  | 2 => h.2.2.1
  | _ + 3 => h.2.2.2
/-- the run of the letter of turn i -/
def runS (k0 k1 k2 k3 : Nat) (l : List Nat) (i : Nat) : Str := sOf (List.replicate (l.count (kat k0 k1 k2 k3 i)) (kat k0 k1 k2 k3 i))
/-- the first loop: the runs found so far, and the lexer's ledger -/
inductive RunJ (w : World) (k0 k1 k2 k3 : Nat) (b0 b1 b2 b3 : Bool) (x qa i0 : Nat) (text : Str) (tx : Tok) (rest : List (Addr × Obj)) (i : Nat) (m₁ : Str → Option Value) : List (Addr × Obj) → Prop
  | mk (ys : List Value) (n : Nat) (Z : List (Addr × Obj)) (hs : StrsAre ys ((List.range i).map (runS k0 k1 k2 k3 text.cps.toList))) (M : Mc w x qa rest (wds k0 k1 k2 k3 b0 b1 b2 b3 i) (lbI i) [] (4 * i) Z) (o : OffZ i0 Z)
    (hps : ∀ z ∈ [(Str.ofString "lexer", Value.ref x), (Str.ofString "text", Value.str text tx), (Str.ofString "asked", Value.ref qa), (Str.ofString "runs", Value.ref i0)], m₁ z.1 = some z.2) :
    RunJ w k0 k1 k2 k3 b0 b1 b2 b3 x qa i0 text tx rest i m₁ ((i0, listOf ys.toArray n) :: Z)
/-- the second loop: the runs that wait on the lexer -/
inductive PutJ (w : World) (x qa i0 n : Nat) (text : Str) (tx : Tok) (ys : List Value) (rest : List (Addr × Obj)) (i : Nat) (m₁ : Str → Option Value) : List (Addr × Obj) → Prop
  | mk (Z : List (Addr × Obj)) (M : Mc w x qa rest [] (lbI 4) (ys.take i) 16 Z) (o : OffZ i0 Z)
    (hps : ∀ z ∈ [(Str.ofString "lexer", Value.ref x), (Str.ofString "text", Value.str text tx), (Str.ofString "asked", Value.ref qa)], m₁ z.1 = some z.2) :
    PutJ w x qa i0 n text tx ys rest i m₁ ((i0, listOf ys.toArray n) :: Z)
/-- the letters of the words that wait before turn j of the third loop -/
def prd (k0 k1 k2 k3 : Nat) : Nat → List (Nat → Bool)
  | 0 => [fun c => c == k0, fun c => c == k1, fun c => c == k2, fun c => c == k3]
  | 1 => [fun c => c == k2, fun c => c == k3, fun c => c == k0 || c == k1]
  | 2 => [fun c => c == k0 || c == k1, fun c => c == k2 || c == k3]
  | _ => [fun c => (c == k0 || c == k1) || (c == k2 || c == k3)]
def askd (k0 k1 k2 k3 : Nat) (l : List Nat) : Nat → Nat
  | 0 => 16
  | 1 => 16 + msteps (fun c => c == k0) (fun c => c == k1) (l.filter fun c => c == k0 || c == k1)
  | 2 => 16 + msteps (fun c => c == k0) (fun c => c == k1) (l.filter fun c => c == k0 || c == k1) + msteps (fun c => c == k2) (fun c => c == k3) (l.filter fun c => c == k2 || c == k3)
  | _ => 16 + msteps (fun c => c == k0) (fun c => c == k1) (l.filter fun c => c == k0 || c == k1) + msteps (fun c => c == k2) (fun c => c == k3) (l.filter fun c => c == k2 || c == k3) + msteps (fun c => c == k0 || c == k1) (fun c => c == k2 || c == k3) (l.filter fun c => (c == k0 || c == k1) || (c == k2 || c == k3))
theorem prd_step {k0 k1 k2 k3 : Nat} {l : List Nat} (hd : k0 ≠ k1 ∧ k0 ≠ k2 ∧ k0 ≠ k3 ∧ k1 ≠ k2 ∧ k1 ≠ k3 ∧ k2 ≠ k3) (hl : l.length ≤ 10) : ∀ {j : Nat}, j < 3 → ∃ (p r : Nat → Bool) (ps : List (Nat → Bool)), prd k0 k1 k2 k3 j = p :: r :: ps ∧ prd k0 k1 k2 k3 (j + 1) = ps ++ [fun c => p c || r c] ∧ (∀ c, p c = true → r c = false) ∧ ps.length ≤ 2 ∧
    askd k0 k1 k2 k3 l (j + 1) = askd k0 k1 k2 k3 l j + msteps p r (l.filter fun c => p c || r c) ∧ askd k0 k1 k2 k3 l (j + 1) ≤ 1000 := by
  have hm : ∀ p r f, msteps p r (l.filter f) ≤ 10 := fun p r f => Nat.le_trans (msteps_le ..) (Nat.le_trans (List.length_filter_le ..) hl)
  have h1 : askd k0 k1 k2 k3 l 1 ≤ 26 := Nat.add_le_add (Nat.le_refl 16) (hm _ _ _)
  have h2 : askd k0 k1 k2 k3 l 2 ≤ 36 := Nat.add_le_add h1 (hm _ _ _)
  have h3 : askd k0 k1 k2 k3 l 3 ≤ 46 := Nat.add_le_add h2 (hm _ _ _)
  intro j hj
  match j, hj with
  | 0, _ => exact ⟨_, _, _, rfl, rfl, dis1 hd.1, by simp, rfl, Nat.le_trans h1 (by decide)⟩
  | 1, _ => exact ⟨_, _, _, rfl, rfl, dis1 hd.2.2.2.2.2, by simp, rfl, Nat.le_trans h2 (by decide)⟩
  | 2, _ => exact ⟨_, _, _, rfl, rfl, dis2 hd.2.1 hd.2.2.1 hd.2.2.2.1 hd.2.2.2.2.1, by simp, rfl, Nat.le_trans h3 (by decide)⟩
  | i + 3, h => exact absurd h (Nat.not_lt.mpr (Nat.le_add_left 3 i))
/-- the third loop -/
inductive MrgJ (w : World) (k0 k1 k2 k3 : Nat) (x qa i0 n : Nat) (text : Str) (tx : Tok) (ys : List Value) (rest : List (Addr × Obj)) (i : Nat) (m₁ : Str → Option Value) : List (Addr × Obj) → Prop
  | mk (PB : List Value) (Z : List (Addr × Obj)) (hs : StrsAre PB ((prd k0 k1 k2 k3 i).map fun p => sOf (text.cps.toList.filter p))) (M : Mc w x qa rest [] (lbI 4) PB (askd k0 k1 k2 k3 text.cps.toList i) Z) (o : OffZ i0 Z)
    (hps : ∀ z ∈ [(Str.ofString "lexer", Value.ref x), (Str.ofString "text", Value.str text tx), (Str.ofString "asked", Value.ref qa)], m₁ z.1 = some z.2) :
    MrgJ w k0 k1 k2 k3 x qa i0 n text tx ys rest i m₁ ((i0, listOf ys.toArray n) :: Z)
theorem runs4 {k0 k1 k2 k3 : Nat} {l : List Nat} : (List.range 4).map (runS k0 k1 k2 k3 l) = (prd k0 k1 k2 k3 0).map fun p => sOf (l.filter p) := by
  show [sOf _, sOf _, sOf _, sOf _] = _
  simp only [kat, rep_filter, prd, List.map_cons, List.map_nil]
section
variable {w : World} {loose : List Str} {mean : ExcName → Option Value} {mg mb : Str → Option Value} {dp un : Nat} {gd : Option (List Code)} {cn : Str} {cs : Scope} {a : Addr} {ccd : Value} {cl : List (Str × Addr)} {outer : List Env} {A₀ : Around} {base h₀ : Heap} {L : Addr} {m : Str → Option Value} {s : Shared} {Q E : Value → Shared → Prop}
variable (B : Below A₀ base outer h₀) (F : Fr h₀ L s.heap m) (X : Frag.In (hd.heap_39 w.params) h₀) (T : Top topProg loose mean mg mb h₀) (hk : cs.kind = .function)
include B F X T hk
set_option maxRecDepth 100000 in
set_option maxHeartbeats 8000000 in
theorem toldM {x qa : Nat} {rest Z : List (Addr × Obj)} {k0 k1 k2 k3 : Nat} {b0 b1 b2 b3 : Bool} {text : Str} {tx : Tok} (C98 : CodeHd h₀ 102 98)
    (M : Mc w x qa rest (wds k0 k1 k2 k3 b0 b1 b2 b3 0) 1 [] 0 Z) (N : News h₀ L s.heap Z)
    (h46 : k0 ≠ 46 ∧ k1 ≠ 46 ∧ k2 ≠ 46 ∧ k3 ≠ 46) (hd : k0 ≠ k1 ∧ k0 ≠ k2 ∧ k0 ≠ k3 ∧ k1 ≠ k2 ∧ k1 ≠ k3 ∧ k2 ≠ k3) (htx : text.length ≤ 10) (hall : ∀ c ∈ text.cps.toList, c = k0 ∨ c = k1 ∨ c = k2 ∨ c = k3)
    (hdp : dp + 16 < recursionLimit) (hu : un + 128 < cLine)
    (hret : ∀ h' tk' (tp na' : Nat) its' t t2 (tb9 : Array Value), its'.size = evs k0 k1 k2 k3 text.cps.toList → Fr h₀ L h' m → News h₀ L h' ((tp, tupP text t t2) :: (qa, listOf its' na') :: (98, tabObj tb9) :: rest) → Q (.ref tp) { s with heap := h', toks := tk' }) :
    wpAny (model PySem.Challenge.rw_pg0135_01.row.prog w) (ktrTop dp un gd cn cs L a ccd cl outer) (call (.ref 117) [.ref x, .str text tx, .ref qa]) Q E s := by
  w_on
  revert X; k_fill; intro X
  refine wpAny_call ?_
  k_dflt ktr_enter
  rename_i g1 L1 hp1 FG1 F1 N1 B1 X1 T1
  refine wpAny_mono (E := fun _ _ => False) ?_ (fun _ _ h => h) (fun _ _ h => h.elim)
  have mkC : StopAt "call ref" := .mk _
  have mM : StopAt "binaryOp Mult str int" := .mk _
  have mkF : StopAt "exec For Name Call cons nil" := .mk _
  have mkG : StopAt "exec For Name Name cons nil" := .mk _
  have C1 := C98.keeps FG1.keep
  have htl : text.cps.toList.length ≤ 10 := by
    have h3 : text.cps.toList.length = text.length := by simp [Str.length]
    rw [h3]; exact htx
  have hw46 : ∀ d ∈ text.cps.toList, d ≠ 46 := fun d hd => by
    rcases hall d hd with h | h | h | h <;> rw [h]
    · exact h46.1
    · exact h46.2.1
    · exact h46.2.2.1
    · exact h46.2.2.2
  have hcnt : ∀ c, text.cps.toList.count c ≤ 1000 := fun c => Nat.le_trans List.count_le_length (Nat.le_trans htl (by decide))
  k_steps
  refine Stop.inn ?_
  refine For_invV (hE := PassesOwn.never) g1 (by rfl) (by rfl) ?_
  have mkP : StopAt "pyIter ref" := .mk _
  k_steps
  refine Stop.inn ?_
  clear mkP
  rename News g1 L1 _ _ => NN
  rename Fr g1 L1 _ _ => FF
  try (rename (∀ (b : Addr) (o : Obj), Heap.get? _ b = some o → Heap.get? _ b = some o) => hkeep; clear hkeep)

  rename (∀ p ∈ Z, p.1 < _) => hlt
  rename_i i0 hA hB F9 N9 tkA hC tkB tA uA vA aR
  clear F9 N9
  have oZ : OffZ i0 Z := fun r hr => Nat.ne_of_lt (hlt r hr)
  clear hlt
  try dsimp only
  refine iter_rangeF (n := 4) (RunJ w k0 k1 k2 k3 b0 b1 b2 b3 x qa i0 text tx rest) rfl aR (by decide) (by rfl) FF NN ?hj ?turn ?done
  case hj => exact ⟨[], 0, Z, .nil, M, oZ, List.forall_mem_cons.mpr ⟨rfl, List.forall_mem_cons.mpr ⟨rfl, List.forall_mem_cons.mpr ⟨rfl, List.forall_mem_cons.mpr ⟨rfl, List.forall_mem_nil _⟩⟩⟩⟩⟩
  case turn =>
    clear FF NN oZ M
    intro i t m₁ nx h tk I o hi hI hJ F₁ N₁
    obtain ⟨ys, n, Z, hs, M, oZ, hps⟩ := hJ
    have F₂ : Fr g1 L1 _ _ := fr_ps F₁ hps
    have N₂ : News g1 L1 _ _ := N₁
    clear F₁ N₁
    dsimp only [kstB] at F₂
    have oI : OffZ I Z := fun r hr => hI r (.tail _ hr)
    have hne := neN (hI _ (.head _))
    dsimp only at hne
    clear hI
    rw [wds_step hi] at M
    have hiy : ys.length = i := by rw [hs.len_eq, List.length_map, List.length_range]
    k_steps
    refine Stop.inn ?_
    rename News g1 L1 _ _ => NN
    rename Fr g1 L1 _ _ => FF
    refine tokM (e1 := (I, _)) (e2 := (i0, _)) B1 FF X1 T1 rfl M (by exact NN) oI oZ (wds_le hi) (lbI_le hi) (by ktr_room) (by k_units) ?_
    intro h' tk' Z1 t1 M1 oI1 oZ1 F' N'
    clear NN FF M oI oZ
    k_steps
    refine Stop.inn ?_
    rename News g1 L1 _ _ => NN
    rename Fr g1 L1 _ _ => FF
    refine manyM (e1 := (I, _)) (e2 := (i0, _)) B1 FF X1 T1 rfl C1 M1 (by exact NN) oI1 oZ1 (Nat.le_trans (Nat.mul_le_mul_left 4 (Nat.le_of_lt hi)) (by decide)) htx (kat46 h46 i) (by ktr_room) (by k_units) ?_
    intro h' tk' Z2 t2 M2 oI2 oZ2 F' N'
    clear NN FF M1 oI1 oZ1
    k_steps
    refine Stop.inn ?_
    refine mul_one (hcnt _) ?_
    intro t90 tk9
    have oZ3 : ∀ p ∈ Z2, p.1 ≠ i0 := oZ2
    k_steps
    rename News g1 L1 _ _ => NN
    rw [List.push_toArray] at NN
    exact ⟨_, _, _, _, rfl, by assumption, NN, List.forall_mem_cons.mpr ⟨fun e => hne (List.mem_singleton.mp e), fun p hp e => oI2 p hp (List.mem_singleton.mp e)⟩,
      ⟨_, _, Z2, by rw [List.range_succ, List.map_append]; exact hs.append' (.cons _ _ .nil), M2, oZ2, List.forall_mem_cons.mpr ⟨rfl, List.forall_mem_cons.mpr ⟨rfl, List.forall_mem_cons.mpr ⟨rfl, List.forall_mem_cons.mpr ⟨rfl, List.forall_mem_nil _⟩⟩⟩⟩⟩⟩
  case done =>
    clear FF NN oZ M
    intro m₁ nx h tk hJ F₁ N₁
    obtain ⟨ys, n, Z, hs, M, oZ, hps⟩ := hJ
    have F₂ : Fr g1 L1 _ _ := fr_ps0 F₁ hps
    have N₂ : News g1 L1 _ _ := N₁
    clear F₁ N₁
    dsimp only [kstB] at F₂
    rw [runs4] at hs
    replace M : Mc w x qa rest [] (lbI 4) [] 16 Z := M
    k_steps
    refine Stop.inn ?_
    refine For_invV (hE := PassesOwn.never) g1 (by rfl) (by rfl) ?_
    have mkP : StopAt "pyIter ref" := .mk _
    k_steps
    refine Stop.inn ?_
    clear mkP
    rename News g1 L1 _ _ => NN
    rename Fr g1 L1 _ _ => FF
    try (rename (∀ (b : Addr) (o : Obj), Heap.get? _ b = some o → Heap.get? _ b = some o) => hkeep; clear hkeep)
    try dsimp only
    refine iter_listF (vs := ys) (PutJ w x qa i0 n text tx ys rest) rfl (News.isList NN (.head _)) (NN _ (.head _)).2.2 (NN _ (.head _)).2.1 FF NN ?hj2 ?turn2 ?done2
    case hj2 => exact ⟨Z, M, oZ, List.forall_mem_cons.mpr ⟨rfl, List.forall_mem_cons.mpr ⟨rfl, List.forall_mem_cons.mpr ⟨rfl, List.forall_mem_nil _⟩⟩⟩⟩
    case turn2 =>
      clear FF NN oZ M hps
      intro i v m₁ nx h tk I o ol hv hI hJ F₁ N₁
      obtain ⟨Z, M, oZ, hps⟩ := hJ
      have F₂ : Fr g1 L1 _ _ := fr_ps F₁ hps
      have N₂ : News g1 L1 _ _ := N₁
      clear F₁ N₁
      dsimp only [kstB] at F₂
      have oI : OffZ I Z := fun r hr => hI r (.tail _ hr)
      have hne := neN (hI _ (.head _))
      dsimp only at hne
      clear hI
      obtain ⟨z, tz, rfl, hz⟩ := hs.item i v hv
      have eo : ol = listOf ys.toArray n := Option.some.inj ((N₂ _ (.tail _ (.head _))).1.symm.trans (N₂ _ (.tail _ (.tail _ (.head _)))).1)
      subst eo
      have N₃ : News g1 L1 h ((I, o) :: (i0, listOf ys.toArray n) :: Z) := news_sub N₂ (List.forall_mem_cons.mpr ⟨.head _, fun p hp => .tail _ (.tail _ hp)⟩)
      clear N₂
      have hiy : i < ys.length := (List.getElem?_eq_some_iff.mp hv).1
      have hy4 : ys.length = 4 := by rw [hs.len_eq]; rfl
      k_steps
      refine Stop.inn ?_
      rename News g1 L1 _ _ => NN
      rename Fr g1 L1 _ _ => FF
      refine pushM (e1 := (I, _)) (e2 := (i0, _)) B1 FF X1 T1 rfl M (by exact NN) oI oZ (Nat.le_trans (List.length_take_le ..) (Nat.le_trans (Nat.le_of_lt (hy4 ▸ hiy)) (by decide))) (by ktr_room) (by k_units) ?_
      intro h' tk' Z1 t1 M1 oI1 oZ1 F' N'
      clear NN FF M oI oZ
      k_steps
      rename News g1 L1 _ _ => NN
      refine ⟨_, _, _, _, rfl, by assumption, news_sub NN (List.forall_mem_cons.mpr ⟨.head _, List.forall_mem_cons.mpr ⟨.tail _ (.head _), fun p hp => .tail _ hp⟩⟩), List.forall_mem_cons.mpr ⟨fun e => hne (List.mem_singleton.mp e), fun p hp e => oI1 p hp (List.mem_singleton.mp e)⟩,
        ⟨Z1, ?_, oZ1, List.forall_mem_cons.mpr ⟨rfl, List.forall_mem_cons.mpr ⟨rfl, List.forall_mem_cons.mpr ⟨rfl, List.forall_mem_nil _⟩⟩⟩⟩⟩
      rw [List.take_add_one, hv]
      exact M1
    case done2 =>
      clear FF NN oZ M hps
      intro m₁ nx h tk hJ F₁ N₁
      obtain ⟨Z, M, oZ, hps⟩ := hJ
      have F₂ : Fr g1 L1 _ _ := fr_ps0 F₁ hps
      have N₂ : News g1 L1 _ _ := N₁
      clear F₁ N₁
      dsimp only [kstB] at F₂
      rw [List.take_length] at M
      k_steps
      refine Stop.inn ?_
      refine For_invV (hE := PassesOwn.never) g1 (by rfl) (by rfl) ?_
      have mkP : StopAt "pyIter ref" := .mk _
      k_steps
      refine Stop.inn ?_
      clear mkP
      rename News g1 L1 _ _ => NN
      rename Fr g1 L1 _ _ => FF
      try (rename (∀ (b : Addr) (o : Obj), Heap.get? _ b = some o → Heap.get? _ b = some o) => hkeep; clear hkeep)
      try dsimp only
      refine iter_rangeF (n := 3) (MrgJ w k0 k1 k2 k3 x qa i0 n text tx ys rest) rfl (by assumption) (by decide) (by rfl) FF NN ?hj3 ?turn3 ?done3
      case hj3 => exact ⟨ys, Z, hs, M, oZ, List.forall_mem_cons.mpr ⟨rfl, List.forall_mem_cons.mpr ⟨rfl, List.forall_mem_cons.mpr ⟨rfl, List.forall_mem_nil _⟩⟩⟩⟩
      case turn3 =>
        clear FF NN oZ M hps
        intro i t m₁ nx h tk I o hi hI hJ F₁ N₁
        obtain ⟨PB, Z, hsB, M, oZ, hps⟩ := hJ
        have F₂ : Fr g1 L1 _ _ := fr_ps F₁ hps
        have N₂ : News g1 L1 _ _ := N₁
        clear F₁ N₁
        dsimp only [kstB] at F₂
        have oI : OffZ I Z := fun r hr => hI r (.tail _ hr)
        have hne := neN (hI _ (.head _))
        dsimp only at hne
        clear hI
        obtain ⟨p, r, ps, e1, e2, hdis, hps2, e3, e4⟩ := prd_step (l := text.cps.toList) hd htl hi
        rw [e1] at hsB
        obtain ⟨u1, PB1, rfl, hsB1⟩ := strs_cons hsB
        obtain ⟨u2, PB2, rfl, hsB2⟩ := strs_cons hsB1
        have hPB : PB2.length ≤ 2 := by rw [hsB2.len_eq, List.length_map]; exact hps2
        k_steps
        refine Stop.inn ?_
        rename News g1 L1 _ _ => NN
        rename Fr g1 L1 _ _ => FF
        refine popM (e1 := (I, _)) (e2 := (i0, _)) B1 FF X1 T1 rfl M (by exact NN) oI oZ (Nat.le_trans (Nat.succ_le_succ hPB) (by decide)) (by ktr_room) (by k_units) ?_
        intro h' tk' Z1 t1 M1 oI1 oZ1 F' N'
        clear NN FF M oI oZ
        k_steps
        refine Stop.inn ?_
        rename News g1 L1 _ _ => NN
        rename Fr g1 L1 _ _ => FF
        refine popM (e1 := (I, _)) (e2 := (i0, _)) B1 FF X1 T1 rfl M1 (by exact NN) oI1 oZ1 (Nat.le_trans hPB (by decide)) (by ktr_room) (by k_units) ?_
        intro h' tk' Z2 t2 M2 oI2 oZ2 F' N'
        clear NN FF M1 oI1 oZ1
        k_steps
        refine Stop.inn ?_
        rename News g1 L1 _ _ => NN
        rename Fr g1 L1 _ _ => FF
        refine mergedM (e1 := (I, _)) (e2 := (i0, _)) (p := p) (r := r) B1 FF X1 T1 rfl M2 (by exact NN) oI2 oZ2 (e3 ▸ e4) htx hw46 hdis (by ktr_room) (by k_units) ?_
        intro h' tk' Z3 t3 M3 oI3 oZ3 F' N'
        clear NN FF M2 oI2 oZ2
        k_steps
        refine Stop.inn ?_
        rename News g1 L1 _ _ => NN
        rename Fr g1 L1 _ _ => FF
        refine pushM (e1 := (I, _)) (e2 := (i0, _)) B1 FF X1 T1 rfl M3 (by exact NN) oI3 oZ3 (Nat.le_trans hPB (by decide)) (by ktr_room) (by k_units) ?_
        intro h' tk' Z4 t4 M4 oI4 oZ4 F' N'
        clear NN FF M3 oI3 oZ3
        k_steps
        rename News g1 L1 _ _ => NN
        rw [← e3] at M4
        exact ⟨_, _, _, _, rfl, by assumption, NN, List.forall_mem_cons.mpr ⟨fun e => hne (List.mem_singleton.mp e), fun p hp e => oI4 p hp (List.mem_singleton.mp e)⟩,
          ⟨_, Z4, by rw [e2, List.map_append]; exact hsB2.append' (.cons _ _ .nil), M4, oZ4, List.forall_mem_cons.mpr ⟨rfl, List.forall_mem_cons.mpr ⟨rfl, List.forall_mem_cons.mpr ⟨rfl, List.forall_mem_nil _⟩⟩⟩⟩⟩
      case done3 =>
        clear FF NN oZ M hps
        intro m₁ nx h tk hJ F₁ N₁
        obtain ⟨PB, Z, hsB, M, oZ, hps⟩ := hJ
        have F₂ : Fr g1 L1 _ _ := fr_ps0 F₁ hps
        have N₂ : News g1 L1 h ((i0, listOf ys.toArray n) :: (i0, listOf ys.toArray n) :: Z) := news_sub N₁ (List.forall_mem_cons.mpr ⟨.head _, fun p hp => hp⟩)
        clear F₁ N₁
        dsimp only [kstB] at F₂
        obtain ⟨u1, PB1, rfl, hsB1⟩ := strs_cons hsB
        cases hsB1
        have et : sOf (text.cps.toList.filter (fun c => (c == k0 || c == k1) || (c == k2 || c == k3))) = text := by rw [all_filter hall]; exact sOf_toList text
        dsimp only at M
        rw [et] at M
        k_steps
        refine Stop.inn ?_
        rename News g1 L1 _ _ => NN
        rename Fr g1 L1 _ _ => FF
        refine popM (e1 := (i0, _)) (e2 := (i0, _)) B1 FF X1 T1 rfl M (by exact NN) oZ oZ (by decide) (by ktr_room) (by k_units) ?_
        intro h' tk' Z1 t1 M1 o1 oZ1 F' N'
        clear NN FF M oZ o1
        k_steps
        refine Stop.inn ?_
        rename News g1 L1 _ _ => NN
        rename Fr g1 L1 _ _ => FF
        refine endM (e1 := (i0, _)) (e2 := (i0, _)) B1 FF X1 T1 rfl M1 (by exact NN) oZ1 oZ1 (by decide) (by ktr_room) (by k_units) ?_
        intro h' tk' Z2 t2 M2 o2 oZ2 F' N'
        clear NN FF M1 oZ1 o2
        k_steps
        rename News h₀ L _ _ => NN
        have hev : askd k0 k1 k2 k3 text.cps.toList 3 = evs k0 k1 k2 k3 text.cps.toList := by
          show _ + msteps (fun c => c == k0 || c == k1) (fun c => c == k2 || c == k3) (text.cps.toList.filter (fun c => (c == k0 || c == k1) || (c == k2 || c == k3))) = _
          rw [all_filter hall]; rfl
        obtain ⟨q, dx, D, st, rd, c1, cell, pb, n', np, na, ys', ln, ta, tb, tc, td, te, tf, t0, fd, fd2, c1o, co, its, Tb, _, _, hk1, _, _, _, _, _, _, _, htab⟩ := M2
        rcases htab with rfl | ⟨cc, oc, vs, tq, rfl, _⟩
        · exact hret _ _ _ _ its _ _ _ (hk1.trans hev) (by assumption) (news_sub NN (List.forall_mem_cons.mpr ⟨.head _, List.forall_mem_cons.mpr ⟨.tail _ (.tail _ (.tail _ (List.mem_append_right _ (.head _)))), List.forall_mem_cons.mpr ⟨.tail _ (.tail _ (.tail _ (List.mem_append_right _ (.tail _ (.head _))))), fun p hp => .tail _ (.tail _ (.tail _ (List.mem_append_right _ (.tail _ (.tail _ hp)))))⟩⟩⟩))
        · exact hret _ _ _ _ its _ _ _ (hk1.trans hev) (by assumption) (news_sub NN (List.forall_mem_cons.mpr ⟨.head _, List.forall_mem_cons.mpr ⟨.tail _ (.tail _ (.tail _ (List.mem_append_right _ (.head _)))), List.forall_mem_cons.mpr ⟨.tail _ (.tail _ (.tail _ (List.mem_append_right _ (.tail _ (.head _))))), fun p hp => .tail _ (.tail _ (.tail _ (List.mem_append_right _ (.tail _ (.tail _ (.tail _ hp))))))⟩⟩⟩))
set_option maxRecDepth 100000 in
set_option maxHeartbeats 8000000 in
theorem told {q dx x D st rd c1 cell pb n np : Nat} {ys : List Value}   {ta tb tc td te tf t0 : Tok} {fd fd2 : FuncData} {c1o co : Obj} {rest : List (Addr × Obj)} {k0 k1 k2 k3 qa na : Nat} {b0 b1 b2 b3 : Bool} {text : Str} {tx : Tok} (C98 : CodeHd h₀ 102 98)
    (N : News h₀ L s.heap ((q, listOf ys.toArray n) :: (dx, lexD w 1 st pb ta tb tc td te tf) :: (x, instObj 68 dx) :: (D, rdD w t0 rd) :: (st, fnO (some D) fd2) :: (rd, fnO none fd) :: (c1, c1o) :: (cell, co) :: (pb, listOf (#[] : Array Value) np) :: (qa, listOf (#[] : Array Value) na) :: (98, tabObj #[]) :: rest))
    (ok : ReadOK w fd rd c1 cell c1o co q) (hy : StrsAre ys ((wr k0 b0 ++ (wr k1 b1 ++ (wr k2 b2 ++ (wr k3 b3 ++ [])))).map chr1)) (hlow : Low cell rest) (hqa : qa < cell ∧ 98 < cell) (hra : ∀ p ∈ rest, p.1 ≠ qa) (hr98 : ∀ p ∈ rest, p.1 ≠ 98) (hq98 : qa ≠ 98)
    (hord : cell < q ∧ q < c1 ∧ c1 < rd ∧ rd < st ∧ st < D ∧ D < dx ∧ dx < x) (hord2 : x < pb) (h46 : k0 ≠ 46 ∧ k1 ≠ 46 ∧ k2 ≠ 46 ∧ k3 ≠ 46) (hd : k0 ≠ k1 ∧ k0 ≠ k2 ∧ k0 ≠ k3 ∧ k1 ≠ k2 ∧ k1 ≠ k3 ∧ k2 ≠ k3) (htx : text.length ≤ 10) (hall : ∀ c ∈ text.cps.toList, c = k0 ∨ c = k1 ∨ c = k2 ∨ c = k3)
    (hdp : dp + 16 < recursionLimit) (hu : un + 128 < cLine)
    (hret : ∀ h' tk' (tp na' : Nat) its' t t2 (tb9 : Array Value), its'.size = evs k0 k1 k2 k3 text.cps.toList → Fr h₀ L h' m → News h₀ L h' ((tp, tupP text t t2) :: (qa, listOf its' na') :: (98, tabObj tb9) :: rest) → Q (.ref tp) { s with heap := h', toks := tk' }) :
    wpAny (model PySem.Challenge.rw_pg0135_01.row.prog w) (ktrTop dp un gd cn cs L a ccd cl outer) (call (.ref 117) [.ref x, .str text tx, .ref qa]) Q E s := by
  exact toldM B F X T hk C98 (.mk q dx D st rd c1 cell pb n np na ys 1 ta tb tc td te tf t0 fd fd2 c1o co #[] [(98, tabObj #[])] ok hy rfl ⟨by decide, Int.le_refl _⟩ hord hord2 ⟨hqa.1, hqa.2, hq98⟩ hlow hra hr98 (.inl rfl)) N h46 hd htx hall hdp hu hret
end
end Mine
end
section
open PySem PySem.W PyProof.Rows
namespace Mine
section
variable {prog : Program} {w : World} {A : Around} {E : Value → Shared → Prop} {s : Shared} {h₀ : Heap} {L : Addr} {m : Str → Option Value} {news : List (Addr × Obj)}
theorem slice_intsT {value slice : Expr} {l : Addr} {vs : List Value} {ms : List Int} {vl vu : Value} {lo hi : Option Int} {Q : Value → Shared → Prop}
    (F : Fr h₀ L s.heap m) (N : News h₀ L s.heap news) (hl : s.heap.IsList l vs.toArray) (pl : IsPart vl lo) (pu : IsPart vu hi) (hm : IntsAre (slicePick vs.toArray lo hi none).toList ms)
    (h : ∀ D ws h', Fr h₀ L h' m → News h₀ L h' ((D, listOf (List.toArray ws) 0) :: news) → (∀ p ∈ news, p.1 < D) → IntsAre ws ms → Q (.ref D) { s with heap := h' })
    (hs : subscripted slice false (.ref l) (.ref s.heap.objs.size) = operate [.ref s.heap.objs.size, .ref l] (getItem (.ref l) (.ref s.heap.objs.size)))
    (hsz : vs.toArray.size ≤ sizeLine) :
    wpAny (model prog w) A (subscriptTail value slice (.ref l) (.ref s.heap.objs.size)) Q E { s with heap := s.heap.push { cls := .type "slice", data := .fields #[vl, vu, .none] } } := by
  refine tail_any (Heap.IsList.typeIs (s := { s with heap := s.heap.push { cls := .type "slice", data := .fields #[vl, vu, .none] } }) (hl.push _)) list_getitem_lookup
    (wpAny_getItem_list_slice (hl.push _) (Heap.IsSliceOf.new ..) pl pu .none (by simp) ?_ hsz) hs
  have N1 := News.push (F.push { cls := .type "slice", data := .fields #[vl, vu, .none] }) (N.grown fun _ _ e => Heap.get?_push_of_some _ e) { cls := .type "list", data := .seq (slicePick vs.toArray lo hi none) }
  rw [Heap.size_push] at N1
  show Q (.ref (s.heap.push _).objs.size) _
  rw [Heap.size_push]
  refine h _ (slicePick vs.toArray lo hi none).toList _ ((F.push _).push _) ?_ (fun p hp => Nat.lt_succ_of_lt (Heap.lt_size (N p hp).1)) hm
  rw [Array.toArray_toList]
  exact N1
end
end Mine
end
section
open PySem PySem.W PyProof.Rows PySem.Spec
namespace Mine
theorem shaped_pair (x y : Str) (hx : PyData.strOk x = true) (hy : PyData.strOk y = true) : SeqAt.shaped (.tuple [.str x, .str y]) = true := by
  simp [SeqAt.shaped, PyData.canLay0, PyData.canLayAll0, PyData.depth, PyData.depthAll, hx, hy]
theorem strOk_of (x : Str) (h : ∀ c ∈ x.cps.toList, c < 1114112) : PyData.strOk x = true := by
  unfold PyData.strOk
  rw [← Array.all_toList, List.all_eq_true]
  exact fun c hc => decide_eq_true (h c hc)
theorem eqv_pair (x y : Str) : PyData.eqv (.tuple [.str x, .str y]) (.tuple [.str x, .str y]) = true := by
  simp [PyData.eqv, PyData.eqvAll]
section
variable {prog : Program} {w : World} {A : Around} {E : Value → Shared → Prop} {s : Shared} {h₀ : Heap} {L : Addr} {news : List (Addr × Obj)}
theorem eq_pairs {a b : Addr} {x y : Str} {t1 t2 t3 t4 : Tok} {n1 n2 : Nat} {Q : Value → Shared → Prop} (N : News h₀ L s.heap news) (ha : (a, ({ cls := .type "tuple", data := .seq #[.str x t1, .str y t2] n1 } : Obj)) ∈ news) (hb : (b, ({ cls := .type "tuple", data := .seq #[.str x t3, .str y t4] n2 } : Obj)) ∈ news) (hx : PyData.strOk x = true) (hy : PyData.strOk y = true) (hu : A.units + 64 < cLine) (h : Q (.bool true) s) :
    wpAny (model prog w) A (compareOp .Eq (.ref a) (.ref b)) Q E s := by
  refine eq_dataH (reads_tuple_at (N _ ha).1 rfl rfl (.cons (.str _ _) (.cons (.str _ _) .nil))) (reads_tuple_at (N _ hb).1 rfl rfl (.cons (.str _ _) (.cons (.str _ _) .nil))) (shaped_pair x y hx hy) (shaped_pair x y hx hy) hu ?_
  rw [eqv_pair]
  exact h
end
end Mine
end
open PySem PySem.W PyProof.Rows Mine
namespace Mine
theorem ring_lt (i : Int) : ringAt i < 1114112 := by
  unfold ringAt
  rw [List.getD_eq_getElem?_getD]
  cases h : ([97, 32, 34, 92, 10, 35, 9, 98] : List Nat)[i.toNat]? with
  | none => decide
  | some v =>
    have hm := List.mem_of_getElem? h
    simp only [List.mem_cons, List.not_mem_nil, or_false] at hm
    show v < 1114112
    omega
theorem lk_lt (t i : Int) : lk t i < 1114112 := ring_lt _
theorem evs_le (k0 k1 k2 k3 : Nat) (l : List Nat) : evs k0 k1 k2 k3 l ≤ 16 + 3 * l.length := by
  unfold evs
  have h1 := msteps_le (fun c => c == k0) (fun c => c == k1) (l.filter fun c => c == k0 || c == k1)
  have h2 := msteps_le (fun c => c == k2) (fun c => c == k3) (l.filter fun c => c == k2 || c == k3)
  have h3 := msteps_le (fun c => c == k0 || c == k1) (fun c => c == k2 || c == k3) l
  have h4 := List.length_filter_le (fun c => c == k0 || c == k1) l
  have h5 := List.length_filter_le (fun c => c == k2 || c == k3) l
  omega
theorem join_okL (l : List Nat) (h : l.length ≤ 10) : (List.map (fun x : Str => x.length) (l.map chr1)).sum + (l.map chr1).length * (Str.ofString "").length ≤ 16777216 := by
  have e3 : (Str.ofString "").length = 0 := by decide +kernel
  have e4 := sum_chr1 l
  rw [e3, Nat.mul_zero, Nat.add_zero]
  show (List.map Str.length (l.map chr1)).sum ≤ _
  omega
theorem kat_or (k0 k1 k2 k3 n : Nat) : kat k0 k1 k2 k3 n = k0 ∨ kat k0 k1 k2 k3 n = k1 ∨ kat k0 k1 k2 k3 n = k2 ∨ kat k0 k1 k2 k3 n = k3 := by
  match n with
  | 0 => exact .inl rfl
  | 1 => exact .inr (.inl rfl)
  | 2 => exact .inr (.inr (.inl rfl))
  | n + 3 => exact .inr (.inr (.inr rfl))
theorem wrs4 (k0 k1 k2 k3 : Nat) (b : Nat → Bool) : wrs k0 k1 k2 k3 b 4 = wr k0 (b 0) ++ (wr k1 (b 1) ++ (wr k2 (b 2) ++ (wr k3 (b 3) ++ []))) := by
  simp [wrs, kat]
end Mine
local macro_rules | `(tactic| k_all) => `(tactic| first | assumption | (refine' Low.ne ?lx ?lh; (case lx => assumption); (case lh => omega)))
local macro_rules | `(tactic| walk_at "call builtin:list.append") => `(tactic| (k_here; k_dflt (refine' append_K ?k1 ?k2 ?k3 ?_ ?z; (case k1 => k_asm); (case k2 => k_asm); (case k3 => k_upd); (case z => first | size_fits | (rw [sizeLine_eq]; (try simp only [List.size_toArray, Array.size_push]); omega))); intro h' F' N'; (try k_sweep)))
local macro_rules | `(tactic| k_room) => `(tactic| ktr_room)
local macro_rules | `(tactic| k_units) => `(tactic| (have hcL9 := cLine_is; (try simp only [units_in1, units_deeper, Around.mark_units, units_caller] at *); (try dsimp only [ktrTop] at *); omega))
local macro_rules | `(tactic| walk_at $s:str) => `(tactic| ((have h9 : StopAt $s := by assumption); clear h9; refine Stop.out ?_))
local macro_rules | `(tactic| walk_at "call ref") => `(tactic| (k_dflt (refine' stopCall_out ?sca9 ?scb9; (case sca9 => assumption))))
local macro_rules | `(tactic| walk_at "setAttr ref") => `(tactic| (k_here; k_dflt (refine' fn_setattr_K ?F ?N ?U ?_; (case F => k_asm); (case N => k_asm); (case U => k_updF)); intro h' D' tk' F' N' l1; (try k_lt l1); (try k_sweep)))
local macro_rules | `(tactic| walk_at "getMethod ref") => `(tactic| (k_here; k_dflt (refine' fn_getread_K ?N ?f ?d ?_; (case N => k_asm); (case f => k_mem); (case d => k_mem)); intro tk'))
local macro_rules | `(tactic| walk_at "execs cons") => `(tactic| ((first | (with_reducible show wpAny _ _ _ _ _ (Shared.mk _ _ _ (_ + _) _)) | (with_reducible show wpAny _ _ _ _ _ (Shared.mk _ _ _ (Shared.toks _) _))); (with_reducible refine tok_any (fun tk9 => ?_)); (try dsimp only)))
local macro_rules | `(tactic| walk_at "execs nil") => `(tactic| ((first | (with_reducible show wpAny _ _ _ _ _ (Shared.mk _ _ _ (_ + _) _)) | (with_reducible show wpAny _ _ _ _ _ (Shared.mk _ _ _ (Shared.toks _) _))); (with_reducible refine tok_any (fun tk9 => ?_)); (try dsimp only)))
local macro_rules | `(tactic| k_in) => `(tactic| exact Frag.In.keeps (by k_asm) (Fr.keep (by k_asm)))
set_option maxRecDepth 100000 in
set_option maxHeartbeats 8000000 in
theorem PySem.Challenge.cw_pg0135_01_holds : PySem.Challenge.rw_pg0135_01.Holds := by
  exact hd (by
  w_strict (
    k_go0
    (all_goals try k_fold)
    have mkC : StopAt "call ref" := .mk _
    have mkS : StopAt "CompSrc" := .mk _
    k_steps
    refine Stop.inn ?_
    rename Below _ _ _ _ => BB
    rename Fr _ _ _ _ => FF
    rename News _ _ _ _ => NN
    rename Frag.In _ _ => XX
    rename Top _ _ _ _ _ _ => TT
    have hlow0 := Low.ofNews NN
    refine letters BB FF XX TT rfl NN (by ktr_room) (by k_units) ?_
    intro h' tk' D n ys F1 N1 hy hD
    clear FF NN
    obtain ⟨u0, ys1, rfl, hy1⟩ := strs_cons hy
    obtain ⟨u1, ys2, rfl, hy2⟩ := strs_cons hy1
    obtain ⟨u2, ys3, rfl, hy3⟩ := strs_cons hy2
    obtain ⟨u3, ys4, rfl, hy4⟩ := strs_cons hy3
    cases hy4
    clear hy1 hy2 hy3
    rename List Int => sc
    obtain ⟨hk46, hkd⟩ := lk_facts sc.sum
    have hklt : lk sc.sum 0 < 1114112 ∧ lk sc.sum 1 < 1114112 ∧ lk sc.sum 2 < 1114112 ∧ lk sc.sum 3 < 1114112 := ⟨lk_lt _ _, lk_lt _ _, lk_lt _ _, lk_lt _ _⟩
    generalize lk sc.sum 0 = k0 at *
    generalize lk sc.sum 1 = k1 at *
    generalize lk sc.sum 2 = k2 at *
    generalize lk sc.sum 3 = k3 at *
    try dsimp only
    have mkL : StopAt "eval ListComp" := .mk _
    k_steps
    refine Stop.inn ?_
    rename News _ _ _ _ => NN
    rename Fr _ _ _ _ => FF
    refine LCg.ListComp_U (F₀ := FF) (by with_unfolding_all rfl) (by decide) (by rfl) (by decide) (by rfl) ?_
    clear mkL
    have mkT : StopAt "subscriptTail" := .mk _
    k_steps
    refine Stop.inn ?_
    clear mkT
    rename News _ _ _ _ => NN
    rename Fr _ _ _ _ => FF
    simp only [List.cons_append, List.nil_append] at NN
    refine' slice_intsT (ms := [2, 1, 2, 3].drop sc.length) FF NN ?yl ?yp ?yq ?ym ?_ ?ys9 ?yz
    (case yl => kmk_list); (case yp => kmk_part); (case yq => kmk_part)
    (case ym => exact kmk_from (by l_ints) (by omega))
    (case ys9 => with_unfolding_all rfl); (case yz => kmk_size)
    intro D3 ws3 h3 F3 N3 l3 hI3
    k_lt l3
    clear FF NN
    have mkA : StopAt "binaryOp Add ref ref" := .mk _
    k_steps
    refine Stop.inn ?_
    clear mkA mkS
    rename IntsAre _ (List.take 10 sc) => hI1
    have hlen : (sc.take 10 ++ [2, 1, 2, 3].drop sc.length).length ≤ 10 := by
      rw [List.length_append, List.length_take, List.length_drop]
      show min 10 sc.length + (4 - sc.length) ≤ 10
      omega
    refine kmk_add_ints F3 N3 (News.isList N3 (.tail _ (.tail _ (.head _)))) (News.isList N3 (.head _)) hI1 hI3 ?_ (by rw [sizeLine_eq]; rw [List.length_append] at hlen; omega)
    intro D4 us h4 F4 N4 l4 hI4
    k_lt l4
    clear F3 N3
    generalize sc.take 10 ++ [2, 1, 2, 3].drop sc.length = idx at *
    have hul := hI4.length
    refine LCg.CompSrc.ledger (by rfl) F4 N4 (.head _) (by rw [sizeLine_eq, List.size_toArray]; omega) ?_
    intro g'
    refine kct_list (ns := idx) (fun k => sOf [kat k0 k1 k2 k3 (k.fmod 4).toNat]) hI4 (fun k t I oI C oC D5 m5 ys5 h5 tk5 E5 hk hC hx F5 N5 off ne mk => ?_) ?_
    · clear F4 N4
      have q0 : 0 ≤ k.fmod 4 := by rw [Int.fmod_eq_emod_of_nonneg _ (by decide)]; omega
      have q1 : k.fmod 4 < 4 := by rw [Int.fmod_eq_emod_of_nonneg _ (by decide)]; omega
      k_steps
      · have ek : k.fmod 4 = 0 := by omega
        exact ⟨h5, _, _, rfl, F5, N5, off, .inr ⟨_, .head _, rfl, _, rfl⟩, kct_el (by rw [ek]; rfl) rfl rfl⟩
      · have ek : k.fmod 4 = 1 := by omega
        exact ⟨h5, _, _, rfl, F5, N5, off, .inr ⟨_, .head _, rfl, _, rfl⟩, kct_el (by rw [ek]; rfl) rfl rfl⟩
      · have ek : k.fmod 4 = 2 := by omega
        exact ⟨h5, _, _, rfl, F5, N5, off, .inr ⟨_, .head _, rfl, _, rfl⟩, kct_el (by rw [ek]; rfl) rfl rfl⟩
      · have ek : k.fmod 4 = 3 := by omega
        exact ⟨h5, _, _, rfl, F5, N5, off, .inr ⟨_, .head _, rfl, _, rfl⟩, kct_el (by rw [ek]; rfl) rfl rfl⟩
    · unfold KPfDone
      intro ys6 hc6 hn6 D6 h6 tk6 F6 N6 off6
      clear F4 N4
      have hs6 := carried_strs2 (fun k => sOf [kat k0 k1 k2 k3 (k.fmod 4).toNat]) hc6
      clear hc6
      have em : idx.map (fun k => sOf [kat k0 k1 k2 k3 (k.fmod 4).toNat]) = (idx.map (fun k => kat k0 k1 k2 k3 (k.fmod 4).toNat)).map chr1 := by rw [List.map_map]; rfl
      rw [em] at hs6
      have hTl : (idx.map (fun k => kat k0 k1 k2 k3 (k.fmod 4).toNat)).length ≤ 10 := by rw [List.length_map]; exact hlen
      have hTa : ∀ c ∈ idx.map (fun k => kat k0 k1 k2 k3 (k.fmod 4).toNat), c = k0 ∨ c = k1 ∨ c = k2 ∨ c = k3 := fun c hc => by
        obtain ⟨k, _, rfl⟩ := List.mem_map.mp hc
        exact kat_or _ _ _ _ _
      generalize idx.map (fun k => kat k0 k1 k2 k3 (k.fmod 4).toNat) = T at *
      have mkJ : StopAt "call builtin:str.join" := .mk _
      k_steps
      refine Stop.inn ?_
      clear mkJ
      refine join_list (News.isList N6 (.head _)) (by simpa using hs6) ?yok ?_
      case yok => exact join_okL T hTl
      intro t7 kt7
      rw [join_chr1]
      have hxl : (sOf T).length ≤ 10 := by rw [sOf_length]; exact hTl
      have hxa : ∀ c ∈ (sOf T).cps.toList, c = k0 ∨ c = k1 ∨ c = k2 ∨ c = k3 := hTa
      generalize sOf T = text at *
      k_steps
      refine Stop.inn ?_
      rename News _ _ _ _ => NN
      rename Fr _ _ _ _ => FF
      have NM := news_sub (news := [_, _, _, _, _]) NN (List.forall_mem_cons.mpr ⟨(.tail _ (.tail _ (.tail _ (.tail _ (.tail _ (.tail _ (.head _))))))), List.forall_mem_cons.mpr ⟨(.head _), List.forall_mem_cons.mpr ⟨(.tail _ (.tail _ (.tail _ (.tail _ (.tail _ (.tail _ (.tail _ (.tail _ (.head _))))))))), List.forall_mem_cons.mpr ⟨(.tail _ (.tail _ (.tail _ (.tail _ (.tail _ (.tail _ (.tail _ (.head _)))))))), List.forall_mem_cons.mpr ⟨(.tail _ (.tail _ (.tail _ (.tail _ (.tail _ (.tail _ (.tail _ (.tail _ (.tail _ (.head _)))))))))), List.forall_mem_nil _⟩⟩⟩⟩⟩)
      simp only [List.forall_mem_cons] at hD
      obtain ⟨hd1, hd2, hd3, _⟩ := hD
      replace hd1 := neN hd1
      replace hd2 := neN hd2
      replace hd3 := neN hd3
      try dsimp only at hd1 hd2 hd3
      refine written BB FF XX TT rfl NM hy (by ktr_room) (by k_units) ?_
      intro h7 tk7 t8 b F7 N7
      clear FF NN NM
      try dsimp only
      k_steps
      refine Stop.inn ?_
      rename News _ _ _ _ => NN
      rename Fr _ _ _ _ => FF
      have NM := news_sub (news := [_, _, _, _, _]) NN (List.forall_mem_cons.mpr ⟨(.tail _ (.tail _ (.tail _ (.tail _ (.head _))))), List.forall_mem_cons.mpr ⟨(.head _), List.forall_mem_cons.mpr ⟨(.tail _ (.head _)), List.forall_mem_cons.mpr ⟨(.tail _ (.tail _ (.head _))), List.forall_mem_cons.mpr ⟨(.tail _ (.tail _ (.tail _ (.head _)))), List.forall_mem_nil _⟩⟩⟩⟩⟩)
      refine reader BB FF XX TT rfl (by assumption) NM (List.forall_mem_cons.mpr ⟨by k_ne, List.forall_mem_cons.mpr ⟨by k_ne, List.forall_mem_cons.mpr ⟨by k_ne, List.forall_mem_cons.mpr ⟨by k_ne, List.forall_mem_nil _⟩⟩⟩⟩) (by have := wrs_le k0 k1 k2 k3 b 4; omega) (by ktr_room) (by k_units) ?_
      intro h8 tk8 pb x dx Dr st c2 rd c1 q cell fd fd2 c2o c1o co tbs ys8 n8 t0 ta tb tc td te tf F8 N8 ok8 hy8 hord8
      clear FF NN NM
      obtain ⟨hL8, hord8⟩ := hord8
      unfold Low at hL8
      simp only [List.forall_mem_cons] at hL8
      obtain ⟨gD, gq, g98, gcl, _⟩ := hL8
      replace gD := ltN gD
      replace gq := ltN gq
      replace g98 := ltN g98
      replace gcl := ltN gcl
      try dsimp only at gD gq g98 gcl
      rw [wrs4] at hy8
      try dsimp only
      k_steps
      refine Stop.inn ?_
      rename News _ _ _ _ => NN
      rename Fr _ _ _ _ => FF
      have NM := news_sub (news := [_, _, _, _, _, _, _, _, _, _, _, _, _, _]) NN (List.forall_mem_cons.mpr ⟨(.tail _ (.tail _ (.tail _ (.tail _ (.tail _ (.tail _ (.tail _ (.tail _ (.head _))))))))), List.forall_mem_cons.mpr ⟨(.tail _ (.tail _ (.head _))), List.forall_mem_cons.mpr ⟨(.tail _ (.head _)), List.forall_mem_cons.mpr ⟨(.tail _ (.tail _ (.tail _ (.head _)))), List.forall_mem_cons.mpr ⟨(.tail _ (.tail _ (.tail _ (.tail _ (.head _))))), List.forall_mem_cons.mpr ⟨(.tail _ (.tail _ (.tail _ (.tail _ (.tail _ (.tail _ (.head _))))))), List.forall_mem_cons.mpr ⟨(.tail _ (.tail _ (.tail _ (.tail _ (.tail _ (.tail _ (.tail _ (.head _)))))))), List.forall_mem_cons.mpr ⟨(.tail _ (.tail _ (.tail _ (.tail _ (.tail _ (.tail _ (.tail _ (.tail _ (.tail _ (.head _)))))))))), List.forall_mem_cons.mpr ⟨(.head _), List.forall_mem_cons.mpr ⟨(.tail _ (.tail _ (.tail _ (.tail _ (.tail _ (.tail _ (.tail _ (.tail _ (.tail _ (.tail _ (.tail _ (.tail _ (.head _))))))))))))), List.forall_mem_cons.mpr ⟨(.tail _ (.tail _ (.tail _ (.tail _ (.tail _ (.tail _ (.tail _ (.tail _ (.tail _ (.tail _ (.tail _ (.tail _ (.tail _ (.head _)))))))))))))), List.forall_mem_cons.mpr ⟨(.tail _ (.tail _ (.tail _ (.tail _ (.tail _ (.tail _ (.tail _ (.tail _ (.tail _ (.tail _ (.tail _ (.head _)))))))))))), List.forall_mem_cons.mpr ⟨(.tail _ (.tail _ (.tail _ (.tail _ (.tail _ (.tail _ (.tail _ (.tail _ (.tail _ (.tail _ (.tail _ (.tail _ (.tail _ (.tail _ (.head _))))))))))))))), List.forall_mem_cons.mpr ⟨(.tail _ (.tail _ (.tail _ (.tail _ (.tail _ (.tail _ (.tail _ (.tail _ (.tail _ (.tail _ (.head _))))))))))), List.forall_mem_nil _⟩⟩⟩⟩⟩⟩⟩⟩⟩⟩⟩⟩⟩⟩)
      refine told BB FF XX TT rfl (by assumption) NM ok8 hy8 (List.forall_mem_cons.mpr ⟨gD, List.forall_mem_cons.mpr ⟨gcl, List.forall_mem_cons.mpr ⟨ltN (by omega), List.forall_mem_nil _⟩⟩⟩) (by omega) (List.forall_mem_cons.mpr ⟨by k_ne, List.forall_mem_cons.mpr ⟨by k_ne, List.forall_mem_cons.mpr ⟨by k_ne, List.forall_mem_nil _⟩⟩⟩) (List.forall_mem_cons.mpr ⟨by k_ne, List.forall_mem_cons.mpr ⟨by k_ne, List.forall_mem_cons.mpr ⟨by k_ne, List.forall_mem_nil _⟩⟩⟩) (by omega) (by omega) (by omega) hk46 hkd hxl hxa (by ktr_room) (by k_units) ?_
      intro h9 tk9 tp na9 its9 t10 t11 tb9 hsz F9 N9
      clear FF NN NM
      try dsimp only
      k_steps
      rename News _ _ _ _ => NN
      rename Fr _ _ _ _ => FF
      have hok : PyData.strOk text = true := strOk_of _ fun c hc => by
        rcases hxa c hc with h | h | h | h <;> omega
      refine eq_pairs NN (.tail _ (.head _)) (.head _) hok (by decide +kernel) (by k_units) ?_
      have mkN : StopAt "call builtin:len" := .mk _
      k_steps
      refine Stop.inn ?_
      clear mkN
      rename News _ _ _ _ => NN
      rename Fr _ _ _ _ => FF
      have hev := evs_le k0 k1 k2 k3 text.cps.toList
      have htl : text.cps.toList.length = text.length := by simp [Str.length]
      refine Calls.call_len_list ⟨_, (NN _ (.tail _ (.tail _ (.head _)))).1, rfl, _, rfl⟩ (by omega) ?_
      rw [hsz]
      k_steps
      refine Stop.inn ?_
      have NM := news_sub (news := [_, _, _]) NN (List.forall_mem_cons.mpr ⟨(.tail _ (.tail _ (.tail _ (.tail _ (.head _))))), List.forall_mem_cons.mpr ⟨(.tail _ (.tail _ (.tail _ (.head _)))), List.forall_mem_cons.mpr ⟨(.tail _ (.tail _ (.tail _ (.tail _ (.tail _ (.tail _ (.head _))))))), List.forall_mem_nil _⟩⟩⟩)
      refine questions BB FF XX TT rfl NM hy (List.forall_mem_cons.mpr ⟨by k_ne, List.forall_mem_cons.mpr ⟨by k_ne, List.forall_mem_nil _⟩⟩) (by ktr_room) (by k_units) hxl hkd hxa ?_
      intro h10 tk10 t12 F10 N10
      clear FF NN NM
      iterate 2 (first | walk1 | (dsimp only; walk1))
      · rw [beq_self_eq_true]
        refine goodW_bool F10 ?hg ?hn ?hp
        case hg => assumption
        case hn => intro cls; rfl
        case hp => first | wrow_post | kc_post
      · exact ⟨GrownAt.of N10 (.tail _ (.head _)), GrownAt.of N10 (.tail _ (.tail _ (.head _))), trivial⟩
    ))
