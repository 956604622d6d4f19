import PyProof.Rows.All
import Wide.All
import OpenK.AllK
import Wide.FinOn
import PySem.Challenge.RW_ft0017_01
open PySem PySem.W PyProof.Rows PySem.Calls PySem.Spec
set_option Elab.async false
set_option maxRecDepth 100000
set_option maxHeartbeats 0
set_option linter.all false
set_option rowWalk.seconds 0
namespace Mine
local macro_rules | `(tactic| walk_at "idle") => `(tactic| fail "idle")
theorem fresh0 : True := by
  w_top off
  trivial
open_top hd for PySem.Challenge.rw_ft0017_01
end Mine
namespace Mine
abbrev Led := List (Addr × Obj)
section
variable {prog : Program} {w : World} {A : Around} {E : Value → Shared → Prop} {R : Result → Shared → Prop} {s : Shared} {h₀ : Heap} {L : Addr} {m : Str → Option Value}
/-- the ledger q is below all of tl -/
def Ord (news tl : Led) : Prop := ∀ q ∈ news, ∀ p ∈ tl, q.1 < p.1
theorem Ord.nil {news : Led} : Ord news [] := fun _ _ _ h => nomatch h
theorem Ord.app {news tl tl' : Led} (a : Ord news tl) (b : Ord (news ++ tl) tl') : Ord news (tl ++ tl') := fun q hq p hp => by
  rcases List.mem_append.mp hp with h | h
  · exact a q hq p h
  · exact b q (List.mem_append.mpr (.inl hq)) p h
theorem Ord.cons {news tl : Led} {a : Addr} {o : Obj} (h : ∀ q ∈ news, q.1 < a) (hO : Ord news tl) : Ord news ((a, o) :: tl) := fun q hq p hp => by
  rcases List.mem_cons.mp hp with rfl | hp
  · exact h q hq
  · exact hO q hq p hp
theorem Ord.sub {news news' tl : Led} (a : Ord news' tl) (h : ∀ q ∈ news, q ∈ news') : Ord news tl := fun q hq => a q (h q hq)
theorem News.sub {h : Heap} {news news' : Led} (N : News h₀ L h news') (hs : ∀ p ∈ news, p ∈ news') : News h₀ L h news := fun p hp => N p (hs p hp)
theorem News.but {h h' : Heap} {news : Led} {a : Addr} (N : News h₀ L h news) (hs : ∀ b o, b ≠ a → h.get? b = some o → h'.get? b = some o) (hn : ∀ p ∈ news, p.1 ≠ a) : News h₀ L h' news := fun p hp => ⟨hs _ _ (hn p hp) (N p hp).1, (N p hp).2⟩
theorem Fr.but {h h' : Heap} {a : Addr} (F : Fr h₀ L h m) (hs : ∀ b o, b ≠ a → h.get? b = some o → h'.get? b = some o) (hL : L ≠ a) (h0 : h₀.get? a = none) : Fr h₀ L h' m :=
  ⟨F.ns.at' fun o e => hs _ o hL e, fun b o e => hs b o (fun q => by rw [q, h0] at e; cases e) (F.keep b o e), F.above⟩
/-- what stands in a comprehension between two turns -/
structure CompSt (h₀ : Heap) (L : Addr) (m : Str → Option Value) (news : Led) (I D C : Addr) (fp : List Addr) (St : Nat → Heap → Prop) (P : Nat → Value → Prop) (G : Led → Nat → Value → Value → Prop) (h : Heap) (mC : Str → Option Value) (ys vs : List Value) (tl : Led) : Prop where
  st : St vs.length h
  acc : h.PlainList D ys.toArray
  ns : h.Ns C mC
  F : Fr h₀ L h m
  N : News h₀ L h (news ++ tl)
  ord : Ord news tl
  off : ∀ p ∈ tl, D < p.1 ∧ C < p.1 ∧ I < p.1
  P : ∀ j v, vs[j]? = some v → P j v
  len : ys.length = vs.length
  G : ∀ j v, vs[j]? = some v → ∃ y, ys[j]? = some y ∧ G (news ++ tl) j v y
theorem snoc_get {α : Type} {Q : Nat → α → Prop} {vs : List α} {v : α} (h : ∀ j u, vs[j]? = some u → Q j u) (hv : Q vs.length v) : ∀ j u, (vs ++ [v])[j]? = some u → Q j u := fun j u hj => by
  rcases Nat.lt_trichotomy j vs.length with h1 | h1 | h1
  · exact h j u (by rwa [List.getElem?_append_left h1] at hj)
  · subst h1; simp at hj; subst hj; exact hv
  · have hnone : (vs ++ [v])[j]? = none := List.getElem?_eq_none (by rw [List.length_append, List.length_singleton]; omega)
    rw [hnone] at hj; cases hj
theorem compLoop_led {elt iter : Expr} {x : Str} {px : Pos} {scope : Scope} {pos : Pos} {I D : Addr} {fp : List Addr} {n : Nat} {P : Nat → Value → Prop} {St : Nat → Heap → Prop} {cenv : Env} {news : Led} {mC : Str → Option Value}
    (W : Walks prog w A I fp [I] n P St) (G : Led → Nat → Value → Value → Prop) (hG : ∀ l l' i v y, (∀ p ∈ l, p ∈ l') → G l i v y → G l' i v y)
    (hlive : ∀ i h, St i h → ∃ o, h.get? I = some o)
    (hx : cenv.kindOf x = some .local) (hp : (cenv.scope.kind == .class || (cenv.scope.kind == .module && cenv.locals != cenv.globals)) = false)
    (hDC : D ≠ cenv.locals) (hDI : D ≠ I) (hCI : cenv.locals ≠ I) (hLD : L ≠ D) (hLC : L ≠ cenv.locals) (hLI : L ≠ I) (h0D : h₀.get? D = none) (h0C : h₀.get? cenv.locals = none) (h0I : h₀.get? I = none)
    (hoff : ∀ p ∈ news, p.1 ≠ D ∧ p.1 ≠ cenv.locals ∧ p.1 ≠ I)
    (hsrc : ∀ b ∈ fp, b ≠ I → b ≠ D ∧ b ≠ cenv.locals ∧ b ≠ L ∧ ((∃ o, h₀.get? b = some o) ∨ ∃ o, (b, o) ∈ news))
    (hS : CompSt h₀ L m news I D cenv.locals fp St P G s.heap mC [] [] [])
    (elt_ : ∀ i v mC tl oD oC oI h tk E', P i v → Fr h₀ L h m → News h₀ L h ((D, oD) :: (cenv.locals, oC) :: (I, oI) :: (news ++ tl)) → Ord news tl → h.Ns cenv.locals mC → mC x = some v →
      wpAny (model prog w) A (eval elt cenv) (fun y s₄ => ∃ tl' h' tk', s₄ = { s with heap := h', toks := tk' } ∧ Fr h₀ L h' m ∧ News h₀ L h' (((D, oD) :: (cenv.locals, oC) :: (I, oI) :: (news ++ tl)) ++ tl') ∧
        Ord ((D, oD) :: (cenv.locals, oC) :: (I, oI) :: (news ++ tl)) tl' ∧ G (news ++ tl ++ tl') i v y) E' { s with heap := h, toks := tk })
    (hR : ∀ h' tk mC' ys vs tl, CompSt h₀ L m news I D cenv.locals fp (fun _ _ => True) P G h' mC' ys vs tl → vs.length = n → R (.ok .next) { s with heap := h', toks := tk })
    (hsz : n ≤ sizeLine) :
    codeAny (model prog w) A (.compLoop (.ListComp elt [⟨.Name x px, iter, [], 0⟩] scope pos) 0 (.ref I) (.ref D) cenv) R s := by
  refine codeAny_compLoop_tests
    (fun k s' => ∃ h' tk mC' ys vs tl, s' = { s with heap := h', toks := tk } ∧ CompSt h₀ L m news I D cenv.locals fp St P G h' mC' ys vs tl ∧ vs.length ≤ n ∧ k = n + 1 - vs.length) ?_ (n + 1)
    ⟨s.heap, s.toks, mC, [], [], [], rfl, hS, Nat.zero_le _, rfl⟩
  rintro k s' ⟨H, tk, mC', ys, vs, tl, rfl, S, hi, rfl⟩
  have offTl : ∀ p ∈ tl, p.1 ≠ D ∧ p.1 ≠ cenv.locals ∧ p.1 ≠ I := fun p hp => ⟨Nat.ne_of_gt (S.off p hp).1, Nat.ne_of_gt (S.off p hp).2.1, Nat.ne_of_gt (S.off p hp).2.2⟩
  have offAll : ∀ p ∈ news ++ tl, p.1 ≠ D ∧ p.1 ≠ cenv.locals ∧ p.1 ≠ I := fun p hp => (List.mem_append.mp hp).elim (hoff p) (offTl p)
  by_cases hlt : vs.length < n
  · refine W.item vs.length _ _ _ hlt S.st fun v h₁ tk₁ hPv hst₁ hk₁ => ?_
    have hk₁' : ∀ b o, b ≠ I → H.get? b = some o → h₁.get? b = some o := fun b o hb e => hk₁ b o (by simpa using hb) e
    have F₁ : Fr h₀ L h₁ m := Fr.but S.F hk₁' hLI h0I
    have N₁ : News h₀ L h₁ (news ++ tl) := News.but S.N hk₁' fun p hp => (offAll p hp).2.2
    refine wpAny_assign_Name (wpAny_storeName_local hx (S.ns.at' fun o e => hk₁' _ o hCI e) (fun h₂ hn₂ hs₂ => ?_) hp)
    have hk₂ : ∀ b o, b ≠ cenv.locals → h₁.get? b = some o → h₂.get? b = some o := fun b o hb e => (hs₂.2 b hb).trans e
    have F₂ : Fr h₀ L h₂ m := Fr.but F₁ hk₂ hLC h0C
    have N₂ : News h₀ L h₂ (news ++ tl) := News.but N₁ hk₂ fun p hp => (offAll p hp).2.1
    have acc₂ : h₂.PlainList D ys.toArray := S.acc.at fun o e => hk₂ _ o hDC (hk₁' _ o hDI e)
    have hst₂ : St (vs.length + 1) h₂ := W.frame _ _ _ hst₁ fun b hb o e => hk₂ b o (by
      by_cases hbI : b = I
      · exact hbI ▸ Ne.symm hCI
      · exact (hsrc b hb hbI).2.1) e
    refine wpAny_tests_nil ?_
    simp only [if_true]
    obtain ⟨nD, eD⟩ := acc₂
    obtain ⟨oI, eI⟩ := hlive _ _ hst₂
    obtain ⟨oC, _, _, eC, _⟩ := id hn₂
    have NN : News h₀ L h₂ ((D, listOf ys.toArray nD) :: (cenv.locals, oC) :: (I, oI) :: (news ++ tl)) := by
      intro p hp
      rcases List.mem_cons.mp hp with rfl | hp
      · exact ⟨eD, Ne.symm hLD, h0D⟩
      rcases List.mem_cons.mp hp with rfl | hp
      · exact ⟨eC, Ne.symm hLC, h0C⟩
      rcases List.mem_cons.mp hp with rfl | hp
      · exact ⟨eI, Ne.symm hLI, h0I⟩
      · exact N₂ p hp
    refine wpAny_mono (elt_ vs.length v _ tl _ _ _ h₂ _ _ hPv F₂ NN S.ord hn₂ (by simp)) (fun y s₄ h₄ => ?_) fun _ _ e => e
    obtain ⟨tl', h₄, tk₄, rfl, F₄, N₄, O₄, G₄⟩ := h₄
    have inD : (D, listOf ys.toArray nD) ∈ ((D, listOf ys.toArray nD) :: (cenv.locals, oC) :: (I, oI) :: (news ++ tl)) ++ tl' := by simp
    have inC : (cenv.locals, oC) ∈ ((D, listOf ys.toArray nD) :: (cenv.locals, oC) :: (I, oI) :: (news ++ tl)) ++ tl' := by simp
    have inI : (I, oI) ∈ ((D, listOf ys.toArray nD) :: (cenv.locals, oC) :: (I, oI) :: (news ++ tl)) ++ tl' := by simp
    have sub4 : ∀ p ∈ news ++ (tl ++ tl'), p ∈ ((D, listOf ys.toArray nD) :: (cenv.locals, oC) :: (I, oI) :: (news ++ tl)) ++ tl' := fun p hp => by
      simp only [List.mem_append, List.mem_cons] at hp ⊢
      rcases hp with h | h | h <;> simp [h]
    have offTl' : ∀ p ∈ tl', D < p.1 ∧ cenv.locals < p.1 ∧ I < p.1 := fun p hp => ⟨O₄ (D, PySem.W.listOf ys.toArray nD) (List.mem_cons_self ..) p hp, O₄ (cenv.locals, oC) (by simp) p hp, O₄ (I, oI) (by simp) p hp⟩
    have hst₄ : St (vs.length + 1) h₄ := W.frame _ _ _ hst₂ fun b hb o e => by
      by_cases hbI : b = I
      · subst hbI; rw [eI] at e; cases e; exact (N₄ _ inI).1
      · rcases (hsrc b hb hbI).2.2.2 with ⟨o', e'⟩ | ⟨o', e'⟩
        · have q := F₂.keep b o' e'; rw [e] at q; cases q; exact F₄.keep b _ e'
        · have := (N₂ (b, o') (List.mem_append.mpr (.inl e'))).1
          rw [e] at this; cases this
          exact (N₄ (b, _) (sub4 _ (List.mem_append.mpr (.inl e')))).1
    have hC4 : h₄.Ns cenv.locals _ := hn₂.at' fun o e => by rw [eC] at e; cases e; exact (N₄ _ inC).1
    have hlen : ys.length ≤ sizeLine := by have := S.len; omega
    refine wpAny_list_append_plain (items := ys.toArray) (hsz := by simpa using hlen) ⟨nD, (N₄ _ inD).1⟩ fun h₅ hl₅ hs₅ => ?_
    have hk₅ : ∀ b o, b ≠ D → h₄.get? b = some o → h₅.get? b = some o := fun b o hb e => (hs₅.2 b hb).trans e
    have off' : ∀ p ∈ news ++ (tl ++ tl'), p.1 ≠ D := fun p hp => by
      rcases List.mem_append.mp hp with h | h
      · exact (hoff p h).1
      rcases List.mem_append.mp h with h | h
      · exact (offTl p h).1
      · exact Nat.ne_of_gt (offTl' p h).1
    refine ⟨n + 1 - (vs.length + 1), by omega, h₅, tk₄, (fun z => if z = x then some v else mC' z), ys ++ [y], vs ++ [v], tl ++ tl', rfl, ?_, (by rw [List.length_append, List.length_singleton]; exact hlt), (by rw [List.length_append, List.length_singleton])⟩
    refine ⟨?_, ?_, hC4.at' fun o e => hk₅ _ o (Ne.symm hDC) e, Fr.but F₄ hk₅ hLD h0D, News.but (News.sub N₄ sub4) hk₅ off', ?_, ?_, snoc_get S.P hPv, ?_, ?_⟩
    · rw [List.length_append, List.length_singleton]
      exact W.frame _ _ _ hst₄ fun b hb o e => hk₅ b o (by
        by_cases hbI : b = I
        · exact hbI ▸ Ne.symm hDI
        · exact (hsrc b hb hbI).1) e
    · simpa using hl₅
    · refine S.ord.app (O₄.sub fun q hq => ?_)
      simp only [List.mem_append, List.mem_cons] at hq ⊢
      rcases hq with h | h <;> simp [h]
    · intro p hp
      rcases List.mem_append.mp hp with h | h
      · exact S.off p h
      · exact offTl' p h
    · rw [List.length_append, List.length_append, S.len]; rfl
    · intro j u hj
      rcases Nat.lt_trichotomy j vs.length with h1 | h1 | h1
      · rw [List.getElem?_append_left h1] at hj
        obtain ⟨y', e1, e2⟩ := S.G j u hj
        refine ⟨y', ?_, hG _ _ _ _ _ (fun p hp => ?_) e2⟩
        · rw [List.getElem?_append_left (by have := S.len; omega)]; exact e1
        · simp only [List.mem_append] at hp ⊢
          rcases hp with h | h <;> simp [h]
      · subst h1
        simp at hj; subst hj
        refine ⟨y, by rw [← S.len]; simp, ?_⟩
        rw [← List.append_assoc]; exact G₄
      · have hnone : (vs ++ [v])[j]? = none := List.getElem?_eq_none (by rw [List.length_append, List.length_singleton]; omega)
        rw [hnone] at hj; cases hj
  · have hin : vs.length = n := by omega
    refine W.done _ _ _ (hin ▸ S.st) fun h₁ tk₁ hk₁ => ?_
    have hk₁' : ∀ b o, b ≠ I → H.get? b = some o → h₁.get? b = some o := fun b o hb e => hk₁ b o (by simpa using hb) e
    exact hR h₁ tk₁ mC' ys vs tl ⟨trivial, S.acc.at fun o e => hk₁' _ o hDI e, S.ns.at' fun o e => hk₁' _ o hCI e, Fr.but S.F hk₁' hLI h0I, News.but S.N hk₁' fun p hp => (offAll p hp).2.2, S.ord, S.off, S.P, S.len, S.G⟩ hin
/-- what is known when the block has made its list -/
structure CompDone (h₀ : Heap) (L : Addr) (m : Str → Option Value) (news : Led) (D : Addr) (nD n : Nat) (P : Nat → Value → Prop) (G : Led → Nat → Value → Value → Prop) (h : Heap) (ys vs : List Value) (tl : Led) : Prop where
  F : Fr h₀ L h m
  N : News h₀ L h ((D, listOf ys.toArray nD) :: (news ++ tl))
  ord : Ord news ((D, listOf ys.toArray nD) :: tl)
  off : ∀ p ∈ tl, D < p.1
  P : ∀ j v, vs[j]? = some v → P j v
  lenv : vs.length = n
  len : ys.length = n
  G : ∀ j v, vs[j]? = some v → ∃ y, ys[j]? = some y ∧ G (news ++ tl) j v y
theorem comp_block_led {env : Env} {elt iter : Expr} {x : Str} {px : Pos} {scope : Scope} {cl : List (Str × Addr)} {pos : Pos} {s₂ : Shared} {I : Addr} {fp : List Addr} {n : Nat} {P : Nat → Value → Prop} {St : Nat → Heap → Prop} {news : Led}
    (W : Walks prog w A I fp [I] n P St) (G : Led → Nat → Value → Value → Prop) (hG : ∀ l l' i v y, (∀ p ∈ l, p ∈ l') → G l i v y → G l' i v y) {RR : Value → Addr → Result → Shared → Prop}
    (hlive : ∀ i h, St i h → ∃ o, h.get? I = some o) (hsz : n ≤ sizeLine)
    (hcell : ∀ y ∈ scope.names, y.2 ≠ .cell) (hkind : scope.kind = .function) (hx : scope.names.lookup x = some .local) (hst : St 0 s₂.heap) (hfp : ∀ b ∈ fp, b < s₂.heap.objs.size)
    (F : Fr h₀ L s₂.heap m) (N : News h₀ L s₂.heap news) (hLI : L ≠ I) (h0I : h₀.get? I = none) (hoff : ∀ p ∈ news, p.1 < I)
    (hsrc : ∀ b ∈ fp, b ≠ I → b ≠ L ∧ ((∃ o, h₀.get? b = some o) ∨ ∃ o, (b, o) ∈ news))
    (elt_ : ∀ i v C mC tl own h tk E', P i v → Fr h₀ L h m → News h₀ L h (own ++ (news ++ tl)) → Ord news tl → h.Ns C mC → mC x = some v → (∃ o, (C, o) ∈ own) →
      wpAny (model prog w) A (eval elt (compEnvC scope cl C env)) (fun y s₄ => ∃ tl' h' tk', s₄ = { s₂ with heap := h', toks := tk' } ∧ Fr h₀ L h' m ∧ News h₀ L h' ((own ++ (news ++ tl)) ++ tl') ∧ Ord (own ++ (news ++ tl)) tl' ∧ G (news ++ tl ++ tl') i v y) E' { s₂ with heap := h, toks := tk })
    (hRR : ∀ D nD C h' tk mC ys vs tl, CompDone h₀ L m news D nD n P G h' ys vs tl → h'.Ns C mC → L ≠ C → h₀.get? C = none → (∀ p ∈ (D, listOf ys.toArray nD) :: (news ++ tl), p.1 ≠ C) → RR (.ref D) C (.ok .next) { s₂ with heap := h', toks := tk }) :
    wpAny (model prog w) A (newList []) (fun acc s₃ => wpAny (model prog w) A (newFunctionEnv scope env.globals cl [] env.qual none .none (some env)) (fun cenv s₄ =>
      codeAny (model prog w) A (.compStart (.ListComp elt [⟨.Name x px, iter, [], 0⟩] scope pos) 0 (.ref I) acc { cenv with scope := relabel scope env }) (RR acc cenv.locals) s₄) E s₃) E s₂ := by
  refine wpAny_newObj_type (wpAny_newFunctionEnv hcell (by intro y hy; simp at hy) (fun h₁ hns₁ hsb₁ => ?_) hkind)
  dsimp only at hns₁ hsb₁ ⊢
  generalize hH2 : s₂.heap.push { cls := .type "list", dict := none, data := .seq ([] : List Value).toArray } = H2 at hns₁ hsb₁ ⊢
  have hC : H2.objs.size = s₂.heap.objs.size + 1 := by rw [← hH2, Heap.size_push]
  have hIlt : I < s₂.heap.objs.size := by obtain ⟨o, e⟩ := hlive _ _ hst; exact Heap.lt_size e
  have hLlt : L < s₂.heap.objs.size := F.ns.lt
  have hDC : s₂.heap.objs.size ≠ H2.objs.size := by rw [hC]; exact Nat.ne_of_lt (Nat.lt_succ_self _)
  have old : ∀ b o, s₂.heap.get? b = some o → h₁.get? b = some o := fun b o e => hsb₁.extBut b o (by have := Heap.lt_size e; rw [hC]; exact Nat.ne_of_lt (Nat.lt_succ_of_lt this)) (Heap.get?_push_of_some _ (hH2 ▸ Heap.get?_push_of_some _ e))
  have hacc : h₁.PlainList s₂.heap.objs.size #[] := ⟨_, hsb₁.extBut _ _ hDC (Heap.get?_push_of_some _ (hH2 ▸ Heap.get?_push_size _ rfl))⟩
  have fresh : ∀ a, s₂.heap.objs.size ≤ a → h₀.get? a = none := fun a ha => by
    cases e : h₀.get? a with
    | none => rfl
    | some o' => exact absurd (Heap.lt_size (F.keep _ _ e)) (Nat.not_lt.mpr ha)
  have F₁ : Fr h₀ L h₁ m := ⟨F.ns.at' fun o e => old _ o e, fun b o e => old b o (F.keep b o e), F.above⟩
  have N₁ : News h₀ L h₁ news := fun p hp => ⟨old _ _ (N p hp).1, (N p hp).2⟩
  have newsLt : ∀ p ∈ news, p.1 < s₂.heap.objs.size := fun p hp => Heap.lt_size (N p hp).1
  have loop : ∀ s₃ : Shared, s₃ = { s₂ with heap := h₁, toks := s₂.toks + ([] : List (Str × Value)).length } →
      codeAny (model prog w) A (.compLoop (.ListComp elt [⟨.Name x px, iter, [], 0⟩] scope pos) 0 (.ref I) (.ref s₂.heap.objs.size) (compEnvC scope cl H2.objs.size env))
        (RR (.ref s₂.heap.objs.size) H2.objs.size) s₃ := by
    rintro s₃ rfl
    refine compLoop_led (h₀ := h₀) (L := L) (m := m) (news := news) (cenv := compEnvC scope cl H2.objs.size env) (mC := fun x => List.lookup x ([] : List (Str × Value)).reverse) W G hG hlive (lookup_relabel_local hx) (by simp [compEnvC, relabel, hkind])
      hDC (Nat.ne_of_gt hIlt) ?_ (Nat.ne_of_lt hLlt) ?_ hLI (fresh _ (Nat.le_refl _)) (fresh _ (by show _ ≤ H2.objs.size; rw [hC]; exact Nat.le_succ _)) h0I ?_ ?_ ?_ ?_ ?_ hsz
    · show H2.objs.size ≠ I
      rw [hC]; exact Nat.ne_of_gt (Nat.lt_succ_of_lt hIlt)
    · show L ≠ H2.objs.size
      rw [hC]; exact Nat.ne_of_lt (Nat.lt_succ_of_lt hLlt)
    · intro p hp
      refine ⟨Nat.ne_of_lt (newsLt p hp), ?_, Nat.ne_of_lt (hoff p hp)⟩
      show p.1 ≠ H2.objs.size
      rw [hC]; exact Nat.ne_of_lt (Nat.lt_succ_of_lt (newsLt p hp))
    · intro b hb hbI
      refine ⟨Nat.ne_of_lt (hfp b hb), ?_, hsrc b hb hbI⟩
      show b ≠ H2.objs.size
      rw [hC]; exact Nat.ne_of_lt (Nat.lt_succ_of_lt (hfp b hb))
    · refine ⟨W.frame _ _ _ hst fun b hb o e => old b o e, hacc, hns₁, F₁, by rw [List.append_nil]; exact N₁, Ord.nil, fun _ h => (nomatch h), fun _ _ h => by simp at h, rfl, fun _ _ h => by simp at h⟩
    · intro i v mC tl oD oC oI h tk E' hP Fh Nh hO hn hm
      exact elt_ i v H2.objs.size mC tl [(s₂.heap.objs.size, oD), (H2.objs.size, oC), (I, oI)] h tk E' hP Fh Nh hO hn hm ⟨oC, by simp⟩
    · intro h' tk mC ys vs tl S hlen
      obtain ⟨nD, eD⟩ := S.acc
      have Ndone : News h₀ L h' ((s₂.heap.objs.size, listOf ys.toArray nD) :: (news ++ tl)) := fun p hp => by
        rcases List.mem_cons.mp hp with rfl | hp
        · exact ⟨eD, Nat.ne_of_gt hLlt, fresh _ (Nat.le_refl _)⟩
        · exact S.N p hp
      refine hRR _ nD H2.objs.size h' tk mC ys vs tl ⟨S.F, Ndone, ?_, fun p hp => (S.off p hp).1, S.P, hlen, by rw [S.len, hlen], S.G⟩ S.ns ?_ (fresh _ (by rw [hC]; exact Nat.le_succ _)) ?_
      · intro q hq p hp
        rcases List.mem_cons.mp hp with rfl | hp
        · exact newsLt q hq
        · exact S.ord q hq p hp
      · rw [hC]; exact Nat.ne_of_lt (Nat.lt_succ_of_lt hLlt)
      · intro p hp
        rcases List.mem_cons.mp hp with rfl | hp
        · exact hDC
        rcases List.mem_append.mp hp with h | h
        · rw [hC]; exact Nat.ne_of_lt (Nat.lt_succ_of_lt (newsLt p h))
        · exact Nat.ne_of_gt (S.off p h).2.1
  exact codeAny_compStart_list (loop _ rfl) (W.self 0 _ _ _ (W.frame _ _ _ hst fun b hb o e => old b o e) (loop _ rfl))
/-- the source of a comprehension: a list or a tuple that stands -/
def SrcAt (h₀ : Heap) (L : Addr) (news : Led) (h : Heap) (l : Addr) (us : List Value) : Prop :=
  (h.IsList l us.toArray ∨ h.IsTuple l us.toArray) ∧ l ≠ L ∧ ((∃ o, h₀.get? l = some o) ∨ ∃ o, (l, o) ∈ news)
theorem src_walks (hh : A.handled = none) {news : Led} {l : Addr} {us : List Value} (F : Fr h₀ L s.heap m) (N : News h₀ L s.heap news) (S : SrcAt h₀ L news s.heap l us) {Q : Value → Shared → Prop}
    (h : ∀ h' I St, Fr h₀ L h' m → News h₀ L h' news → Walks prog w A I [I, l] [I] us.length (fun i v => us[i]? = some v) St → (∀ i h, St i h → ∃ o, h.get? I = some o) → St 0 h' → (∀ b ∈ [I, l], b < h'.objs.size) → L ≠ I → h₀.get? I = none → (∀ p ∈ news, p.1 < I) →
      Q (.ref I) { s with heap := h' }) : wpAny (model prog w) A (pyIter (.ref l)) Q E s := by
  obtain ⟨hk, hL, hsrc⟩ := S
  have hI0 : h₀.get? s.heap.objs.size = none := next_is_new F
  have hll : l < s.heap.objs.size := by
    rcases hk with ⟨o, e, _⟩ | ⟨o, e, _⟩ <;> exact Heap.lt_size e
  have hlen : us.toArray.size = us.length := by simp
  rcases hk with hl | hl
  · refine wpAny_pyIter_list hl ?_
    have W := Walks.list (prog := prog) (w := w) hh s.heap.objs.size l (Nat.ne_of_lt hll) us.toArray
    rw [hlen] at W
    refine h _ s.heap.objs.size (fun i h => h.IsListIter s.heap.objs.size l i ∧ h.IsList l us.toArray) (F.push _) (fun p hp => ⟨Heap.get?_push_of_some _ (N p hp).1, (N p hp).2⟩) ?_ ?_ ⟨⟨_, Heap.get?_push_size _ rfl, rfl, rfl⟩, hl.at fun o e => Heap.get?_push_of_some _ e⟩ ?_ (Nat.ne_of_lt F.ns.lt) hI0 fun p hp => Heap.lt_size (N p hp).1
    · have e : (fun (i : Nat) (v : Value) => us.toArray[i]? = some v) = fun i v => us[i]? = some v := by funext i v; simp
      rw [← e]; exact W
    · rintro i h ⟨⟨o, e, _⟩, _⟩; exact ⟨o, e⟩
    · intro b hb
      rw [Heap.size_push]
      rcases List.mem_cons.mp hb with rfl | hb
      · exact Nat.lt_succ_self _
      · rw [List.mem_singleton.mp hb]; exact Nat.lt_succ_of_lt hll
  · refine wpAny_pyIter_tuple hl ?_
    have W := Walks.tuple (prog := prog) (w := w) hh s.heap.objs.size l (Nat.ne_of_lt hll) us.toArray
    rw [hlen] at W
    refine h _ s.heap.objs.size (fun i h => h.IsTupleIter s.heap.objs.size l i ∧ h.IsTuple l us.toArray) (F.push _) (fun p hp => ⟨Heap.get?_push_of_some _ (N p hp).1, (N p hp).2⟩) ?_ ?_ ⟨⟨_, Heap.get?_push_size _ rfl, rfl, rfl⟩, hl.at fun o e => Heap.get?_push_of_some _ e⟩ ?_ (Nat.ne_of_lt F.ns.lt) hI0 fun p hp => Heap.lt_size (N p hp).1
    · have e : (fun (i : Nat) (v : Value) => us.toArray[i]? = some v) = fun i v => us[i]? = some v := by funext i v; simp
      rw [← e]; exact W
    · rintro i h ⟨⟨o, e, _⟩, _⟩; exact ⟨o, e⟩
    · intro b hb
      rw [Heap.size_push]
      rcases List.mem_cons.mp hb with rfl | hb
      · exact Nat.lt_succ_self _
      · rw [List.mem_singleton.mp hb]; exact Nat.lt_succ_of_lt hll
theorem list_ext_of {α : Type} {vs us : List α} (h : ∀ (j : Nat) (v : α), vs[j]? = some v → us[j]? = some v) (hl : vs.length = us.length) : vs = us := by
  apply List.ext_getElem? 
  intro j
  by_cases hj : j < vs.length
  · have e : vs[j]? = some vs[j] := List.getElem?_eq_getElem hj
    rw [e, h j _ e]
  · rw [List.getElem?_eq_none (by omega), List.getElem?_eq_none (by omega)]
/-- what one turn of a comprehension's element gives -/
def EltAt (prog : Program) (w : World) (A : Around) (h₀ : Heap) (L : Addr) (m : Str → Option Value) (news : Led) (env : Env) (scope : Scope) (cl : List (Str × Addr)) (x : Str) (elt : Expr) (us : List Value) (G : Led → Nat → Value → Value → Prop) (s : Shared) : Prop :=
  ∀ i v C mC tl own h tk E', us[i]? = some v → Fr h₀ L h m → News h₀ L h (own ++ (news ++ tl)) → Ord news tl → h.Ns C mC → mC x = some v → (∃ o, (C, o) ∈ own) →
      wpAny (model prog w) A (eval elt (compEnvC scope cl C env)) (fun y s₄ => ∃ tl' h' tk', s₄ = { s with heap := h', toks := tk' } ∧ Fr h₀ L h' m ∧ News h₀ L h' ((own ++ (news ++ tl)) ++ tl') ∧ Ord (own ++ (news ++ tl)) tl' ∧ G (news ++ tl ++ tl') i v y) E' { s with heap := h, toks := tk }
theorem comp_none {env : Env} {elt iter : Expr} {x : Str} {px : Pos} {scope : Scope} {cl : List (Str × Addr)} {pos : Pos} {l : Addr} {us : List Value} {news : Led} {Q : Value → Shared → Prop} (hh : A.handled = none)
    (F : Fr h₀ L s.heap m) (N : News h₀ L s.heap news) (S : SrcAt h₀ L news s.heap l us) (G : Led → Nat → Value → Value → Prop) (hG : ∀ l l' i v y, (∀ p ∈ l, p ∈ l') → G l i v y → G l' i v y) (hsz : us.length ≤ sizeLine)
    (hcell : ∀ y ∈ scope.names, y.2 ≠ .cell) (hkind : scope.kind = .function) (hx : scope.names.lookup x = some .local)
    (elt_ : EltAt prog w A h₀ L m news env scope cl x elt us G s)
    (hQ : ∀ D nD h' tk ys tl, CompDone h₀ L m news D nD us.length (fun i v => us[i]? = some v) G h' ys us tl → Q (.ref D) { s with heap := h', toks := tk }) :
    wpAny (model prog w) A (pyIter (.ref l)) (fun it s₂ => wpAny (model prog w) A (newList []) (fun acc s₃ => wpAny (model prog w) A (newFunctionEnv scope env.globals cl [] env.qual none .none (some env)) (fun cenv s₄ =>
      codeAny (model prog w) A (.compStart (.ListComp elt [⟨.Name x px, iter, [], 0⟩] scope pos) 0 it acc { cenv with scope := relabel scope env }) (compPost (model prog w) A E none Q acc cenv.locals) s₄) E s₃) E s₂) E s := by
  refine src_walks hh F N S fun h' I St F₁ N₁ W hlive hst hfp hLI h0I hoff => ?_
  obtain ⟨_, hL, hsrc⟩ := S
  refine comp_block_led (RR := fun acc C => compPost (model prog w) A E none Q acc C) W G hG hlive hsz hcell hkind hx hst hfp F₁ N₁ hLI h0I hoff ?_ ?_ ?_
  · intro b hb hbI
    rcases List.mem_cons.mp hb with rfl | hb
    · exact absurd rfl hbI
    · rw [List.mem_singleton.mp hb]; exact ⟨hL, hsrc⟩
  · exact elt_
  · intro D nD C h₁ tk mC ys vs tl Z hn hLC h0C hoffC
    have hv : vs = us := list_ext_of Z.P Z.lenv
    subst hv
    refine ⟨mC, hn, fun h₂ hs => hQ D nD h₂ tk ys tl ⟨Fr.but Z.F (fun b o hb e => (hs.2 b hb).trans e) hLC h0C, News.but Z.N (fun b o hb e => (hs.2 b hb).trans e) hoffC, Z.ord, Z.off, Z.P, Z.lenv, Z.len, Z.G⟩⟩
theorem comp_some {env : Env} {elt iter : Expr} {x y : Str} {px py : Pos} {scope : Scope} {cl : List (Str × Addr)} {pos : Pos} {l : Addr} {us : List Value} {news : Led} {Q : Value → Shared → Prop} (hh : A.handled = none)
    (F : Fr h₀ env.locals s.heap m) (N : News h₀ env.locals s.heap news) (S : SrcAt h₀ env.locals news s.heap l us) (G : Led → Nat → Value → Value → Prop) (hG : ∀ l l' i v y, (∀ p ∈ l, p ∈ l') → G l i v y → G l' i v y) (hsz : us.length ≤ sizeLine)
    (hcell : ∀ y ∈ scope.names, y.2 ≠ .cell) (hkind : scope.kind = .function) (hx : scope.names.lookup x = some .local)
    (hy : env.kindOf y = some .local) (hp : (env.scope.kind == .class || (env.scope.kind == .module && env.locals != env.globals)) = false)
    (elt_ : EltAt prog w A h₀ env.locals m news env scope cl x elt us G s)
    (hQ : ∀ D nD h' tk ys tl, CompDone h₀ env.locals (fun z => if z = y then some (.ref D) else m z) news D nD us.length (fun i v => us[i]? = some v) G h' ys us tl → Q .none { s with heap := h', toks := tk }) :
    wpAny (model prog w) A (pyIter (.ref l)) (fun it s₂ => wpAny (model prog w) A (newList []) (fun acc s₃ => wpAny (model prog w) A (newFunctionEnv scope env.globals cl [] env.qual none .none (some env)) (fun cenv s₄ =>
      codeAny (model prog w) A (.compStart (.ListComp elt [⟨.Name x px, iter, [], 0⟩] scope pos) 0 it acc { cenv with scope := relabel scope env }) (compPost (model prog w) A E (some (assign (.Name y py) env)) Q acc cenv.locals) s₄) E s₃) E s₂) E s := by
  refine src_walks hh F N S fun h' I St F₁ N₁ W hlive hst hfp hLI h0I hoff => ?_
  obtain ⟨_, hL, hsrc⟩ := S
  refine comp_block_led (RR := fun acc C => compPost (model prog w) A E (some (assign (.Name y py) env)) Q acc C) W G hG hlive hsz hcell hkind hx hst hfp F₁ N₁ hLI h0I hoff ?_ ?_ ?_
  · intro b hb hbI
    rcases List.mem_cons.mp hb with rfl | hb
    · exact absurd rfl hbI
    · rw [List.mem_singleton.mp hb]; exact ⟨hL, hsrc⟩
  · exact elt_
  · intro D nD C h₁ tk mC ys vs tl Z hn hLC h0C hoffC
    have hv : vs = us := list_ext_of Z.P Z.lenv
    subst hv
    show wpAny _ A (assign (.Name y py) env (.ref D)) _ _ _
    refine wpAny_assign_Name (wpAny_storeName_local hy Z.F.ns (fun h₂ hn₂ hs₂ => ?_) hp)
    refine ⟨mC, hn.sameBut hs₂ (Ne.symm hLC), fun h₃ hs => ?_⟩
    have F₂ : Fr h₀ env.locals h₂ (fun z => if z = y then some (.ref D) else m z) := Z.F.set hn₂ hs₂
    have N₂ := Z.N.set hs₂
    exact hQ D nD h₃ _ ys tl ⟨Fr.but F₂ (fun b o hb e => (hs.2 b hb).trans e) hLC h0C, News.but N₂ (fun b o hb e => (hs.2 b hb).trans e) hoffC, Z.ord, Z.off, Z.P, Z.lenv, Z.len, Z.G⟩
/-- a comprehension as an expression: first its source, then the block -/
theorem ListComp_led {env : Env} {elt iter : Expr} {x : Str} {px : Pos} {scope : Scope} {cl : List (Str × Addr)} {pos : Pos} {Q : Value → Shared → Prop}
    (hclos : closureFor scope env = pure cl) (hkind : scope.kind = .function) (hnames : ∀ y ∈ scope.names, y.2 = .local → scope.names.lookup y.1 = some .local)
    (h : wpAny (model prog w) A (eval iter env) (fun xv s₁ => wpAny (model prog w) A (pyIter xv) (fun it s₂ => wpAny (model prog w) A (newList []) (fun acc s₃ => wpAny (model prog w) A (newFunctionEnv scope env.globals cl [] env.qual none .none (some env)) (fun cenv s₄ =>
      codeAny (model prog w) A (.compStart (.ListComp elt [⟨.Name x px, iter, [], 0⟩] scope pos) 0 it acc { cenv with scope := relabel scope env }) (compPost (model prog w) A E none Q acc cenv.locals) s₄) E s₃) E s₂) E s₁) E s)
    (hs : ∀ x, foldedSetIterable iter env x = pure x := by intro _; rfl) :
    wpAny (model prog w) A (eval (.ListComp elt [⟨.Name x px, iter, [], 0⟩] scope pos) env) Q E s := by
  rw [eval_ListComp]
  exact wpAny_comprehension_free (use := none) rfl hs hclos hkind hnames h
theorem AssignComp_led {env : Env} {elt iter : Expr} {x y : Str} {px py : Pos} {scope : Scope} {cl : List (Str × Addr)} {pos spos : Pos} {Q : Flow → Shared → Prop}
    (hsw : swapsWith (.ListComp elt [⟨.Name x px, iter, [], 0⟩] scope pos) (some (.Name y py)) spos.line env = pure true)
    (hclos : closureFor scope env = pure cl) (hkind : scope.kind = .function) (hnames : ∀ y ∈ scope.names, y.2 = .local → scope.names.lookup y.1 = some .local)
    (h : wpAny (model prog w) A (eval iter env) (fun xv s₁ => wpAny (model prog w) A (pyIter xv) (fun it s₂ => wpAny (model prog w) A (newList []) (fun acc s₃ => wpAny (model prog w) A (newFunctionEnv scope env.globals cl [] env.qual none .none (some env)) (fun cenv s₄ =>
      codeAny (model prog w) A (.compStart (.ListComp elt [⟨.Name x px, iter, [], 0⟩] scope pos) 0 it acc { cenv with scope := relabel scope env }) (compPost (model prog w) A E (some (assign (.Name y py) env)) (fun _ s' => Q .next s') acc cenv.locals) s₄) E s₃) E s₂) E s₁) E s)
    (hs : ∀ x, foldedSetIterable iter env x = pure x := by intro _; rfl) :
    wpAny (model prog w) A (exec (.Assign [.Name y py] (.ListComp elt [⟨.Name x px, iter, [], 0⟩] scope pos) spos) env) Q E s := by
  rw [exec_Assign_Name_used _ _ _ _ hsw]
  refine wpAny_bind (wpAny_standAt (wpAny_bind ?_))
  show wpAny _ A (do let _ ← comprehension (.ListComp elt [⟨.Name x px, iter, [], 0⟩] scope pos) scope env _ (newList []) false (eval iter env) (some (assign (.Name y py) env))) _ _ s
  exact wpAny_bind (wpAny_mono (wpAny_comprehension_free (use := some (assign (.Name y py) env)) (Q := fun _ s' => Q .next s') rfl hs hclos hkind hnames h) (fun _ s' hq => wpAny_pure (wpAny_pure hq)) fun _ _ e => e)
end
/-- a list or a tuple -/
def SeqOf (o : Obj) (vs : List Value) : Prop := (∃ n, o = listOf vs.toArray n) ∨ ∃ n, o = ({ cls := .type "tuple", data := .seq vs.toArray n } : Obj)
theorem SeqOf.list {vs : List Value} {n : Nat} : SeqOf (listOf vs.toArray n) vs := .inl ⟨n, rfl⟩
theorem SeqOf.tup {vs : List Value} {n : Nat} : SeqOf ({ cls := .type "tuple", data := .seq vs.toArray n } : Obj) vs := .inr ⟨n, rfl⟩
theorem SeqOf.at {o : Obj} {vs : List Value} (S : SeqOf o vs) {h : Heap} {l : Addr} (e : h.get? l = some o) : h.IsList l vs.toArray ∨ h.IsTuple l vs.toArray := by
  rcases S with ⟨n, rfl⟩ | ⟨n, rfl⟩
  · exact .inl ⟨_, e, rfl, n, rfl⟩
  · exact .inr ⟨_, e, rfl, n, rfl⟩
theorem SeqOf.src {h₀ h : Heap} {L l : Addr} {news : Led} {o : Obj} {vs : List Value} (S : SeqOf o vs) (N : News h₀ L h news) (hl : (l, o) ∈ news) : SrcAt h₀ L news h l vs :=
  ⟨S.at (N _ hl).1, (N _ hl).2.1, .inr ⟨o, hl⟩⟩
section
variable {prog : Program} {w : World} {A : Around} {E : Value → Shared → Prop} {s : Shared} {env : Env} {h₀ : Heap} {x : Str} {body : List Stmt} {Q : Flow → Shared → Prop}
def GenEnd (h₀ : Heap) (L : Addr) (J : (Str → Option Value) → Led → Prop) (q : Addr × Obj) (own : Led) (s₁ s₂ : Shared) : Prop :=
  ∃ h' tk m' nx, s₂ = { s₁ with heap := h', toks := tk } ∧ Fr h₀ L h' m' ∧ News h₀ L h' (nx ++ own) ∧ q ∈ nx ∧ OwnOff own (nx.map (·.1)) ∧ J m' nx
def GenPost (h₀ : Heap) (L : Addr) (J : (Str → Option Value) → Led → Prop) (q : Addr × Obj) (own : Led) (s₁ : Shared) (Q : Flow → Shared → Prop) (f : Flow) (s₂ : Shared) : Prop :=
  match f with
  | .ret v => Q (.ret v) s₂
  | .brk => Q .next s₂
  | _ => GenEnd h₀ L J q own s₁ s₂
theorem for_gen {l : Addr} {o : Obj} {vs : List Value} {m₀ : Str → Option Value} {news : Led} (J : Nat → (Str → Option Value) → Led → Prop)
    (hh : A.handled = none) (hl : (l, o) ∈ news) (ho : SeqOf o vs) (F : Fr h₀ env.locals s.heap m₀) (N : News h₀ env.locals s.heap news) (hj : J 0 m₀ news)
    (turn : ∀ i v m₁ nx h tk own, vs[i]? = some v → OwnOff own (nx.map (·.1)) → (l, o) ∈ nx → J i m₁ nx → Fr h₀ env.locals h (fun y => if y = x then some v else m₁ y) → News h₀ env.locals h (nx ++ own) →
      wpAny (model prog w) A (execs body env) (GenPost h₀ env.locals (J (i + 1)) (l, o) own { s with heap := h, toks := tk } Q) E { s with heap := h, toks := tk })
    (done : ∀ m₁ nx h tk, J vs.length m₁ nx → Fr h₀ env.locals h m₁ → News h₀ env.locals h nx → Q .next { s with heap := h, toks := tk }) :
    wpAny (model prog w) A (pyIter (.ref l)) (fun it s₂ => LoopAtV prog w A h₀ env x body Q E it s₂) E s := by
  refine src_walks hh F N (ho.src N hl) fun h' I St F₁ N₁ W hlive hst hfp hLI h0I hoff => ?_
  have hlL : l ≠ env.locals := (N _ hl).2.1
  have hlI : l < I := hoff _ hl
  refine ⟨I, _, _, vs.length, _, St, m₀, news, (fun i m nx => (l, o) ∈ nx ∧ J i m nx), rfl, W, ?_, ?_, ?_, hst, F₁, N₁, ⟨hl, hj⟩, ?_, ?_⟩
  · intro hm
    rcases List.mem_cons.mp hm with e | hm
    · exact hLI e
    · exact hlL (List.mem_singleton.mp hm).symm
  · intro b hb
    rw [List.mem_singleton.mp hb]; exact h0I
  · intro p hp hI
    exact Nat.ne_of_lt (hoff p hp) (List.mem_singleton.mp hI)
  · rintro i v m₁ news₁ s₁ own ⟨hh', tk', rfl⟩ hin hP ⟨hl₁, hJ⟩ hoff₁ hown hget hfp₁ hst₁ F₂ N₂
    obtain ⟨oI, hoI⟩ := hlive _ _ hst₁
    have hIown : (I, oI) ∈ own.filter fun p => decide (p.1 = I) := List.mem_filter.mpr ⟨hfp₁ _ (List.mem_cons.mpr (.inl rfl)) h0I _ hoI, by simp⟩
    have hsep : OwnOff (own.filter fun p => decide (p.1 = I)) (news₁.map (·.1)) := by
      intro p hp b hb e
      obtain ⟨q, hq, rfl⟩ := List.mem_map.mp hb
      have h1 : p.1 = I := by simpa using (List.mem_filter.mp hp).2
      exact hoff₁ q hq (List.mem_singleton.mpr (e ▸ h1))
    have N₃ : News h₀ env.locals hh' (news₁ ++ own.filter fun p => decide (p.1 = I)) := fun p hp => N₂ p ((List.mem_append.mp hp).elim (fun h => List.mem_append.mpr (.inr h)) fun h => List.mem_append.mpr (.inl ((List.mem_filter.mp h).1)))
    have hlo : hh'.get? l = some o := (N₂ _ (List.mem_append.mpr (.inr hl₁))).1
    refine wpAny_mono (turn i v m₁ news₁ hh' tk' _ hP hsep hl₁ hJ F₂ N₃) (fun f s₂ p => ?_) fun _ _ e => e
    have fin : GenEnd h₀ env.locals (J (i + 1)) (l, o) (own.filter fun p => decide (p.1 = I)) { s with heap := hh', toks := tk' } s₂ →
        LoopStepU h₀ env.locals [I] own (fun m nx => (l, o) ∈ nx ∧ J (i + 1) m nx) { s with heap := hh', toks := tk' } .next s₂ := by
      rintro ⟨h'', tk, m', nx, e, F', N', hq, ha, hm⟩
      refine ⟨rfl, h'', tk, m', nx, e, F', fun p hp => ?_, fun p hp hq' => ?_, hq, hm⟩
      · rcases List.mem_append.mp hp with h | h
        · by_cases hI : p.1 = I
          · exact N' p (List.mem_append.mpr (.inr (List.mem_filter.mpr ⟨h, by simpa using hI⟩)))
          · have h1 : p.1 = l := by
              rcases List.mem_cons.mp (hown p h) with h2 | h2
              · exact absurd h2 hI
              · exact List.mem_singleton.mp h2
            have h2 : hh'.get? p.1 = some p.2 := hget p h
            rw [h1, hlo] at h2
            have h3 : p = (l, o) := Prod.ext h1 (Option.some.inj h2).symm
            rw [h3]
            exact N' _ (List.mem_append.mpr (.inl hq))
        · exact N' p (List.mem_append.mpr (.inl h))
      · exact ha _ hIown p.1 (List.mem_map.mpr ⟨p, hp, rfl⟩) (List.mem_singleton.mp hq').symm
    cases f with
    | ret v => exact .ret p
    | brk => exact .brk p
    | next => exact .next (fin p)
    | cont => exact .cont (fin p)
  · rintro h'' tk m' news' F' N' _ ⟨_, hJ⟩
    exact done m' news' h'' tk hJ F' N'
/-- the loop's own name alone is stored -/
def OneEnd (h₀ : Heap) (L : Addr) (x : Str) (m₀ : Str → Option Value) (J : Led → Prop) (q : Addr × Obj) (own : Led) (s₁ s₂ : Shared) : Prop :=
  ∃ h' tk u nx, s₂ = { s₁ with heap := h', toks := tk } ∧ Fr h₀ L h' (fun y => if y = x then u else m₀ y) ∧ News h₀ L h' (nx ++ own) ∧ q ∈ nx ∧ OwnOff own (nx.map (·.1)) ∧ J nx
def OnePost (h₀ : Heap) (L : Addr) (x : Str) (m₀ : Str → Option Value) (J : Led → Prop) (q : Addr × Obj) (own : Led) (s₁ : Shared) (Q : Flow → Shared → Prop) (f : Flow) (s₂ : Shared) : Prop :=
  match f with
  | .ret v => Q (.ret v) s₂
  | .brk => Q .next s₂
  | _ => OneEnd h₀ L x m₀ J q own s₁ s₂
theorem for_one {l : Addr} {o : Obj} {vs : List Value} {m₀ : Str → Option Value} {news : Led} (J : Nat → Led → Prop)
    (hh : A.handled = none) (hl : (l, o) ∈ news) (ho : SeqOf o vs) (F : Fr h₀ env.locals s.heap m₀) (N : News h₀ env.locals s.heap news) (hj : J 0 news)
    (turn : ∀ i v nx h tk own, vs[i]? = some v → OwnOff own (nx.map (·.1)) → (l, o) ∈ nx → J i nx → Fr h₀ env.locals h (fun y => if y = x then some v else m₀ y) → News h₀ env.locals h (nx ++ own) →
      wpAny (model prog w) A (execs body env) (OnePost h₀ env.locals x m₀ (J (i + 1)) (l, o) own { s with heap := h, toks := tk } Q) E { s with heap := h, toks := tk })
    (done : ∀ u nx h tk, J vs.length nx → Fr h₀ env.locals h (fun y => if y = x then u else m₀ y) → News h₀ env.locals h nx → Q .next { s with heap := h, toks := tk }) :
    wpAny (model prog w) A (pyIter (.ref l)) (fun it s₂ => LoopAtV prog w A h₀ env x body Q E it s₂) E s := by
  have eqm : ∀ {m₁ : Str → Option Value} (v : Option Value), (∀ y, y ≠ x → m₁ y = m₀ y) → (fun y => if y = x then v else m₁ y) = fun y => if y = x then v else m₀ y := fun v h => by
    funext y; by_cases e : y = x
    · simp [e]
    · simp only [if_neg e]; exact h y e
  refine for_gen (fun i m nx => (∀ y, y ≠ x → m y = m₀ y) ∧ J i nx) hh hl ho F N ⟨fun _ _ => rfl, hj⟩ ?_ ?_
  · rintro i v m₁ nx h tk own hv hoff hl₁ ⟨hm, hJ⟩ F₁ N₁
    rw [eqm _ hm] at F₁
    refine wpAny_mono (turn i v nx h tk own hv hoff hl₁ hJ F₁ N₁) (fun f s₂ p => ?_) fun _ _ e => e
    have fin : OneEnd h₀ env.locals x m₀ (J (i + 1)) (l, o) own { s with heap := h, toks := tk } s₂ → GenEnd h₀ env.locals (fun m nx => (∀ y, y ≠ x → m y = m₀ y) ∧ J (i + 1) nx) (l, o) own { s with heap := h, toks := tk } s₂ := by
      rintro ⟨h', tk', u, nx', e, F', N', hq, ha, hJ'⟩
      exact ⟨h', tk', _, nx', e, F', N', hq, ha, fun y hy => if_neg hy, hJ'⟩
    cases f with
    | ret v => exact p
    | brk => exact p
    | next => exact fin p
    | cont => exact fin p
  · rintro m₁ nx h tk ⟨hm, hJ⟩ F₁ N₁
    refine done (m₁ x) nx h tk hJ ?_ N₁
    rw [← eqm _ hm]
    have : (fun y => if y = x then m₁ x else m₁ y) = m₁ := by funext y; by_cases e : y = x <;> simp [e]
    rw [this]; exact F₁
theorem OnePost.next {L : Addr} {m₀ : Str → Option Value} {J : Led → Prop} {q : Addr × Obj} {own nw : Led} {s₁ : Shared} {h' : Heap} {tk : Nat} {u : Option Value} {f : Flow} (nx : Led) (hf : f = .next ∨ f = .cont) (F : Fr h₀ L h' (fun y => if y = x then u else m₀ y)) (N : News h₀ L h' nw)
    (hs : ∀ p ∈ nx ++ own, p ∈ nw) (hq : q ∈ nx) (ha : OwnOff own (nx.map (·.1))) (hJ : J nx) : OnePost h₀ L x m₀ J q own s₁ Q f { s₁ with heap := h', toks := tk } := by
  rcases hf with rfl | rfl <;> exact ⟨h', tk, u, nx, rfl, F, fun p hp => N p (hs p hp), hq, ha, hJ⟩
theorem GenPost.next {L : Addr} {J : (Str → Option Value) → Led → Prop} {q : Addr × Obj} {own nw : Led} {s₁ : Shared} {h' : Heap} {tk : Nat} {m' : Str → Option Value} {f : Flow} (nx : Led) (hf : f = .next ∨ f = .cont) (F : Fr h₀ L h' m') (N : News h₀ L h' nw)
    (hs : ∀ p ∈ nx ++ own, p ∈ nw) (hq : q ∈ nx) (ha : OwnOff own (nx.map (·.1))) (hJ : J m' nx) : GenPost h₀ L J q own s₁ Q f { s₁ with heap := h', toks := tk } := by
  rcases hf with rfl | rfl <;> exact ⟨h', tk, m', nx, rfl, F, fun p hp => N p (hs p hp), hq, ha, hJ⟩
theorem off_tl {own nx tl9 : Led} {D : Addr} {o o' : Obj} (h : OwnOff own (((D, o) :: nx).map (·.1))) (h9 : Ord own tl9) : OwnOff own (((D, o') :: (nx ++ tl9)).map (·.1)) := by
  intro p hp b hb
  simp only [List.map_cons, List.map_append, List.mem_cons, List.mem_append] at hb
  rcases hb with rfl | hb | hb
  · exact h p hp _ (by simp)
  · exact h p hp _ (by simp only [List.map_cons, List.mem_cons]; exact .inr hb)
  · obtain ⟨q, hq, rfl⟩ := List.mem_map.mp hb
    exact Nat.ne_of_lt (h9 p hp q hq)
theorem off_same {own nx : Led} {D : Addr} {o o' : Obj} (h : OwnOff own (((D, o) :: nx).map (·.1))) : OwnOff own (((D, o') :: nx).map (·.1)) := by simpa using h
theorem ord_grow {news tl tl9 l' : Led} {D : Addr} {o o' : Obj} (hO : Ord news ((D, o) :: tl)) (O9 : Ord l' tl9) (hs : ∀ q ∈ news, q ∈ l') : Ord news ((D, o') :: (tl ++ tl9)) := by
  intro q hq p hp
  rcases List.mem_cons.mp hp with rfl | hp
  · exact hO q hq (D, o) (List.mem_cons_self ..)
  rcases List.mem_append.mp hp with h | h
  · exact hO q hq p (List.mem_cons_of_mem _ h)
  · exact O9 q (hs q hq) p h
theorem ord_same {news tl : Led} {D : Addr} {o o' : Obj} (hO : Ord news ((D, o) :: tl)) : Ord news ((D, o') :: tl) := by
  intro q hq p hp
  rcases List.mem_cons.mp hp with rfl | hp
  · exact hO q hq (D, o) (List.mem_cons_self ..)
  · exact hO q hq p (List.mem_cons_of_mem _ hp)
theorem lt_grow {tl tl9 l' : Led} {D : Addr} {o : Obj} (h : ∀ p ∈ tl, D < p.1) (O9 : Ord l' tl9) (hD : (D, o) ∈ l') : ∀ p ∈ tl ++ tl9, D < p.1 := by
  intro p hp
  rcases List.mem_append.mp hp with h1 | h1
  · exact h p h1
  · exact O9 _ hD p h1
/-- nothing of the rest lies at the first object's place -/
theorem ap_off {news tl own : Led} {D : Addr} {o : Obj} (h1 : ∀ p ∈ news, p.1 < D) (h2 : ∀ p ∈ tl, D < p.1) (h3 : OwnOff own (((D, o) :: (news ++ tl)).map (·.1))) : ∀ p ∈ news ++ tl ++ own, p.1 ≠ D := by
  intro p hp
  rcases List.mem_append.mp hp with h | h
  · rcases List.mem_append.mp h with h | h
    · exact Nat.ne_of_lt (h1 p h)
    · exact Nat.ne_of_gt (h2 p h)
  · exact h3 p h D (by simp)
theorem ap_more {l tl9 l' : Led} {D : Addr} {o : Obj} (h : ∀ p ∈ l, p.1 ≠ D) (h9 : Ord l' tl9) (hD : (D, o) ∈ l') : ∀ p ∈ l ++ tl9, p.1 ≠ D := by
  intro p hp
  rcases List.mem_append.mp hp with h1 | h1
  · exact h p h1
  · exact Nat.ne_of_gt (h9 _ hD p h1)
end
end Mine
namespace Mine
theorem compTurn_in (elt t1 i1 t2 i2 : Expr) (scope : Scope) (pos : Pos) (it acc : Value) (env : Env) :
    compTurn (.ListComp elt [⟨t1, i1, [], 0⟩, ⟨t2, i2, [], 0⟩] scope pos) 1 it acc env = (do
      standAt i2.pos
      match ← pyNext it with
      | none => pure (.done .next)
      | some v =>
        letOwnedTupleGo t2 it v
        assign t2 env v
        let _ ← (do let _ ← call (.builtin "list.append") [acc, ← eval elt env])
        again (.compLoop (.ListComp elt [⟨t1, i1, [], 0⟩, ⟨t2, i2, [], 0⟩] scope pos) 1 it acc env)) := by rfl
theorem compTurn_out (elt t1 i1 t2 i2 : Expr) (scope : Scope) (pos : Pos) (it acc : Value) (env : Env) :
    compTurn (.ListComp elt [⟨t1, i1, [], 0⟩, ⟨t2, i2, [], 0⟩] scope pos) 0 it acc env = (do
      standAt i1.pos
      match ← pyNext it with
      | none => pure (.done .next)
      | some v =>
        letOwnedTupleGo t1 it v
        assign t1 env v
        let x ← eval i2 env
        standAt i2.pos
        let x ← foldedSetIterable i2 env x
        let _ ← runOwn (.compStart (.ListComp elt [⟨t1, i1, [], 0⟩, ⟨t2, i2, [], 0⟩] scope pos) 1 (← holding [x] (pyIter x)) acc env) env
        again (.compLoop (.ListComp elt [⟨t1, i1, [], 0⟩, ⟨t2, i2, [], 0⟩] scope pos) 0 it acc env)) := by rfl
section
variable {prog : Program} {w : World} {A : Around} {E : Value → Shared → Prop} {R : Result → Shared → Prop} {s : Shared}
theorem loop_in {elt t1 i1 t2 i2 : Expr} {scope : Scope} {pos : Pos} {it acc : Value} {env : Env} (I : Nat → Shared → Prop)
    (turn : ∀ n s, I n s → wpAny (model prog w) A (pyNext it) (fun r s₁ => match r with
      | none => R (.ok .next) s₁
      | some v => wpAny (model prog w) A (assign t2 env v) (fun _ s₂ => wpAny (model prog w) A (eval elt env) (fun x s₄ =>
              wpAny (model prog w) A (call (.builtin "list.append") [acc, x]) (fun _ s₅ => ∃ m, m < n ∧ I m s₅) (notedBy (model prog w) A env fun e s' => R (.error e) s') s₄) (notedBy (model prog w) A env fun e s' => R (.error e) s') s₂) (notedBy (model prog w) A env fun e s' => R (.error e) s') s₁) (notedBy (model prog w) A env fun e s' => R (.error e) s') s)
    (n : Nat) (h : I n s) (ht : ∀ v, letOwnedTupleGo t2 it v = pure () := by intro _; rfl) :
    codeAny (model prog w) A (.compLoop (.ListComp elt [⟨t1, i1, [], 0⟩, ⟨t2, i2, [], 0⟩] scope pos) 1 it acc env) R s := by
  refine codeAny_loop rfl I (fun n s hI => ?_) n h
  show wpAny _ A ((compTurn (.ListComp elt [⟨t1, i1, [], 0⟩, ⟨t2, i2, [], 0⟩] scope pos) 1 it acc env).onRaise (fun x => do noteFrame x env; theTreesLotGoes x)) _ _ s
  refine wpAny_noted ?_
  rw [compTurn_in]
  refine wpAny_bind (wpAny_standAt (wpAny_bind (wpAny_mono (turn n s hI) (fun r s₁ h₁ => ?_) fun _ _ h' => h')))
  cases r with
  | none => exact wpAny_pure h₁
  | some v =>
    refine wpAny_bind (wpAny_of_eq (ht v) ?_)
    refine wpAny_bind (wpAny_mono h₁ (fun _ s₂ h₂ => ?_) fun _ _ h' => h')
    exact wpAny_bind (wpAny_bind (wpAny_mono h₂ (fun x s₄ h₄ => wpAny_bind (wpAny_mono h₄ (fun _ s₅ h₅ => wpAny_pure (wpAny_pure ⟨rfl, h₅⟩)) fun _ _ h' => h')) fun _ _ h' => h'))
theorem loop_out {elt t1 i1 t2 i2 : Expr} {scope : Scope} {pos : Pos} {it acc : Value} {env : Env} (I : Nat → Shared → Prop)
    (turn : ∀ n s, I n s → wpAny (model prog w) A (pyNext it) (fun r s₁ => match r with
      | none => R (.ok .next) s₁
      | some v => wpAny (model prog w) A (assign t1 env v) (fun _ s₂ => wpAny (model prog w) A (eval i2 env) (fun x s₃ => wpAny (model prog w) A (pyIter x) (fun it2 s₄ =>
          codeAny (model prog w) (A.mark none) (.compStart (.ListComp elt [⟨t1, i1, [], 0⟩, ⟨t2, i2, [], 0⟩] scope pos) 1 it2 acc env)
            (fun r s' => match r with | .ok _ => ∃ m, m < n ∧ I m s' | .error e => cameBackBy (model prog w) A env (notedBy (model prog w) A env fun e s' => R (.error e) s') e s') s₄)
            (notedBy (model prog w) A env fun e s' => R (.error e) s') s₃) (notedBy (model prog w) A env fun e s' => R (.error e) s') s₂) (notedBy (model prog w) A env fun e s' => R (.error e) s') s₁) (notedBy (model prog w) A env fun e s' => R (.error e) s') s)
    (n : Nat) (h : I n s) (ht : ∀ v, letOwnedTupleGo t1 it v = pure () := by intro _; rfl) (hs : ∀ x, foldedSetIterable i2 env x = pure x := by intro _; rfl) :
    codeAny (model prog w) A (.compLoop (.ListComp elt [⟨t1, i1, [], 0⟩, ⟨t2, i2, [], 0⟩] scope pos) 0 it acc env) R s := by
  refine codeAny_loop rfl I (fun n s hI => ?_) n h
  show wpAny _ A ((compTurn (.ListComp elt [⟨t1, i1, [], 0⟩, ⟨t2, i2, [], 0⟩] scope pos) 0 it acc env).onRaise (fun x => do noteFrame x env; theTreesLotGoes x)) _ _ s
  refine wpAny_noted ?_
  rw [compTurn_out]
  refine wpAny_bind (wpAny_standAt (wpAny_bind (wpAny_mono (turn n s hI) (fun r s₁ h₁ => ?_) fun _ _ h' => h')))
  cases r with
  | none => exact wpAny_pure h₁
  | some v =>
    refine wpAny_bind (wpAny_of_eq (ht v) ?_)
    refine wpAny_bind (wpAny_mono h₁ (fun _ s₂ h₂ => ?_) fun _ _ h' => h')
    refine wpAny_bind (wpAny_mono h₂ (fun x s₃ h₃ => ?_) fun _ _ h' => h')
    refine wpAny_bind (wpAny_standAt (wpAny_bind (wpAny_of_eq (hs x) ?_)))
    refine wpAny_bind (wpAny_holding (wpAny_mono h₃ (fun it2 s₄ h₄ => ?_) fun _ _ h' => h'))
    refine wpAny_bind (wpAny_runOwn (codeAny_mono h₄ fun r s' hr => ?_) (by intro x; cases x))
    cases r with
    | ok f => exact wpAny_pure ⟨rfl, hr⟩
    | error e => exact hr
theorem inner_keep {t1 i1 i2 : Expr} {y : Str} {py py2 : Pos} {scope : Scope} {pos : Pos} {I2 D : Addr} {fp : List Addr} {n : Nat} {P : Nat → Value → Prop} {St : Nat → Heap → Prop} {cenv : Env} {us ys : List Value} {mC : Str → Option Value}
    (W : Walks prog w A I2 fp [I2] n P St) (hP : ∀ i v, P i v → us[i]? = some v) (hn : n = us.length) (hy : cenv.kindOf y = some .local) (hk : cenv.scope.kind = .function) (hdb : (y == ("__debug__" : Str)) = false)
    (hp : (cenv.scope.kind == .class || (cenv.scope.kind == .module && cenv.locals != cenv.globals)) = false) (hDC : D ≠ cenv.locals) (hDI : D ≠ I2) (hCI : cenv.locals ≠ I2) (hfp : ∀ b ∈ fp, b ≠ I2 → b ≠ D ∧ b ≠ cenv.locals)
    (hst : St 0 s.heap) (hacc : s.heap.PlainList D ys.toArray) (hns : s.heap.Ns cenv.locals mC) (hsz : ys.length + us.length ≤ sizeLine)
    (hR : ∀ h' tk mC', h'.PlainList D (ys ++ us).toArray → h'.Ns cenv.locals mC' → (∀ b o, b ≠ D → b ≠ cenv.locals → b ≠ I2 → s.heap.get? b = some o → h'.get? b = some o) → R (.ok .next) { s with heap := h', toks := tk }) :
    codeAny (model prog w) A (.compLoop (.ListComp (.Name y py) [⟨t1, i1, [], 0⟩, ⟨.Name y py2, i2, [], 0⟩] scope pos) 1 (.ref I2) (.ref D) cenv) R s := by
  subst hn
  refine loop_in (fun k s' => ∃ h' tk mC' i, s' = { s with heap := h', toks := tk } ∧ St i h' ∧ h'.PlainList D (ys ++ us.take i).toArray ∧ h'.Ns cenv.locals mC' ∧ (∀ b o, b ≠ D → b ≠ cenv.locals → b ≠ I2 → s.heap.get? b = some o → h'.get? b = some o) ∧ i ≤ us.length ∧ k = us.length + 1 - i) ?_ (us.length + 1)
    ⟨s.heap, s.toks, mC, 0, rfl, hst, by simpa using hacc, hns, fun _ _ _ _ _ e => e, Nat.zero_le _, rfl⟩
  rintro k s' ⟨H, tk, mC', i, rfl, hst', hacc', hns', hkeep, hi, rfl⟩
  by_cases hlt : i < us.length
  · refine W.item i _ _ _ hlt hst' fun v h₁ tk₁ hPv hst₁ hk₁ => ?_
    have hv := hP i v hPv
    have hk₁' : ∀ b o, b ≠ I2 → H.get? b = some o → h₁.get? b = some o := fun b o hb e => hk₁ b o (by simpa using hb) e
    refine wpAny_assign_Name (wpAny_storeName_local hy (hns'.at' fun o e => hk₁' _ o hCI e) (fun h₂ hn₂ hs₂ => ?_) hp)
    have hk₂ : ∀ b o, b ≠ cenv.locals → h₁.get? b = some o → h₂.get? b = some o := fun b o hb e => (hs₂.2 b hb).trans e
    refine wpAny_Name (wpAny_loadName_local hk hy hn₂ (show (if y = y then some v else mC' y) = some v from if_pos rfl) ?_) hdb
    have acc₂ : h₂.PlainList D (ys ++ us.take i).toArray := hacc'.at fun o e => hk₂ _ o hDC (hk₁' _ o hDI e)
    have hst₂ : St (i + 1) h₂ := W.frame _ _ _ hst₁ fun b hb o e => hk₂ b o (by
      by_cases hbI : b = I2
      · exact hbI ▸ Ne.symm hCI
      · exact (hfp b hb hbI).2) e
    refine wpAny_list_append_plain (items := (ys ++ us.take i).toArray) (hsz := by rw [List.size_toArray, List.length_append, List.length_take]; omega) acc₂ fun h₅ hl₅ hs₅ => ?_
    have hk₅ : ∀ b o, b ≠ D → h₂.get? b = some o → h₅.get? b = some o := fun b o hb e => (hs₅.2 b hb).trans e
    refine ⟨us.length + 1 - (i + 1), by omega, h₅, _, _, i + 1, rfl, ?_, ?_, hn₂.at' fun o e => hk₅ _ o (Ne.symm hDC) e, ?_, hlt, rfl⟩
    · exact W.frame _ _ _ hst₂ fun b hb o e => hk₅ b o (by
        by_cases hbI : b = I2
        · exact hbI ▸ Ne.symm hDI
        · exact (hfp b hb hbI).1) e
    · rw [List.push_toArray, List.append_assoc] at hl₅
      rw [List.take_add_one, hv]; exact hl₅
    · intro b o b1 b2 b3 e
      exact hk₅ b o b1 (hk₂ b o b2 (hk₁' b o b3 (hkeep b o b1 b2 b3 e)))
  · have hin : i = us.length := by omega
    subst hin
    refine W.done _ _ _ hst' fun h₁ tk₁ hk₁ => ?_
    have hk₁' : ∀ b o, b ≠ I2 → H.get? b = some o → h₁.get? b = some o := fun b o hb e => hk₁ b o (by simpa using hb) e
    rw [List.take_length] at hacc'
    exact hR h₁ tk₁ mC' (hacc'.at fun o e => hk₁' _ o hDI e) (hns'.at' fun o e => hk₁' _ o hCI e) fun b o b1 b2 b3 e => hk₁' b o b3 (hkeep b o b1 b2 b3 e)
theorem start_in {elt t1 i1 t2 i2 : Expr} {scope : Scope} {pos : Pos} {it acc : Value} {env : Env}
    (h0 : codeAny (model prog w) A (.compLoop (.ListComp elt [⟨t1, i1, [], 0⟩, ⟨t2, i2, [], 0⟩] scope pos) 1 it acc env) R s)
    (h : wpAny (model prog w) A (pyIter it) (fun it' s' => codeAny (model prog w) A (.compLoop (.ListComp elt [⟨t1, i1, [], 0⟩, ⟨t2, i2, [], 0⟩] scope pos) 1 it' acc env) R s')
      (notedBy (model prog w) A env fun x s' => R (.error x) s') s) :
    codeAny (model prog w) A (.compStart (.ListComp elt [⟨t1, i1, [], 0⟩, ⟨t2, i2, [], 0⟩] scope pos) 1 it acc env) R s := by
  refine codeAny_of_tree ?_
  show wpAny _ _ ((compStart (.ListComp elt [⟨t1, i1, [], 0⟩, ⟨t2, i2, [], 0⟩] scope pos) 1 it acc env).onRaise (fun x => do noteFrame x env; standAt theWindowsPlace)) _ _ s
  refine wpAny_notedAt ?_
  unfold compStart
  show wpAny _ _ (ask >>= _) _ _ s
  refine wpAny_bind (wpAny_askSetting (wpAny_ite ?_))
  split
  · first
      | exact wpAny_bind (wpAny_pure (wpAny_pure (And.intro rfl h0)))
      | exact wpAny_pure (And.intro rfl h0)
  · first
      | exact wpAny_bind (wpAny_rule (wpAny_bind (wpAny_standAt (wpAny_bind (wpAny_mono h (fun it' s' h' => wpAny_pure (And.intro rfl h')) fun _ _ x => x)))))
      | (refine wpAny_bind (wpAny_rule ?_); show wpAny _ _ (standAt i2.pos >>= _) _ _ s; exact wpAny_bind (wpAny_standAt (wpAny_bind (wpAny_mono h (fun it' s' h' => wpAny_pure (And.intro rfl h')) fun _ _ x => x))))
theorem start_keep {t1 i1 i2 : Expr} {y : Str} {py py2 : Pos} {scope : Scope} {pos : Pos} {I2 D : Addr} {fp : List Addr} {n : Nat} {P : Nat → Value → Prop} {St : Nat → Heap → Prop} {cenv : Env} {us ys : List Value} {mC : Str → Option Value}
    (W : Walks prog w A I2 fp [I2] n P St) (hP : ∀ i v, P i v → us[i]? = some v) (hn : n = us.length) (hy : cenv.kindOf y = some .local) (hk : cenv.scope.kind = .function) (hdb : (y == ("__debug__" : Str)) = false)
    (hp : (cenv.scope.kind == .class || (cenv.scope.kind == .module && cenv.locals != cenv.globals)) = false) (hDC : D ≠ cenv.locals) (hDI : D ≠ I2) (hCI : cenv.locals ≠ I2) (hfp : ∀ b ∈ fp, b ≠ I2 → b ≠ D ∧ b ≠ cenv.locals)
    (hst : St 0 s.heap) (hacc : s.heap.PlainList D ys.toArray) (hns : s.heap.Ns cenv.locals mC) (hsz : ys.length + us.length ≤ sizeLine)
    (hR : ∀ h' tk mC', h'.PlainList D (ys ++ us).toArray → h'.Ns cenv.locals mC' → (∀ b o, b ≠ D → b ≠ cenv.locals → b ≠ I2 → s.heap.get? b = some o → h'.get? b = some o) → R (.ok .next) { s with heap := h', toks := tk }) :
    codeAny (model prog w) A (.compStart (.ListComp (.Name y py) [⟨t1, i1, [], 0⟩, ⟨.Name y py2, i2, [], 0⟩] scope pos) 1 (.ref I2) (.ref D) cenv) R s :=
  start_in (inner_keep W hP hn hy hk hdb hp hDC hDI hCI hfp hst hacc hns hsz hR) (W.self 0 _ _ _ hst (inner_keep W hP hn hy hk hdb hp hDC hDI hCI hfp hst hacc hns hsz hR))
/-- what stands between two turns of the outer loop -/
structure CompSt2 (h₀ : Heap) (L : Addr) (m : Str → Option Value) (news : Led) (I D C : Addr) (St : Nat → Heap → Prop) (P : Nat → Value → Prop) (G : Led → Nat → Value → List Value → Prop) (h : Heap) (mC : Str → Option Value) (pss : List (List Value)) (vs : List Value) (tl : Led) : Prop where
  st : St vs.length h
  acc : h.PlainList D pss.flatten.toArray
  ns : h.Ns C mC
  F : Fr h₀ L h m
  N : News h₀ L h (news ++ tl)
  ord : Ord news tl
  off : ∀ p ∈ tl, D < p.1 ∧ C < p.1 ∧ I < p.1
  P : ∀ j v, vs[j]? = some v → P j v
  len : pss.length = vs.length
  G : ∀ j v, vs[j]? = some v → ∃ p, pss[j]? = some p ∧ G (news ++ tl) j v p
variable {h₀ : Heap} {L : Addr} {m : Str → Option Value}
theorem outer_led {iter i2 : Expr} {x y : Str} {px py py2 : Pos} {scope : Scope} {pos : Pos} {I D : Addr} {fp : List Addr} {n B : Nat} {P : Nat → Value → Prop} {St : Nat → Heap → Prop} {cenv : Env} {news : Led} {mC : Str → Option Value}
    (W : Walks prog w A I fp [I] n P St) (G : Led → Nat → Value → List Value → Prop) (hG : ∀ l l' i v y, (∀ p ∈ l, p ∈ l') → G l i v y → G l' i v y)
    (hlive : ∀ i h, St i h → ∃ o, h.get? I = some o) (hh : A.handled = none)
    (hx : cenv.kindOf x = some .local) (hy : cenv.kindOf y = some .local) (hk : cenv.scope.kind = .function) (hdb : (y == ("__debug__" : Str)) = false) (hp : (cenv.scope.kind == .class || (cenv.scope.kind == .module && cenv.locals != cenv.globals)) = false)
    (hDC : D ≠ cenv.locals) (hDI : D ≠ I) (hCI : cenv.locals ≠ I) (hLD : L ≠ D) (hLC : L ≠ cenv.locals) (hLI : L ≠ I) (h0D : h₀.get? D = none) (h0C : h₀.get? cenv.locals = none) (h0I : h₀.get? I = none)
    (hoff : ∀ p ∈ news, p.1 ≠ D ∧ p.1 ≠ cenv.locals ∧ p.1 ≠ I)
    (hsrc : ∀ b ∈ fp, b ≠ I → b ≠ D ∧ b ≠ cenv.locals ∧ b ≠ L ∧ ((∃ o, h₀.get? b = some o) ∨ ∃ o, (b, o) ∈ news))
    (hB : ∀ l i v p, G l i v p → p.length ≤ B) (hsz : n * B ≤ sizeLine)
    (hS : CompSt2 h₀ L m news I D cenv.locals St P G s.heap mC [] [] [])
    (elt_ : ∀ i v mC tl oD oC oI h tk E', P i v → Fr h₀ L h m → News h₀ L h ((D, oD) :: (cenv.locals, oC) :: (I, oI) :: (news ++ tl)) → Ord news tl → h.Ns cenv.locals mC → mC x = some v →
      wpAny (model prog w) A (eval i2 cenv) (fun r s₄ => ∃ l2 us2 k2 tl' h' tk', r = .ref l2 ∧ s₄ = { s with heap := h', toks := tk' } ∧ Fr h₀ L h' m ∧ News h₀ L h' (((D, oD) :: (cenv.locals, oC) :: (I, oI) :: (news ++ tl)) ++ tl') ∧
        Ord ((D, oD) :: (cenv.locals, oC) :: (I, oI) :: (news ++ tl)) tl' ∧ (l2, PySem.W.listOf us2.toArray k2) ∈ news ++ tl ++ tl' ∧ G (news ++ tl ++ tl') i v us2) E' { s with heap := h, toks := tk })
    (hR : ∀ h' tk mC' pss vs tl, CompSt2 h₀ L m news I D cenv.locals (fun _ _ => True) P G h' mC' pss vs tl → vs.length = n → R (.ok .next) { s with heap := h', toks := tk })
    (hs : ∀ x, foldedSetIterable i2 cenv x = pure x := by intro _; rfl) :
    codeAny (model prog w) A (.compLoop (.ListComp (.Name y py) [⟨.Name x px, iter, [], 0⟩, ⟨.Name y py2, i2, [], 0⟩] scope pos) 0 (.ref I) (.ref D) cenv) R s := by
  refine loop_out
    (fun k s' => ∃ h' tk mC' pss vs tl, s' = { s with heap := h', toks := tk } ∧ CompSt2 h₀ L m news I D cenv.locals St P G h' mC' pss vs tl ∧ vs.length ≤ n ∧ k = n + 1 - vs.length) ?_ (n + 1)
    ⟨s.heap, s.toks, mC, [], [], [], rfl, hS, Nat.zero_le _, rfl⟩ (hs := hs)
  rintro k s' ⟨H, tk, mC', pss, vs, tl, rfl, S, hi, rfl⟩
  have offTl : ∀ p ∈ tl, p.1 ≠ D ∧ p.1 ≠ cenv.locals ∧ p.1 ≠ I := fun p hp => ⟨Nat.ne_of_gt (S.off p hp).1, Nat.ne_of_gt (S.off p hp).2.1, Nat.ne_of_gt (S.off p hp).2.2⟩
  have offAll : ∀ p ∈ news ++ tl, p.1 ≠ D ∧ p.1 ≠ cenv.locals ∧ p.1 ≠ I := fun p hp => (List.mem_append.mp hp).elim (hoff p) (offTl p)
  by_cases hlt : vs.length < n
  · refine W.item vs.length _ _ _ hlt S.st fun v h₁ tk₁ hPv hst₁ hk₁ => ?_
    have hk₁' : ∀ b o, b ≠ I → H.get? b = some o → h₁.get? b = some o := fun b o hb e => hk₁ b o (by simpa using hb) e
    have F₁ : Fr h₀ L h₁ m := Fr.but S.F hk₁' hLI h0I
    have N₁ : News h₀ L h₁ (news ++ tl) := News.but S.N hk₁' fun p hp => (offAll p hp).2.2
    refine wpAny_assign_Name (wpAny_storeName_local hx (S.ns.at' fun o e => hk₁' _ o hCI e) (fun h₂ hn₂ hs₂ => ?_) hp)
    have hk₂ : ∀ b o, b ≠ cenv.locals → h₁.get? b = some o → h₂.get? b = some o := fun b o hb e => (hs₂.2 b hb).trans e
    have F₂ : Fr h₀ L h₂ m := Fr.but F₁ hk₂ hLC h0C
    have N₂ : News h₀ L h₂ (news ++ tl) := News.but N₁ hk₂ fun p hp => (offAll p hp).2.1
    have acc₂ : h₂.PlainList D pss.flatten.toArray := S.acc.at fun o e => hk₂ _ o hDC (hk₁' _ o hDI e)
    have hst₂ : St (vs.length + 1) h₂ := W.frame _ _ _ hst₁ fun b hb o e => hk₂ b o (by
      by_cases hbI : b = I
      · exact hbI ▸ Ne.symm hCI
      · exact (hsrc b hb hbI).2.1) e
    obtain ⟨nD, eD⟩ := acc₂
    obtain ⟨oI, eI⟩ := hlive _ _ hst₂
    obtain ⟨oC, _, _, eC, _⟩ := id hn₂
    have NN : News h₀ L h₂ ((D, PySem.W.listOf pss.flatten.toArray nD) :: (cenv.locals, oC) :: (I, oI) :: (news ++ tl)) := by
      intro p hp
      rcases List.mem_cons.mp hp with rfl | hp
      · exact ⟨eD, Ne.symm hLD, h0D⟩
      rcases List.mem_cons.mp hp with rfl | hp
      · exact ⟨eC, Ne.symm hLC, h0C⟩
      rcases List.mem_cons.mp hp with rfl | hp
      · exact ⟨eI, Ne.symm hLI, h0I⟩
      · exact N₂ p hp
    refine wpAny_mono (elt_ vs.length v _ tl _ _ _ h₂ _ _ hPv F₂ NN S.ord hn₂ (by simp)) (fun r s₄ h₄ => ?_) fun _ _ e => e
    obtain ⟨l2, us2, k2, tl', h₄, tk₄, rfl, rfl, F₄, N₄, O₄, hl2, G₄⟩ := h₄
    have inD : (D, PySem.W.listOf pss.flatten.toArray nD) ∈ ((D, PySem.W.listOf pss.flatten.toArray nD) :: (cenv.locals, oC) :: (I, oI) :: (news ++ tl)) ++ tl' := by simp
    have inC : (cenv.locals, oC) ∈ ((D, PySem.W.listOf pss.flatten.toArray nD) :: (cenv.locals, oC) :: (I, oI) :: (news ++ tl)) ++ tl' := by simp
    have inI : (I, oI) ∈ ((D, PySem.W.listOf pss.flatten.toArray nD) :: (cenv.locals, oC) :: (I, oI) :: (news ++ tl)) ++ tl' := by simp
    have sub4 : ∀ p ∈ news ++ (tl ++ tl'), p ∈ ((D, PySem.W.listOf pss.flatten.toArray nD) :: (cenv.locals, oC) :: (I, oI) :: (news ++ tl)) ++ tl' := fun p hp => by
      simp only [List.mem_append, List.mem_cons] at hp ⊢
      rcases hp with h | h | h <;> simp [h]
    have offTl' : ∀ p ∈ tl', D < p.1 ∧ cenv.locals < p.1 ∧ I < p.1 := fun p hp => ⟨O₄ (D, PySem.W.listOf pss.flatten.toArray nD) (List.mem_cons_self ..) p hp, O₄ (cenv.locals, oC) (by simp) p hp, O₄ (I, oI) (by simp) p hp⟩
    have hst₄ : St (vs.length + 1) h₄ := W.frame _ _ _ hst₂ fun b hb o e => by
      by_cases hbI : b = I
      · subst hbI; rw [eI] at e; cases e; exact (N₄ _ inI).1
      · rcases (hsrc b hb hbI).2.2.2 with ⟨o', e'⟩ | ⟨o', e'⟩
        · have q := F₂.keep b o' e'; rw [e] at q; cases q; exact F₄.keep b _ e'
        · have := (N₂ (b, o') (List.mem_append.mpr (.inl e'))).1
          rw [e] at this; cases this
          exact (N₄ (b, _) (sub4 _ (List.mem_append.mpr (.inl e')))).1
    have hC4 : h₄.Ns cenv.locals _ := hn₂.at' fun o e => by rw [eC] at e; cases e; exact (N₄ _ inC).1
    have hl2' : (l2, PySem.W.listOf us2.toArray k2) ∈ ((D, PySem.W.listOf pss.flatten.toArray nD) :: (cenv.locals, oC) :: (I, oI) :: (news ++ tl)) ++ tl' := sub4 _ (by rw [← List.append_assoc]; exact hl2)
    have offL2 : l2 ≠ D ∧ l2 ≠ cenv.locals ∧ l2 ≠ I := by
      rcases List.mem_append.mp hl2 with h | h
      · exact offAll _ h
      · have := offTl' _ h; exact ⟨Nat.ne_of_gt this.1, Nat.ne_of_gt this.2.1, Nat.ne_of_gt this.2.2⟩
    have hll : l2 < h₄.objs.size := Heap.lt_size (N₄ _ hl2').1
    have hIL : h₄.IsList l2 us2.toArray := ⟨_, (N₄ _ hl2').1, rfl, k2, rfl⟩
    have hhm : (A.mark none).handled = none := by show (none : Option Value).or A.handled = none; rw [hh]; rfl
    have W2 := Walks.list (prog := prog) (w := w) (A := A.mark none) hhm h₄.objs.size l2 (Nat.ne_of_lt hll) us2.toArray
    have old5 : ∀ (ob : Obj) b o, h₄.get? b = some o → (h₄.push ob).get? b = some o := fun ob b o e => Heap.get?_push_of_some _ e
    have lt4 : ∀ b o, h₄.get? b = some o → b ≠ h₄.objs.size := fun b o e => Nat.ne_of_lt (Heap.lt_size e)
    have eD4 := (N₄ _ inD).1
    have eC4 := (N₄ _ inC).1
    have eI4 := (N₄ _ inI).1
    have plen : pss.flatten.length ≤ vs.length * B := by
      have h1 : ∀ p ∈ pss, p.length ≤ B := fun p hp => by
        obtain ⟨j, hj, rfl⟩ := List.getElem_of_mem hp
        have hjv : j < vs.length := by rw [← S.len]; exact hj
        obtain ⟨p', e1, e2⟩ := S.G j _ (List.getElem?_eq_getElem hjv)
        rw [List.getElem?_eq_getElem hj] at e1; cases e1
        exact hB _ _ _ _ e2
      have h2 : ∀ l : List (List Value), (∀ p ∈ l, p.length ≤ B) → l.flatten.length ≤ l.length * B := by
        intro l; induction l with
        | nil => intro _; simp
        | cons q r ih => intro h; rw [List.flatten_cons, List.length_append, List.length_cons, Nat.add_mul, Nat.one_mul]; have := h q (List.mem_cons_self ..); have := ih (fun p hp => h p (List.mem_cons_of_mem _ hp)); omega
      rw [← S.len]; exact h2 pss h1
    have ulen : us2.length ≤ B := hB _ _ _ _ G₄
    have hmul : (vs.length + 1) * B ≤ n * B := Nat.mul_le_mul_right B hlt
    rw [Nat.add_mul, Nat.one_mul] at hmul
    refine wpAny_pyIter_list hIL ?_
    refine start_keep (A := A.mark none) (us := us2) (ys := pss.flatten) (mC := fun z => if z = x then some v else mC' z) (n := us2.length) (P := fun i v => us2[i]? = some v) (fp := [h₄.objs.size, l2]) (St := fun i h => h.IsListIter h₄.objs.size l2 i ∧ h.IsList l2 us2.toArray) ?w (fun _ _ h => h) rfl hy hk hdb hp hDC (Nat.ne_of_lt (Heap.lt_size eD4)) (Nat.ne_of_lt (Heap.lt_size eC4)) ?f ⟨⟨_, Heap.get?_push_size _ rfl, rfl, rfl⟩, hIL.at fun o e => Heap.get?_push_of_some _ e⟩ ⟨nD, Heap.get?_push_of_some _ eD4⟩ (hC4.at' fun o e => Heap.get?_push_of_some _ e) (by omega) ?_
    case w =>
      have e : (fun (i : Nat) (v : Value) => us2.toArray[i]? = some v) = fun i v => us2[i]? = some v := by funext i v; simp
      have e2 : us2.toArray.size = us2.length := by simp
      rw [← e, ← e2]; exact W2
    case f =>
      intro b hb hbI
      rcases List.mem_cons.mp hb with rfl | hb
      · exact absurd rfl hbI
      · rw [List.mem_singleton.mp hb]; exact ⟨offL2.1, offL2.2.1⟩
    intro h₅ tk₅ mC5 acc₅ ns₅ keep₅
    have keep : ∀ b o, b ≠ D → b ≠ cenv.locals → h₄.get? b = some o → h₅.get? b = some o := fun b o b1 b2 e => keep₅ b o b1 b2 (lt4 b o e) (Heap.get?_push_of_some _ e)
    have off' : ∀ p ∈ news ++ (tl ++ tl'), p.1 ≠ D ∧ p.1 ≠ cenv.locals := fun p hp => by
      rcases List.mem_append.mp hp with h | h
      · exact ⟨(hoff p h).1, (hoff p h).2.1⟩
      rcases List.mem_append.mp h with h | h
      · exact ⟨(offTl p h).1, (offTl p h).2.1⟩
      · exact ⟨Nat.ne_of_gt (offTl' p h).1, Nat.ne_of_gt (offTl' p h).2.1⟩
    refine ⟨n + 1 - (vs.length + 1), by omega, h₅, tk₅, mC5, pss ++ [us2], vs ++ [v], tl ++ tl', rfl, ?_, (by rw [List.length_append, List.length_singleton]; exact hlt), (by rw [List.length_append, List.length_singleton])⟩
    refine ⟨?_, ?_, ns₅, ?_, ?_, ?_, ?_, snoc_get S.P hPv, ?_, ?_⟩
    · rw [List.length_append, List.length_singleton]
      exact W.frame _ _ _ hst₄ fun b hb o e => by
        by_cases hbI : b = I
        · subst hbI; exact keep _ o (Ne.symm hDI) (Ne.symm hCI) e
        · exact keep _ o (hsrc b hb hbI).1 (hsrc b hb hbI).2.1 e
    · rw [List.flatten_append]; simpa using acc₅
    · exact ⟨F₄.ns.at' fun o e => keep _ o hLD hLC e, fun b o e => keep b o (fun q => by rw [q, h0D] at e; cases e) (fun q => by rw [q, h0C] at e; cases e) (F₄.keep b o e), F₄.above⟩
    · exact fun p hp => ⟨keep _ _ (off' p hp).1 (off' p hp).2 (N₄ p (sub4 p hp)).1, (N₄ p (sub4 p hp)).2⟩
    · refine S.ord.app (O₄.sub fun q hq => ?_)
      simp only [List.mem_append, List.mem_cons] at hq ⊢
      rcases hq with h | h <;> simp [h]
    · intro p hp
      rcases List.mem_append.mp hp with h | h
      · exact S.off p h
      · exact offTl' p h
    · rw [List.length_append, List.length_append, S.len]; rfl
    · intro j u hj
      rcases Nat.lt_trichotomy j vs.length with h1 | h1 | h1
      · rw [List.getElem?_append_left h1] at hj
        obtain ⟨y', e1, e2⟩ := S.G j u hj
        refine ⟨y', ?_, hG _ _ _ _ _ (fun p hp => ?_) e2⟩
        · rw [List.getElem?_append_left (by have := S.len; omega)]; exact e1
        · simp only [List.mem_append] at hp ⊢
          rcases hp with h | h <;> simp [h]
      · subst h1
        simp at hj; subst hj
        refine ⟨us2, by rw [← S.len]; simp, ?_⟩
        rw [← List.append_assoc]; exact G₄
      · have hnone : (vs ++ [v])[j]? = none := List.getElem?_eq_none (by rw [List.length_append, List.length_singleton]; omega)
        rw [hnone] at hj; cases hj
  · have hin : vs.length = n := by omega
    refine W.done _ _ _ (hin ▸ S.st) fun h₁ tk₁ hk₁ => ?_
    have hk₁' : ∀ b o, b ≠ I → H.get? b = some o → h₁.get? b = some o := fun b o hb e => hk₁ b o (by simpa using hb) e
    exact hR h₁ tk₁ mC' pss vs tl ⟨trivial, S.acc.at fun o e => hk₁' _ o hDI e, S.ns.at' fun o e => hk₁' _ o hCI e, Fr.but S.F hk₁' hLI h0I, News.but S.N hk₁' fun p hp => (offAll p hp).2.2, S.ord, S.off, S.P, S.len, S.G⟩ hin
/-- what is known when the block of two loops has made its list -/
structure CompDone2 (h₀ : Heap) (L : Addr) (m : Str → Option Value) (news : Led) (D : Addr) (nD n : Nat) (P : Nat → Value → Prop) (G : Led → Nat → Value → List Value → Prop) (h : Heap) (pss : List (List Value)) (vs : List Value) (tl : Led) : Prop where
  F : Fr h₀ L h m
  N : News h₀ L h ((D, PySem.W.listOf pss.flatten.toArray nD) :: (news ++ tl))
  ord : Ord news ((D, PySem.W.listOf pss.flatten.toArray nD) :: tl)
  off : ∀ p ∈ tl, D < p.1
  P : ∀ j v, vs[j]? = some v → P j v
  lenv : vs.length = n
  len : pss.length = n
  G : ∀ j v, vs[j]? = some v → ∃ p, pss[j]? = some p ∧ G (news ++ tl) j v p
theorem comp_block2 {env : Env} {iter i2 : Expr} {x y : Str} {px py py2 : Pos} {B : Nat} {scope : Scope} {cl : List (Str × Addr)} {pos : Pos} {s₂ : Shared} {I : Addr} {fp : List Addr} {n : Nat} {P : Nat → Value → Prop} {St : Nat → Heap → Prop} {news : Led}
    (W : Walks prog w A I fp [I] n P St) (G : Led → Nat → Value → List Value → Prop) (hG : ∀ l l' i v y, (∀ p ∈ l, p ∈ l') → G l i v y → G l' i v y) {RR : Value → Addr → Result → Shared → Prop}
    (hlive : ∀ i h, St i h → ∃ o, h.get? I = some o) (hh : A.handled = none) (hB : ∀ l i v p, G l i v p → p.length ≤ B) (hsz : n * B ≤ sizeLine) (hy : scope.names.lookup y = some .local) (hdb : (y == ("__debug__" : Str)) = false) (hs : ∀ C x, foldedSetIterable i2 (compEnvC scope cl C env) x = pure x)
    (hcell : ∀ y ∈ scope.names, y.2 ≠ .cell) (hkind : scope.kind = .function) (hx : scope.names.lookup x = some .local) (hst : St 0 s₂.heap) (hfp : ∀ b ∈ fp, b < s₂.heap.objs.size)
    (F : Fr h₀ L s₂.heap m) (N : News h₀ L s₂.heap news) (hLI : L ≠ I) (h0I : h₀.get? I = none) (hoff : ∀ p ∈ news, p.1 < I)
    (hsrc : ∀ b ∈ fp, b ≠ I → b ≠ L ∧ ((∃ o, h₀.get? b = some o) ∨ ∃ o, (b, o) ∈ news))
    (elt_ : ∀ i v C mC tl own h tk E', P i v → Fr h₀ L h m → News h₀ L h (own ++ (news ++ tl)) → Ord news tl → h.Ns C mC → mC x = some v → (∃ o, (C, o) ∈ own) →
      wpAny (model prog w) A (eval i2 (compEnvC scope cl C env)) (fun r s₄ => ∃ l2 us2 k2 tl' h' tk', r = .ref l2 ∧ s₄ = { s₂ with heap := h', toks := tk' } ∧ Fr h₀ L h' m ∧ News h₀ L h' ((own ++ (news ++ tl)) ++ tl') ∧ Ord (own ++ (news ++ tl)) tl' ∧ (l2, PySem.W.listOf us2.toArray k2) ∈ news ++ tl ++ tl' ∧ G (news ++ tl ++ tl') i v us2) E' { s₂ with heap := h, toks := tk })
    (hRR : ∀ D nD C h' tk mC pss vs tl, CompDone2 h₀ L m news D nD n P G h' pss vs tl → h'.Ns C mC → L ≠ C → h₀.get? C = none → (∀ p ∈ (D, PySem.W.listOf pss.flatten.toArray nD) :: (news ++ tl), p.1 ≠ C) → RR (.ref D) C (.ok .next) { s₂ with heap := h', toks := tk }) :
    wpAny (model prog w) A (newList []) (fun acc s₃ => wpAny (model prog w) A (newFunctionEnv scope env.globals cl [] env.qual none .none (some env)) (fun cenv s₄ =>
      codeAny (model prog w) A (.compStart (.ListComp (.Name y py) [⟨.Name x px, iter, [], 0⟩, ⟨.Name y py2, i2, [], 0⟩] scope pos) 0 (.ref I) acc { cenv with scope := relabel scope env }) (RR acc cenv.locals) s₄) E s₃) E s₂ := by
  refine wpAny_newObj_type (wpAny_newFunctionEnv hcell (by intro y hy; simp at hy) (fun h₁ hns₁ hsb₁ => ?_) hkind)
  dsimp only at hns₁ hsb₁ ⊢
  generalize hH2 : s₂.heap.push { cls := .type "list", dict := none, data := .seq ([] : List Value).toArray } = H2 at hns₁ hsb₁ ⊢
  have hC : H2.objs.size = s₂.heap.objs.size + 1 := by rw [← hH2, Heap.size_push]
  have hIlt : I < s₂.heap.objs.size := by obtain ⟨o, e⟩ := hlive _ _ hst; exact Heap.lt_size e
  have hLlt : L < s₂.heap.objs.size := F.ns.lt
  have hDC : s₂.heap.objs.size ≠ H2.objs.size := by rw [hC]; exact Nat.ne_of_lt (Nat.lt_succ_self _)
  have old : ∀ b o, s₂.heap.get? b = some o → h₁.get? b = some o := fun b o e => hsb₁.extBut b o (by have := Heap.lt_size e; rw [hC]; exact Nat.ne_of_lt (Nat.lt_succ_of_lt this)) (Heap.get?_push_of_some _ (hH2 ▸ Heap.get?_push_of_some _ e))
  have hacc : h₁.PlainList s₂.heap.objs.size #[] := ⟨_, hsb₁.extBut _ _ hDC (Heap.get?_push_of_some _ (hH2 ▸ Heap.get?_push_size _ rfl))⟩
  have fresh : ∀ a, s₂.heap.objs.size ≤ a → h₀.get? a = none := fun a ha => by
    cases e : h₀.get? a with
    | none => rfl
    | some o' => exact absurd (Heap.lt_size (F.keep _ _ e)) (Nat.not_lt.mpr ha)
  have F₁ : Fr h₀ L h₁ m := ⟨F.ns.at' fun o e => old _ o e, fun b o e => old b o (F.keep b o e), F.above⟩
  have N₁ : News h₀ L h₁ news := fun p hp => ⟨old _ _ (N p hp).1, (N p hp).2⟩
  have newsLt : ∀ p ∈ news, p.1 < s₂.heap.objs.size := fun p hp => Heap.lt_size (N p hp).1
  have loop : ∀ s₃ : Shared, s₃ = { s₂ with heap := h₁, toks := s₂.toks + ([] : List (Str × Value)).length } →
      codeAny (model prog w) A (.compLoop (.ListComp (.Name y py) [⟨.Name x px, iter, [], 0⟩, ⟨.Name y py2, i2, [], 0⟩] scope pos) 0 (.ref I) (.ref s₂.heap.objs.size) (compEnvC scope cl H2.objs.size env))
        (RR (.ref s₂.heap.objs.size) H2.objs.size) s₃ := by
    rintro s₃ rfl
    refine outer_led (B := B) (h₀ := h₀) (L := L) (m := m) (news := news) (cenv := compEnvC scope cl H2.objs.size env) (mC := fun x => List.lookup x ([] : List (Str × Value)).reverse) W G hG hlive hh (lookup_relabel_local hx) (lookup_relabel_local hy) hkind hdb (by simp [compEnvC, relabel, hkind])
      hDC (Nat.ne_of_gt hIlt) ?_ (Nat.ne_of_lt hLlt) ?_ hLI (fresh _ (Nat.le_refl _)) (fresh _ (by show _ ≤ H2.objs.size; rw [hC]; exact Nat.le_succ _)) h0I ?_ ?_ hB hsz ?_ ?_ ?_ (hs _)
    · show H2.objs.size ≠ I
      rw [hC]; exact Nat.ne_of_gt (Nat.lt_succ_of_lt hIlt)
    · show L ≠ H2.objs.size
      rw [hC]; exact Nat.ne_of_lt (Nat.lt_succ_of_lt hLlt)
    · intro p hp
      refine ⟨Nat.ne_of_lt (newsLt p hp), ?_, Nat.ne_of_lt (hoff p hp)⟩
      show p.1 ≠ H2.objs.size
      rw [hC]; exact Nat.ne_of_lt (Nat.lt_succ_of_lt (newsLt p hp))
    · intro b hb hbI
      refine ⟨Nat.ne_of_lt (hfp b hb), ?_, hsrc b hb hbI⟩
      show b ≠ H2.objs.size
      rw [hC]; exact Nat.ne_of_lt (Nat.lt_succ_of_lt (hfp b hb))
    · refine ⟨W.frame _ _ _ hst fun b hb o e => old b o e, hacc, hns₁, F₁, by rw [List.append_nil]; exact N₁, Ord.nil, fun _ h => (nomatch h), fun _ _ h => by simp at h, rfl, fun _ _ h => by simp at h⟩
    · intro i v mC tl oD oC oI h tk E' hP Fh Nh hO hn hm
      exact elt_ i v H2.objs.size mC tl [(s₂.heap.objs.size, oD), (H2.objs.size, oC), (I, oI)] h tk E' hP Fh Nh hO hn hm ⟨oC, by simp⟩
    · intro h' tk mC pss vs tl S hlen
      obtain ⟨nD, eD⟩ := S.acc
      have Ndone : News h₀ L h' ((s₂.heap.objs.size, PySem.W.listOf pss.flatten.toArray nD) :: (news ++ tl)) := fun p hp => by
        rcases List.mem_cons.mp hp with rfl | hp
        · exact ⟨eD, Nat.ne_of_gt hLlt, fresh _ (Nat.le_refl _)⟩
        · exact S.N p hp
      refine hRR _ nD H2.objs.size h' tk mC pss vs tl ⟨S.F, Ndone, ?_, fun p hp => (S.off p hp).1, S.P, hlen, by rw [S.len, hlen], S.G⟩ S.ns ?_ (fresh _ (by rw [hC]; exact Nat.le_succ _)) ?_
      · intro q hq p hp
        rcases List.mem_cons.mp hp with rfl | hp
        · exact newsLt q hq
        · exact S.ord q hq p hp
      · rw [hC]; exact Nat.ne_of_lt (Nat.lt_succ_of_lt hLlt)
      · intro p hp
        rcases List.mem_cons.mp hp with rfl | hp
        · exact hDC
        rcases List.mem_append.mp hp with h | h
        · rw [hC]; exact Nat.ne_of_lt (Nat.lt_succ_of_lt (newsLt p h))
        · exact Nat.ne_of_gt (S.off p h).2.1
  exact codeAny_compStart_list (loop _ rfl) (W.self 0 _ _ _ (W.frame _ _ _ hst fun b hb o e => old b o e) (loop _ rfl))
/-- what one turn of a comprehension's element gives -/
def EltAt2 (prog : Program) (w : World) (A : Around) (h₀ : Heap) (L : Addr) (m : Str → Option Value) (news : Led) (env : Env) (scope : Scope) (cl : List (Str × Addr)) (x : Str) (i2 : Expr) (us : List Value) (G : Led → Nat → Value → List Value → Prop) (s : Shared) : Prop :=
  ∀ i v C mC tl own h tk E', us[i]? = some v → Fr h₀ L h m → News h₀ L h (own ++ (news ++ tl)) → Ord news tl → h.Ns C mC → mC x = some v → (∃ o, (C, o) ∈ own) →
      wpAny (model prog w) A (eval i2 (compEnvC scope cl C env)) (fun r s₄ => ∃ l2 us2 k2 tl' h' tk', r = .ref l2 ∧ s₄ = { s with heap := h', toks := tk' } ∧ Fr h₀ L h' m ∧ News h₀ L h' ((own ++ (news ++ tl)) ++ tl') ∧ Ord (own ++ (news ++ tl)) tl' ∧ (l2, PySem.W.listOf us2.toArray k2) ∈ news ++ tl ++ tl' ∧ G (news ++ tl ++ tl') i v us2) E' { s with heap := h, toks := tk }
theorem comp_none2 {env : Env} {iter i2 : Expr} {x y : Str} {px py py2 : Pos} {B : Nat} {scope : Scope} {cl : List (Str × Addr)} {pos : Pos} {l : Addr} {us : List Value} {news : Led} {Q : Value → Shared → Prop} (hh : A.handled = none)
    (F : Fr h₀ L s.heap m) (N : News h₀ L s.heap news) (S : SrcAt h₀ L news s.heap l us) (G : Led → Nat → Value → List Value → Prop) (hG : ∀ l l' i v y, (∀ p ∈ l, p ∈ l') → G l i v y → G l' i v y) (hB : ∀ l i v p, G l i v p → p.length ≤ B) (hsz : us.length * B ≤ sizeLine) (hy : scope.names.lookup y = some .local) (hdb : (y == ("__debug__" : Str)) = false) (hs : ∀ C x, foldedSetIterable i2 (compEnvC scope cl C env) x = pure x)
    (hcell : ∀ y ∈ scope.names, y.2 ≠ .cell) (hkind : scope.kind = .function) (hx : scope.names.lookup x = some .local)
    (elt_ : EltAt2 prog w A h₀ L m news env scope cl x i2 us G s)
    (hQ : ∀ D nD h' tk pss tl, CompDone2 h₀ L m news D nD us.length (fun i v => us[i]? = some v) G h' pss us tl → Q (.ref D) { s with heap := h', toks := tk }) :
    wpAny (model prog w) A (pyIter (.ref l)) (fun it s₂ => wpAny (model prog w) A (newList []) (fun acc s₃ => wpAny (model prog w) A (newFunctionEnv scope env.globals cl [] env.qual none .none (some env)) (fun cenv s₄ =>
      codeAny (model prog w) A (.compStart (.ListComp (.Name y py) [⟨.Name x px, iter, [], 0⟩, ⟨.Name y py2, i2, [], 0⟩] scope pos) 0 it acc { cenv with scope := relabel scope env }) (compPost (model prog w) A E none Q acc cenv.locals) s₄) E s₃) E s₂) E s := by
  refine src_walks hh F N S fun h' I St F₁ N₁ W hlive hst hfp hLI h0I hoff => ?_
  obtain ⟨_, hL, hsrc⟩ := S
  refine comp_block2 (RR := fun acc C => compPost (model prog w) A E none Q acc C) W G hG hlive hh hB hsz hy hdb hs hcell hkind hx hst hfp F₁ N₁ hLI h0I hoff ?_ ?_ ?_
  · intro b hb hbI
    rcases List.mem_cons.mp hb with rfl | hb
    · exact absurd rfl hbI
    · rw [List.mem_singleton.mp hb]; exact ⟨hL, hsrc⟩
  · exact elt_
  · intro D nD C h₁ tk mC pss vs tl Z hn hLC h0C hoffC
    have hv : vs = us := list_ext_of Z.P Z.lenv
    subst hv
    refine ⟨mC, hn, fun h₂ hs => hQ D nD h₂ tk pss tl ⟨Fr.but Z.F (fun b o hb e => (hs.2 b hb).trans e) hLC h0C, News.but Z.N (fun b o hb e => (hs.2 b hb).trans e) hoffC, Z.ord, Z.off, Z.P, Z.lenv, Z.len, Z.G⟩⟩
theorem ListComp_led2 {env : Env} {iter i2 : Expr} {x y : Str} {px py py2 : Pos} {scope : Scope} {cl : List (Str × Addr)} {pos : Pos} {Q : Value → Shared → Prop}
    (hclos : closureFor scope env = pure cl) (hkind : scope.kind = .function) (hnames : ∀ y ∈ scope.names, y.2 = .local → scope.names.lookup y.1 = some .local)
    (h : wpAny (model prog w) A (eval iter env) (fun xv s₁ => wpAny (model prog w) A (pyIter xv) (fun it s₂ => wpAny (model prog w) A (newList []) (fun acc s₃ => wpAny (model prog w) A (newFunctionEnv scope env.globals cl [] env.qual none .none (some env)) (fun cenv s₄ =>
      codeAny (model prog w) A (.compStart (.ListComp (.Name y py) [⟨.Name x px, iter, [], 0⟩, ⟨.Name y py2, i2, [], 0⟩] scope pos) 0 it acc { cenv with scope := relabel scope env }) (compPost (model prog w) A E none Q acc cenv.locals) s₄) E s₃) E s₂) E s₁) E s)
    (hs : ∀ x, foldedSetIterable iter env x = pure x := by intro _; rfl) :
    wpAny (model prog w) A (eval (.ListComp (.Name y py) [⟨.Name x px, iter, [], 0⟩, ⟨.Name y py2, i2, [], 0⟩] scope pos) env) Q E s := by
  rw [eval_ListComp]
  exact wpAny_comprehension_free (use := none) rfl hs hclos hkind hnames h
end
end Mine
namespace Mine
section
variable {prog : Program} {w : World} {A : Around} {E : Value → Shared → Prop} {s : Shared} {env : Env} {h₀ : Heap} {x : Str} {body : List Stmt} {Q : Flow → Shared → Prop}
/-- a loop over range(n); (l, o) stands in the ledger all along -/
theorem for_range {r l : Addr} {o : Obj} {t u v : Tok} {b : Int} {n : Nat} {m₀ : Str → Option Value} {news : Led} (J : Nat → (Str → Option Value) → Led → Prop)
    (hh : A.handled = none) (hr : IsRange s.heap r 0 b 1 t u v) (hsm : Builtin.Range.small 0 b 1 = true) (hrs : Builtin.Range.rangeSize 0 b 1 = ((n : Nat) : Int)) (hl : (l, o) ∈ news) (F : Fr h₀ env.locals s.heap m₀) (N : News h₀ env.locals s.heap news) (hj : J 0 m₀ news)
    (turn : ∀ i t m₁ nx h tk own, i < n → OwnOff own (nx.map (·.1)) → (l, o) ∈ nx → J i m₁ nx → Fr h₀ env.locals h (fun y => if y = x then some (.int ((i : Nat) : Int) t) else m₁ y) → News h₀ env.locals h (nx ++ own) →
      wpAny (model prog w) A (execs body env) (GenPost h₀ env.locals (J (i + 1)) (l, o) own { s with heap := h, toks := tk } Q) E { s with heap := h, toks := tk })
    (done : ∀ m₁ nx h tk, J n m₁ nx → Fr h₀ env.locals h m₁ → News h₀ env.locals h nx → Q .next { s with heap := h, toks := tk }) :
    wpAny (model prog w) A (pyIter (.ref r)) (fun it s₂ => LoopAtV prog w A h₀ env x body Q E it s₂) E s := by
  refine wpAny_pyIter_range hr hsm ?_
  have W := LCg.range_walks (prog := prog) (w := w) (I := s.heap.objs.size) hh 0 n
  have hLI : env.locals ≠ s.heap.objs.size := Nat.ne_of_lt F.ns.lt
  have h0I : h₀.get? s.heap.objs.size = none := next_is_new F
  refine ⟨s.heap.objs.size, _, _, n, _, _, m₀, news, (fun i m nx => (l, o) ∈ nx ∧ J i m nx), rfl, W, ?_, ?_, ?_, ?_, F.push _, (fun p hp => ⟨Heap.get?_push_of_some _ (N p hp).1, (N p hp).2⟩), ⟨hl, hj⟩, ?_, ?_⟩
  · intro hm
    exact hLI (List.mem_singleton.mp hm)
  · intro b hb
    rw [List.mem_singleton.mp hb]; exact h0I
  · intro p hp hI
    exact Nat.ne_of_lt (Heap.lt_size (N p hp).1) (List.mem_singleton.mp hI)
  · show IsRangeIter _ _ _ _ _
    rw [hrs]; simpa using Heap.get?_push_size _ rfl
  · rintro i v m₁ news₁ s₁ own ⟨hh', tk', rfl⟩ hin ⟨tv, rfl⟩ ⟨hl₁, hJ⟩ hoff₁ hown hget hfp₁ hst₁ F₂ N₂
    have hoI : hh'.get? s.heap.objs.size = some _ := hst₁
    have hsep : OwnOff own (news₁.map (·.1)) := by
      intro p hp b hb e
      obtain ⟨q, hq, rfl⟩ := List.mem_map.mp hb
      exact hoff₁ q hq (e ▸ hown p hp)
    have N₃ : News h₀ env.locals hh' (news₁ ++ own) := fun p hp => N₂ p ((List.mem_append.mp hp).elim (fun h => List.mem_append.mpr (.inr h)) fun h => List.mem_append.mpr (.inl h))
    rw [Int.zero_add] at F₂
    refine wpAny_mono (turn i tv m₁ news₁ hh' tk' _ hin hsep hl₁ hJ F₂ N₃) (fun f s₂ p => ?_) fun _ _ e => e
    have fin : GenEnd h₀ env.locals (J (i + 1)) (l, o) own { s with heap := hh', toks := tk' } s₂ →
        LoopStepU h₀ env.locals [s.heap.objs.size] own (fun m nx => (l, o) ∈ nx ∧ J (i + 1) m nx) { s with heap := hh', toks := tk' } .next s₂ := by
      rintro ⟨h'', tk, m', nx, e, F', N', hq, ha, hm⟩
      refine ⟨rfl, h'', tk, m', nx, e, F', fun p hp => ?_, fun p hp hq' => ?_, hq, hm⟩
      · rcases List.mem_append.mp hp with h | h
        · exact N' p (List.mem_append.mpr (.inr h))
        · exact N' p (List.mem_append.mpr (.inl h))
      · exact ha _ (hfp₁ _ (List.mem_singleton.mpr rfl) h0I _ hoI) p.1 (List.mem_map.mpr ⟨p, hp, rfl⟩) (List.mem_singleton.mp hq').symm
    cases f with
    | ret v => exact .ret p
    | brk => exact .brk p
    | next => exact .next (fin p)
    | cont => exact .cont (fin p)
  · rintro h'' tk m' news' F' N' _ ⟨_, hJ⟩
    exact done m' news' h'' tk hJ F' N'
theorem for_rangeM {r l : Addr} {o : Obj} {t u v : Tok} {b : Int} {n : Nat} {m₀ : Str → Option Value} {news : Led} (J : (Str → Option Value) → Nat → (Str → Option Value) → Led → Prop)
    (hh : A.handled = none) (hr : IsRange s.heap r 0 b 1 t u v) (hsm : Builtin.Range.small 0 b 1 = true) (hrs : Builtin.Range.rangeSize 0 b 1 = ((n : Nat) : Int)) (hl : (l, o) ∈ news) (F : Fr h₀ env.locals s.heap m₀) (N : News h₀ env.locals s.heap news) (hj : J m₀ 0 m₀ news)
    (turn : ∀ i t m₁ nx h tk own, i < n → OwnOff own (nx.map (·.1)) → (l, o) ∈ nx → J m₀ i m₁ nx → Fr h₀ env.locals h (fun y => if y = x then some (.int ((i : Nat) : Int) t) else m₁ y) → News h₀ env.locals h (nx ++ own) →
      wpAny (model prog w) A (execs body env) (GenPost h₀ env.locals (J m₀ (i + 1)) (l, o) own { s with heap := h, toks := tk } Q) E { s with heap := h, toks := tk })
    (done : ∀ m₁ nx h tk, J m₀ n m₁ nx → Fr h₀ env.locals h m₁ → News h₀ env.locals h nx → Q .next { s with heap := h, toks := tk }) :
    wpAny (model prog w) A (pyIter (.ref r)) (fun it s₂ => LoopAtV prog w A h₀ env x body Q E it s₂) E s := for_range (J m₀) hh hr hsm hrs hl F N hj turn done
theorem for_genM {l : Addr} {o : Obj} {vs : List Value} {m₀ : Str → Option Value} {news : Led} (J : (Str → Option Value) → Nat → (Str → Option Value) → Led → Prop)
    (hh : A.handled = none) (hl : (l, o) ∈ news) (ho : SeqOf o vs) (F : Fr h₀ env.locals s.heap m₀) (N : News h₀ env.locals s.heap news) (hj : J m₀ 0 m₀ news)
    (turn : ∀ i v m₁ nx h tk own, vs[i]? = some v → OwnOff own (nx.map (·.1)) → (l, o) ∈ nx → J m₀ i m₁ nx → Fr h₀ env.locals h (fun y => if y = x then some v else m₁ y) → News h₀ env.locals h (nx ++ own) →
      wpAny (model prog w) A (execs body env) (GenPost h₀ env.locals (J m₀ (i + 1)) (l, o) own { s with heap := h, toks := tk } Q) E { s with heap := h, toks := tk })
    (done : ∀ m₁ nx h tk, J m₀ vs.length m₁ nx → Fr h₀ env.locals h m₁ → News h₀ env.locals h nx → Q .next { s with heap := h, toks := tk }) :
    wpAny (model prog w) A (pyIter (.ref l)) (fun it s₂ => LoopAtV prog w A h₀ env x body Q E it s₂) E s := for_gen (J m₀) hh hl ho F N hj turn done
theorem env3_start (a b c : Str) (m : Str → Option Value) : m = fun y => if y = a then m a else if y = b then m b else if y = c then m c else m y := by
  funext y
  by_cases h1 : y = a
  · rw [if_pos h1, h1]
  · by_cases h2 : y = b
    · rw [if_neg h1, if_pos h2, h2]
    · by_cases h3 : y = c
      · rw [if_neg h1, if_neg h2, if_pos h3, h3]
      · rw [if_neg h1, if_neg h2, if_neg h3]
theorem env3_turn {a b c : Str} (m : Str → Option Value) (ua ub uc va vb vc : Option Value) : (fun y => if y = a then va else if y = b then vb else if y = c then vc else if y = a then ua else if y = b then ub else if y = c then uc else m y) = fun y => if y = a then va else if y = b then vb else if y = c then vc else m y := by
  funext y
  by_cases h1 : y = a
  · simp [h1]
  · by_cases h2 : y = b
    · simp [h1, h2]
    · by_cases h3 : y = c
      · simp [h1, h2, h3]
      · simp [h1, h2, h3]
end
end Mine
namespace Mine
section
variable {prog : Program} {w : World} {A : Around} {E : Value → Shared → Prop} {s : Shared} {env : Env} {h₀ : Heap} {x : Str} {px : Pos} {body : List Stmt} {Q : Flow → Shared → Prop}
/-- a loop over a list whose name is stored by hand (a cell) -/
theorem for_cell {l : Addr} {o : Obj} {vs : List Value} {m₀ : Str → Option Value} {news : Led} (J : (Str → Option Value) → Nat → (Str → Option Value) → Led → Prop)
    (hh : A.handled = none) (hl : (l, o) ∈ news) (ho : SeqOf o vs) (F : Fr h₀ env.locals s.heap m₀) (N : News h₀ env.locals s.heap news) (hj : J m₀ 0 m₀ news)
    (turn : ∀ i v m₁ nx s₁ own, vs[i]? = some v → OwnOff own (nx.map (·.1)) → (l, o) ∈ nx → J m₀ i m₁ nx → Fr h₀ env.locals s₁.heap m₁ → News h₀ env.locals s₁.heap (nx ++ own) →
      wpAny (model prog w) A (assign (.Name x px) env v) (fun _ s₃ => wpAny (model prog w) A (execs body env) (fun f s₂ => f = .next ∧ GenEnd h₀ env.locals (J m₀ (i + 1)) (l, o) own s₁ s₂) E s₃) E s₁)
    (done : ∀ m₁ nx h tk, J m₀ vs.length m₁ nx → Fr h₀ env.locals h m₁ → News h₀ env.locals h nx → Q .next { s with heap := h, toks := tk }) :
    wpAny (model prog w) A (pyIter (.ref l)) (fun it s₂ => LoopAtT prog w A h₀ env (.Name x px) body Q E it s₂) E s := by
  refine src_walks hh F N (ho.src N hl) fun h' I St F₁ N₁ W hlive hst hfp hLI h0I hoff => ?_
  have hlL : l ≠ env.locals := (N _ hl).2.1
  have hlI : l < I := hoff _ hl
  refine ⟨I, _, _, vs.length, _, St, m₀, news, (fun i m nx => (l, o) ∈ nx ∧ J m₀ i m nx), rfl, W, ?_, ?_, ?_, hst, F₁, N₁, ?_, ⟨hl, hj⟩, ?_, ?_⟩
  · intro hm
    rcases List.mem_cons.mp hm with e | hm
    · exact hLI e
    · exact hlL (List.mem_singleton.mp hm).symm
  · intro b hb
    rw [List.mem_singleton.mp hb]; exact h0I
  · intro p hp hI
    exact Nat.ne_of_lt (hoff p hp) (List.mem_singleton.mp hI)
  · intro i s' v Q' _ hq
    exact wpAny_pure hq
  · rintro i v m₁ news₁ s₁ own hin hP ⟨hl₁, hJ⟩ hoff₁ hown hget hfp₁ hst₁ F₂ N₂
    obtain ⟨oI, hoI⟩ := hlive _ _ hst₁
    have hIown : (I, oI) ∈ own.filter fun p => decide (p.1 = I) := List.mem_filter.mpr ⟨hfp₁ _ (List.mem_cons.mpr (.inl rfl)) h0I _ hoI, by simp⟩
    have hsep : OwnOff (own.filter fun p => decide (p.1 = I)) (news₁.map (·.1)) := by
      intro p hp b hb e
      obtain ⟨q, hq, rfl⟩ := List.mem_map.mp hb
      have h1 : p.1 = I := by simpa using (List.mem_filter.mp hp).2
      exact hoff₁ q hq (List.mem_singleton.mpr (e ▸ h1))
    have N₃ : News h₀ env.locals s₁.heap (news₁ ++ own.filter fun p => decide (p.1 = I)) := fun p hp => N₂ p ((List.mem_append.mp hp).elim (fun h => List.mem_append.mpr (.inr h)) fun h => List.mem_append.mpr (.inl ((List.mem_filter.mp h).1)))
    have hlo : s₁.heap.get? l = some o := (N₂ _ (List.mem_append.mpr (.inr hl₁))).1
    refine wpAny_mono (turn i v m₁ news₁ s₁ _ hP hsep hl₁ hJ F₂ N₃) (fun _ s₃ q => wpAny_mono q (fun f s₂ p => ?_) fun _ _ e => e) fun _ _ e => e
    obtain ⟨rfl, h'', tk, m', nx, e, F', N', hq, ha, hm⟩ := p
    refine ⟨rfl, h'', tk, m', nx, e, F', fun p hp => ?_, fun p hp hq' => ?_, hq, hm⟩
    · rcases List.mem_append.mp hp with h | h
      · by_cases hI : p.1 = I
        · exact N' p (List.mem_append.mpr (.inr (List.mem_filter.mpr ⟨h, by simpa using hI⟩)))
        · have h1 : p.1 = l := by
            rcases List.mem_cons.mp (hown p h) with h2 | h2
            · exact absurd h2 hI
            · exact List.mem_singleton.mp h2
          have h2 : s₁.heap.get? p.1 = some p.2 := hget p h
          rw [h1, hlo] at h2
          have h3 : p = (l, o) := Prod.ext h1 (Option.some.inj h2).symm
          rw [h3]
          exact N' _ (List.mem_append.mpr (.inl hq))
      · exact N' p (List.mem_append.mpr (.inl h))
    · exact ha _ hIown p.1 (List.mem_map.mpr ⟨p, hp, rfl⟩) (List.mem_singleton.mp hq').symm
  · rintro h'' tk m' news' F' N' _ ⟨_, hJ⟩
    exact done m' news' h'' tk hJ F' N'
end
section
variable {prog : Program} {w : World} {A : Around} {E : Value → Shared → Prop} {R : Result → Shared → Prop} {s : Shared} {h₀ : Heap} {L : Addr} {m : Str → Option Value}
/-- what stands in a comprehension with one test between two turns -/
structure FilSt (h₀ : Heap) (L : Addr) (m : Str → Option Value) (news : Led) (D C : Addr) (St : Nat → Heap → Prop) (us : List Value) (b : Nat → Bool) (h : Heap) (mC : Str → Option Value) (i : Nat) : Prop where
  st : St i h
  acc : h.PlainList D (((us.take i).zipIdx.filter fun p => b p.2).map (·.1)).toArray
  ns : h.Ns C mC
  F : Fr h₀ L h m
  N : News h₀ L h news
theorem fil_snoc {us : List Value} {b : Nat → Bool} {i : Nat} {v : Value} (h : us[i]? = some v) : ((us.take (i + 1)).zipIdx.filter fun p => b p.2).map (·.1) = ((us.take i).zipIdx.filter fun p => b p.2).map (·.1) ++ if b i then [v] else [] := by
  have hi : i < us.length := (List.getElem?_eq_some_iff.mp h).1
  rw [List.take_add_one, h, Option.toList_some, List.zipIdx_append, List.filter_append, List.map_append]
  congr 1
  rw [List.length_take, Nat.min_eq_left (Nat.le_of_lt hi)]
  cases hb : b i <;> simp [hb]
theorem filLoop {c iter : Expr} {x : Str} {px py : Pos} {scope : Scope} {pos : Pos} {I D : Addr} {fp : List Addr} {St : Nat → Heap → Prop} {cenv : Env} {news : Led} {mC : Str → Option Value} {us : List Value} {b : Nat → Bool}
    (W : Walks prog w A I fp [I] us.length (fun i v => us[i]? = some v) St)
    (hlive : ∀ i h, St i h → ∃ o, h.get? I = some o)
    (hx : cenv.kindOf x = some .local) (hk : cenv.scope.kind = .function) (hdb : (x == ("__debug__" : Str)) = false)
    (hDC : D ≠ cenv.locals) (hDI : D ≠ I) (hCI : cenv.locals ≠ I) (hLD : L ≠ D) (hLC : L ≠ cenv.locals) (hLI : L ≠ I) (h0D : h₀.get? D = none) (h0C : h₀.get? cenv.locals = none) (h0I : h₀.get? I = none)
    (hoff : ∀ p ∈ news, p.1 ≠ D ∧ p.1 ≠ cenv.locals ∧ p.1 ≠ I)
    (hsrc : ∀ b ∈ fp, b ≠ I → b ≠ D ∧ b ≠ cenv.locals ∧ b ≠ L ∧ ((∃ o, h₀.get? b = some o) ∨ ∃ o, (b, o) ∈ news))
    (hS : FilSt h₀ L m news D cenv.locals St us b s.heap mC 0)
    (test_ : ∀ i v mC oD oC oI h tk E', us[i]? = some v → Fr h₀ L h m → News h₀ L h ((D, oD) :: (cenv.locals, oC) :: (I, oI) :: news) → h.Ns cenv.locals mC → mC x = some v →
      wpAny (model prog w) A (isTrue c cenv (eval c cenv)) (fun y s₄ => y = b i ∧ ∃ h' tk', s₄ = { s with heap := h', toks := tk' } ∧ Fr h₀ L h' m ∧ News h₀ L h' ((D, oD) :: (cenv.locals, oC) :: (I, oI) :: news)) E' { s with heap := h, toks := tk })
    (hR : ∀ h' tk mC', FilSt h₀ L m news D cenv.locals (fun _ _ => True) us b h' mC' us.length → R (.ok .next) { s with heap := h', toks := tk })
    (hsz : us.length ≤ sizeLine) :
    codeAny (model prog w) A (.compLoop (.ListComp (.Name x py) [⟨.Name x px, iter, [c], 0⟩] scope pos) 0 (.ref I) (.ref D) cenv) R s := by
  have hp : (cenv.scope.kind == .class || (cenv.scope.kind == .module && cenv.locals != cenv.globals)) = false := by rw [hk]; rfl
  refine codeAny_compLoop_tests
    (fun k s' => ∃ h' tk mC' i, s' = { s with heap := h', toks := tk } ∧ FilSt h₀ L m news D cenv.locals St us b h' mC' i ∧ i ≤ us.length ∧ k = us.length + 1 - i) ?_ (us.length + 1)
    ⟨s.heap, s.toks, mC, 0, rfl, hS, Nat.zero_le _, rfl⟩
  rintro k s' ⟨H, tk, mC', i, rfl, S, hi, rfl⟩
  by_cases hlt : i < us.length
  · refine W.item i _ _ _ hlt S.st fun v h₁ tk₁ hPv hst₁ hk₁ => ?_
    have hk₁' : ∀ b o, b ≠ I → H.get? b = some o → h₁.get? b = some o := fun b o hb e => hk₁ b o (by simpa using hb) e
    have F₁ : Fr h₀ L h₁ m := Fr.but S.F hk₁' hLI h0I
    have N₁ : News h₀ L h₁ news := News.but S.N hk₁' fun p hp => (hoff p hp).2.2
    refine wpAny_assign_Name (wpAny_storeName_local hx (S.ns.at' fun o e => hk₁' _ o hCI e) (fun h₂ hn₂ hs₂ => ?_) hp)
    have hk₂ : ∀ b o, b ≠ cenv.locals → h₁.get? b = some o → h₂.get? b = some o := fun b o hb e => (hs₂.2 b hb).trans e
    have F₂ : Fr h₀ L h₂ m := Fr.but F₁ hk₂ hLC h0C
    have N₂ : News h₀ L h₂ news := News.but N₁ hk₂ fun p hp => (hoff p hp).2.1
    have acc₂ : h₂.PlainList D _ := S.acc.at fun o e => hk₂ _ o hDC (hk₁' _ o hDI e)
    have hst₂ : St (i + 1) h₂ := W.frame _ _ _ hst₁ fun b hb o e => hk₂ b o (by
      by_cases hbI : b = I
      · exact hbI ▸ Ne.symm hCI
      · exact (hsrc b hb hbI).2.1) e
    obtain ⟨nD, eD⟩ := acc₂
    obtain ⟨oI, eI⟩ := hlive _ _ hst₂
    obtain ⟨oC, _, _, eC, _⟩ := id hn₂
    have NN : News h₀ L h₂ ((D, listOf (((us.take i).zipIdx.filter fun p => b p.2).map (·.1)).toArray nD) :: (cenv.locals, oC) :: (I, oI) :: news) := by
      intro p hp
      rcases List.mem_cons.mp hp with rfl | hp
      · exact ⟨eD, Ne.symm hLD, h0D⟩
      rcases List.mem_cons.mp hp with rfl | hp
      · exact ⟨eC, Ne.symm hLC, h0C⟩
      rcases List.mem_cons.mp hp with rfl | hp
      · exact ⟨eI, Ne.symm hLI, h0I⟩
      · exact N₂ p hp
    rw [List.forIn_cons]
    refine wpAny_bind ?_
    rw [if_pos rfl]
    refine wpAny_bind (wpAny_mono (test_ i v _ _ _ _ h₂ _ _ hPv F₂ NN hn₂ (by simp)) (fun y s₄ h₄ => ?_) fun _ _ e => e)
    obtain ⟨rfl, h₄, tk₄, rfl, F₄, N₄⟩ := h₄
    refine wpAny_pure ?_
    dsimp only
    rw [List.forIn_nil]
    refine wpAny_pure ?_
    have inD := N₄ (D, _) (List.mem_cons_self ..)
    have inC := N₄ (cenv.locals, oC) (by simp)
    have inI := N₄ (I, oI) (by simp)
    have hst₄ : St (i + 1) h₄ := W.frame _ _ _ hst₂ fun b hb o e => by
      by_cases hbI : b = I
      · subst hbI; rw [eI] at e; cases e; exact inI.1
      · rcases (hsrc b hb hbI).2.2.2 with ⟨o', e'⟩ | ⟨o', e'⟩
        · have q := F₂.keep b o' e'; rw [e] at q; cases q; exact F₄.keep b _ e'
        · have := (N₂ (b, o') e').1
          rw [e] at this; cases this
          exact (N₄ (b, _) (by simp [e'])).1
    have hC4 : h₄.Ns cenv.locals (fun z => if z = x then some v else mC' z) := hn₂.at' fun o e => by rw [eC] at e; cases e; exact inC.1
    have N4' : News h₀ L h₄ news := News.sub N₄ fun p hp => by simp [hp]
    cases hb : b i with
    | false =>
      rw [if_neg Bool.false_ne_true]
      refine ⟨us.length + 1 - (i + 1), by omega, h₄, tk₄, _, i + 1, rfl, ⟨hst₄, ?_, hC4, F₄, N4'⟩, hlt, rfl⟩
      rw [fil_snoc hPv, hb]
      exact ⟨nD, by simpa using inD.1⟩
    | true =>
      rw [if_pos rfl]
      refine wpAny_Name (wpAny_loadName_local (v := v) hk hx hC4 (by simp) ?_) hdb
      have hlen : (((us.take i).zipIdx.filter fun p => b p.2).map (·.1)).length ≤ sizeLine := by
        have h1 := List.length_filter_le (fun p : Value × Nat => b p.2) ((us.take i).zipIdx)
        rw [List.length_zipIdx, List.length_take] at h1
        rw [List.length_map]; omega
      refine wpAny_list_append_plain (items := (((us.take i).zipIdx.filter fun p => b p.2).map (·.1)).toArray) (hsz := by simpa using hlen) ⟨nD, inD.1⟩ fun h₅ hl₅ hs₅ => ?_
      have hk₅ : ∀ b o, b ≠ D → h₄.get? b = some o → h₅.get? b = some o := fun b o hb e => (hs₅.2 b hb).trans e
      refine ⟨us.length + 1 - (i + 1), by omega, h₅, tk₄, _, i + 1, rfl, ⟨?_, ?_, hC4.at' fun o e => hk₅ _ o (Ne.symm hDC) e, Fr.but F₄ hk₅ hLD h0D, News.but N4' hk₅ fun p hp => (hoff p hp).1⟩, hlt, rfl⟩
      · exact W.frame _ _ _ hst₄ fun b hb o e => hk₅ b o (by
          by_cases hbI : b = I
          · exact hbI ▸ Ne.symm hDI
          · exact (hsrc b hb hbI).1) e
      · rw [fil_snoc hPv, hb, if_pos rfl]
        simpa using hl₅
  · have hin : i = us.length := by omega
    subst hin
    refine W.done _ _ _ S.st fun h₁ tk₁ hk₁ => ?_
    have hk₁' : ∀ b o, b ≠ I → H.get? b = some o → h₁.get? b = some o := fun b o hb e => hk₁ b o (by simpa using hb) e
    exact hR h₁ tk₁ mC' ⟨trivial, S.acc.at fun o e => hk₁' _ o hDI e, S.ns.at' fun o e => hk₁' _ o hCI e, Fr.but S.F hk₁' hLI h0I, News.but S.N hk₁' fun p hp => (hoff p hp).2.2⟩
/-- what one turn's test gives -/
def TestAt (prog : Program) (w : World) (A : Around) (h₀ : Heap) (L : Addr) (m : Str → Option Value) (news : Led) (env : Env) (scope : Scope) (cl : List (Str × Addr)) (x : Str) (c : Expr) (us : List Value) (b : Nat → Bool) (s : Shared) : Prop :=
  ∀ i v C mC own h tk E', us[i]? = some v → Fr h₀ L h m → News h₀ L h (own ++ news) → h.Ns C mC → mC x = some v → (∃ o, (C, o) ∈ own) →
      wpAny (model prog w) A (isTrue c (compEnvC scope cl C env) (eval c (compEnvC scope cl C env))) (fun y s₄ => y = b i ∧ ∃ h' tk', s₄ = { s with heap := h', toks := tk' } ∧ Fr h₀ L h' m ∧ News h₀ L h' (own ++ news)) E' { s with heap := h, toks := tk }
theorem fil_block {env : Env} {c iter : Expr} {x : Str} {px py : Pos} {scope : Scope} {cl : List (Str × Addr)} {pos : Pos} {s₂ : Shared} {I : Addr} {fp : List Addr} {us : List Value} {St : Nat → Heap → Prop} {news : Led}
    (W : Walks prog w A I fp [I] us.length (fun i v => us[i]? = some v) St) (b : Nat → Bool) {RR : Value → Addr → Result → Shared → Prop}
    (hlive : ∀ i h, St i h → ∃ o, h.get? I = some o) (hsz : us.length ≤ sizeLine)
    (hcell : ∀ y ∈ scope.names, y.2 ≠ .cell) (hkind : scope.kind = .function) (hx : scope.names.lookup x = some .local) (hdb : (x == ("__debug__" : Str)) = false) (hst : St 0 s₂.heap) (hfp : ∀ b ∈ fp, b < s₂.heap.objs.size)
    (F : Fr h₀ L s₂.heap m) (N : News h₀ L s₂.heap news) (hLI : L ≠ I) (h0I : h₀.get? I = none) (hoff : ∀ p ∈ news, p.1 < I)
    (hsrc : ∀ b ∈ fp, b ≠ I → b ≠ L ∧ ((∃ o, h₀.get? b = some o) ∨ ∃ o, (b, o) ∈ news))
    (test_ : TestAt prog w A h₀ L m news env scope cl x c us b s₂)
    (hRR : ∀ D nD C h' tk mC, Fr h₀ L h' m → News h₀ L h' ((D, listOf ((us.zipIdx.filter fun p => b p.2).map (·.1)).toArray nD) :: news) → (∀ p ∈ news, p.1 < D) → h'.Ns C mC → L ≠ C → h₀.get? C = none → (∀ p ∈ (D, listOf ((us.zipIdx.filter fun p => b p.2).map (·.1)).toArray nD) :: news, p.1 ≠ C) → RR (.ref D) C (.ok .next) { s₂ with heap := h', toks := tk }) :
    wpAny (model prog w) A (newList []) (fun acc s₃ => wpAny (model prog w) A (newFunctionEnv scope env.globals cl [] env.qual none .none (some env)) (fun cenv s₄ =>
      codeAny (model prog w) A (.compStart (.ListComp (.Name x py) [⟨.Name x px, iter, [c], 0⟩] scope pos) 0 (.ref I) acc { cenv with scope := relabel scope env }) (RR acc cenv.locals) s₄) E s₃) E s₂ := by
  refine wpAny_newObj_type (wpAny_newFunctionEnv hcell (by intro y hy; simp at hy) (fun h₁ hns₁ hsb₁ => ?_) hkind)
  dsimp only at hns₁ hsb₁ ⊢
  generalize hH2 : s₂.heap.push { cls := .type "list", dict := none, data := .seq ([] : List Value).toArray } = H2 at hns₁ hsb₁ ⊢
  have hC : H2.objs.size = s₂.heap.objs.size + 1 := by rw [← hH2, Heap.size_push]
  have hIlt : I < s₂.heap.objs.size := by obtain ⟨o, e⟩ := hlive _ _ hst; exact Heap.lt_size e
  have hLlt : L < s₂.heap.objs.size := F.ns.lt
  have hDC : s₂.heap.objs.size ≠ H2.objs.size := by rw [hC]; exact Nat.ne_of_lt (Nat.lt_succ_self _)
  have old : ∀ b o, s₂.heap.get? b = some o → h₁.get? b = some o := fun b o e => hsb₁.extBut b o (by have := Heap.lt_size e; rw [hC]; exact Nat.ne_of_lt (Nat.lt_succ_of_lt this)) (Heap.get?_push_of_some _ (hH2 ▸ Heap.get?_push_of_some _ e))
  have hacc : h₁.PlainList s₂.heap.objs.size #[] := ⟨_, hsb₁.extBut _ _ hDC (Heap.get?_push_of_some _ (hH2 ▸ Heap.get?_push_size _ rfl))⟩
  have fresh : ∀ a, s₂.heap.objs.size ≤ a → h₀.get? a = none := fun a ha => by
    cases e : h₀.get? a with
    | none => rfl
    | some o' => exact absurd (Heap.lt_size (F.keep _ _ e)) (Nat.not_lt.mpr ha)
  have F₁ : Fr h₀ L h₁ m := ⟨F.ns.at' fun o e => old _ o e, fun b o e => old b o (F.keep b o e), F.above⟩
  have N₁ : News h₀ L h₁ news := fun p hp => ⟨old _ _ (N p hp).1, (N p hp).2⟩
  have newsLt : ∀ p ∈ news, p.1 < s₂.heap.objs.size := fun p hp => Heap.lt_size (N p hp).1
  have loop : ∀ s₃ : Shared, s₃ = { s₂ with heap := h₁, toks := s₂.toks + ([] : List (Str × Value)).length } →
      codeAny (model prog w) A (.compLoop (.ListComp (.Name x py) [⟨.Name x px, iter, [c], 0⟩] scope pos) 0 (.ref I) (.ref s₂.heap.objs.size) (compEnvC scope cl H2.objs.size env))
        (RR (.ref s₂.heap.objs.size) H2.objs.size) s₃ := by
    rintro s₃ rfl
    refine filLoop (h₀ := h₀) (L := L) (m := m) (news := news) (cenv := compEnvC scope cl H2.objs.size env) (mC := fun x => List.lookup x ([] : List (Str × Value)).reverse) (b := b) W hlive (lookup_relabel_local hx) (by simp [compEnvC, relabel, hkind]) hdb
      hDC (Nat.ne_of_gt hIlt) ?_ (Nat.ne_of_lt hLlt) ?_ hLI (fresh _ (Nat.le_refl _)) (fresh _ (by show _ ≤ H2.objs.size; rw [hC]; exact Nat.le_succ _)) h0I ?_ ?_ ?_ ?_ ?_ hsz
    · show H2.objs.size ≠ I
      rw [hC]; exact Nat.ne_of_gt (Nat.lt_succ_of_lt hIlt)
    · show L ≠ H2.objs.size
      rw [hC]; exact Nat.ne_of_lt (Nat.lt_succ_of_lt hLlt)
    · intro p hp
      refine ⟨Nat.ne_of_lt (newsLt p hp), ?_, Nat.ne_of_lt (hoff p hp)⟩
      show p.1 ≠ H2.objs.size
      rw [hC]; exact Nat.ne_of_lt (Nat.lt_succ_of_lt (newsLt p hp))
    · intro b hb hbI
      refine ⟨Nat.ne_of_lt (hfp b hb), ?_, hsrc b hb hbI⟩
      show b ≠ H2.objs.size
      rw [hC]; exact Nat.ne_of_lt (Nat.lt_succ_of_lt (hfp b hb))
    · exact ⟨W.frame _ _ _ hst fun b hb o e => old b o e, by simpa using hacc, hns₁, F₁, N₁⟩
    · intro i v mC oD oC oI h tk E' hP Fh Nh hn hm
      exact test_ i v H2.objs.size mC [(s₂.heap.objs.size, oD), (H2.objs.size, oC), (I, oI)] h tk E' hP Fh Nh hn hm ⟨oC, by simp⟩
    · intro h' tk mC S
      obtain ⟨nD, eD⟩ := S.acc
      rw [List.take_length] at eD
      have Ndone : News h₀ L h' ((s₂.heap.objs.size, listOf ((us.zipIdx.filter fun p => b p.2).map (·.1)).toArray nD) :: news) := fun p hp => by
        rcases List.mem_cons.mp hp with rfl | hp
        · exact ⟨eD, Nat.ne_of_gt hLlt, fresh _ (Nat.le_refl _)⟩
        · exact S.N p hp
      refine hRR _ nD H2.objs.size h' tk mC S.F Ndone newsLt S.ns ?_ (fresh _ (by rw [hC]; exact Nat.le_succ _)) ?_
      · rw [hC]; exact Nat.ne_of_lt (Nat.lt_succ_of_lt hLlt)
      · intro p hp
        rcases List.mem_cons.mp hp with rfl | hp
        · exact hDC
        · rw [hC]; exact Nat.ne_of_lt (Nat.lt_succ_of_lt (newsLt p hp))
  exact codeAny_compStart_list (loop _ rfl) (W.self 0 _ _ _ (W.frame _ _ _ hst fun b hb o e => old b o e) (loop _ rfl))
theorem comp_fil {env : Env} {c iter : Expr} {x : Str} {px py : Pos} {scope : Scope} {cl : List (Str × Addr)} {pos : Pos} {l : Addr} {us : List Value} {news : Led} {Q : Value → Shared → Prop} (hh : A.handled = none)
    (F : Fr h₀ L s.heap m) (N : News h₀ L s.heap news) (S : SrcAt h₀ L news s.heap l us) (b : Nat → Bool) (hsz : us.length ≤ sizeLine)
    (hcell : ∀ y ∈ scope.names, y.2 ≠ .cell) (hkind : scope.kind = .function) (hx : scope.names.lookup x = some .local) (hdb : (x == ("__debug__" : Str)) = false)
    (test_ : TestAt prog w A h₀ L m news env scope cl x c us b s)
    (hQ : ∀ D nD h' tk, Fr h₀ L h' m → News h₀ L h' ((D, listOf ((us.zipIdx.filter fun p => b p.2).map (·.1)).toArray nD) :: news) → (∀ p ∈ news, p.1 < D) → Q (.ref D) { s with heap := h', toks := tk }) :
    wpAny (model prog w) A (pyIter (.ref l)) (fun it s₂ => wpAny (model prog w) A (newList []) (fun acc s₃ => wpAny (model prog w) A (newFunctionEnv scope env.globals cl [] env.qual none .none (some env)) (fun cenv s₄ =>
      codeAny (model prog w) A (.compStart (.ListComp (.Name x py) [⟨.Name x px, iter, [c], 0⟩] scope pos) 0 it acc { cenv with scope := relabel scope env }) (compPost (model prog w) A E none Q acc cenv.locals) s₄) E s₃) E s₂) E s := by
  refine src_walks hh F N S fun h' I St F₁ N₁ W hlive hst hfp hLI h0I hoff => ?_
  obtain ⟨_, hL, hsrc⟩ := S
  refine fil_block (RR := fun acc C => compPost (model prog w) A E none Q acc C) W b hlive hsz hcell hkind hx hdb hst hfp F₁ N₁ hLI h0I hoff ?_ ?_ ?_
  · intro b hb hbI
    rcases List.mem_cons.mp hb with rfl | hb
    · exact absurd rfl hbI
    · rw [List.mem_singleton.mp hb]; exact ⟨hL, hsrc⟩
  · exact test_
  · intro D nD C h₁ tk mC ZF ZN Zl hn hLC h0C hoffC
    refine ⟨mC, hn, fun h₂ hs => hQ D nD h₂ tk (Fr.but ZF (fun b o hb e => (hs.2 b hb).trans e) hLC h0C) (News.but ZN (fun b o hb e => (hs.2 b hb).trans e) hoffC) Zl⟩
theorem ListComp_fil {env : Env} {c iter : Expr} {x : Str} {px py : Pos} {scope : Scope} {cl : List (Str × Addr)} {pos : Pos} {Q : Value → Shared → Prop}
    (hclos : closureFor scope env = pure cl) (hkind : scope.kind = .function) (hnames : ∀ y ∈ scope.names, y.2 = .local → scope.names.lookup y.1 = some .local)
    (h : wpAny (model prog w) A (eval iter env) (fun xv s₁ => wpAny (model prog w) A (pyIter xv) (fun it s₂ => wpAny (model prog w) A (newList []) (fun acc s₃ => wpAny (model prog w) A (newFunctionEnv scope env.globals cl [] env.qual none .none (some env)) (fun cenv s₄ =>
      codeAny (model prog w) A (.compStart (.ListComp (.Name x py) [⟨.Name x px, iter, [c], 0⟩] scope pos) 0 it acc { cenv with scope := relabel scope env }) (compPost (model prog w) A E none Q acc cenv.locals) s₄) E s₃) E s₂) E s₁) E s)
    (hs : ∀ x, foldedSetIterable iter env x = pure x := by intro _; rfl) :
    wpAny (model prog w) A (eval (.ListComp (.Name x py) [⟨.Name x px, iter, [c], 0⟩] scope pos) env) Q E s := by
  rw [eval_ListComp]
  exact wpAny_comprehension_free (use := none) rfl hs hclos hkind hnames h
end
end Mine
namespace Mine
section
variable {prog : Program} {w : World} {A : Around} {E : Value → Shared → Prop} {s : Shared} {env : Env} {h₀ : Heap} {x : Str} {px : Pos} {body : List Stmt} {Q : Flow → Shared → Prop}
theorem for_empty {l : Addr} {o : Obj} {m₀ : Str → Option Value} {news : Led} (hh : A.handled = none) (hl : (l, o) ∈ news) (ho : SeqOf o []) (F : Fr h₀ env.locals s.heap m₀) (N : News h₀ env.locals s.heap news)
    (done : ∀ h tk, Fr h₀ env.locals h m₀ → News h₀ env.locals h news → Q .next { s with heap := h, toks := tk }) :
    wpAny (model prog w) A (pyIter (.ref l)) (fun it s₂ => LoopAtV prog w A h₀ env x body Q E it s₂) E s :=
  for_gen (fun _ m nx => m = m₀ ∧ nx = news) hh hl ho F N ⟨rfl, rfl⟩ (fun i v _ _ _ _ _ hv => absurd hv (by simp)) fun m₁ nx h tk hj F N => done h tk (hj.1 ▸ F) (hj.2 ▸ N)
theorem for_single {l : Addr} {o : Obj} {v : Value} {m₀ : Str → Option Value} {news : Led} (J : (Str → Option Value) → Led → Prop) (hh : A.handled = none) (hl : (l, o) ∈ news) (ho : SeqOf o [v]) (F : Fr h₀ env.locals s.heap m₀) (N : News h₀ env.locals s.heap news)
    (turn : ∀ h tk own, OwnOff own (news.map (·.1)) → Fr h₀ env.locals h (fun y => if y = x then some v else m₀ y) → News h₀ env.locals h (news ++ own) →
      wpAny (model prog w) A (execs body env) (GenPost h₀ env.locals J (l, o) own { s with heap := h, toks := tk } Q) E { s with heap := h, toks := tk })
    (done : ∀ m₁ nx h tk, J m₁ nx → Fr h₀ env.locals h m₁ → News h₀ env.locals h nx → Q .next { s with heap := h, toks := tk }) :
    wpAny (model prog w) A (pyIter (.ref l)) (fun it s₂ => LoopAtV prog w A h₀ env x body Q E it s₂) E s :=
  for_gen (fun i m nx => (i = 0 ∧ m = m₀ ∧ nx = news) ∨ (i = 1 ∧ J m nx)) hh hl ho F N (.inl ⟨rfl, rfl, rfl⟩) (fun i u m₁ nx h tk own hv hoff hl₁ hJ G H => by
    have hi : i = 0 := by
      cases i with
      | zero => rfl
      | succ i => simp at hv
    subst hi
    simp at hv; subst hv
    rcases hJ with ⟨_, rfl, rfl⟩ | ⟨h, _⟩
    · refine wpAny_mono (turn h tk own hoff G H) (fun f s₂ p => ?_) fun _ _ e => e
      cases f with
      | ret v => exact p
      | brk => exact p
      | next => obtain ⟨h', tk, m', nx, e, F', N', hq, ha, hm⟩ := p; exact ⟨h', tk, m', nx, e, F', N', hq, ha, .inr ⟨rfl, hm⟩⟩
      | cont => obtain ⟨h', tk, m', nx, e, F', N', hq, ha, hm⟩ := p; exact ⟨h', tk, m', nx, e, F', N', hq, ha, .inr ⟨rfl, hm⟩⟩
    · exact absurd h (by decide)) fun m₁ nx h tk hj F N => by
    rcases hj with ⟨h, _⟩ | ⟨_, hj⟩
    · exact absurd h (by simp)
    · exact done m₁ nx h tk hj F N
theorem for_cell_single {l : Addr} {o : Obj} {v : Value} {m₀ : Str → Option Value} {news : Led} (J : (Str → Option Value) → Led → Prop) (hh : A.handled = none) (hl : (l, o) ∈ news) (ho : SeqOf o [v]) (F : Fr h₀ env.locals s.heap m₀) (N : News h₀ env.locals s.heap news)
    (turn : ∀ s₁ own, OwnOff own (news.map (·.1)) → Fr h₀ env.locals s₁.heap m₀ → News h₀ env.locals s₁.heap (news ++ own) →
      wpAny (model prog w) A (assign (.Name x px) env v) (fun _ s₃ => wpAny (model prog w) A (execs body env) (fun f s₂ => f = .next ∧ GenEnd h₀ env.locals J (l, o) own s₁ s₂) E s₃) E s₁)
    (done : ∀ m₁ nx h tk, J m₁ nx → Fr h₀ env.locals h m₁ → News h₀ env.locals h nx → Q .next { s with heap := h, toks := tk }) :
    wpAny (model prog w) A (pyIter (.ref l)) (fun it s₂ => LoopAtT prog w A h₀ env (.Name x px) body Q E it s₂) E s :=
  for_cell (fun m₀ i m nx => (i = 0 ∧ m = m₀ ∧ nx = news) ∨ (i = 1 ∧ J m nx)) hh hl ho F N (.inl ⟨rfl, rfl, rfl⟩) (fun i u m₁ nx s₁ own hv hoff hl₁ hJ G H => by
    have hi : i = 0 := by
      cases i with
      | zero => rfl
      | succ i => simp at hv
    subst hi
    simp at hv; subst hv
    rcases hJ with ⟨_, rfl, rfl⟩ | ⟨h, _⟩
    · refine wpAny_mono (turn s₁ own hoff G H) (fun _ s₃ q => wpAny_mono q (fun f s₂ p => ?_) fun _ _ e => e) fun _ _ e => e
      obtain ⟨hf, h', tk, m', nx, e, F', N', hq, ha, hm⟩ := p
      exact ⟨hf, h', tk, m', nx, e, F', N', hq, ha, .inr ⟨rfl, hm⟩⟩
    · exact absurd h (by decide)) fun m₁ nx h tk hj F N => by
    rcases hj with ⟨h, _⟩ | ⟨_, hj⟩
    · exact absurd h (by simp)
    · exact done m₁ nx h tk hj F N
theorem for_single' {l : Addr} {o : Obj} {v : Value} {m₀ : Str → Option Value} {news : Led} (J : Led → Prop) (hh : A.handled = none) (hl : (l, o) ∈ news) (ho : SeqOf o [v]) (F : Fr h₀ env.locals s.heap m₀) (N : News h₀ env.locals s.heap news)
    (turn : ∀ h tk own, OwnOff own (news.map (·.1)) → Fr h₀ env.locals h (fun y => if y = x then some v else m₀ y) → News h₀ env.locals h (news ++ own) →
      wpAny (model prog w) A (execs body env) (GenPost h₀ env.locals (fun m nx => (m = fun y => if y = x then some v else m₀ y) ∧ J nx) (l, o) own { s with heap := h, toks := tk } Q) E { s with heap := h, toks := tk })
    (done : ∀ nx h tk, J nx → Fr h₀ env.locals h (fun y => if y = x then some v else m₀ y) → News h₀ env.locals h nx → Q .next { s with heap := h, toks := tk }) :
    wpAny (model prog w) A (pyIter (.ref l)) (fun it s₂ => LoopAtV prog w A h₀ env x body Q E it s₂) E s :=
  for_single (fun m nx => (m = fun y => if y = x then some v else m₀ y) ∧ J nx) hh hl ho F N turn fun m₁ nx h tk hj F N => done nx h tk hj.2 (hj.1 ▸ F) N
theorem for_cell_single' {l : Addr} {o : Obj} {v : Value} {m₀ : Str → Option Value} {news : Led} (J : Led → Prop) (hh : A.handled = none) (hl : (l, o) ∈ news) (ho : SeqOf o [v]) (F : Fr h₀ env.locals s.heap m₀) (N : News h₀ env.locals s.heap news)
    (turn : ∀ s₁ own, OwnOff own (news.map (·.1)) → Fr h₀ env.locals s₁.heap m₀ → News h₀ env.locals s₁.heap (news ++ own) →
      wpAny (model prog w) A (assign (.Name x px) env v) (fun _ s₃ => wpAny (model prog w) A (execs body env) (fun f s₂ => f = .next ∧ GenEnd h₀ env.locals (fun m nx => m = m₀ ∧ J nx) (l, o) own s₁ s₂) E s₃) E s₁)
    (done : ∀ nx h tk, J nx → Fr h₀ env.locals h m₀ → News h₀ env.locals h nx → Q .next { s with heap := h, toks := tk }) :
    wpAny (model prog w) A (pyIter (.ref l)) (fun it s₂ => LoopAtT prog w A h₀ env (.Name x px) body Q E it s₂) E s :=
  for_cell_single (fun m nx => m = m₀ ∧ J nx) hh hl ho F N turn fun m₁ nx h tk hj F N => done nx h tk hj.2 (hj.1 ▸ F) N
end
end Mine
namespace Mine
theorem allObj_of : ∀ {ws : List (Addr × String)} {K : List (Addr × Obj) → Prop}, (∀ its, its.map (·.1) = ws.map (·.1) → K its) → AllObj ws K
  | [], K, h => h [] rfl
  | w :: r, K, h => fun o _ => allObj_of (K := fun its => K ((w.1, o) :: its)) fun its e => h _ (by rw [List.map_cons, List.map_cons, e])
section
variable {prog : Program} {w : World} {A : Around} {E : Value → Shared → Prop} {s : Shared} {env : Env} {h₀ : Heap} {target : Expr} {body : List Stmt} {Q : Flow → Shared → Prop}
/-- what a turn of a loop over written items gives back -/
def TurnEnd (h₀ : Heap) (L : Addr) (q : Addr × Obj) (its : Led) (J : (Str → Option Value) → Led → Prop) (s₁ : Shared) (f : Flow) (s₂ : Shared) : Prop :=
  f = .next ∧ UnrEndW h₀ L s₁ its (fun m' n' => q ∈ n' ∧ J m' n') s₂
theorem TurnEnd.next {L : Addr} {q : Addr × Obj} {its nw : Led} {J : (Str → Option Value) → Led → Prop} {s₁ : Shared} {h' : Heap} {tk : Nat} {m' : Str → Option Value} (nx : Led) (F : Fr h₀ L h' m') (N : News h₀ L h' nw) (hs : ∀ p ∈ its ++ nx, p ∈ nw) (hq : q ∈ nx) (ho : ∀ p ∈ nx, ∀ q ∈ its, p.1 ≠ q.1) (hJ : J m' nx) :
    TurnEnd h₀ L q its J s₁ .next { s₁ with heap := h', toks := tk } := ⟨rfl, h', tk, m', nx, rfl, F, fun p hp => N p (hs p hp), ho, hq, hJ⟩
theorem items_inv {ws : List (Addr × String)} {q : Addr × Obj} {all : List Itm} (J : Nat → (Str → Option Value) → Led → Prop)
    (turn : ∀ i a v m₁ nx h tk its, all[i]? = some a → a.Is v h → q ∈ nx → (∀ p ∈ nx, ∀ q ∈ its, p.1 ≠ q.1) → J i m₁ nx → Fr h₀ env.locals h m₁ → News h₀ env.locals h (its ++ nx) →
      wpAny (model prog w) A (assign target env v) (fun _ s₂ => wpAny (model prog w) A (execs body env) (TurnEnd h₀ env.locals q its (J (i + 1)) { s with heap := h, toks := tk }) E s₂) E { s with heap := h, toks := tk })
    (done : ∀ m₁ nx h tk, J all.length m₁ nx → Fr h₀ env.locals h m₁ → News h₀ env.locals h nx → Q .next { s with heap := h, toks := tk }) :
    ∀ (r : List Itm) (i : Nat) (m : Str → Option Value) (nx : Led), all.drop i = r → i ≤ all.length → J i m nx → q ∈ nx → (∀ p ∈ nx, p.1 ∉ ws.map (·.1)) → ItemsRest prog w A E h₀ env target body Q s ws [q] r m nx
  | [], i, m, nx, hr, hi, hj, hq, ho => by
    have e : i = all.length := by
      have := congrArg List.length hr
      rw [List.length_drop, List.length_nil] at this; omega
    subst e
    exact fun h tk F N => done m nx h tk hj F N
  | a :: r, i, m, nx, hr, hi, hj, hq, ho => by
    have hlt : i < all.length := by
      have := congrArg List.length hr
      rw [List.length_drop, List.length_cons] at this; omega
    have ha : all[i]? = some a := by
      have := congrArg List.head? hr
      rw [List.head?_drop, List.head?_cons] at this; exact this
    have hr' : all.drop (i + 1) = r := by rw [← List.tail_drop, hr]; rfl
    intro v h tk hv F
    refine allObj_of fun its he N => ?_
    refine wpAny_mono (turn i a v m nx h tk its ha hv hq (fun p hp q' hq' e => ho p hp (by rw [← he]; exact List.mem_map.mpr ⟨q', hq', e.symm⟩)) hj F N) (fun _ s₂ h₂ => wpAny_mono h₂ (fun f s₃ h₃ => ?_) fun _ _ e => e) fun _ _ e => e
    obtain ⟨rfl, h', tk', m', n', e1, F', N', o', hq', hj'⟩ := h₃
    refine ⟨h', tk', m', n', e1, F', N', o', ⟨hq', trivial⟩, items_inv J turn done r (i + 1) m' n' hr' hlt hj' hq' fun p hp hm => ?_⟩
    rw [← he] at hm
    obtain ⟨q2, hq2, e2⟩ := List.mem_map.mp hm
    exact o' p hp q2 hq2 e2.symm
theorem enum_get : ∀ (us : List Value) (k i : Nat) (a : Itm), (enumItems k us)[i]? = some a → ∃ v, us[i]? = some v ∧ a = .pair (fun t => .int ((k + i : Nat) : Int) t) v
  | [], _, i, a, h => by simp [enumItems] at h
  | v :: r, k, 0, a, h => by
    simp only [enumItems, List.getElem?_cons_zero, Option.some.injEq] at h
    exact ⟨v, rfl, h.symm⟩
  | v :: r, k, i + 1, a, h => by
    simp only [enumItems, List.getElem?_cons_succ] at h
    obtain ⟨u, e1, e2⟩ := enum_get r (k + 1) i a h
    refine ⟨u, by simpa using e1, ?_⟩
    rw [e2, show k + 1 + i = k + (i + 1) by omega]
/-- a loop over enumerate(list) by what holds at each turn -/
theorem for_enum {elts : List Expr} {k : Nat} {pos : Pos} {l : Addr} {us : List Value} {n : Nat} {m₀ : Str → Option Value} {news : Led} (J : (Str → Option Value) → Nat → (Str → Option Value) → Led → Prop)
    (hh : A.handled = none) (F : Fr h₀ env.locals s.heap m₀) (N : News h₀ env.locals s.heap news) (hm : (l, PySem.W.listOf us.toArray n) ∈ news) (hj : J m₀ 0 m₀ news)
    (turn : ∀ i v T t m₁ nx h tk its, us[i]? = some v → IsTup h T #[.int ((i : Nat) : Int) t, v] → (l, PySem.W.listOf us.toArray n) ∈ nx → (∀ p ∈ nx, ∀ q ∈ its, p.1 ≠ q.1) → J m₀ i m₁ nx → Fr h₀ env.locals h m₁ → News h₀ env.locals h (its ++ nx) →
      wpAny (model prog w) A (assign (.Tuple elts k pos) env (.ref T)) (fun _ s₂ => wpAny (model prog w) A (execs body env) (TurnEnd h₀ env.locals (l, PySem.W.listOf us.toArray n) its (J m₀ (i + 1)) { s with heap := h, toks := tk }) E s₂) E { s with heap := h, toks := tk })
    (done : ∀ m₁ nx h tk, J m₀ us.length m₁ nx → Fr h₀ env.locals h m₁ → News h₀ env.locals h nx → Q .next { s with heap := h, toks := tk }) :
    wpAny (model prog w) A (call (.type "enumerate") [.ref l]) (fun xv s₁ => wpAny (model prog w) A (pyIter xv) (fun it s₂ => TurnsAt prog w A h₀ env (.Tuple elts k pos) body Q E it s₂) E s₁) E s := by
  refine ktu_enum hh F N hm rfl rfl rfl fun I hI => ?_
  refine items_inv (all := enumItems 0 us) (J m₀) ?_ ?_ _ 0 m₀ news rfl (Nat.zero_le _) hj hm ?_
  · intro i a v m₁ nx h tk its ha hv hq ho hJ F' N'
    obtain ⟨u, e1, rfl⟩ := enum_get us 0 i a ha
    obtain ⟨T, t, rfl, ht⟩ := hv
    rw [Nat.zero_add] at ht
    exact turn i u T t m₁ nx h tk its e1 ht hq ho hJ F' N'
  · rw [enumItems_length]; exact done
  · intro p hp hmm
    have h1 := hI p hp
    simp only [List.map_cons, List.map_nil, List.mem_cons, List.not_mem_nil, or_false] at hmm
    rcases hmm with h | h
    · rw [h] at h1; exact absurd h1 (Nat.not_lt_of_le (Nat.le_succ _))
    · rw [h] at h1; exact absurd h1 (Nat.lt_irrefl _)
/-- a loop over a written tuple by what holds at each turn -/
theorem for_tup {l : Addr} {us : List Value} {n : Nat} {m₀ : Str → Option Value} {news : Led} (J : (Str → Option Value) → Nat → (Str → Option Value) → Led → Prop)
    (hh : A.handled = none) (F : Fr h₀ env.locals s.heap m₀) (N : News h₀ env.locals s.heap news) (hm : (l, ({ cls := .type "tuple", data := .seq us.toArray n } : Obj)) ∈ news) (hj : J m₀ 0 m₀ news)
    (turn : ∀ i v m₁ nx h tk its, us[i]? = some v → (l, ({ cls := .type "tuple", data := .seq us.toArray n } : Obj)) ∈ nx → (∀ p ∈ nx, ∀ q ∈ its, p.1 ≠ q.1) → J m₀ i m₁ nx → Fr h₀ env.locals h m₁ → News h₀ env.locals h (its ++ nx) →
      wpAny (model prog w) A (assign target env v) (fun _ s₂ => wpAny (model prog w) A (execs body env) (TurnEnd h₀ env.locals (l, ({ cls := .type "tuple", data := .seq us.toArray n } : Obj)) its (J m₀ (i + 1)) { s with heap := h, toks := tk }) E s₂) E { s with heap := h, toks := tk })
    (done : ∀ m₁ nx h tk, J m₀ us.length m₁ nx → Fr h₀ env.locals h m₁ → News h₀ env.locals h nx → Q .next { s with heap := h, toks := tk }) :
    wpAny (model prog w) A (pyIter (.ref l)) (fun it s₂ => TurnsAt prog w A h₀ env target body Q E it s₂) E s := by
  refine iter_tupTurns hh F N hm rfl rfl fun I hI => ?_
  refine items_inv (all := us.map .val) (J m₀) ?_ ?_ _ 0 m₀ news rfl (Nat.zero_le _) hj hm ?_
  · intro i a v m₁ nx h tk its ha hv hq ho hJ F' N'
    rw [List.getElem?_map] at ha
    obtain ⟨u, e1, rfl⟩ := Option.map_eq_some_iff.mp ha
    have e2 : v = u := hv
    subst e2
    exact turn i v m₁ nx h tk its e1 hq ho hJ F' N'
  · rw [List.length_map]; exact done
  · intro p hp hmm
    have h1 := hI p hp
    simp only [List.map_cons, List.map_nil, List.mem_cons, List.not_mem_nil, or_false] at hmm
    rw [hmm] at h1; exact absurd h1 (Nat.lt_irrefl _)
end
/-- ways that meet again -/
theorem wp_join {M : Model} {A : Around} {op : Sem Value} {Q : Value → Shared → Prop} {E : Value → Shared → Prop} {s : Shared} {h₀ : Heap} {L : Addr} {m : Str → Option Value} {news : Led} (F : Fr h₀ L s.heap m) (N : News h₀ L s.heap news) (G : Value → Led → Prop)
    (h : wpAny M A op (fun r s' => ∃ tl h' tk', s' = { s with heap := h', toks := tk' } ∧ Fr h₀ L h' m ∧ News h₀ L h' (news ++ tl) ∧ Ord news tl ∧ G r (news ++ tl)) E s)
    (hQ : ∀ r tl h' tk', Fr h₀ L h' m → News h₀ L h' (news ++ tl) → Ord news tl → G r (news ++ tl) → Q r { s with heap := h', toks := tk' }) : wpAny M A op Q E s := by
  refine wpAny_mono h (fun r s' hq => ?_) fun _ _ e => e
  obtain ⟨tl, h', tk', rfl, F', N', O', g⟩ := hq
  exact hQ r tl h' tk' F' N' O' g
end Mine
namespace Mine
section
variable {prog : Program} {w : World} {A : Around} {E : Value → Shared → Prop} {R : Result → Shared → Prop} {s : Shared} {h₀ : Heap} {L : Addr} {m : Str → Option Value}
/-- a comprehension whose own name is a cell -/
theorem compLoop_cell {elt iter : Expr} {x : Str} {px : Pos} {scope : Scope} {pos : Pos} {I D : Addr} {fp : List Addr} {n : Nat} {P : Nat → Value → Prop} {St : Nat → Heap → Prop} {cenv : Env} {news : Led} {mC : Str → Option Value}
    (W : Walks prog w A I fp [I] n P St) (G : Led → Nat → Value → Value → Prop) (hG : ∀ l l' i v y, (∀ p ∈ l, p ∈ l') → G l i v y → G l' i v y)
    (hlive : ∀ i h, St i h → ∃ o, h.get? I = some o)
    {K : Addr} (hx : cenv.kindOf x = some .cell) (hfk : cenv.scope.kind = .function) (hKc : cenv.cells.lookup x = some K) (hKD : K ≠ D) (hKC : K ≠ cenv.locals) (hKI : K ≠ I) (hLK : L ≠ K) (h0K : h₀.get? K = none) (hoffK : ∀ p ∈ news, p.1 ≠ K) (hsrcK : ∀ b ∈ fp, b ≠ I → b ≠ K) (hcell0 : ∃ ov, s.heap.IsCell K ov)
    (hDC : D ≠ cenv.locals) (hDI : D ≠ I) (hCI : cenv.locals ≠ I) (hLD : L ≠ D) (hLC : L ≠ cenv.locals) (hLI : L ≠ I) (h0D : h₀.get? D = none) (h0C : h₀.get? cenv.locals = none) (h0I : h₀.get? I = none)
    (hoff : ∀ p ∈ news, p.1 ≠ D ∧ p.1 ≠ cenv.locals ∧ p.1 ≠ I)
    (hsrc : ∀ b ∈ fp, b ≠ I → b ≠ D ∧ b ≠ cenv.locals ∧ b ≠ L ∧ ((∃ o, h₀.get? b = some o) ∨ ∃ o, (b, o) ∈ news))
    (hS : CompSt h₀ L m news I D cenv.locals fp St P G s.heap mC [] [] [])
    (elt_ : ∀ i v tl oD oC oI oK h tk E', P i v → Fr h₀ L h m → News h₀ L h ((D, oD) :: (cenv.locals, oC) :: (I, oI) :: (K, oK) :: (news ++ tl)) → Ord news tl → oK.data = .cell (some v) →
      wpAny (model prog w) A (eval elt cenv) (fun y s₄ => ∃ tl' h' tk', s₄ = { s with heap := h', toks := tk' } ∧ Fr h₀ L h' m ∧ News h₀ L h' (((D, oD) :: (cenv.locals, oC) :: (I, oI) :: (K, oK) :: (news ++ tl)) ++ tl') ∧
        Ord ((D, oD) :: (cenv.locals, oC) :: (I, oI) :: (K, oK) :: (news ++ tl)) tl' ∧ G (news ++ tl ++ tl') i v y) E' { s with heap := h, toks := tk })
    (hR : ∀ h' tk mC' ys vs tl, CompSt h₀ L m news I D cenv.locals fp (fun _ _ => True) P G h' mC' ys vs tl → vs.length = n → R (.ok .next) { s with heap := h', toks := tk })
    (hsz : n ≤ sizeLine) :
    codeAny (model prog w) A (.compLoop (.ListComp elt [⟨.Name x px, iter, [], 0⟩] scope pos) 0 (.ref I) (.ref D) cenv) R s := by
  have hp : (cenv.scope.kind == .class || (cenv.scope.kind == .module && cenv.locals != cenv.globals)) = false := by rw [hfk]; rfl
  refine codeAny_compLoop_tests
    (fun k s' => ∃ h' tk mC' ys vs tl, s' = { s with heap := h', toks := tk } ∧ CompSt h₀ L m news I D cenv.locals fp St P G h' mC' ys vs tl ∧ (∃ ov, h'.IsCell K ov) ∧ (∀ p ∈ tl, K < p.1) ∧ vs.length ≤ n ∧ k = n + 1 - vs.length) ?_ (n + 1)
    ⟨s.heap, s.toks, mC, [], [], [], rfl, hS, hcell0, (fun _ h => nomatch h), Nat.zero_le _, rfl⟩
  rintro k s' ⟨H, tk, mC', ys, vs, tl, rfl, S, ⟨ov, hov⟩, hKtl, hi, rfl⟩
  have offTl : ∀ p ∈ tl, p.1 ≠ D ∧ p.1 ≠ cenv.locals ∧ p.1 ≠ I := fun p hp => ⟨Nat.ne_of_gt (S.off p hp).1, Nat.ne_of_gt (S.off p hp).2.1, Nat.ne_of_gt (S.off p hp).2.2⟩
  have offAll : ∀ p ∈ news ++ tl, p.1 ≠ D ∧ p.1 ≠ cenv.locals ∧ p.1 ≠ I := fun p hp => (List.mem_append.mp hp).elim (hoff p) (offTl p)
  have offK : ∀ p ∈ news ++ tl, p.1 ≠ K := fun p hp => (List.mem_append.mp hp).elim (hoffK p) fun h => Nat.ne_of_gt (hKtl p h)
  by_cases hlt : vs.length < n
  · refine W.item vs.length _ _ _ hlt S.st fun v h₁ tk₁ hPv hst₁ hk₁ => ?_
    have hk₁' : ∀ b o, b ≠ I → H.get? b = some o → h₁.get? b = some o := fun b o hb e => hk₁ b o (by simpa using hb) e
    have F₁ : Fr h₀ L h₁ m := Fr.but S.F hk₁' hLI h0I
    have N₁ : News h₀ L h₁ (news ++ tl) := News.but S.N hk₁' fun p hp => (offAll p hp).2.2
    have cell₁ : h₁.IsCell K ov := by obtain ⟨o, e, d⟩ := hov; exact ⟨o, hk₁' _ o hKI e, d⟩
    refine wpAny_assign_Name (wpAny_storeName_cell hfk hx hKc cell₁ (fun h₂ hcl₂ hs₂ => ?_))
    have hk₂ : ∀ b o, b ≠ K → h₁.get? b = some o → h₂.get? b = some o := fun b o hb e => (hs₂.2 b hb).trans e
    have F₂ : Fr h₀ L h₂ m := Fr.but F₁ hk₂ hLK h0K
    have N₂ : News h₀ L h₂ (news ++ tl) := News.but N₁ hk₂ fun p hp => offK p hp
    have acc₂ : h₂.PlainList D ys.toArray := S.acc.at fun o e => hk₂ _ o (Ne.symm hKD) (hk₁' _ o hDI e)
    have hn₂ : h₂.Ns cenv.locals mC' := S.ns.at' fun o e => hk₂ _ o (Ne.symm hKC) (hk₁' _ o hCI e)
    have hst₂ : St (vs.length + 1) h₂ := W.frame _ _ _ hst₁ fun b hb o e => hk₂ b o (by
      by_cases hbI : b = I
      · exact hbI ▸ Ne.symm hKI
      · exact hsrcK b hb hbI) e
    refine wpAny_tests_nil ?_
    simp only [if_true]
    obtain ⟨nD, eD⟩ := acc₂
    obtain ⟨oI, eI⟩ := hlive _ _ hst₂
    obtain ⟨oC, _, _, eC, _⟩ := id hn₂
    obtain ⟨oK, eK, dK⟩ := id hcl₂
    have NN : News h₀ L h₂ ((D, listOf ys.toArray nD) :: (cenv.locals, oC) :: (I, oI) :: (K, oK) :: (news ++ tl)) := by
      intro p hp
      rcases List.mem_cons.mp hp with rfl | hp
      · exact ⟨eD, Ne.symm hLD, h0D⟩
      rcases List.mem_cons.mp hp with rfl | hp
      · exact ⟨eC, Ne.symm hLC, h0C⟩
      rcases List.mem_cons.mp hp with rfl | hp
      · exact ⟨eI, Ne.symm hLI, h0I⟩
      rcases List.mem_cons.mp hp with rfl | hp
      · exact ⟨eK, Ne.symm hLK, h0K⟩
      · exact N₂ p hp
    refine wpAny_mono (elt_ vs.length v tl _ _ _ _ h₂ _ _ hPv F₂ NN S.ord dK) (fun y s₄ h₄ => ?_) fun _ _ e => e
    obtain ⟨tl', h₄, tk₄, rfl, F₄, N₄, O₄, G₄⟩ := h₄
    have inD : (D, listOf ys.toArray nD) ∈ ((D, listOf ys.toArray nD) :: (cenv.locals, oC) :: (I, oI) :: (K, oK) :: (news ++ tl)) ++ tl' := by simp
    have inC : (cenv.locals, oC) ∈ ((D, listOf ys.toArray nD) :: (cenv.locals, oC) :: (I, oI) :: (K, oK) :: (news ++ tl)) ++ tl' := by simp
    have inI : (I, oI) ∈ ((D, listOf ys.toArray nD) :: (cenv.locals, oC) :: (I, oI) :: (K, oK) :: (news ++ tl)) ++ tl' := by simp
    have inK : (K, oK) ∈ ((D, listOf ys.toArray nD) :: (cenv.locals, oC) :: (I, oI) :: (K, oK) :: (news ++ tl)) ++ tl' := by simp
    have sub4 : ∀ p ∈ news ++ (tl ++ tl'), p ∈ ((D, listOf ys.toArray nD) :: (cenv.locals, oC) :: (I, oI) :: (K, oK) :: (news ++ tl)) ++ tl' := fun p hp => by
      simp only [List.mem_append, List.mem_cons] at hp ⊢
      rcases hp with h | h | h <;> simp [h]
    have offTl' : ∀ p ∈ tl', D < p.1 ∧ cenv.locals < p.1 ∧ I < p.1 := fun p hp => ⟨O₄ (D, PySem.W.listOf ys.toArray nD) (List.mem_cons_self ..) p hp, O₄ (cenv.locals, oC) (by simp) p hp, O₄ (I, oI) (by simp) p hp⟩
    have offK' : ∀ p ∈ tl', K < p.1 := fun p hp => O₄ (K, oK) (by simp) p hp
    have hst₄ : St (vs.length + 1) h₄ := W.frame _ _ _ hst₂ fun b hb o e => by
      by_cases hbI : b = I
      · subst hbI; rw [eI] at e; cases e; exact (N₄ _ inI).1
      · rcases (hsrc b hb hbI).2.2.2 with ⟨o', e'⟩ | ⟨o', e'⟩
        · have q := F₂.keep b o' e'; rw [e] at q; cases q; exact F₄.keep b _ e'
        · have := (N₂ (b, o') (List.mem_append.mpr (.inl e'))).1
          rw [e] at this; cases this
          exact (N₄ (b, _) (sub4 _ (List.mem_append.mpr (.inl e')))).1
    have hC4 : h₄.Ns cenv.locals _ := hn₂.at' fun o e => by rw [eC] at e; cases e; exact (N₄ _ inC).1
    have hlen : ys.length ≤ sizeLine := by have := S.len; omega
    refine wpAny_list_append_plain (items := ys.toArray) (hsz := by simpa using hlen) ⟨nD, (N₄ _ inD).1⟩ fun h₅ hl₅ hs₅ => ?_
    have hk₅ : ∀ b o, b ≠ D → h₄.get? b = some o → h₅.get? b = some o := fun b o hb e => (hs₅.2 b hb).trans e
    have off' : ∀ p ∈ news ++ (tl ++ tl'), p.1 ≠ D := fun p hp => by
      rcases List.mem_append.mp hp with h | h
      · exact (hoff p h).1
      rcases List.mem_append.mp h with h | h
      · exact (offTl p h).1
      · exact Nat.ne_of_gt (offTl' p h).1
    refine ⟨n + 1 - (vs.length + 1), by omega, h₅, tk₄, mC', ys ++ [y], vs ++ [v], tl ++ tl', rfl, ?_, ⟨_, oK, hk₅ _ _ hKD (N₄ _ inK).1, dK⟩, ?_, (by rw [List.length_append, List.length_singleton]; exact hlt), (by rw [List.length_append, List.length_singleton])⟩
    · refine ⟨?_, ?_, hC4.at' fun o e => hk₅ _ o (Ne.symm hDC) e, Fr.but F₄ hk₅ hLD h0D, News.but (News.sub N₄ sub4) hk₅ off', ?_, ?_, snoc_get S.P hPv, ?_, ?_⟩
      · rw [List.length_append, List.length_singleton]
        exact W.frame _ _ _ hst₄ fun b hb o e => hk₅ b o (by
          by_cases hbI : b = I
          · exact hbI ▸ Ne.symm hDI
          · exact (hsrc b hb hbI).1) e
      · simpa using hl₅
      · refine S.ord.app (O₄.sub fun q hq => ?_)
        simp only [List.mem_append, List.mem_cons] at hq ⊢
        rcases hq with h | h <;> simp [h]
      · intro p hp
        rcases List.mem_append.mp hp with h | h
        · exact S.off p h
        · exact offTl' p h
      · rw [List.length_append, List.length_append, S.len]; rfl
      · intro j u hj
        rcases Nat.lt_trichotomy j vs.length with h1 | h1 | h1
        · rw [List.getElem?_append_left h1] at hj
          obtain ⟨y', e1, e2⟩ := S.G j u hj
          refine ⟨y', ?_, hG _ _ _ _ _ (fun p hp => ?_) e2⟩
          · rw [List.getElem?_append_left (by have := S.len; omega)]; exact e1
          · simp only [List.mem_append] at hp ⊢
            rcases hp with h | h <;> simp [h]
        · subst h1
          simp at hj; subst hj
          refine ⟨y, by rw [← S.len]; simp, ?_⟩
          rw [← List.append_assoc]; exact G₄
        · have hnone : (vs ++ [v])[j]? = none := List.getElem?_eq_none (by rw [List.length_append, List.length_singleton]; omega)
          rw [hnone] at hj; cases hj
    · intro p hp
      rcases List.mem_append.mp hp with h | h
      · exact hKtl p h
      · exact offK' p h
  · have hin : vs.length = n := by omega
    refine W.done _ _ _ (hin ▸ S.st) fun h₁ tk₁ hk₁ => ?_
    have hk₁' : ∀ b o, b ≠ I → H.get? b = some o → h₁.get? b = some o := fun b o hb e => hk₁ b o (by simpa using hb) e
    exact hR h₁ tk₁ mC' ys vs tl ⟨trivial, S.acc.at fun o e => hk₁' _ o hDI e, S.ns.at' fun o e => hk₁' _ o hCI e, Fr.but S.F hk₁' hLI h0I, News.but S.N hk₁' fun p hp => (offAll p hp).2.2, S.ord, S.off, S.P, S.len, S.G⟩ hin
end
end Mine
namespace Mine
section
variable {prog : Program} {w : World} {A : Around} {E : Value → Shared → Prop} {R : Result → Shared → Prop} {s : Shared} {h₀ : Heap} {L : Addr} {m : Str → Option Value}
/-- the names' space and the cells of a block within a function -/
theorem newEnv_in {M : Model} {scope : Scope} {globals : Addr} {cl : List (Str × Addr)} {qual : Str} {env : Env} {Q : Env → Shared → Prop}
    (h : Q { scope := scope, locals := s.heap.objs.size, globals := globals, cells := cellsFrom (s.heap.objs.size + 1) scope.names cl, qual := qual, func := none, code := env.code, frame := env.frame, builtins := env.builtins }
      { s with heap := pushCells (s.heap.push { cls := .type "dict", data := .dict #[] }) scope.names }) :
    wpAny M A (newFunctionEnv scope globals cl [] qual none .none (some env)) Q E s := by
  simp only [newFunctionEnv, Option.isSome_some, if_true]
  refine wpAny_bind (wpAny_alloc ?_)
  refine wpAny_bind (wpAny_layCells _ (fun name kind cells => by cases hkc : kind == NameKind.cell <;> simp [hkc]) _ _ _ _ ?_)
  rw [show ({ s with heap := s.heap.push { cls := .type "dict", data := .dict #[] } } : Shared).heap.objs.size = s.heap.objs.size + 1 from Heap.size_push ..]
  simp only [List.forIn_nil]
  exact wpAny_bind (wpAny_pure (wpAny_pure h))
theorem comp_block_cell {env : Env} {elt iter : Expr} {x : Str} {px : Pos} {scope : Scope} {cl : List (Str × Addr)} {pos : Pos} {s₂ : Shared} {I : Addr} {fp : List Addr} {n : Nat} {P : Nat → Value → Prop} {St : Nat → Heap → Prop} {news : Led}
    (W : Walks prog w A I fp [I] n P St) (G : Led → Nat → Value → Value → Prop) (hG : ∀ l l' i v y, (∀ p ∈ l, p ∈ l') → G l i v y → G l' i v y) {RR : Value → Addr → Result → Shared → Prop}
    (hlive : ∀ i h, St i h → ∃ o, h.get? I = some o) (hsz : n ≤ sizeLine)
    (hcf : ∀ k, cellsFrom k scope.names cl = (x, k) :: cl) (hpc : ∀ h : Heap, pushCells h scope.names = h.push { cls := .type "cell", data := .cell none }) (hkind : scope.kind = .function)
    (hx : ∀ cenv : Env, cenv.scope = relabel scope env → cenv.kindOf x = some .cell) (hst : St 0 s₂.heap) (hfp : ∀ b ∈ fp, b < s₂.heap.objs.size)
    (F : Fr h₀ L s₂.heap m) (N : News h₀ L s₂.heap news) (hLI : L ≠ I) (h0I : h₀.get? I = none) (hoff : ∀ p ∈ news, p.1 < I)
    (hsrc : ∀ b ∈ fp, b ≠ I → b ≠ L ∧ ((∃ o, h₀.get? b = some o) ∨ ∃ o, (b, o) ∈ news))
    (elt_ : ∀ i v C K tl own oK h tk E', P i v → Fr h₀ L h m → News h₀ L h (own ++ (news ++ tl)) → Ord news tl → (K, oK) ∈ own → oK.data = .cell (some v) →
      wpAny (model prog w) A (eval elt (compEnvC scope ((x, K) :: cl) C env)) (fun y s₄ => ∃ tl' h' tk', s₄ = { s₂ with heap := h', toks := tk' } ∧ Fr h₀ L h' m ∧ News h₀ L h' ((own ++ (news ++ tl)) ++ tl') ∧ Ord (own ++ (news ++ tl)) tl' ∧ G (news ++ tl ++ tl') i v y) E' { s₂ with heap := h, toks := tk })
    (hRR : ∀ D nD C h' tk mC ys vs tl, CompDone h₀ L m news D nD n P G h' ys vs tl → h'.Ns C mC → L ≠ C → h₀.get? C = none → (∀ p ∈ (D, listOf ys.toArray nD) :: (news ++ tl), p.1 ≠ C) → RR (.ref D) C (.ok .next) { s₂ with heap := h', toks := tk }) :
    wpAny (model prog w) A (newList []) (fun acc s₃ => wpAny (model prog w) A (newFunctionEnv scope env.globals cl [] env.qual none .none (some env)) (fun cenv s₄ =>
      codeAny (model prog w) A (.compStart (.ListComp elt [⟨.Name x px, iter, [], 0⟩] scope pos) 0 (.ref I) acc { cenv with scope := relabel scope env }) (RR acc cenv.locals) s₄) E s₃) E s₂ := by
  refine wpAny_newObj_type (newEnv_in ?_)
  dsimp only
  rw [hcf, hpc]
  generalize hH2 : s₂.heap.push { cls := .type "list", dict := none, data := .seq ([] : List Value).toArray } = H2
  have hC : H2.objs.size = s₂.heap.objs.size + 1 := by rw [← hH2, Heap.size_push]
  have hIlt : I < s₂.heap.objs.size := by obtain ⟨o, e⟩ := hlive _ _ hst; exact Heap.lt_size e
  have hLlt : L < s₂.heap.objs.size := F.ns.lt
  have hDC : s₂.heap.objs.size ≠ H2.objs.size := by rw [hC]; exact Nat.ne_of_lt (Nat.lt_succ_self _)
  generalize hH3 : H2.push { cls := .type "dict", data := .dict #[] } = H3
  have hK : H3.objs.size = H2.objs.size + 1 := by rw [← hH3, Heap.size_push]
  generalize hH4 : H3.push { cls := .type "cell", data := .cell none } = h₁
  have old2 : ∀ b o, s₂.heap.get? b = some o → H2.get? b = some o := fun b o e => hH2 ▸ Heap.get?_push_of_some _ e
  have old3 : ∀ b o, H2.get? b = some o → H3.get? b = some o := fun b o e => hH3 ▸ Heap.get?_push_of_some _ e
  have old4 : ∀ b o, H3.get? b = some o → h₁.get? b = some o := fun b o e => hH4 ▸ Heap.get?_push_of_some _ e
  have old : ∀ b o, s₂.heap.get? b = some o → h₁.get? b = some o := fun b o e => old4 _ _ (old3 _ _ (old2 b o e))
  have hacc : h₁.PlainList s₂.heap.objs.size #[] := ⟨_, old4 _ _ (old3 _ _ (hH2 ▸ Heap.get?_push_size _ rfl))⟩
  have hns₁ : h₁.Ns H2.objs.size (fun _ => none) := (hH3 ▸ Heap.Ns.new H2 (.type "dict") : H3.Ns H2.objs.size (fun _ => none)).at' fun o e => old4 _ o e
  have hcell : h₁.IsCell (H2.objs.size + 1) none := by rw [← hK, ← hH4]; exact ⟨_, Heap.get?_push_size _ rfl, rfl⟩
  have fresh : ∀ a, s₂.heap.objs.size ≤ a → h₀.get? a = none := fun a ha => by
    cases e : h₀.get? a with
    | none => rfl
    | some o' => exact absurd (Heap.lt_size (F.keep _ _ e)) (Nat.not_lt.mpr ha)
  have F₁ : Fr h₀ L h₁ m := ⟨F.ns.at' fun o e => old _ o e, fun b o e => old b o (F.keep b o e), F.above⟩
  have N₁ : News h₀ L h₁ news := fun p hp => ⟨old _ _ (N p hp).1, (N p hp).2⟩
  have newsLt : ∀ p ∈ news, p.1 < s₂.heap.objs.size := fun p hp => Heap.lt_size (N p hp).1
  have le1 : s₂.heap.objs.size ≤ H2.objs.size := by rw [hC]; exact Nat.le_succ _
  have le2 : s₂.heap.objs.size ≤ H2.objs.size + 1 := Nat.le_succ_of_le le1
  have lt2 : ∀ a : Nat, a < s₂.heap.objs.size → a < H2.objs.size + 1 := fun a h => Nat.lt_of_lt_of_le h le2
  have loop : ∀ s₃ : Shared, s₃ = { s₂ with heap := h₁ } →
      codeAny (model prog w) A (.compLoop (.ListComp elt [⟨.Name x px, iter, [], 0⟩] scope pos) 0 (.ref I) (.ref s₂.heap.objs.size) (compEnvC scope ((x, H2.objs.size + 1) :: cl) H2.objs.size env))
        (RR (.ref s₂.heap.objs.size) H2.objs.size) s₃ := by
    rintro s₃ rfl
    refine compLoop_cell (h₀ := h₀) (L := L) (m := m) (news := news) (cenv := compEnvC scope ((x, H2.objs.size + 1) :: cl) H2.objs.size env) (mC := fun _ => none) (K := H2.objs.size + 1) W G hG hlive (hx _ rfl) (by show (relabel scope env).kind = _; exact hkind) (by show List.lookup x ((x, _) :: cl) = _; rw [List.lookup_cons]; simp)
      (Nat.ne_of_gt (Nat.lt_of_le_of_lt le1 (Nat.lt_succ_self _))) (Nat.ne_of_gt (Nat.lt_succ_self _)) (Nat.ne_of_gt (lt2 _ hIlt)) (Nat.ne_of_lt (lt2 _ hLlt)) (fresh _ le2) (fun p hp => Nat.ne_of_lt (lt2 _ (newsLt p hp))) (fun b hb hbI => Nat.ne_of_lt (lt2 _ (hfp b hb))) ⟨_, hcell⟩
      hDC (Nat.ne_of_gt hIlt) ?_ (Nat.ne_of_lt hLlt) ?_ hLI (fresh _ (Nat.le_refl _)) (fresh _ le1) h0I ?_ ?_ ?_ ?_ ?_ hsz
    · show H2.objs.size ≠ I
      rw [hC]; exact Nat.ne_of_gt (Nat.lt_succ_of_lt hIlt)
    · show L ≠ H2.objs.size
      rw [hC]; exact Nat.ne_of_lt (Nat.lt_succ_of_lt hLlt)
    · intro p hp
      refine ⟨Nat.ne_of_lt (newsLt p hp), ?_, Nat.ne_of_lt (hoff p hp)⟩
      show p.1 ≠ H2.objs.size
      rw [hC]; exact Nat.ne_of_lt (Nat.lt_succ_of_lt (newsLt p hp))
    · intro b hb hbI
      refine ⟨Nat.ne_of_lt (hfp b hb), ?_, hsrc b hb hbI⟩
      show b ≠ H2.objs.size
      rw [hC]; exact Nat.ne_of_lt (Nat.lt_succ_of_lt (hfp b hb))
    · refine ⟨W.frame _ _ _ hst fun b hb o e => old b o e, hacc, hns₁, F₁, by rw [List.append_nil]; exact N₁, Ord.nil, fun _ h => (nomatch h), fun _ _ h => by simp at h, rfl, fun _ _ h => by simp at h⟩
    · intro i v tl oD oC oI oK h tk E' hP Fh Nh hO hd
      have N9 : News h₀ L h ([(s₂.heap.objs.size, oD), (H2.objs.size, oC), (I, oI), (H2.objs.size + 1, oK)] ++ (news ++ tl)) := Nh
      exact elt_ i v H2.objs.size (H2.objs.size + 1) tl [(s₂.heap.objs.size, oD), (H2.objs.size, oC), (I, oI), (H2.objs.size + 1, oK)] oK h tk E' hP Fh N9 hO (by simp) hd
    · intro h' tk mC ys vs tl S hlen
      obtain ⟨nD, eD⟩ := S.acc
      have Ndone : News h₀ L h' ((s₂.heap.objs.size, listOf ys.toArray nD) :: (news ++ tl)) := fun p hp => by
        rcases List.mem_cons.mp hp with rfl | hp
        · exact ⟨eD, Nat.ne_of_gt hLlt, fresh _ (Nat.le_refl _)⟩
        · exact S.N p hp
      refine hRR _ nD H2.objs.size h' tk mC ys vs tl ⟨S.F, Ndone, ?_, fun p hp => (S.off p hp).1, S.P, hlen, by rw [S.len, hlen], S.G⟩ S.ns ?_ (fresh _ le1) ?_
      · intro q hq p hp
        rcases List.mem_cons.mp hp with rfl | hp
        · exact newsLt q hq
        · exact S.ord q hq p hp
      · rw [hC]; exact Nat.ne_of_lt (Nat.lt_succ_of_lt hLlt)
      · intro p hp
        rcases List.mem_cons.mp hp with rfl | hp
        · exact hDC
        rcases List.mem_append.mp hp with h | h
        · rw [hC]; exact Nat.ne_of_lt (Nat.lt_succ_of_lt (newsLt p h))
        · exact Nat.ne_of_gt (S.off p h).2.1
  exact codeAny_compStart_list (loop _ rfl) (W.self 0 _ _ _ (W.frame _ _ _ hst fun b hb o e => old b o e) (loop _ rfl))
/-- what one turn of a comprehension whose name is a cell gives -/
def EltCell (prog : Program) (w : World) (A : Around) (h₀ : Heap) (L : Addr) (m : Str → Option Value) (news : Led) (env : Env) (scope : Scope) (cl : List (Str × Addr)) (x : Str) (elt : Expr) (us : List Value) (G : Led → Nat → Value → Value → Prop) (s : Shared) : Prop :=
  ∀ i v C K tl own oK h tk E', us[i]? = some v → Fr h₀ L h m → News h₀ L h (own ++ (news ++ tl)) → Ord news tl → (K, oK) ∈ own → oK.data = .cell (some v) →
      wpAny (model prog w) A (eval elt (compEnvC scope ((x, K) :: cl) C env)) (fun y s₄ => ∃ tl' h' tk', s₄ = { s with heap := h', toks := tk' } ∧ Fr h₀ L h' m ∧ News h₀ L h' ((own ++ (news ++ tl)) ++ tl') ∧ Ord (own ++ (news ++ tl)) tl' ∧ G (news ++ tl ++ tl') i v y) E' { s with heap := h, toks := tk }
theorem comp_noneC {env : Env} {elt iter : Expr} {x : Str} {px : Pos} {scope : Scope} {cl : List (Str × Addr)} {pos : Pos} {l : Addr} {us : List Value} {news : Led} {Q : Value → Shared → Prop} (hh : A.handled = none)
    (F : Fr h₀ L s.heap m) (N : News h₀ L s.heap news) (S : SrcAt h₀ L news s.heap l us) (G : Led → Nat → Value → Value → Prop) (hG : ∀ l l' i v y, (∀ p ∈ l, p ∈ l') → G l i v y → G l' i v y) (hsz : us.length ≤ sizeLine)
    (hcf : ∀ k, cellsFrom k scope.names cl = (x, k) :: cl) (hpc : ∀ h : Heap, pushCells h scope.names = h.push { cls := .type "cell", data := .cell none }) (hkind : scope.kind = .function) (hx : ∀ cenv : Env, cenv.scope = relabel scope env → cenv.kindOf x = some .cell)
    (elt_ : EltCell prog w A h₀ L m news env scope cl x elt us G s)
    (hQ : ∀ D nD h' tk ys tl, CompDone h₀ L m news D nD us.length (fun i v => us[i]? = some v) G h' ys us tl → Q (.ref D) { s with heap := h', toks := tk }) :
    wpAny (model prog w) A (pyIter (.ref l)) (fun it s₂ => wpAny (model prog w) A (newList []) (fun acc s₃ => wpAny (model prog w) A (newFunctionEnv scope env.globals cl [] env.qual none .none (some env)) (fun cenv s₄ =>
      codeAny (model prog w) A (.compStart (.ListComp elt [⟨.Name x px, iter, [], 0⟩] scope pos) 0 it acc { cenv with scope := relabel scope env }) (compPost (model prog w) A E none Q acc cenv.locals) s₄) E s₃) E s₂) E s := by
  refine src_walks hh F N S fun h' I St F₁ N₁ W hlive hst hfp hLI h0I hoff => ?_
  obtain ⟨_, hL, hsrc⟩ := S
  refine comp_block_cell (RR := fun acc C => compPost (model prog w) A E none Q acc C) W G hG hlive hsz hcf hpc hkind hx hst hfp F₁ N₁ hLI h0I hoff ?_ ?_ ?_
  · intro b hb hbI
    rcases List.mem_cons.mp hb with rfl | hb
    · exact absurd rfl hbI
    · rw [List.mem_singleton.mp hb]; exact ⟨hL, hsrc⟩
  · exact elt_
  · intro D nD C h₁ tk mC ys vs tl Z hn hLC h0C hoffC
    have hv : vs = us := list_ext_of Z.P Z.lenv
    subst hv
    refine ⟨mC, hn, fun h₂ hs => hQ D nD h₂ tk ys tl ⟨Fr.but Z.F (fun b o hb e => (hs.2 b hb).trans e) hLC h0C, News.but Z.N (fun b o hb e => (hs.2 b hb).trans e) hoffC, Z.ord, Z.off, Z.P, Z.lenv, Z.len, Z.G⟩⟩
theorem comp_someC {env : Env} {elt iter : Expr} {x y : Str} {px py : Pos} {scope : Scope} {cl : List (Str × Addr)} {pos : Pos} {l : Addr} {us : List Value} {news : Led} {Q : Value → Shared → Prop} (hh : A.handled = none)
    (F : Fr h₀ env.locals s.heap m) (N : News h₀ env.locals s.heap news) (S : SrcAt h₀ env.locals news s.heap l us) (G : Led → Nat → Value → Value → Prop) (hG : ∀ l l' i v y, (∀ p ∈ l, p ∈ l') → G l i v y → G l' i v y) (hsz : us.length ≤ sizeLine)
    (hcf : ∀ k, cellsFrom k scope.names cl = (x, k) :: cl) (hpc : ∀ h : Heap, pushCells h scope.names = h.push { cls := .type "cell", data := .cell none }) (hkind : scope.kind = .function) (hx : ∀ cenv : Env, cenv.scope = relabel scope env → cenv.kindOf x = some .cell)
    (hy : env.kindOf y = some .local) (hp : (env.scope.kind == .class || (env.scope.kind == .module && env.locals != env.globals)) = false)
    (elt_ : EltCell prog w A h₀ env.locals m news env scope cl x elt us G s)
    (hQ : ∀ D nD h' tk ys tl, CompDone h₀ env.locals (fun z => if z = y then some (.ref D) else m z) news D nD us.length (fun i v => us[i]? = some v) G h' ys us tl → Q .none { s with heap := h', toks := tk }) :
    wpAny (model prog w) A (pyIter (.ref l)) (fun it s₂ => wpAny (model prog w) A (newList []) (fun acc s₃ => wpAny (model prog w) A (newFunctionEnv scope env.globals cl [] env.qual none .none (some env)) (fun cenv s₄ =>
      codeAny (model prog w) A (.compStart (.ListComp elt [⟨.Name x px, iter, [], 0⟩] scope pos) 0 it acc { cenv with scope := relabel scope env }) (compPost (model prog w) A E (some (assign (.Name y py) env)) Q acc cenv.locals) s₄) E s₃) E s₂) E s := by
  refine src_walks hh F N S fun h' I St F₁ N₁ W hlive hst hfp hLI h0I hoff => ?_
  obtain ⟨_, hL, hsrc⟩ := S
  refine comp_block_cell (RR := fun acc C => compPost (model prog w) A E (some (assign (.Name y py) env)) Q acc C) W G hG hlive hsz hcf hpc hkind hx hst hfp F₁ N₁ hLI h0I hoff ?_ ?_ ?_
  · intro b hb hbI
    rcases List.mem_cons.mp hb with rfl | hb
    · exact absurd rfl hbI
    · rw [List.mem_singleton.mp hb]; exact ⟨hL, hsrc⟩
  · exact elt_
  · intro D nD C h₁ tk mC ys vs tl Z hn hLC h0C hoffC
    have hv : vs = us := list_ext_of Z.P Z.lenv
    subst hv
    show wpAny _ A (assign (.Name y py) env (.ref D)) _ _ _
    refine wpAny_assign_Name (wpAny_storeName_local hy Z.F.ns (fun h₂ hn₂ hs₂ => ?_) hp)
    refine ⟨mC, hn.sameBut hs₂ (Ne.symm hLC), fun h₃ hs => ?_⟩
    have F₂ : Fr h₀ env.locals h₂ (fun z => if z = y then some (.ref D) else m z) := Z.F.set hn₂ hs₂
    have N₂ := Z.N.set hs₂
    exact hQ D nD h₃ _ ys tl ⟨Fr.but F₂ (fun b o hb e => (hs.2 b hb).trans e) hLC h0C, News.but N₂ (fun b o hb e => (hs.2 b hb).trans e) hoffC, Z.ord, Z.off, Z.P, Z.lenv, Z.len, Z.G⟩
end
end Mine
namespace Mine
section
variable {prog : Program} {w : World} {A : Around} {E : Value → Shared → Prop} {R : Result → Shared → Prop} {s : Shared} {h₀ : Heap} {L : Addr} {m : Str → Option Value}
/-- what stands in a dict comprehension between two turns -/
structure DictSt (h₀ : Heap) (L : Addr) (m : Str → Option Value) (news : Led) (I D C : Addr) (St : Nat → Heap → Prop) (P : Nat → Value → Prop) (H : Led → List Value → Obj → Prop) (h : Heap) (mC : Str → Option Value) (vs : List Value) (tl : Led) : Prop where
  st : St vs.length h
  acc : ∃ oD, h.get? D = some oD ∧ H (news ++ tl) vs oD
  ns : h.Ns C mC
  F : Fr h₀ L h m
  N : News h₀ L h (news ++ tl)
  ord : Ord news tl
  off : ∀ p ∈ tl, D < p.1 ∧ C < p.1 ∧ I < p.1
  P : ∀ j v, vs[j]? = some v → P j v
theorem compLoop_dict {kx vx iter : Expr} {x : Str} {px : Pos} {scope : Scope} {pos : Pos} {I D : Addr} {fp : List Addr} {n : Nat} {P : Nat → Value → Prop} {St : Nat → Heap → Prop} {cenv : Env} {news : Led} {mC : Str → Option Value}
    (W : Walks prog w A I fp [I] n P St) (H : Led → List Value → Obj → Prop)
    (hlive : ∀ i h, St i h → ∃ o, h.get? I = some o)
    (hx : cenv.kindOf x = some .local) (hp : (cenv.scope.kind == .class || (cenv.scope.kind == .module && cenv.locals != cenv.globals)) = false)
    (hDC : D ≠ cenv.locals) (hDI : D ≠ I) (hCI : cenv.locals ≠ I) (hLD : L ≠ D) (hLC : L ≠ cenv.locals) (hLI : L ≠ I) (h0D : h₀.get? D = none) (h0C : h₀.get? cenv.locals = none) (h0I : h₀.get? I = none)
    (hoff : ∀ p ∈ news, p.1 ≠ D ∧ p.1 ≠ cenv.locals ∧ p.1 ≠ I)
    (hsrc : ∀ b ∈ fp, b ≠ I → b ≠ D ∧ b ≠ cenv.locals ∧ b ≠ L ∧ ((∃ o, h₀.get? b = some o) ∨ ∃ o, (b, o) ∈ news))
    (hS : DictSt h₀ L m news I D cenv.locals St P H s.heap mC [] [])
    (turn_ : ∀ vs v mC tl oD oC oI h tk E', P vs.length v → vs.length < n → (∀ j u, vs[j]? = some u → P j u) → H (news ++ tl) vs oD → Fr h₀ L h m → News h₀ L h ((D, oD) :: (cenv.locals, oC) :: (I, oI) :: (news ++ tl)) → Ord news tl → h.Ns cenv.locals mC → mC x = some v →
      (∀ p ∈ (cenv.locals, oC) :: (I, oI) :: (news ++ tl), p.1 ≠ D) →
      wpAny (model prog w) A (eval kx cenv) (fun kv s₄ => wpAny (model prog w) A (eval vx cenv) (fun vv s₅ => wpAny (model prog w) A (dictSet D kv vv) (fun _ s₆ => ∃ tl' oD' h' tk', s₆ = { s with heap := h', toks := tk' } ∧ Fr h₀ L h' m ∧ News h₀ L h' ((D, oD') :: (((cenv.locals, oC) :: (I, oI) :: (news ++ tl)) ++ tl')) ∧
        Ord ((D, oD) :: (cenv.locals, oC) :: (I, oI) :: (news ++ tl)) tl' ∧ H (news ++ tl ++ tl') (vs ++ [v]) oD') E' s₅) E' s₄) E' { s with heap := h, toks := tk })
    (hR : ∀ h' tk mC' vs tl, DictSt h₀ L m news I D cenv.locals (fun _ _ => True) P H h' mC' vs tl → vs.length = n → R (.ok .next) { s with heap := h', toks := tk }) :
    codeAny (model prog w) A (.compLoop (.DictComp kx vx [⟨.Name x px, iter, [], 0⟩] scope pos) 0 (.ref I) (.ref D) cenv) R s := by
  refine codeAny_compLoop_testsD
    (fun k s' => ∃ h' tk mC' vs tl, s' = { s with heap := h', toks := tk } ∧ DictSt h₀ L m news I D cenv.locals St P H h' mC' vs tl ∧ vs.length ≤ n ∧ k = n + 1 - vs.length) ?_ (n + 1)
    ⟨s.heap, s.toks, mC, [], [], rfl, hS, Nat.zero_le _, rfl⟩
  rintro k s' ⟨Hh, tk, mC', vs, tl, rfl, S, hi, rfl⟩
  have offTl : ∀ p ∈ tl, p.1 ≠ D ∧ p.1 ≠ cenv.locals ∧ p.1 ≠ I := fun p hp => ⟨Nat.ne_of_gt (S.off p hp).1, Nat.ne_of_gt (S.off p hp).2.1, Nat.ne_of_gt (S.off p hp).2.2⟩
  have offAll : ∀ p ∈ news ++ tl, p.1 ≠ D ∧ p.1 ≠ cenv.locals ∧ p.1 ≠ I := fun p hp => (List.mem_append.mp hp).elim (hoff p) (offTl p)
  by_cases hlt : vs.length < n
  · refine W.item vs.length _ _ _ hlt S.st fun v h₁ tk₁ hPv hst₁ hk₁ => ?_
    have hk₁' : ∀ b o, b ≠ I → Hh.get? b = some o → h₁.get? b = some o := fun b o hb e => hk₁ b o (by simpa using hb) e
    have F₁ : Fr h₀ L h₁ m := Fr.but S.F hk₁' hLI h0I
    have N₁ : News h₀ L h₁ (news ++ tl) := News.but S.N hk₁' fun p hp => (offAll p hp).2.2
    refine wpAny_assign_Name (wpAny_storeName_local hx (S.ns.at' fun o e => hk₁' _ o hCI e) (fun h₂ hn₂ hs₂ => ?_) hp)
    have hk₂ : ∀ b o, b ≠ cenv.locals → h₁.get? b = some o → h₂.get? b = some o := fun b o hb e => (hs₂.2 b hb).trans e
    have F₂ : Fr h₀ L h₂ m := Fr.but F₁ hk₂ hLC h0C
    have N₂ : News h₀ L h₂ (news ++ tl) := News.but N₁ hk₂ fun p hp => (offAll p hp).2.1
    obtain ⟨oD, eD0, hHD⟩ := S.acc
    have eD : h₂.get? D = some oD := hk₂ _ oD hDC (hk₁' _ oD hDI eD0)
    have hst₂ : St (vs.length + 1) h₂ := W.frame _ _ _ hst₁ fun b hb o e => hk₂ b o (by
      by_cases hbI : b = I
      · exact hbI ▸ Ne.symm hCI
      · exact (hsrc b hb hbI).2.1) e
    refine wpAny_tests_nil ?_
    simp only [if_true]
    obtain ⟨oI, eI⟩ := hlive _ _ hst₂
    obtain ⟨oC, _, _, eC, _⟩ := id hn₂
    have NN : News h₀ L h₂ ((D, oD) :: (cenv.locals, oC) :: (I, oI) :: (news ++ tl)) := by
      intro p hp
      rcases List.mem_cons.mp hp with rfl | hp
      · exact ⟨eD, Ne.symm hLD, h0D⟩
      rcases List.mem_cons.mp hp with rfl | hp
      · exact ⟨eC, Ne.symm hLC, h0C⟩
      rcases List.mem_cons.mp hp with rfl | hp
      · exact ⟨eI, Ne.symm hLI, h0I⟩
      · exact N₂ p hp
    refine wpAny_mono (turn_ vs v _ tl _ _ _ h₂ _ _ hPv hlt S.P hHD F₂ NN S.ord hn₂ (by simp) (fun p hp => by
      rcases List.mem_cons.mp hp with rfl | hp
      · exact Ne.symm hDC
      rcases List.mem_cons.mp hp with rfl | hp
      · exact Ne.symm hDI
      · exact (offAll p hp).1)) (fun kv s₄ h₄ => wpAny_mono h₄ (fun vv s₅ h₅ => wpAny_mono h₅ (fun _ s₆ h₆ => ?_) fun _ _ e => e) fun _ _ e => e) fun _ _ e => e
    obtain ⟨tl', oD', h₄, tk₄, rfl, F₄, N₄, O₄, G₄⟩ := h₆
    have inC : (cenv.locals, oC) ∈ (D, oD') :: (((cenv.locals, oC) :: (I, oI) :: (news ++ tl)) ++ tl') := by simp
    have inI : (I, oI) ∈ (D, oD') :: (((cenv.locals, oC) :: (I, oI) :: (news ++ tl)) ++ tl') := by simp
    have sub4 : ∀ p ∈ news ++ (tl ++ tl'), p ∈ (D, oD') :: (((cenv.locals, oC) :: (I, oI) :: (news ++ tl)) ++ tl') := fun p hp => by
      simp only [List.mem_append, List.mem_cons] at hp ⊢
      rcases hp with h | h | h <;> simp [h]
    have offTl' : ∀ p ∈ tl', D < p.1 ∧ cenv.locals < p.1 ∧ I < p.1 := fun p hp => ⟨O₄ (D, oD) (List.mem_cons_self ..) p hp, O₄ (cenv.locals, oC) (by simp) p hp, O₄ (I, oI) (by simp) p hp⟩
    have hst₄ : St (vs.length + 1) h₄ := W.frame _ _ _ hst₂ fun b hb o e => by
      by_cases hbI : b = I
      · subst hbI; rw [eI] at e; cases e; exact (N₄ _ inI).1
      · rcases (hsrc b hb hbI).2.2.2 with ⟨o', e'⟩ | ⟨o', e'⟩
        · have q := F₂.keep b o' e'; rw [e] at q; cases q; exact F₄.keep b _ e'
        · have := (N₂ (b, o') (List.mem_append.mpr (.inl e'))).1
          rw [e] at this; cases this
          exact (N₄ (b, _) (sub4 _ (List.mem_append.mpr (.inl e')))).1
    have hC4 : h₄.Ns cenv.locals _ := hn₂.at' fun o e => by rw [eC] at e; cases e; exact (N₄ _ inC).1
    refine ⟨n + 1 - (vs.length + 1), by omega, h₄, tk₄, (fun z => if z = x then some v else mC' z), vs ++ [v], tl ++ tl', rfl, ?_, (by rw [List.length_append, List.length_singleton]; exact hlt), (by rw [List.length_append, List.length_singleton])⟩
    refine ⟨?_, ⟨oD', (N₄ _ (List.mem_cons_self ..)).1, ?_⟩, hC4, F₄, News.sub N₄ sub4, ?_, ?_, snoc_get S.P hPv⟩
    · rw [List.length_append, List.length_singleton]; exact hst₄
    · rw [← List.append_assoc]; exact G₄
    · refine S.ord.app (O₄.sub fun q hq => ?_)
      simp only [List.mem_append, List.mem_cons] at hq ⊢
      rcases hq with h | h <;> simp [h]
    · intro p hp
      rcases List.mem_append.mp hp with h | h
      · exact S.off p h
      · exact offTl' p h
  · have hin : vs.length = n := by omega
    refine W.done _ _ _ (hin ▸ S.st) fun h₁ tk₁ hk₁ => ?_
    have hk₁' : ∀ b o, b ≠ I → Hh.get? b = some o → h₁.get? b = some o := fun b o hb e => hk₁ b o (by simpa using hb) e
    obtain ⟨oD, eD0, hHD⟩ := S.acc
    exact hR h₁ tk₁ mC' vs tl ⟨trivial, ⟨oD, hk₁' _ oD hDI eD0, hHD⟩, S.ns.at' fun o e => hk₁' _ o hCI e, Fr.but S.F hk₁' hLI h0I, News.but S.N hk₁' fun p hp => (offAll p hp).2.2, S.ord, S.off, S.P⟩ hin
/-- what is known when the block has made its dict -/
structure DictDone (h₀ : Heap) (L : Addr) (m : Str → Option Value) (news : Led) (D : Addr) (oD : Obj) (n : Nat) (P : Nat → Value → Prop) (H : Led → List Value → Obj → Prop) (h : Heap) (vs : List Value) (tl : Led) : Prop where
  F : Fr h₀ L h m
  N : News h₀ L h ((D, oD) :: (news ++ tl))
  ord : Ord news ((D, oD) :: tl)
  off : ∀ p ∈ tl, D < p.1
  P : ∀ j v, vs[j]? = some v → P j v
  lenv : vs.length = n
  H : H (news ++ tl) vs oD
/-- what one turn of a dict comprehension gives -/
def TurnD (prog : Program) (w : World) (A : Around) (h₀ : Heap) (L : Addr) (m : Str → Option Value) (news : Led) (env : Env) (scope : Scope) (cl : List (Str × Addr)) (x : Str) (kx vx : Expr) (n : Nat) (P : Nat → Value → Prop) (H : Led → List Value → Obj → Prop) (s : Shared) : Prop :=
  ∀ vs v D C mC tl oD own h tk E', P vs.length v → vs.length < n → (∀ j u, vs[j]? = some u → P j u) → H (news ++ tl) vs oD → Fr h₀ L h m → News h₀ L h ((D, oD) :: (own ++ (news ++ tl))) → Ord news tl → h.Ns C mC → mC x = some v → (∃ o, (C, o) ∈ own) → (∀ p ∈ own ++ (news ++ tl), p.1 ≠ D) →
      wpAny (model prog w) A (eval kx (compEnvC scope cl C env)) (fun kv s₄ => wpAny (model prog w) A (eval vx (compEnvC scope cl C env)) (fun vv s₅ => wpAny (model prog w) A (dictSet D kv vv) (fun _ s₆ => ∃ tl' oD' h' tk', s₆ = { s with heap := h', toks := tk' } ∧ Fr h₀ L h' m ∧ News h₀ L h' ((D, oD') :: ((own ++ (news ++ tl)) ++ tl')) ∧
        Ord ((D, oD) :: (own ++ (news ++ tl))) tl' ∧ H (news ++ tl ++ tl') (vs ++ [v]) oD') E' s₅) E' s₄) E' { s with heap := h, toks := tk }
theorem comp_block_dict {env : Env} {kx vx iter : Expr} {x : Str} {px : Pos} {scope : Scope} {cl : List (Str × Addr)} {pos : Pos} {s₂ : Shared} {I : Addr} {fp : List Addr} {n : Nat} {P : Nat → Value → Prop} {St : Nat → Heap → Prop} {news : Led}
    (W : Walks prog w A I fp [I] n P St) (H : Led → List Value → Obj → Prop) {RR : Value → Addr → Result → Shared → Prop}
    (hlive : ∀ i h, St i h → ∃ o, h.get? I = some o)
    (hcell : ∀ y ∈ scope.names, y.2 ≠ .cell) (hkind : scope.kind = .function) (hx : scope.names.lookup x = some .local) (hst : St 0 s₂.heap) (hfp : ∀ b ∈ fp, b < s₂.heap.objs.size)
    (F : Fr h₀ L s₂.heap m) (N : News h₀ L s₂.heap news) (hLI : L ≠ I) (h0I : h₀.get? I = none) (hoff : ∀ p ∈ news, p.1 < I)
    (hsrc : ∀ b ∈ fp, b ≠ I → b ≠ L ∧ ((∃ o, h₀.get? b = some o) ∨ ∃ o, (b, o) ∈ news))
    (hH0 : H news [] (dictOf [] 0))
    (turn_ : TurnD prog w A h₀ L m news env scope cl x kx vx n P H s₂)
    (hRR : ∀ D oD C h' tk mC vs tl, DictDone h₀ L m news D oD n P H h' vs tl → h'.Ns C mC → L ≠ C → h₀.get? C = none → (∀ p ∈ (D, oD) :: (news ++ tl), p.1 ≠ C) → RR (.ref D) C (.ok .next) { s₂ with heap := h', toks := tk }) :
    wpAny (model prog w) A newDict (fun acc s₃ => wpAny (model prog w) A (newFunctionEnv scope env.globals cl [] env.qual none .none (some env)) (fun cenv s₄ =>
      codeAny (model prog w) A (.compStart (.DictComp kx vx [⟨.Name x px, iter, [], 0⟩] scope pos) 0 (.ref I) acc { cenv with scope := relabel scope env }) (RR acc cenv.locals) s₄) E s₃) E s₂ := by
  refine wpAny_newObj_type (wpAny_newFunctionEnv hcell (by intro y hy; simp at hy) (fun h₁ hns₁ hsb₁ => ?_) hkind)
  dsimp only at hns₁ hsb₁ ⊢
  generalize hH2 : s₂.heap.push { cls := .type "dict", dict := none, data := .dict #[] } = H2 at hns₁ hsb₁ ⊢
  have hC : H2.objs.size = s₂.heap.objs.size + 1 := by rw [← hH2, Heap.size_push]
  have hIlt : I < s₂.heap.objs.size := by obtain ⟨o, e⟩ := hlive _ _ hst; exact Heap.lt_size e
  have hLlt : L < s₂.heap.objs.size := F.ns.lt
  have hDC : s₂.heap.objs.size ≠ H2.objs.size := by rw [hC]; exact Nat.ne_of_lt (Nat.lt_succ_self _)
  have old : ∀ b o, s₂.heap.get? b = some o → h₁.get? b = some o := fun b o e => hsb₁.extBut b o (by have := Heap.lt_size e; rw [hC]; exact Nat.ne_of_lt (Nat.lt_succ_of_lt this)) (Heap.get?_push_of_some _ (hH2 ▸ Heap.get?_push_of_some _ e))
  have hacc : h₁.get? s₂.heap.objs.size = some (dictOf [] 0) := hsb₁.extBut _ _ hDC (Heap.get?_push_of_some _ (hH2 ▸ Heap.get?_push_size _ rfl))
  have fresh : ∀ a, s₂.heap.objs.size ≤ a → h₀.get? a = none := fun a ha => by
    cases e : h₀.get? a with
    | none => rfl
    | some o' => exact absurd (Heap.lt_size (F.keep _ _ e)) (Nat.not_lt.mpr ha)
  have F₁ : Fr h₀ L h₁ m := ⟨F.ns.at' fun o e => old _ o e, fun b o e => old b o (F.keep b o e), F.above⟩
  have N₁ : News h₀ L h₁ news := fun p hp => ⟨old _ _ (N p hp).1, (N p hp).2⟩
  have newsLt : ∀ p ∈ news, p.1 < s₂.heap.objs.size := fun p hp => Heap.lt_size (N p hp).1
  have loop : ∀ s₃ : Shared, s₃ = { s₂ with heap := h₁, toks := s₂.toks + ([] : List (Str × Value)).length } →
      codeAny (model prog w) A (.compLoop (.DictComp kx vx [⟨.Name x px, iter, [], 0⟩] scope pos) 0 (.ref I) (.ref s₂.heap.objs.size) (compEnvC scope cl H2.objs.size env))
        (RR (.ref s₂.heap.objs.size) H2.objs.size) s₃ := by
    rintro s₃ rfl
    refine compLoop_dict (h₀ := h₀) (L := L) (m := m) (news := news) (cenv := compEnvC scope cl H2.objs.size env) (mC := fun x => List.lookup x ([] : List (Str × Value)).reverse) W H hlive (lookup_relabel_local hx) (by simp [compEnvC, relabel, hkind])
      hDC (Nat.ne_of_gt hIlt) ?_ (Nat.ne_of_lt hLlt) ?_ hLI (fresh _ (Nat.le_refl _)) (fresh _ (by show _ ≤ H2.objs.size; rw [hC]; exact Nat.le_succ _)) h0I ?_ ?_ ?_ ?_ ?_
    · show H2.objs.size ≠ I
      rw [hC]; exact Nat.ne_of_gt (Nat.lt_succ_of_lt hIlt)
    · show L ≠ H2.objs.size
      rw [hC]; exact Nat.ne_of_lt (Nat.lt_succ_of_lt hLlt)
    · intro p hp
      refine ⟨Nat.ne_of_lt (newsLt p hp), ?_, Nat.ne_of_lt (hoff p hp)⟩
      show p.1 ≠ H2.objs.size
      rw [hC]; exact Nat.ne_of_lt (Nat.lt_succ_of_lt (newsLt p hp))
    · intro b hb hbI
      refine ⟨Nat.ne_of_lt (hfp b hb), ?_, hsrc b hb hbI⟩
      show b ≠ H2.objs.size
      rw [hC]; exact Nat.ne_of_lt (Nat.lt_succ_of_lt (hfp b hb))
    · refine ⟨W.frame _ _ _ hst fun b hb o e => old b o e, ⟨_, hacc, by rw [List.append_nil]; exact hH0⟩, hns₁, F₁, by rw [List.append_nil]; exact N₁, Ord.nil, fun _ h => (nomatch h), fun _ _ h => by simp at h⟩
    · intro vs v mC tl oD oC oI h tk E' hP hlt hPs hH Fh Nh hO hn hm hne
      exact turn_ vs v s₂.heap.objs.size H2.objs.size mC tl oD [(H2.objs.size, oC), (I, oI)] h tk E' hP hlt hPs hH Fh Nh hO hn hm ⟨oC, by simp⟩ hne
    · intro h' tk mC vs tl S hlen
      obtain ⟨oD, eD, hHD⟩ := S.acc
      have Ndone : News h₀ L h' ((s₂.heap.objs.size, oD) :: (news ++ tl)) := fun p hp => by
        rcases List.mem_cons.mp hp with rfl | hp
        · exact ⟨eD, Nat.ne_of_gt hLlt, fresh _ (Nat.le_refl _)⟩
        · exact S.N p hp
      refine hRR _ oD H2.objs.size h' tk mC vs tl ⟨S.F, Ndone, ?_, fun p hp => (S.off p hp).1, S.P, hlen, hHD⟩ S.ns ?_ (fresh _ (by rw [hC]; exact Nat.le_succ _)) ?_
      · intro q hq p hp
        rcases List.mem_cons.mp hp with rfl | hp
        · exact newsLt q hq
        · exact S.ord q hq p hp
      · rw [hC]; exact Nat.ne_of_lt (Nat.lt_succ_of_lt hLlt)
      · intro p hp
        rcases List.mem_cons.mp hp with rfl | hp
        · exact hDC
        rcases List.mem_append.mp hp with h | h
        · rw [hC]; exact Nat.ne_of_lt (Nat.lt_succ_of_lt (newsLt p h))
        · exact Nat.ne_of_gt (S.off p h).2.1
  exact codeAny_compStart_dict (loop _ rfl) (W.self 0 _ _ _ (W.frame _ _ _ hst fun b hb o e => old b o e) (loop _ rfl))
/-- a dict comprehension over a dict's names -/
theorem comp_dict {K : Type} [DecidableEq K] {knd : KeyKind prog w K} {env : Env} {kx vx iter : Expr} {x : Str} {px : Pos} {scope : Scope} {cl : List (Str × Addr)} {pos : Pos} {d : Addr} {od : Obj} {kvs : List (K × Value)} {news : Led} {Q : Value → Shared → Prop} (hh : A.handled = none)
    (F : Fr h₀ L s.heap m) (N : News h₀ L s.heap news) (hd : (d, od) ∈ news) (hod : od.IsDictOf knd kvs) (hsys : (d == sysModules) = false) (H : Led → List Value → Obj → Prop)
    (hcell : ∀ y ∈ scope.names, y.2 ≠ .cell) (hkind : scope.kind = .function) (hx : scope.names.lookup x = some .local)
    (hH0 : H news [] (dictOf [] 0))
    (turn_ : TurnD prog w A h₀ L m news env scope cl x kx vx kvs.length (fun i v => ∃ k x, kvs[i]? = some (k, x) ∧ knd.is k v = true) H s)
    (hQ : ∀ D oD h' tk vs tl, DictDone h₀ L m news D oD kvs.length (fun i v => ∃ k x, kvs[i]? = some (k, x) ∧ knd.is k v = true) H h' vs tl → Q (.ref D) { s with heap := h', toks := tk }) :
    wpAny (model prog w) A (pyIter (.ref d)) (fun it s₂ => wpAny (model prog w) A newDict (fun acc s₃ => wpAny (model prog w) A (newFunctionEnv scope env.globals cl [] env.qual none .none (some env)) (fun cenv s₄ =>
      codeAny (model prog w) A (.compStart (.DictComp kx vx [⟨.Name x px, iter, [], 0⟩] scope pos) 0 it acc { cenv with scope := relabel scope env }) (compPost (model prog w) A E none Q acc cenv.locals) s₄) E s₃) E s₂) E s := by
  have hI0 : h₀.get? s.heap.objs.size = none := next_is_new F
  have hdl : d < s.heap.objs.size := Heap.lt_size (N _ hd).1
  obtain ⟨es, ep, k1, k2, k3, k4, k5⟩ := hod
  have hdm : s.heap.DictAt knd d kvs ep := ⟨od, es, (N _ hd).1, k1, k2, k3, k4, k5⟩
  refine wpAny_pyIter_dict hsys hdm ?_
  have W := Walks.dictKeys (prog := prog) (w := w) (knd := knd) hh s.heap.objs.size d (Nat.ne_of_lt hdl) kvs ep
  refine comp_block_dict (RR := fun acc C => compPost (model prog w) A E none Q acc C) (h₀ := h₀) (L := L) (m := m) (news := news) W H ?_ hcell hkind hx ⟨⟨_, Heap.get?_push_size _ rfl, rfl, rfl⟩, hdm.at' fun o e => Heap.get?_push_of_some _ e⟩ ?_ (F.push _) (fun p hp => ⟨Heap.get?_push_of_some _ (N p hp).1, (N p hp).2⟩) (Nat.ne_of_lt F.ns.lt) hI0 (fun p hp => Heap.lt_size (N p hp).1) ?_ hH0 turn_ ?_
  · rintro i h ⟨⟨o, e, _⟩, _⟩; exact ⟨o, e⟩
  · intro b hb
    rw [Heap.size_push]
    rcases List.mem_cons.mp hb with rfl | hb
    · exact Nat.lt_succ_self _
    · rw [List.mem_singleton.mp hb]; exact Nat.lt_succ_of_lt hdl
  · intro b hb hbI
    rcases List.mem_cons.mp hb with rfl | hb
    · exact absurd rfl hbI
    · rw [List.mem_singleton.mp hb]; exact ⟨(N _ hd).2.1, .inr ⟨od, hd⟩⟩
  · intro D oD C h₁ tk mC vs tl Z hn hLC h0C hoffC
    exact ⟨mC, hn, fun h₂ hs => hQ D oD h₂ tk vs tl ⟨Fr.but Z.F (fun b o hb e => (hs.2 b hb).trans e) hLC h0C, News.but Z.N (fun b o hb e => (hs.2 b hb).trans e) hoffC, Z.ord, Z.off, Z.P, Z.lenv, Z.H⟩⟩
/-- a dict comprehension as an expression -/
theorem DictComp_led {env : Env} {kx vx iter : Expr} {x : Str} {px : Pos} {scope : Scope} {cl : List (Str × Addr)} {pos : Pos} {Q : Value → Shared → Prop}
    (hclos : closureFor scope env = pure cl) (hkind : scope.kind = .function) (hnames : ∀ y ∈ scope.names, y.2 = .local → scope.names.lookup y.1 = some .local)
    (h : wpAny (model prog w) A (eval iter env) (fun xv s₁ => wpAny (model prog w) A (pyIter xv) (fun it s₂ => wpAny (model prog w) A newDict (fun acc s₃ => wpAny (model prog w) A (newFunctionEnv scope env.globals cl [] env.qual none .none (some env)) (fun cenv s₄ =>
      codeAny (model prog w) A (.compStart (.DictComp kx vx [⟨.Name x px, iter, [], 0⟩] scope pos) 0 it acc { cenv with scope := relabel scope env }) (compPost (model prog w) A E none Q acc cenv.locals) s₄) E s₃) E s₂) E s₁) E s)
    (hs : ∀ x, foldedSetIterable iter env x = pure x := by intro _; rfl) :
    wpAny (model prog w) A (eval (.DictComp kx vx [⟨.Name x px, iter, [], 0⟩] scope pos) env) Q E s := by
  show wpAny _ A (comprehension (.DictComp kx vx [⟨.Name x px, iter, [], 0⟩] scope pos) scope env _ newDict false (eval iter env)) _ _ s
  exact wpAny_comprehension_free (use := none) rfl hs hclos hkind hnames h
end
end Mine
namespace Mine
inductive Atom where
  | S | T | U | A | B | C | obj | non | nev | any
  deriving DecidableEq
def Atom.nm : Atom → Str
  | .S => "S" | .T => "T" | .U => "U" | .A => "A" | .B => "B" | .C => "C" | .obj => "object" | .non => "none" | .nev => "never" | .any => "any"
inductive Tag where
  | box | pair | union
  deriving DecidableEq
def Tag.nm : Tag → Str
  | .box => "box" | .pair => "pair" | .union => "union"
inductive Tree where
  | leaf (a : Atom)
  | node (g : Tag) (ps : List Tree)
mutual
def Tree.ht : Tree → Nat
  | .leaf _ => 0
  | .node _ ps => hts ps + 1
def hts : List Tree → Nat
  | [] => 0
  | p :: r => max p.ht (hts r)
end
mutual
-- a node that is no union has parts
def Tree.ok : Tree → Prop
  | .leaf _ => True
  | .node g ps => (g ≠ .union → ps ≠ []) ∧ oks ps
def oks : List Tree → Prop
  | [] => True
  | p :: r => p.ok ∧ oks r
end
mutual
def flat1 : Tree → List Tree
  | .node .union ps => flats ps
  | t => [t]
def flats : List Tree → List Tree
  | [] => []
  | p :: r => flat1 p ++ flats r
end
-- the law's trees: lists with a text ahead
mutual
def TreeIn (news : Led) : Tree → Value → Prop
  | .leaf a, v => ∃ tk, v = .str a.nm tk
  | .node g ps, v => ∃ l tk vs n, v = .ref l ∧ (l, listOf (Value.str g.nm tk :: vs).toArray n) ∈ news ∧ TreesIn news ps vs
def TreesIn (news : Led) : List Tree → List Value → Prop
  | [], vs => vs = []
  | p :: r, vs => ∃ v us, vs = v :: us ∧ TreeIn news p v ∧ TreesIn news r us
end
mutual
theorem TreeIn.mono {news news' : Led} (hs : ∀ p ∈ news, p ∈ news') : ∀ {t : Tree} {v : Value}, TreeIn news t v → TreeIn news' t v
  | .leaf _, _, h => by simpa only [TreeIn] using h
  | .node _ _, _, h => by
    simp only [TreeIn] at h ⊢
    obtain ⟨l, tk, vs, n, e, hm, hp⟩ := h
    exact ⟨l, tk, vs, n, e, hs _ hm, TreesIn.mono hs hp⟩
theorem TreesIn.mono {news news' : Led} (hs : ∀ p ∈ news, p ∈ news') : ∀ {ts : List Tree} {vs : List Value}, TreesIn news ts vs → TreesIn news' ts vs
  | [], _, h => by simpa only [TreesIn] using h
  | _ :: _, _, h => by
    simp only [TreesIn] at h ⊢
    obtain ⟨v, us, e, h1, h2⟩ := h
    exact ⟨v, us, e, TreeIn.mono hs h1, TreesIn.mono hs h2⟩
end
theorem TreesIn.len {news : Led} : ∀ {ts : List Tree} {vs : List Value}, TreesIn news ts vs → vs.length = ts.length
  | [], _, h => by simp only [TreesIn] at h; subst h; rfl
  | _ :: _, _, h => by
    simp only [TreesIn] at h
    obtain ⟨v, us, rfl, _, h2⟩ := h
    rw [List.length_cons, List.length_cons, h2.len]
theorem TreesIn.get {news : Led} : ∀ {ts : List Tree} {vs : List Value}, TreesIn news ts vs → ∀ {i : Nat} {v : Value}, vs[i]? = some v → ∃ t, ts[i]? = some t ∧ TreeIn news t v
  | [], _, h, i, v, hv => by simp only [TreesIn] at h; subst h; simp at hv
  | t :: _, _, h, i, v, hv => by
    simp only [TreesIn] at h
    obtain ⟨u, us, rfl, h1, h2⟩ := h
    cases i with
    | zero => simp at hv; subst hv; exact ⟨t, rfl, h1⟩
    | succ i => simp only [List.getElem?_cons_succ] at hv ⊢; exact h2.get hv
theorem TreesIn.of {news : Led} : ∀ {ts : List Tree} {vs : List Value}, vs.length = ts.length → (∀ (i : Nat) (v : Value) (t : Tree), vs[i]? = some v → ts[i]? = some t → TreeIn news t v) → TreesIn news ts vs
  | [], vs, h, _ => by simp only [TreesIn]; exact List.length_eq_zero_iff.mp h
  | t :: r, [], h, _ => by simp at h
  | t :: r, v :: us, h, hi => by
    simp only [TreesIn]
    exact ⟨v, us, rfl, hi 0 v t rfl rfl, TreesIn.of (by simpa using h) fun i v' t' h1 h2 => hi (i + 1) v' t' (by simpa using h1) (by simpa using h2)⟩
theorem TreesIn.app {news : Led} {ts us : List Tree} {vs ws : List Value} (a : TreesIn news ts vs) (b : TreesIn news us ws) : TreesIn news (ts ++ us) (vs ++ ws) := by
  induction ts generalizing vs with
  | nil => simp only [TreesIn] at a; subst a; simpa using b
  | cons t r ih =>
    simp only [TreesIn] at a
    obtain ⟨v, us', rfl, h1, h2⟩ := a
    simp only [List.cons_append, TreesIn]
    exact ⟨v, _, rfl, h1, ih h2⟩
theorem TreesIn.one {news : Led} {t : Tree} {v : Value} (h : TreeIn news t v) : TreesIn news [t] [v] := by simp only [TreesIn]; exact ⟨v, [], rfl, h, rfl⟩
theorem TreesIn.nil {news : Led} : TreesIn news [] [] := by simp only [TreesIn]
theorem hts_le {t : Tree} : ∀ {ts : List Tree}, t ∈ ts → t.ht ≤ hts ts
  | p :: r, h => by
    simp only [hts]
    rcases List.mem_cons.mp h with rfl | h
    · exact Nat.le_max_left ..
    · exact Nat.le_trans (hts_le h) (Nat.le_max_right ..)
theorem oks_mem {t : Tree} : ∀ {ts : List Tree}, oks ts → t ∈ ts → t.ok
  | p :: r, h, hm => by
    simp only [oks] at h
    rcases List.mem_cons.mp hm with rfl | hm
    · exact h.1
    · exact oks_mem h.2 hm
end Mine
namespace Mine
noncomputable abbrev lo : List Str := looseW Mine.hd.view_39 [Str.ofString "TypeVarType", Str.ofString "AnyType", Str.ofString "UninhabitedType", Str.ofString "UnionType"]
abbrev tupOf (vs : List Value) (n : Nat) : Obj := { cls := .type "tuple", data := .seq vs.toArray n }
/-- what a call of the def at f is promised: Pre of what is seen of the ledger and the arguments; Post of that with what was made, and the result -/
def Con (w : World) (mean : ExcName → Option Value) (mg mb : Str → Option Value) (f : Addr) (dep un : Nat) (Pre : Led → List Value → Prop) (Post : Led → List Value → Value → Prop) : Prop :=
  ∀ (A A₀ : Around) (env : Env) (outer : List Env) (base h₀ : Heap) (L : Addr) (m : Str → Option Value) (news vis : Led) (s : Shared) (args : List Value) (R : Result → Shared → Prop),
    Below A₀ base outer h₀ → Fr h₀ L s.heap m → (Mine.hd.heap_39 w.params).In h₀ → News h₀ L s.heap news → Top Mine.hd.view_39 lo mean mg mb h₀ →
    A.frames = some (env :: outer) → env.frame = some L → env.scope.kind = .function → A.handled = none → A.guards = some [] → A.depth + dep < recursionLimit → A.units + un < cLine → (∀ p ∈ vis, p ∈ news) → Pre vis args →
    (∀ r tl h' tk', Fr h₀ L h' m → News h₀ L h' (news ++ tl) → Ord news tl → Post (vis ++ tl) args r → R (.ok (.ret r)) { s with heap := h', toks := tk' }) →
    codeAny (model PySem.Challenge.rw_ft0017_01.row.prog w) A (.call (.ref f) ⟨args, []⟩) R s
theorem con_use {w : World} {mean : ExcName → Option Value} {mg mb : Str → Option Value} {f : Addr} {dep un : Nat} {Pre : Led → List Value → Prop} {Post : Led → List Value → Value → Prop} (C : Con w mean mg mb f dep un Pre Post) (vis : Led)
    {A A₀ : Around} {env : Env} {outer : List Env} {base h₀ : Heap} {L : Addr} {m : Str → Option Value} {news : Led} {s : Shared} {args : List Value} {R : Result → Shared → Prop}
    (B : Below A₀ base outer h₀) (F : Fr h₀ L s.heap m) (X : (Mine.hd.heap_39 w.params).In h₀) (N : News h₀ L s.heap news) (T : Top Mine.hd.view_39 lo mean mg mb h₀)
    (hA : A.frames = some (env :: outer)) (hf : env.frame = some L) (hk : env.scope.kind = .function) (hh : A.handled = none) (hg : A.guards = some []) (hd : A.depth + dep < recursionLimit) (hu : A.units + un < cLine) (hv : ∀ p ∈ vis, p ∈ news) (hp : Pre vis args)
    (hR : ∀ r tl h' tk', Fr h₀ L h' m → News h₀ L h' (news ++ tl) → Ord news tl → Post (vis ++ tl) args r → R (.ok (.ret r)) { s with heap := h', toks := tk' }) :
    codeAny (model PySem.Challenge.rw_ft0017_01.row.prog w) A (.call (.ref f) ⟨args, []⟩) R s := C A A₀ env outer base h₀ L m news vis s args R B F X N T hA hf hk hh hg hd hu hv hp hR
theorem con_leave {P : Led → Value → Prop} {h₀ g : Heap} {L L' : Addr} {m m' : Str → Option Value} {news nw : Led} {s : Shared} {R : Result → Shared → Prop} {h' : Heap} {tk : Nat} {r : Value}
    (hR : ∀ r tl h' tk', Fr h₀ L h' m → News h₀ L h' (news ++ tl) → Ord news tl → P tl r → R (.ok (.ret r)) { s with heap := h', toks := tk' })
    (F : Fr g L' h' m') (N : News g L' h' nw) (tl : Led) (hn : ∀ p ∈ news ++ tl, p ∈ nw) (hO : Ord news tl) (hP : P tl r) : LeaveK h₀ L m g R r { s with heap := h', toks := tk } :=
  ⟨L', m', nw, F, N, fun kF kN => hR r tl h' tk kF (fun p hp => kN p (hn p hp)) hO hP⟩
theorem con_leave_init {P : Led → Value → Prop} {h₀ g : Heap} {L L' x : Addr} {m m' : Str → Option Value} {news nw : Led} {s : Shared} {R : Result → Shared → Prop} {h' : Heap} {tk : Nat}
    (hR : ∀ r tl h' tk', Fr h₀ L h' m → News h₀ L h' (news ++ tl) → Ord news tl → P tl r → R (.ok (.ret r)) { s with heap := h', toks := tk' })
    (F : Fr g L' h' m') (N : News g L' h' nw) (tl : Led) (hn : ∀ p ∈ news ++ tl, p ∈ nw) (hO : Ord news tl) (hP : P tl (.ref x)) : LeaveK h₀ L m g (InitBack x R) .none { s with heap := h', toks := tk } :=
  ⟨L', m', nw, F, N, fun kF kN => ⟨rfl, hR _ tl h' tk kF (fun p hp => kN p (hn p hp)) hO hP⟩⟩
theorem con_leave0 {P : Led → Value → Prop} {h₀ g : Heap} {L L' : Addr} {m m' : Str → Option Value} {news tl : Led} {s : Shared} {R : Result → Shared → Prop} {h' : Heap} {tk : Nat} {r : Value}
    (hR : ∀ r tl h' tk', Fr h₀ L h' m → News h₀ L h' (news ++ tl) → Ord news tl → P tl r → R (.ok (.ret r)) { s with heap := h', toks := tk' })
    (F : Fr g L' h' m') (N : News g L' h' ((news ++ tl))) (hO : Ord news (tl)) (hP : P (tl) r) : LeaveK h₀ L m g R r { s with heap := h', toks := tk } := con_leave hR F N (tl) (fun p hp => by simp only [List.mem_append, List.mem_cons] at hp ⊢; exact hp) hO hP
theorem con_leave_init0 {P : Led → Value → Prop} {h₀ g : Heap} {L L' x : Addr} {m m' : Str → Option Value} {news tl : Led} {s : Shared} {R : Result → Shared → Prop} {h' : Heap} {tk : Nat}
    (hR : ∀ r tl h' tk', Fr h₀ L h' m → News h₀ L h' (news ++ tl) → Ord news tl → P tl r → R (.ok (.ret r)) { s with heap := h', toks := tk' })
    (F : Fr g L' h' m') (N : News g L' h' ((news ++ tl))) (hO : Ord news (tl)) (hP : P (tl) (.ref x)) : LeaveK h₀ L m g (InitBack x R) .none { s with heap := h', toks := tk } := con_leave_init hR F N (tl) (fun p hp => by simp only [List.mem_append, List.mem_cons] at hp ⊢; exact hp) hO hP
theorem con_leave1 {P : Led → Value → Prop} {h₀ g : Heap} {L L' : Addr} {m m' : Str → Option Value} {news tl : Led} {p1 : Addr × Obj} {s : Shared} {R : Result → Shared → Prop} {h' : Heap} {tk : Nat} {r : Value}
    (hR : ∀ r tl h' tk', Fr h₀ L h' m → News h₀ L h' (news ++ tl) → Ord news tl → P tl r → R (.ok (.ret r)) { s with heap := h', toks := tk' })
    (F : Fr g L' h' m') (N : News g L' h' (p1 :: (news ++ tl))) (hO : Ord news (p1 :: tl)) (hP : P (p1 :: tl) r) : LeaveK h₀ L m g R r { s with heap := h', toks := tk } := con_leave hR F N (p1 :: tl) (fun p hp => by simp only [List.mem_append, List.mem_cons] at hp ⊢; rcases hp with h | h | h <;> simp [h]) hO hP
theorem con_leave_init1 {P : Led → Value → Prop} {h₀ g : Heap} {L L' x : Addr} {m m' : Str → Option Value} {news tl : Led} {p1 : Addr × Obj} {s : Shared} {R : Result → Shared → Prop} {h' : Heap} {tk : Nat}
    (hR : ∀ r tl h' tk', Fr h₀ L h' m → News h₀ L h' (news ++ tl) → Ord news tl → P tl r → R (.ok (.ret r)) { s with heap := h', toks := tk' })
    (F : Fr g L' h' m') (N : News g L' h' (p1 :: (news ++ tl))) (hO : Ord news (p1 :: tl)) (hP : P (p1 :: tl) (.ref x)) : LeaveK h₀ L m g (InitBack x R) .none { s with heap := h', toks := tk } := con_leave_init hR F N (p1 :: tl) (fun p hp => by simp only [List.mem_append, List.mem_cons] at hp ⊢; rcases hp with h | h | h <;> simp [h]) hO hP
theorem con_leave2 {P : Led → Value → Prop} {h₀ g : Heap} {L L' : Addr} {m m' : Str → Option Value} {news tl : Led} {p1 p2 : Addr × Obj} {s : Shared} {R : Result → Shared → Prop} {h' : Heap} {tk : Nat} {r : Value}
    (hR : ∀ r tl h' tk', Fr h₀ L h' m → News h₀ L h' (news ++ tl) → Ord news tl → P tl r → R (.ok (.ret r)) { s with heap := h', toks := tk' })
    (F : Fr g L' h' m') (N : News g L' h' (p1 :: p2 :: (news ++ tl))) (hO : Ord news (p1 :: p2 :: tl)) (hP : P (p1 :: p2 :: tl) r) : LeaveK h₀ L m g R r { s with heap := h', toks := tk } := con_leave hR F N (p1 :: p2 :: tl) (fun p hp => by simp only [List.mem_append, List.mem_cons] at hp ⊢; rcases hp with h | h | h | h <;> simp [h]) hO hP
theorem con_leave_init2 {P : Led → Value → Prop} {h₀ g : Heap} {L L' x : Addr} {m m' : Str → Option Value} {news tl : Led} {p1 p2 : Addr × Obj} {s : Shared} {R : Result → Shared → Prop} {h' : Heap} {tk : Nat}
    (hR : ∀ r tl h' tk', Fr h₀ L h' m → News h₀ L h' (news ++ tl) → Ord news tl → P tl r → R (.ok (.ret r)) { s with heap := h', toks := tk' })
    (F : Fr g L' h' m') (N : News g L' h' (p1 :: p2 :: (news ++ tl))) (hO : Ord news (p1 :: p2 :: tl)) (hP : P (p1 :: p2 :: tl) (.ref x)) : LeaveK h₀ L m g (InitBack x R) .none { s with heap := h', toks := tk } := con_leave_init hR F N (p1 :: p2 :: tl) (fun p hp => by simp only [List.mem_append, List.mem_cons] at hp ⊢; rcases hp with h | h | h | h <;> simp [h]) hO hP
theorem con_leave3 {P : Led → Value → Prop} {h₀ g : Heap} {L L' : Addr} {m m' : Str → Option Value} {news tl : Led} {p1 p2 p3 : Addr × Obj} {s : Shared} {R : Result → Shared → Prop} {h' : Heap} {tk : Nat} {r : Value}
    (hR : ∀ r tl h' tk', Fr h₀ L h' m → News h₀ L h' (news ++ tl) → Ord news tl → P tl r → R (.ok (.ret r)) { s with heap := h', toks := tk' })
    (F : Fr g L' h' m') (N : News g L' h' (p1 :: p2 :: p3 :: (news ++ tl))) (hO : Ord news (p1 :: p2 :: p3 :: tl)) (hP : P (p1 :: p2 :: p3 :: tl) r) : LeaveK h₀ L m g R r { s with heap := h', toks := tk } := con_leave hR F N (p1 :: p2 :: p3 :: tl) (fun p hp => by simp only [List.mem_append, List.mem_cons] at hp ⊢; rcases hp with h | h | h | h | h <;> simp [h]) hO hP
theorem con_leave_init3 {P : Led → Value → Prop} {h₀ g : Heap} {L L' x : Addr} {m m' : Str → Option Value} {news tl : Led} {p1 p2 p3 : Addr × Obj} {s : Shared} {R : Result → Shared → Prop} {h' : Heap} {tk : Nat}
    (hR : ∀ r tl h' tk', Fr h₀ L h' m → News h₀ L h' (news ++ tl) → Ord news tl → P tl r → R (.ok (.ret r)) { s with heap := h', toks := tk' })
    (F : Fr g L' h' m') (N : News g L' h' (p1 :: p2 :: p3 :: (news ++ tl))) (hO : Ord news (p1 :: p2 :: p3 :: tl)) (hP : P (p1 :: p2 :: p3 :: tl) (.ref x)) : LeaveK h₀ L m g (InitBack x R) .none { s with heap := h', toks := tk } := con_leave_init hR F N (p1 :: p2 :: p3 :: tl) (fun p hp => by simp only [List.mem_append, List.mem_cons] at hp ⊢; rcases hp with h | h | h | h | h <;> simp [h]) hO hP
theorem units_under_make (A : Around) (C : Addr) (vals : List Value) : (A.under (.builtin "type.__call__" ⟨.ref C :: vals, []⟩)).units = A.units + 1 := by first | rfl | fail "one"
/-- the addresses of what stands in the small world -/
structure Wd where
  at_ : Atom → Addr
  inf : Tag → Addr
mutual
def TypIn (W : Wd) (news : Led) : Tree → Value → Prop
  | .leaf .nev, v => ∃ x d h1 t1 n, v = .ref x ∧ (x, instObj 258 d) ∈ news ∧ (d, dictOf [⟨h1, .str "ambiguous" t1, .bool false⟩] n) ∈ news
  | .leaf a, v => v = .ref (W.at_ a)
  | .node .union ps, v => ∃ x d l h1 t1 n vs k, v = .ref x ∧ (x, instObj 365 d) ∈ news ∧ (d, dictOf [⟨h1, .str "items" t1, .ref l⟩] n) ∈ news ∧ (l, listOf vs.toArray k) ∈ news ∧ TypsIn W news ps vs
  | .node g ps, v => ∃ x d u h1 h2 t1 t2 n vs k, v = .ref x ∧ (x, instObj 324 d) ∈ news ∧ (d, dictOf [⟨h1, .str "type" t1, .ref (W.inf g)⟩, ⟨h2, .str "args" t2, .ref u⟩] n) ∈ news ∧ (u, tupOf vs k) ∈ news ∧ TypsIn W news ps vs
def TypsIn (W : Wd) (news : Led) : List Tree → List Value → Prop
  | [], vs => vs = []
  | p :: r, vs => ∃ v us, vs = v :: us ∧ TypIn W news p v ∧ TypsIn W news r us
end
mutual
theorem TypIn.mono {W : Wd} {news news' : Led} (hs : ∀ p ∈ news, p ∈ news') : ∀ {t : Tree} {v : Value}, TypIn W news t v → TypIn W news' t v
  | .leaf a, v, h => by
    cases a <;> first
      | (simp only [TypIn] at h ⊢; exact h)
      | (simp only [TypIn] at h ⊢; obtain ⟨x, d, h1, t1, n, e, m1, m2⟩ := h; exact ⟨x, d, h1, t1, n, e, hs _ m1, hs _ m2⟩)
  | .node g ps, v, h => by
    cases g <;> simp only [TypIn] at h ⊢
    · obtain ⟨x, d, u, h1, h2, t1, t2, n, vs, k, e, m1, m2, m3, hp⟩ := h
      exact ⟨x, d, u, h1, h2, t1, t2, n, vs, k, e, hs _ m1, hs _ m2, hs _ m3, TypsIn.mono hs hp⟩
    · obtain ⟨x, d, u, h1, h2, t1, t2, n, vs, k, e, m1, m2, m3, hp⟩ := h
      exact ⟨x, d, u, h1, h2, t1, t2, n, vs, k, e, hs _ m1, hs _ m2, hs _ m3, TypsIn.mono hs hp⟩
    · obtain ⟨x, d, l, h1, t1, n, vs, k, e, m1, m2, m3, hp⟩ := h
      exact ⟨x, d, l, h1, t1, n, vs, k, e, hs _ m1, hs _ m2, hs _ m3, TypsIn.mono hs hp⟩
theorem TypsIn.mono {W : Wd} {news news' : Led} (hs : ∀ p ∈ news, p ∈ news') : ∀ {ts : List Tree} {vs : List Value}, TypsIn W news ts vs → TypsIn W news' ts vs
  | [], _, h => by simpa only [TypsIn] using h
  | _ :: _, _, h => by
    simp only [TypsIn] at h ⊢
    obtain ⟨v, us, e, h1, h2⟩ := h
    exact ⟨v, us, e, TypIn.mono hs h1, TypsIn.mono hs h2⟩
end
section
variable {W : Wd} {news : Led}
theorem TypsIn.len : ∀ {ts : List Tree} {vs : List Value}, TypsIn W news ts vs → vs.length = ts.length
  | [], _, h => by simp only [TypsIn] at h; subst h; rfl
  | _ :: _, _, h => by
    simp only [TypsIn] at h
    obtain ⟨v, us, rfl, _, h2⟩ := h
    rw [List.length_cons, List.length_cons, h2.len]
theorem TypsIn.get : ∀ {ts : List Tree} {vs : List Value}, TypsIn W news ts vs → ∀ {i : Nat} {v : Value}, vs[i]? = some v → ∃ t, ts[i]? = some t ∧ TypIn W news t v
  | [], _, h, i, v, hv => by simp only [TypsIn] at h; subst h; simp at hv
  | t :: _, _, h, i, v, hv => by
    simp only [TypsIn] at h
    obtain ⟨u, us, rfl, h1, h2⟩ := h
    cases i with
    | zero => simp at hv; subst hv; exact ⟨t, rfl, h1⟩
    | succ i => simp only [List.getElem?_cons_succ] at hv ⊢; exact h2.get hv
theorem TypsIn.of : ∀ {ts : List Tree} {vs : List Value}, vs.length = ts.length → (∀ (i : Nat) (v : Value) (t : Tree), vs[i]? = some v → ts[i]? = some t → TypIn W news t v) → TypsIn W news ts vs
  | [], vs, h, _ => by simp only [TypsIn]; exact List.length_eq_zero_iff.mp h
  | t :: r, [], h, _ => by simp at h
  | t :: r, v :: us, h, hi => by
    simp only [TypsIn]
    exact ⟨v, us, rfl, hi 0 v t rfl rfl, TypsIn.of (by simpa using h) fun i v' t' h1 h2 => hi (i + 1) v' t' (by simpa using h1) (by simpa using h2)⟩
theorem TypsIn.app {ts us : List Tree} {vs ws : List Value} (a : TypsIn W news ts vs) (b : TypsIn W news us ws) : TypsIn W news (ts ++ us) (vs ++ ws) := by
  induction ts generalizing vs with
  | nil => simp only [TypsIn] at a; subst a; simpa using b
  | cons t r ih =>
    simp only [TypsIn] at a
    obtain ⟨v, us', rfl, h1, h2⟩ := a
    simp only [List.cons_append, TypsIn]
    exact ⟨v, _, rfl, h1, ih h2⟩
theorem TypsIn.one {t : Tree} {v : Value} (h : TypIn W news t v) : TypsIn W news [t] [v] := by simp only [TypsIn]; exact ⟨v, [], rfl, h, rfl⟩
theorem TypsIn.nil : TypsIn W news [] [] := by simp only [TypsIn]
end
/-- an instance of the class of plain types: its class and its arguments -/
def InstIn (news : Led) (x inf : Addr) (vs : List Value) : Prop :=
  ∃ d u h1 h2 t1 t2 n k, (x, instObj 324 d) ∈ news ∧ (d, dictOf [⟨h1, .str "type" t1, .ref inf⟩, ⟨h2, .str "args" t2, .ref u⟩] n) ∈ news ∧ (u, tupOf vs k) ∈ news
def InfoIn (news : Led) (i : Addr) (full : Str) : Prop :=
  ∃ d h1 h2 h3 h4 h5 t1 t1' t2 t3 t4 t5 v2 v3 v4 v5 n, (i, instObj 64 d) ∈ news ∧ (d, dictOf [⟨h1, .str "fullname" t1, .str full t1'⟩, ⟨h2, .str "defn" t2, v2⟩, ⟨h3, .str "type_vars" t3, v3⟩, ⟨h4, .str "bases" t4, v4⟩, ⟨h5, .str "mro" t5, v5⟩] n) ∈ news
def VarIn (news : Led) (x : Addr) (nm : Str) (k : Int) (top : Addr) : Prop :=
  ∃ d i di l h1 h2 h3 h4 h5 t1 t1' t2 t3 t4 t5 t5' h6 h7 t6 t6' t7 t7' n n' n'',
    (x, instObj 190 d) ∈ news ∧ (d, dictOf [⟨h1, .str "name" t1, .str nm t1'⟩, ⟨h2, .str "id" t2, .ref i⟩, ⟨h3, .str "upper_bound" t3, .ref top⟩, ⟨h4, .str "values" t4, .ref l⟩, ⟨h5, .str "variance" t5, .int 0 t5'⟩] n) ∈ news ∧
    (i, instObj 147 di) ∈ news ∧ (di, dictOf [⟨h6, .str "raw_id" t6, .int k t6'⟩, ⟨h7, .str "meta_level" t7, .int 0 t7'⟩] n') ∈ news ∧ (l, listOf #[] n'') ∈ news
end Mine
namespace Mine
/-- a goal that the walk leaves alone -/
def Hold (P : Prop) : Prop := P
theorem hold {P : Prop} (h : Hold P) : P := h
section
open MeetsSeq MeetsSeq2 SeqRoads2 SeqAt
open AutoSeq1 (wpAny_loadPart')
variable {prog : Program} {w : World}
/-- == of two values, where what is asked may make objects -/
def EqS (prog : Program) (w : World) (A : Around) (SP : Shared → Prop) (y x : Value) (b : Bool) : Prop :=
  ∀ (s : Shared) (E : Value → Shared → Prop) (Q : Bool → Shared → Prop), SP s → (∀ s', SP s' → Q b s') → wpAny (model prog w) A (eqBool y x) Q E s
def RcS (prog : Program) (w : World) (A : Around) (SP : Shared → Prop) (y x : Value) (b : Bool) : Prop :=
  ∀ (s : Shared) (E : Value → Shared → Prop) (Q : Value → Shared → Prop), SP s → (∀ s', SP s' → Q (.bool b) s') → wpAny (model prog w) A (richCompare .Eq y x) Q E s
theorem EqS.of_rc {A : Around} {SP : Shared → Prop} {a b : Addr} {k : Bool} (hs : a = b → k = true) (h : RcS prog w A SP (.ref a) (.ref b) k) : EqS prog w A SP (.ref a) (.ref b) k := fun s E Q hS hQ => by
  unfold eqBool
  refine wpAny_holding ?_
  refine wpAny_ite_split (fun hab => ?_) (fun _ => ?_)
  · have e : a = b := by have := eq_of_beq hab; injection this
    rw [← hs e]
    exact wpAny_bind (wpAny_rule (wpAny_pure (hQ s hS)))
  · exact wpAny_bind (h s E _ hS fun s' hS' => wpAny_truthy_bool (hQ s' hS'))
/-- a sequence's object -/
def SeqO (cls : String) (xs : Array Value) (o : Obj) : Prop := ∃ dd n sl, o = { cls := .type cls, dict := dd, data := .seq xs n, slots := sl }
theorem eqS_loop (A : Around) (SP : Shared → Prop) (l : Addr) (items : Array Value) (n : Nat) (dd : Option Addr) (sl : Array (Option Value)) (x : Value) (e : Nat → Bool)
    (hl : ∀ s, SP s → s.heap.get? l = some { cls := .type "list", dict := dd, data := .seq items n, slots := sl }) (he : ∀ i y, items[i]? = some y → EqS prog w A.in1 SP y x (e i))
    (R : Result → Shared → Prop) (hR : ∀ s', SP s' → R (.ok (.ret (.bool ((List.range items.size).any e)))) s') (k : Nat) :
    ∀ (i : Nat) (s : Shared), items.size - i = k → ((List.range items.size).take i).any e = false → SP s → wpAny (model prog w) A.in1 (Builtin.«list.__contains__.loop» ⟨[.ref l, x, rawInt i], []⟩)
      (fun fin s' => match fin with | .done f => R (.ok f) s' | .again c' => c'.quiet = true ∧ codeAny (model prog w) A c' R s') (fun e s' => R (.error e) s') s := by
  induction k with
  | zero =>
    intro i s hk hno hS
    have hl := hl s hS
    obtain ⟨hp, g, d, tk, os⟩ := s
    wp_walk using wpAny_loadPart' hl
    have hi : items[((i : Nat) : Int).toNat]? = none := by simp; omega
    rw [hi]
    wp_walk
    have := hR _ hS
    rw [List.take_of_length_le (by simp; omega)] at hno
    rw [hno] at this
    exact this
  | succ k ih =>
    intro i s hk hno hS
    have hl' := hl s hS
    obtain ⟨hp, g, d, tk, os⟩ := s
    wp_walk using wpAny_loadPart' hl'
    have hlt : i < items.size := by omega
    have hi : items[((i : Nat) : Int).toNat]? = some items[i] := by simp [hlt]
    rw [hi]
    refine wpAny_bind (he i _ (by simp [hlt]) _ _ _ hS fun s' hS' => ?_)
    have htake : ((List.range items.size).take (i + 1)).any e = e i := by
      rw [List.take_add_one, List.any_append, hno, List.getElem?_range hlt]; simp
    cases hb : e i with
    | true =>
      wp_walk
      have : (List.range items.size).any e = true := List.any_eq_true.mpr ⟨i, List.mem_range.mpr hlt, hb⟩
      have h2 := hR _ hS'
      rw [this] at h2
      exact h2
    | false =>
      rw [hb] at htake
      have hc : ((i : Int) + 1) = ((i + 1 : Nat) : Int) := by push_cast; rfl
      wp_walk
      rw [hc]
      exact ⟨plainId_quiet plain_contains_loop _, codeAny_builtin entry_contains_loop (by
        rw [Around.under_plainId plain_contains_loop _]
        exact ih (i + 1) _ (by omega) htake hS')⟩
theorem containsS {A : Around} {SP : Shared → Prop} {l : Addr} {items : Array Value} {n : Nat} {dd : Option Addr} {sl : Array (Option Value)} {x : Value} {e : Nat → Bool} {s : Shared} {E : Value → Shared → Prop} {Q : Bool → Shared → Prop}
    (hS : SP s) (hl : ∀ s, SP s → s.heap.get? l = some { cls := .type "list", dict := dd, data := .seq items n, slots := sl }) (he : ∀ i y, items[i]? = some y → EqS prog w A.in1 SP y x (e i))
    (hQ : ∀ s', SP s' → Q ((List.range items.size).any e) s') : wpAny (model prog w) A (contains (.ref l) x) Q E s := by
  refine wpAny_contains_slot ⟨_, hl s hS, rfl⟩ F.slot_list_contains ?_
  refine wpAny_call (codeAny_call_builtin F.slot_list_contains.plain F.entry_list_contains (F.slot_list_contains.check _ _ _ _ _ _ _ _ ⟨_, hl s hS, rfl⟩ (F.args_list_contains_2 _ _) ?_))
  have hl' := hl s hS
  obtain ⟨hp, g, d, tk, os⟩ := s
  wp_walk using wpAny_loadPart' hl'
  exact ⟨plainId_quiet plain_contains_loop _, codeAny_builtin entry_contains_loop (by
    rw [Around.under_plainId plain_contains_loop _]
    exact eqS_loop A SP l items n dd sl x e hl he (wants (fun v s' => wpAny (model prog w) A (truthy v) Q E s') E) (fun s' hS' => wpAny_truthy_bool (hQ s' hS')) _ 0 _ rfl (by simp) hS)⟩
theorem inS {A : Around} {SP : Shared → Prop} {l : Addr} {items : Array Value} {n : Nat} {dd : Option Addr} {sl : Array (Option Value)} {x : Value} {e : Nat → Bool} {s : Shared} {E : Value → Shared → Prop} {Q : Value → Shared → Prop}
    (hS : SP s) (hl : ∀ s, SP s → s.heap.get? l = some { cls := .type "list", dict := dd, data := .seq items n, slots := sl }) (he : ∀ i y, items[i]? = some y → EqS prog w A.in1 SP y x (e i))
    (hQ : ∀ s', SP s' → Q (.bool ((List.range items.size).any e)) s') : wpAny (model prog w) A (compareOp .In x (.ref l)) Q E s := by
  show wpAny _ _ (do return .bool (← contains _ x)) Q E s
  exact wpAny_bind (containsS hS hl he fun s' hS' => wpAny_pure (hQ s' hS'))
theorem notInS {A : Around} {SP : Shared → Prop} {l : Addr} {items : Array Value} {n : Nat} {dd : Option Addr} {sl : Array (Option Value)} {x : Value} {e : Nat → Bool} {s : Shared} {E : Value → Shared → Prop} {Q : Value → Shared → Prop}
    (hS : SP s) (hl : ∀ s, SP s → s.heap.get? l = some { cls := .type "list", dict := dd, data := .seq items n, slots := sl }) (he : ∀ i y, items[i]? = some y → EqS prog w A.in1 SP y x (e i))
    (hQ : ∀ s', SP s' → Q (.bool (!(List.range items.size).any e)) s') : wpAny (model prog w) A (compareOp .NotIn x (.ref l)) Q E s := by
  show wpAny _ _ (do return .bool (!(← contains _ x))) Q E s
  exact wpAny_bind (containsS hS hl he fun s' hS' => wpAny_pure (hQ s' hS'))
theorem tupleS {A : Around} {SP : Shared → Prop} {l b : Addr} {items items2 : Array Value} {n n2 : Nat} {dd dd2 : Option Addr} {sl sl2 : Array (Option Value)} {e : Nat → Bool} (hu : A.units < cLine)
    (hl : ∀ s, SP s → s.heap.get? l = some { cls := .type "tuple", dict := dd, data := .seq items n, slots := sl }) (hb : ∀ s, SP s → s.heap.get? b = some { cls := .type "tuple", dict := dd2, data := .seq items2 n2, slots := sl2 })
    (he : ∀ i y x, items[i]? = some y → items2[i]? = some x → EqS prog w A.in1 SP y x (e i)) : RcS prog w A SP (.ref l) (.ref b) ((List.range (min items.size items2.size)).all e && items.size == items2.size) := by
  intro s E Q hS hQ
  refine wpAny_richCompare_same_room (op := .Eq) ⟨_, hl s hS, rfl⟩ ⟨_, hb s hS, rfl⟩ F.slot_tuple_eq ?_ hu
  refine wpAny_call (codeAny_call_builtin F.slot_tuple_eq.plain F.entry_tuple_eq (F.slot_tuple_eq.check _ _ _ _ _ _ _ _ ⟨_, hl s hS, rfl⟩ (F.args_tuple_eq_2 _ _) ?_))
  have hl' := hl s hS
  have hb' := hb s hS
  have f2 := AutoSeq1.sub_tuple_tuple
  have hZ : (items.toList.zip items2.toList).length = min items.size items2.size := by simp
  refine wpAny_mono (Q := fun fin s' => fin = .done (.ret (.bool ((List.range (min items.size items2.size)).all e && items.size == items2.size))) ∧ SP s') (E := fun e s' => wants (fun v s' => v ≠ .notImplemented ∧ Q v s') E (.error e) s') ?z (fun fin s' h' => ?_) fun _ _ x => x
  rotate_left
  · obtain ⟨rfl, h⟩ := h'; exact ⟨(fun x => nomatch x), hQ s' h⟩
  obtain ⟨hp, g, d, tk, os⟩ := s
  wp_walk using wpAny_loadPart' hl', wpAny_loadPart' hb', wpAny_forIn_list _ (fun rest b s' => b.1 = none ∧ SP s' ∧ ∃ i, rest = (items.toList.zip items2.toList).drop i ∧ ((List.range (min items.size items2.size)).take i).all e = true) _
  case turn =>
    rintro ⟨y, x⟩ rest b s' ⟨hb', hS', i, hz, hR⟩
    have hlt : i < (items.toList.zip items2.toList).length := by
      rcases Nat.lt_or_ge i (items.toList.zip items2.toList).length with h' | h'
      · exact h'
      · rw [List.drop_of_length_le h'] at hz; cases hz
    have hm : i < min items.size items2.size := hZ ▸ hlt
    have h1 : i < items.size := Nat.lt_of_lt_of_le hm (Nat.min_le_left _ _)
    have h2 : i < items2.size := Nat.lt_of_lt_of_le hm (Nat.min_le_right _ _)
    rw [List.drop_eq_getElem_cons hlt] at hz
    injection hz with hyx hrest
    have hy : y = items[i] := by have := congrArg Prod.fst hyx; simpa using this
    have hx : x = items2[i] := by have := congrArg Prod.snd hyx; simpa using this
    subst hy hx
    have htake : ((List.range (min items.size items2.size)).take (i + 1)).all e = e i := by
      rw [List.take_add_one, List.all_append, hR, List.getElem?_range hm]; simp
    refine wpAny_bind (he i _ _ (by simp [h1]) (by simp [h2]) _ _ _ hS' fun s'' hS'' => ?_)
    cases hy : e i with
    | true =>
      rw [hy] at htake
      wp_walk
      exact ⟨rfl, hS'', i + 1, hrest, htake⟩
    | false =>
      wp_walk
      have : (List.range (min items.size items2.size)).all e = false := by
        rw [List.all_eq_false]; exact ⟨i, List.mem_range.mpr hm, by simp [hy]⟩
      rw [this]
      exact ⟨rfl, hS''⟩
  case fin =>
    rintro ⟨b1, b2⟩ s' ⟨hb', hS', i, hz, hR⟩
    simp only at hb'
    subst hb'
    have hge : min items.size items2.size ≤ i := by
      rcases Nat.lt_or_ge i (items.toList.zip items2.toList).length with h' | h'
      · rw [List.drop_eq_getElem_cons h'] at hz; cases hz
      · exact hZ ▸ h'
    rw [List.take_of_length_le (by simpa using hge)] at hR
    rw [hR]
    wp_walk
    exact ⟨by simp [Builtin.Tuple.tupleCompareSizes], hS'⟩
  case h =>
    exact ⟨rfl, hS, 0, rfl, by simp⟩
end
end Mine
namespace Mine
/-- the world's objects -/
structure WIn (W : Wd) (iA iB iC io : Addr) (news : Led) : Prop where
  vS : VarIn news (W.at_ .S) "S" 1 (W.at_ .obj)
  vT : VarIn news (W.at_ .T) "T" 2 (W.at_ .obj)
  vU : VarIn news (W.at_ .U) "U" 3 (W.at_ .obj)
  nA : InstIn news (W.at_ .A) iA []
  nB : InstIn news (W.at_ .B) iB []
  nC : InstIn news (W.at_ .C) iC []
  no : InstIn news (W.at_ .obj) io []
  fA : InfoIn news iA "m.A"
  fB : InfoIn news iB "m.B"
  fC : InfoIn news iC "m.C"
  fo : InfoIn news io "builtins.object"
  fb : InfoIn news (W.inf .box) "m.box"
  fp : InfoIn news (W.inf .pair) "m.pair"
  ne : W.inf .box ≠ W.inf .pair
  non : ∃ d n, (W.at_ .non, instObj 284 d) ∈ news ∧ (d, dictOf [] n) ∈ news
  any : ∃ d h1 h2 t1 t1' t2 n, (W.at_ .any, instObj 224 d) ∈ news ∧ (d, dictOf [⟨h1, .str "type_of_any" t1, .int 6 t1'⟩, ⟨h2, .str "source_any" t2, .none⟩] n) ∈ news
theorem InstIn.mono {news news' : Led} {x i : Addr} {vs : List Value} (hs : ∀ p ∈ news, p ∈ news') (h : InstIn news x i vs) : InstIn news' x i vs := by
  obtain ⟨d, u, h1, h2, t1, t2, n, k, a, b, c⟩ := h; exact ⟨d, u, h1, h2, t1, t2, n, k, hs _ a, hs _ b, hs _ c⟩
theorem InfoIn.mono {news news' : Led} {i : Addr} {x : Str} (hs : ∀ p ∈ news, p ∈ news') (h : InfoIn news i x) : InfoIn news' i x := by
  obtain ⟨d, h1, h2, h3, h4, h5, t1, t1', t2, t3, t4, t5, v2, v3, v4, v5, n, a, b⟩ := h
  exact ⟨d, h1, h2, h3, h4, h5, t1, t1', t2, t3, t4, t5, v2, v3, v4, v5, n, hs _ a, hs _ b⟩
theorem VarIn.mono {news news' : Led} {x top : Addr} {nm : Str} {k : Int} (hs : ∀ p ∈ news, p ∈ news') (h : VarIn news x nm k top) : VarIn news' x nm k top := by
  obtain ⟨d, i, di, l, h1, h2, h3, h4, h5, t1, t1', t2, t3, t4, t5, t5', h6, h7, t6, t6', t7, t7', n, n', n'', a, b, c, e, f⟩ := h
  exact ⟨d, i, di, l, h1, h2, h3, h4, h5, t1, t1', t2, t3, t4, t5, t5', h6, h7, t6, t6', t7, t7', n, n', n'', hs _ a, hs _ b, hs _ c, hs _ e, hs _ f⟩
theorem WIn.mono {W : Wd} {iA iB iC io : Addr} {news news' : Led} (hs : ∀ p ∈ news, p ∈ news') (h : WIn W iA iB iC io news) : WIn W iA iB iC io news' :=
  ⟨h.vS.mono hs, h.vT.mono hs, h.vU.mono hs, h.nA.mono hs, h.nB.mono hs, h.nC.mono hs, h.no.mono hs, h.fA.mono hs, h.fB.mono hs, h.fC.mono hs, h.fo.mono hs, h.fb.mono hs, h.fp.mono hs, h.ne,
    let ⟨d, n, a, b⟩ := h.non; ⟨d, n, hs _ a, hs _ b⟩, let ⟨d, h1, h2, t1, t1', t2, n, a, b⟩ := h.any; ⟨d, h1, h2, t1, t1', t2, n, hs _ a, hs _ b⟩⟩
def cls : Tree → Addr
  | .leaf .S | .leaf .T | .leaf .U => 190
  | .leaf .any => 224
  | .leaf .nev => 258
  | .leaf .non => 284
  | .leaf .A | .leaf .B | .leaf .C | .leaf .obj => 324
  | .node .union _ => 365
  | .node _ _ => 324
def six : List Addr := [190, 224, 258, 284, 324, 365]
theorem cls_six (t : Tree) : cls t ∈ six := by
  cases t with
  | leaf a => cases a <;> simp [cls, six]
  | node g ps => cases g <;> simp [cls, six]
section
variable {W : Wd} {iA iB iC io : Addr} {news : Led}
theorem typ_inst (WI : WIn W iA iB iC io news) {t : Tree} {v : Value} (h : TypIn W news t v) : ∃ x d es n, v = .ref x ∧ (x, instObj (cls t) d) ∈ news ∧ (d, dictOf es n) ∈ news := by
  have var : ∀ {x : Addr} {nm : Str} {k : Int}, VarIn news x nm k (W.at_ .obj) → ∃ x' d es n, Value.ref x = .ref x' ∧ (x', instObj 190 d) ∈ news ∧ (d, dictOf es n) ∈ news := by
    rintro x nm k ⟨d, i, di, l, h1, h2, h3, h4, h5, t1, t1', t2, t3, t4, t5, t5', h6, h7, t6, t6', t7, t7', n, n', n'', a, b, _⟩
    exact ⟨_, _, _, _, rfl, a, b⟩
  have ins : ∀ {x i : Addr}, InstIn news x i [] → ∃ x' d es n, Value.ref x = .ref x' ∧ (x', instObj 324 d) ∈ news ∧ (d, dictOf es n) ∈ news := by
    rintro x i ⟨d, u, h1, h2, t1, t2, n, k, a, b, _⟩
    exact ⟨_, _, _, _, rfl, a, b⟩
  cases t with
  | leaf a =>
    cases a <;> simp only [TypIn] at h <;> simp only [cls]
    · subst h; exact var WI.vS
    · subst h; exact var WI.vT
    · subst h; exact var WI.vU
    · subst h; exact ins WI.nA
    · subst h; exact ins WI.nB
    · subst h; exact ins WI.nC
    · subst h; exact ins WI.no
    · subst h; obtain ⟨d, n, a, b⟩ := WI.non; exact ⟨_, _, _, _, rfl, a, b⟩
    · obtain ⟨x, d, h1, t1, n, rfl, a, b⟩ := h; exact ⟨_, _, _, _, rfl, a, b⟩
    · subst h; obtain ⟨d, h1, h2, t1, t1', t2, n, a, b⟩ := WI.any; exact ⟨_, _, _, _, rfl, a, b⟩
  | node g ps =>
    cases g <;> simp only [TypIn] at h <;> simp only [cls]
    · obtain ⟨x, d, u, h1, h2, t1, t2, n, vs, k, rfl, a, b, _⟩ := h; exact ⟨_, _, _, _, rfl, a, b⟩
    · obtain ⟨x, d, u, h1, h2, t1, t2, n, vs, k, rfl, a, b, _⟩ := h; exact ⟨_, _, _, _, rfl, a, b⟩
    · obtain ⟨x, d, l, h1, t1, n, vs, k, rfl, a, b, _⟩ := h; exact ⟨_, _, _, _, rfl, a, b⟩
end
-- isinstance among the six classes: none is under another
theorem isi_six {w : World} {A : Around} {E : Value → Shared → Prop} {s : Shared} {x C D : Addr} {ox od : Obj} {Q : Value → Shared → Prop} (hC : C ∈ six) (hD : D ∈ six) (X : (Mine.hd.heap_39 w.params).In s.heap) (I : InstAt s.heap x ox C (some od))
    (h : ∀ tk, Q (.bool (C == D)) { s with toks := tk }) : wpAny (model PySem.Challenge.rw_ft0017_01.row.prog w) A (call (.builtin "isinstance") [.ref x, .ref D]) Q E s := by
  revert X; k_fill; intro X
  simp only [six, List.mem_cons, List.not_mem_nil, or_false] at hC hD
  rcases hC with rfl | rfl | rfl | rfl | rfl | rfl <;> rcases hD with rfl | rfl | rfl | rfl | rfl | rfl <;> first
    | (k_dflt (refine' isi_call X (fun M => I.type) ?k3 (by intro e; cases e) ?_; (case k3 => k_is)); exact h _)
    | (k_dflt (refine' kin_callC X I ?k3 ?k4 ?k5 ?k6 ?k7 ?k8 ?k9 ?_; (case k3 => kin_no); (case k4 => k_is); (case k5 => k_is); (case k6 => k_is); (case k7 => k_is); (case k8 => k_is); (case k9 => k_is)); exact h _)
theorem isi_ne {w : World} {A : Around} {E : Value → Shared → Prop} {s : Shared} {x C D : Addr} {ox od : Obj} {Q : Value → Shared → Prop} (X : (Mine.hd.heap_39 w.params).In s.heap) (I : InstAt s.heap x ox C (some od)) (hC : C ∈ six) (hD : D ∈ six) (hne : C ≠ D)
    (h : ∀ tk, Q (.bool false) { s with toks := tk }) : wpAny (model PySem.Challenge.rw_ft0017_01.row.prog w) A (call (.builtin "isinstance") [.ref x, .ref D]) Q E s :=
  isi_six hC hD X I fun tk => by rw [show (C == D) = false from beq_false_of_ne hne]; exact h tk
mutual
def Tree.sz : Tree → Nat
  | .leaf _ => 1
  | .node _ ps => szs ps + 1
def szs : List Tree → Nat
  | [] => 0
  | p :: r => p.sz + szs r
end
theorem szs_app (a b : List Tree) : szs (a ++ b) = szs a + szs b := by
  induction a with
  | nil => simp [szs]
  | cons t r ih => simp only [List.cons_append, szs, ih]; omega
theorem szs_take (ts : List Tree) (i : Nat) : szs (ts.take i) ≤ szs ts := by
  have := szs_app (ts.take i) (ts.drop i)
  rw [List.take_append_drop] at this; omega
theorem szs_get {ts : List Tree} {i : Nat} {t : Tree} (h : ts[i]? = some t) : t.sz ≤ szs ts := by
  have h1 := szs_app (ts.take i) (ts.drop i)
  rw [List.take_append_drop] at h1
  have h2 : ts.drop i = t :: ts.drop (i + 1) := by
    obtain ⟨hi, e⟩ := List.getElem?_eq_some_iff.mp h
    rw [← e]; exact List.drop_eq_getElem_cons hi
  rw [h2] at h1; simp only [szs] at h1; omega
theorem hts_get {ts : List Tree} {i : Nat} {t : Tree} (h : ts[i]? = some t) : t.ht ≤ hts ts := hts_le (List.mem_of_getElem? h)
theorem len_szs (ts : List Tree) : ts.length ≤ szs ts := by
  induction ts with
  | nil => simp [szs]
  | cons t r ih => simp only [List.length_cons, szs]; have : 1 ≤ t.sz := by { cases t <;> simp [Tree.sz] }; omega
theorem flats_cons (t : Tree) (r : List Tree) : flats (t :: r) = flat1 t ++ flats r := by simp only [flats]
theorem flats_app (a b : List Tree) : flats (a ++ b) = flats a ++ flats b := by
  induction a with
  | nil => simp [flats]
  | cons t r ih => simp [flats, ih]
theorem flats_snoc {ts : List Tree} {i : Nat} {t : Tree} (h : ts[i]? = some t) : flats (ts.take (i + 1)) = flats (ts.take i) ++ flat1 t := by
  rw [List.take_add_one, h, Option.toList_some, flats_app, flats_cons]; simp [flats]
mutual
theorem flat1_sz : ∀ t : Tree, szs (flat1 t) ≤ t.sz
  | .leaf a => by simp [flat1, szs]
  | .node .union ps => by simp only [flat1, Tree.sz]; have := flats_sz ps; omega
  | .node .box ps => by simp [flat1, szs]
  | .node .pair ps => by simp [flat1, szs]
theorem flats_sz : ∀ ts : List Tree, szs (flats ts) ≤ szs ts
  | [] => by simp [flats]
  | t :: r => by simp only [flats, szs_app, szs]; have := flat1_sz t; have := flats_sz r; omega
end
theorem flats_len (ts : List Tree) : (flats ts).length ≤ szs ts := Nat.le_trans (len_szs _) (flats_sz ts)
/-- a bound that all the law's trees keep -/
def big : Nat := 1000000
theorem big_line : big + 1000 ≤ sizeLine := by rw [sizeLine_eq]; decide
end Mine
namespace Mine
local macro_rules | `(tactic| walk_at "idle") => `(tactic| fail "idle")
theorem fresh14 : True := by
  w_top off
  trivial
local macro_rules | `(tactic| k_mem) => `(tactic| first | with_reducible assumption | with_reducible exact List.mem_cons_self .. | (with_reducible refine List.mem_cons_of_mem _ ?_; k_mem) | (with_reducible refine List.mem_append_left _ ?_; k_mem) | (with_reducible refine List.mem_append_right _ ?_; k_mem))
local macro_rules | `(tactic| walk_at "call ref") => `(tactic| (k_here; (with_reducible show wpAny _ _ (call (Value.ref 374) _ _) _ _ _); refine wpAny_call ?_))
theorem flatten_con (w : World) (mean : ExcName → Option Value) (mg mb : Str → Option Value) (W : Wd) (iA iB iC io : Addr) : ∀ (n : Nat) (ts : List Tree), hts ts < n → szs ts ≤ big → Con w mean mg mb 374 (2 * n) (20 * n)
    (fun news args => WIn W iA iB iC io news ∧ ∃ l vs k, args = [.ref l] ∧ (l, listOf vs.toArray k) ∈ news ∧ TypsIn W news ts vs)
    (fun news _ r => ∃ l vs k, r = .ref l ∧ (l, listOf vs.toArray k) ∈ news ∧ TypsIn W news (flats ts) vs) := by
  intro n
  induction n with
  | zero => intro ts h; exact absurd h (Nat.not_lt_zero _)
  | succ n IH =>
  intro ts hn hb
  unfold Con
  k_fill
  intro A A₀ env outer base h₀ L m news vis s args R B F X N T hA hf hk hh hg hd hu hvis hp hR
  obtain ⟨WI, l, vs, k, rfl, hl, hts⟩ := hp
  have hl' := hvis _ hl
  k_dflt (refine' code_def (K := Mine.hd.heap_39 w.params) (binds := [(Str.ofString "types", .ref l)]) B F X N T hA hf hk ?k6 ?k7 ?k8 ?k9 ?kB ?_ ?c2 ?c3 ?c4 ?c5; (case k6 => k_is); (case k7 => k_is); (case k9 => exact BindsTo.of_eq rfl); (case kB => exact locs rfl); (case c2 => exact rfl); (case c3 => exact rfl); (case c4 => exact rfl); (case c5 => decide); (case k8 => omega))
  intro g' L' h' FG' F' N' B' X' T'
  clear F N B X T
  try dsimp only
  k_fold
  k_steps
  rename_i lf h2 l1 h3 F1 N1
  k_dflt (refine' For_invV g' ?x1 ?x2 ?_; (case x1 => exact rfl); (case x2 => exact rfl))
  refine ld F1 rfl ?_
  refine for_one (fun i nx => ∃ ys k' tl, nx = (lf, listOf ys.toArray k') :: (news ++ tl) ∧ Ord news ((lf, listOf ys.toArray k') :: tl) ∧ (∀ p ∈ tl, lf < p.1) ∧ TypsIn W (vis ++ tl) (flats (ts.take i)) ys) hh (List.mem_cons_of_mem _ hl') SeqOf.list F1 N1 ?_ ?_ ?_
  · refine ⟨[], 0, [], by simp, ?_, fun _ h => (nomatch h), by simp [flats, TypsIn]⟩
    intro q hq p hp
    rw [List.mem_singleton.mp hp]; exact l1 q hq
  · intro i v nx h tk own hv hoff hlm hJ F N
    obtain ⟨ys, k', tl, rfl, hO, hlt, hT⟩ := hJ
    obtain ⟨t, ht, htv⟩ := hts.get hv
    clear F1 N1
    have hsz : (flats (ts.take (i + 1))).length ≤ big := Nat.le_trans (flats_len _) (Nat.le_trans (szs_take _ _) hb)
    have hlen := hT.len
    have hbl := big_line
    rw [flats_snoc ht, List.length_append] at hsz
    have hap := ap_off l1 hlt hoff
    by_cases hU : cls t = 365
    · obtain ⟨ps, rfl⟩ : ∃ ps, t = .node .union ps := by
        cases t with
        | leaf a => cases a <;> simp [cls] at hU
        | node g ps => cases g <;> simp [cls] at hU; exact ⟨ps, rfl⟩
      simp only [TypIn] at htv
      obtain ⟨x, d, li, e1, t1, nn, us, k2, rfl, hx, hd', hli, hps⟩ := htv
      have hx' := hvis _ hx
      have hd2 := hvis _ hd'
      have hli' := hvis _ hli
      try k_fold
      k_steps
      have hp1 := hts_get ht
      have hp2 := szs_get ht
      simp only [Tree.ht, Tree.sz] at hp1 hp2
      simp only [flat1] at hsz
      k_dflt (refine' con_use (IH ps (by omega) (by omega)) (vis) ?k1 ?k2 ?k3 ?k4 ?k5 ?kA ?kF ?kK ?kh ?kg ?kd ?ku ?kv ?pre ?_; (case k1 => k_asm); (case k2 => k_asm); (case k3 => k_asm); (case k4 => k_asm); (case k5 => k_asm); (case kA => first | exact Around.frames_deeper (Below.stack (by assumption)) | assumption); (case kF => exact rfl); (case kK => exact rfl); (case kh => first | exact hh | exact rfl | assumption); (case kg => first | exact hg | exact rfl | assumption); (case kd => ((try simp only [depth_under_make, depth_under_kw, depth_in1, depth_deeper, depth_caller]); omega)); (case ku => ((try simp only [units_under_make, units_in1, units_deeper, Around.mark_units, units_caller]); omega)))
      case kv => exact fun p hp => List.mem_append_left _ (List.mem_cons_of_mem _ (List.mem_append_left _ (hvis p hp)))
      case pre => exact ⟨WI, li, us, k2, rfl, hli, hps⟩
      intro r9 tl9 h9 tk9 F9 N9 O9 P9
      obtain ⟨l9, ws, k9, rfl, hl9, hws⟩ := P9
      have hl9' : (l9, listOf ws.toArray k9) ∈ (lf, listOf ys.toArray k') :: (news ++ tl) ++ own ++ tl9 := by
        rcases List.mem_append.mp hl9 with h | h
        · have := hvis _ h; k_mem
        · k_mem
      dsimp only
      have hlw := hws.len
      clear F N
      have hap9 := ap_more hap O9 (List.mem_append_left _ (List.mem_cons_self ..))
      k_steps
      k_dflt (refine' extend_in (own := []) (rest := news ++ tl ++ own ++ tl9) ?aF ?aN ?ao ?ap ?ab ?_ ?az; (case aF => k_asm); (case aN => k_asm); (case ao => exact fun _ h => nomatch h); (case ap => exact hap9); (case ab => exact (News.get (by k_asm) hl9')); (case az => ((try simp only [List.size_toArray]); omega)))
      intro h5 n5 F5 N5
      rw [List.nil_append, List.toList_toArray] at N5
      k_steps
      refine OnePost.next ((lf, listOf (ys ++ ws).toArray n5) :: (news ++ tl ++ tl9)) (.inl rfl) F5 N5 ?_ ?_ ?_ ?_
      · intro p hp
        simp only [List.cons_append, List.mem_cons, List.mem_append] at hp ⊢
        rcases hp with h | ((h | h) | h) | h <;> simp [h]
      · k_mem
      · exact off_tl hoff (O9.sub fun q hq => List.mem_append_right _ hq)
      · refine ⟨ys ++ ws, n5, tl ++ tl9, by simp, ord_grow hO O9 fun q hq => by k_mem, lt_grow hlt O9 (by k_mem), ?_⟩
        rw [flats_snoc ht]
        refine TypsIn.app (hT.mono fun p hp => ?_) ?_
        · simp only [List.mem_append] at hp ⊢; rcases hp with h | h <;> simp [h]
        · simp only [flat1]
          refine hws.mono fun p hp => ?_
          simp only [List.mem_append] at hp ⊢; rcases hp with h | h <;> simp [h]
    · obtain ⟨x, d, es, nn, rfl, hx, hdx⟩ := typ_inst WI htv
      have hx' := hvis _ hx
      have hdx' := hvis _ hdx
      try k_fold
      k_steps
      k_dflt (refine' isi_ne ?k1 ?k2 (cls_six t) (by decide) hU ?_; (case k1 => k_in); (case k2 => k_inst))
      intro tk9
      k_steps
      rename Fr _ _ _ _ => F5
      rename News _ _ _ _ => N5
      rw [List.push_toArray] at N5
      refine OnePost.next ((lf, listOf (ys ++ [Value.ref x]).toArray (k' + 1)) :: (news ++ tl)) (.inl rfl) F5 N5 ?_ ?_ ?_ ?_
      · exact fun p hp => hp
      · k_mem
      · exact off_same hoff
      · refine ⟨ys ++ [.ref x], k' + 1, tl, rfl, ord_same hO, hlt, ?_⟩
        rw [flats_snoc ht]
        refine hT.app ?_
        have : flat1 t = [t] := by
          cases t with
          | leaf a => rfl
          | node g ps => cases g <;> first | rfl | exact absurd rfl hU
        rw [this]
        exact TypsIn.one (htv.mono fun p hp => by k_mem)
  · rintro u nx h tk ⟨ys, k', tl, rfl, hO, hlt, hT⟩ F N
    rw [hts.len, List.take_length] at hT
    clear F1 N1
    show wpAny _ _ _ _ _ _
    k_steps
    show LeaveK _ _ _ _ _ _ _
    refine con_leave hR F N ((lf, listOf ys.toArray k') :: tl) ?_ hO ⟨lf, ys, k', rfl, by k_mem, hT.mono ?_⟩
    · intro p hp
      simp only [List.mem_append, List.mem_cons] at hp ⊢
      rcases hp with h | h | h <;> simp [h]
    · intro p hp
      simp only [List.mem_append, List.mem_cons] at hp ⊢
      rcases hp with h | h <;> simp [h]
end Mine
namespace Mine
local macro_rules | `(tactic| walk_at "idle") => `(tactic| fail "idle")
local macro_rules | `(tactic| walk_at "idle") => `(tactic| fail "idle")
theorem fresh15 : True := by
  w_top off
  trivial
local macro_rules | `(tactic| k_mem) => `(tactic| first | with_reducible assumption | with_reducible exact List.mem_cons_self .. | (with_reducible refine List.mem_cons_of_mem _ ?_; k_mem) | (with_reducible refine List.mem_append_left _ ?_; k_mem) | (with_reducible refine List.mem_append_right _ ?_; k_mem))
local macro_rules | `(tactic| k_room) => `(tactic| ((try simp only [depth_under_make, depth_under_kw, depth_in1, depth_deeper, depth_caller]); omega))
local macro_rules | `(tactic| k_units) => `(tactic| ((try simp only [units_under_make, units_in1, units_deeper, Around.mark_units, units_caller]); omega))
local macro_rules | `(tactic| k_all) => `(tactic| first | assumption | (refine List.forall_mem_append.mpr ⟨?_, ?_⟩ <;> k_all))
local macro_rules | `(tactic| walk_at "call ref") => `(tactic| (k_here; (with_reducible show wpAny _ _ (call (Value.ref 374) _ _) _ _ _); refine wpAny_call ?_))
theorem union_con (w : World) (mean : ExcName → Option Value) (mg mb : Str → Option Value) (W : Wd) (iA iB iC io : Addr) (n : Nat) (ts : List Tree) (hn : hts ts < n) (hb : szs ts ≤ big) : Con w mean mg mb 365 (2 * n + 4) (20 * n + 20)
    (fun news args => WIn W iA iB iC io news ∧ ∃ l vs k, args = [.ref l] ∧ (l, listOf vs.toArray k) ∈ news ∧ TypsIn W news ts vs)
    (fun news _ r => TypIn W news (.node .union (flats ts)) r) := by
  unfold Con
  k_fill
  intro A A₀ env outer base h₀ L m news vis s args R B F X N T hA hf hk hh hg hd hu hvis hp hR
  obtain ⟨WI, l, vs, k, rfl, hl, hts⟩ := hp
  have hl' := hvis _ hl
  k_dflt (refine' make_K (K := Mine.hd.heap_39 w.params) F N (X.keeps F.keep) ?m4 ?m5 ?m6 ?_; (case m4 => k_is); (case m5 => k_is); (case m6 => k_is))
  intro x9 d9 h9 F9 N9 l9 l9'
  replace l9' := ltN l9'
  k_dflt (refine' code_def (K := Mine.hd.heap_39 w.params) (binds := [(Str.ofString "self", .ref x9), (Str.ofString "items", .ref l)]) B F9 X N9 T ?kA hf hk ?k6 ?k7 ?k8 ?k9 ?kB ?_ ?c2 ?c3 ?c4 ?c5; (case kA => exact hA); (case k6 => k_is); (case k7 => k_is); (case k9 => exact BindsTo.of_eq rfl); (case kB => exact locs rfl); (case c2 => exact rfl); (case c3 => exact rfl); (case c4 => exact rfl); (case c5 => decide); (case k8 => ((try simp only [depth_under_make, depth_under_kw, depth_in1, depth_deeper, depth_caller]); omega)))
  intro g' L' h' FG' F' N' B' X' T'
  clear F N B X T F9 N9
  change News g' L' h' ((x9, instObj _ d9) :: (d9, dictOf [] 0) :: news) at N'
  try dsimp only
  k_fold
  k_steps
  k_dflt (refine' con_use (flatten_con w mean mg mb W iA iB iC io n ts hn hb) (vis) ?k1 ?k2 ?k3 ?k4 ?k5 ?kA ?kF ?kK ?kh ?kg ?kd ?ku ?kv ?pre ?_; (case k1 => k_asm); (case k2 => k_asm); (case k3 => k_asm); (case k4 => k_asm); (case k5 => k_asm); (case kA => first | exact Around.frames_deeper (Below.stack (by assumption)) | assumption); (case kF => exact rfl); (case kK => exact rfl); (case kh => first | exact hh | exact rfl | assumption); (case kg => first | exact hg | exact rfl | assumption); (case kd => ((try simp only [depth_under_make, depth_under_kw, depth_in1, depth_deeper, depth_caller]); omega)); (case ku => ((try simp only [units_under_make, units_in1, units_deeper, Around.mark_units, units_caller]); omega)))
  case kv => exact fun p hp => by have := hvis p hp; k_mem
  case pre => exact ⟨WI, l, vs, k, rfl, hl, hts⟩
  intro r tl h1 tk1 F1 N1 O1 P1
  obtain ⟨l1, ws, k1, rfl, hl1, hws⟩ := P1
  have a1 : ∀ p ∈ news, p.1 ≠ d9 := fun p hp => Nat.ne_of_lt (l9 p hp)
  have a2 : ∀ p ∈ tl, p.1 ≠ d9 := fun p hp => Nat.ne_of_gt (O1 (d9, _) (by k_mem) p hp)
  clear F' N'
  simp only [List.cons_append] at N1
  dsimp only
  k_steps
  rename Fr _ _ _ _ => F2
  rename News _ _ _ _ => N2
  refine con_leave_init2 hR F2 N2 (Ord.cons (fun q hq => Nat.lt_trans (l9 q hq) l9') (Ord.cons l9 (O1.sub fun q hq => by k_mem))) ?_
  simp only [TypIn]
  exact ⟨x9, d9, l1, _, _, _, ws, k1, rfl, by k_mem, by k_mem, by rcases List.mem_append.mp hl1 with h | h <;> k_mem, hws.mono fun p hp => by rcases List.mem_append.mp hp with h | h <;> k_mem⟩
end Mine
namespace Mine
local macro_rules | `(tactic| walk_at "idle") => `(tactic| fail "idle")
local macro_rules | `(tactic| walk_at "idle") => `(tactic| fail "idle")
local macro_rules | `(tactic| walk_at "idle") => `(tactic| fail "idle")
local macro_rules | `(tactic| walk_at "idle") => `(tactic| fail "idle")
theorem fresh16 : True := by
  w_top off
  trivial
local macro_rules | `(tactic| k_mem) => `(tactic| first | with_reducible assumption | with_reducible exact List.mem_cons_self .. | (with_reducible refine List.mem_cons_of_mem _ ?_; k_mem) | (with_reducible refine List.mem_append_left _ ?_; k_mem) | (with_reducible refine List.mem_append_right _ ?_; k_mem))
local macro_rules | `(tactic| k_room) => `(tactic| ((try simp only [depth_under_make, depth_under_kw, depth_in1, depth_deeper, depth_caller]); omega))
local macro_rules | `(tactic| k_units) => `(tactic| ((try simp only [units_under_make, units_in1, units_deeper, Around.mark_units, units_caller]); omega))
local macro_rules | `(tactic| k_all) => `(tactic| first | assumption | (refine List.forall_mem_append.mpr ⟨?_, ?_⟩ <;> k_all))
theorem tuple_led {prog : Program} {w : World} {A : Around} {E : Value → Shared → Prop} {s : Shared} {h₀ : Heap} {L l : Addr} {m : Str → Option Value} {news : List (Addr × Obj)} {vs : List Value} {k : Nat} {Q : Value → Shared → Prop} (F : Fr h₀ L s.heap m) (N : News h₀ L s.heap news) (hl : (l, listOf vs.toArray k) ∈ news) (hz : vs.length ≤ big)
    (h : ∀ D h', Fr h₀ L h' m → News h₀ L h' ((D, tupOf vs 0) :: news) → (∀ p ∈ news, p.1 < D) → Q (.ref D) { s with heap := h' }) : wpAny (model prog w) A (call (.type "tuple") [.ref l]) Q E s := by
  have hbl := big_line
  refine call_tuple_list (News.isList N hl) (fun h' hk => ?_) (by rw [List.size_toArray]; omega)
  have F' : Fr h₀ L h' m := F.keeps hk
  have N' : News h₀ L h' news := fun p hp => ⟨hk _ _ (N p hp).1, (N p hp).2⟩
  have := h _ _ (F'.push _) (N'.push F' _) fun p hp => Heap.lt_size (N' p hp).1
  exact this
theorem inst_con (w : World) (mean : ExcName → Option Value) (mg mb : Str → Option Value) (inf : Addr) (vs : List Value) (hb : vs.length ≤ big) : Con w mean mg mb 324 4 20
    (fun news args => ∃ l k, args = [.ref inf, .ref l] ∧ (l, listOf vs.toArray k) ∈ news)
    (fun news _ r => ∃ x, r = .ref x ∧ InstIn news x inf vs) := by
  unfold Con
  k_fill
  intro A A₀ env outer base h₀ L m news vis s args R B F X N T hA hf hk hh hg hd hu hvis hp hR
  obtain ⟨l, k, rfl, hl⟩ := hp
  have hl' := hvis _ hl
  k_dflt (refine' make_K (K := Mine.hd.heap_39 w.params) F N (X.keeps F.keep) ?m4 ?m5 ?m6 ?_; (case m4 => k_is); (case m5 => k_is); (case m6 => k_is))
  intro x9 d9 h9 F9 N9 l9 l9'
  replace l9' := ltN l9'
  k_dflt (refine' code_def (K := Mine.hd.heap_39 w.params) (binds := [(Str.ofString "self", .ref x9), (Str.ofString "typ", .ref inf), (Str.ofString "args", .ref l)]) B F9 X N9 T ?kA hf hk ?k6 ?k7 ?k8 ?k9 ?kB ?_ ?c2 ?c3 ?c4 ?c5; (case kA => exact hA); (case k6 => k_is); (case k7 => k_is); (case k9 => exact BindsTo.of_eq rfl); (case kB => exact locs rfl); (case c2 => exact rfl); (case c3 => exact rfl); (case c4 => exact rfl); (case c5 => decide); (case k8 => ((try simp only [depth_under_make, depth_under_kw, depth_in1, depth_deeper, depth_caller]); omega)))
  intro g' L' h' FG' F' N' B' X' T'
  clear F N B X T F9 N9
  change News g' L' h' ((x9, instObj _ d9) :: (d9, dictOf [] 0) :: news) at N'
  try dsimp only
  k_fold
  have a1 : ∀ p ∈ news, p.1 ≠ d9 := fun p hp => Nat.ne_of_lt (l9 p hp)
  k_steps
  k_dflt (refine' tuple_led (l := l) (vs := vs) ?k1 ?k2 ?k3 hb ?_; (case k1 => k_asm); (case k2 => k_asm); (case k3 => k_mem))
  intro u9 h9 F9 N9 lu
  have lu0 := fun p hp => lu p (List.mem_cons_of_mem _ (List.mem_cons_of_mem _ hp))
  have lu2 := ltN (lu (d9, _) (by k_mem))
  have lu1 := ltN (lu (x9, _) (by k_mem))
  have a2 : u9 ≠ d9 := Nat.ne_of_gt lu2
  k_steps
  rename Fr _ _ _ _ => F2
  rename News _ _ _ _ => N2
  refine con_leave_init3 (tl := []) hR F2 (by rw [List.append_nil]; exact N2) (Ord.cons lu0 (Ord.cons (fun q hq => Nat.lt_trans (l9 q hq) l9') (Ord.cons l9 Ord.nil))) ?_
  exact ⟨x9, rfl, d9, u9, _, _, _, _, _, _, by k_mem, by k_mem, by k_mem⟩
end Mine
namespace Mine
mutual
def teq : Tree → Tree → Bool
  | .leaf a, .leaf b => a == b
  | .leaf _, .node _ _ => false
  | .node _ _, .leaf _ => false
  | .node g ps, .node h qs => g == h && (if g = .union then (qs.all fun q => anyq ps q) && allp ps qs else teqs ps qs)
def teqs : List Tree → List Tree → Bool
  | [], [] => true
  | p :: r, q :: s => teq p q && teqs r s
  | [], _ :: _ => false
  | _ :: _, [] => false
def anyq : List Tree → Tree → Bool
  | [], _ => false
  | p :: r, q => teq p q || anyq r q
def allp : List Tree → List Tree → Bool
  | [], _ => true
  | p :: r, qs => (qs.any fun q => teq p q) && allp r qs
end
theorem anyq_eq (ps : List Tree) (q : Tree) : anyq ps q = ps.any fun p => teq p q := by
  induction ps with
  | nil => simp [anyq]
  | cons p r ih => simp [anyq, ih]
theorem allp_eq (ps qs : List Tree) : allp ps qs = ps.all fun p => qs.any fun q => teq p q := by
  induction ps with
  | nil => simp [allp]
  | cons p r ih => simp [allp, ih]
theorem teq_union (ps qs : List Tree) : teq (.node .union ps) (.node .union qs) = ((qs.all fun q => ps.any fun p => teq p q) && ps.all fun p => qs.any fun q => teq p q) := by
  simp only [teq, if_true, allp_eq, anyq_eq, beq_self_eq_true, Bool.true_and]
mutual
theorem teq_refl : ∀ t : Tree, teq t t = true
  | .leaf a => by simp [teq]
  | .node g ps => by
    have h1 : ∀ p ∈ ps, teq p p = true := fun p hp => teqs_refl ps p hp
    have h2 : ∀ (l : List Tree), (∀ p ∈ l, teq p p = true) → teqs l l = true := by
      intro l; induction l with
      | nil => intro _; simp [teqs]
      | cons p r ih => intro h; simp only [teqs, Bool.and_eq_true]; exact ⟨h p (List.mem_cons_self ..), ih fun q hq => h q (List.mem_cons_of_mem _ hq)⟩
    simp only [teq, beq_self_eq_true, Bool.true_and]
    split
    · simp only [allp_eq, anyq_eq, Bool.and_eq_true, List.all_eq_true, List.any_eq_true]
      exact ⟨fun q hq => ⟨q, hq, h1 q hq⟩, fun q hq => ⟨q, hq, h1 q hq⟩⟩
    · exact h2 ps h1
theorem teqs_refl : ∀ (ts : List Tree), ∀ p ∈ ts, teq p p = true
  | [], _, h => nomatch h
  | t :: r, p, h => by
    rcases List.mem_cons.mp h with e | h
    · exact e ▸ teq_refl t
    · exact teqs_refl r p h
end
mutual
theorem teq_symm : ∀ t u : Tree, teq t u = teq u t
  | .leaf a, .leaf b => by simp only [teq]; exact Bool.beq_comm
  | .leaf _, .node _ _ => by simp [teq]
  | .node _ _, .leaf _ => by simp [teq]
  | .node g ps, .node h qs => by
    have h1 : ∀ p ∈ ps, ∀ q, teq p q = teq q p := fun p hp q => teqs_symm ps p hp q
    have h2 : ∀ (l : List Tree), (∀ p ∈ l, ∀ q, teq p q = teq q p) → ∀ m, teqs l m = teqs m l := by
      intro l; induction l with
      | nil => intro _ m; cases m <;> simp [teqs]
      | cons p r ih => intro h m; cases m with
        | nil => simp [teqs]
        | cons q s => simp only [teqs]; rw [h p (List.mem_cons_self ..), ih (fun q hq => h q (List.mem_cons_of_mem _ hq))]
    simp only [teq, allp_eq, anyq_eq]
    by_cases hg : g = h
    · subst hg
      simp only [beq_self_eq_true, Bool.true_and]
      split
      · have e1 : (qs.all fun q => ps.any fun p => teq p q) = qs.all fun p => ps.any fun q => teq p q := by
          congr 1; funext q
          rw [Bool.eq_iff_iff]; simp only [List.any_eq_true]
          exact ⟨fun ⟨p, hp, e⟩ => ⟨p, hp, by rw [← h1 p hp]; exact e⟩, fun ⟨p, hp, e⟩ => ⟨p, hp, by rw [h1 p hp]; exact e⟩⟩
        have e2 : (ps.all fun p => qs.any fun q => teq p q) = ps.all fun q => qs.any fun p => teq p q := by
          rw [Bool.eq_iff_iff]; simp only [List.all_eq_true, List.any_eq_true]
          exact ⟨fun h p hp => let ⟨q, hq, e⟩ := h p hp; ⟨q, hq, by rw [← h1 p hp]; exact e⟩, fun h p hp => let ⟨q, hq, e⟩ := h p hp; ⟨q, hq, by rw [h1 p hp]; exact e⟩⟩
        rw [e1, e2, Bool.and_comm]
      · exact h2 ps h1 qs
    · have a1 : (g == h) = false := beq_false_of_ne hg
      have a2 : (h == g) = false := beq_false_of_ne (Ne.symm hg)
      rw [a1, a2]; simp
theorem teqs_symm : ∀ (ts : List Tree), ∀ p ∈ ts, ∀ q, teq p q = teq q p
  | [], _, h, _ => nomatch h
  | t :: r, p, h, q => by
    rcases List.mem_cons.mp h with e | h
    · exact e ▸ teq_symm t q
    · exact teqs_symm r p h q
end
theorem teq_cls {t u : Tree} (h : cls t ≠ cls u) : teq t u = false := by
  cases ht : teq t u with
  | false => rfl
  | true =>
    exfalso; apply h
    cases t with
    | leaf a => cases u with
      | leaf b => simp only [teq, beq_iff_eq] at ht; rw [ht]
      | node g ps => simp [teq] at ht
    | node g ps => cases u with
      | leaf b => simp [teq] at ht
      | node k qs =>
        simp only [teq, Bool.and_eq_true, beq_iff_eq] at ht
        rw [ht.1]; cases k <;> rfl
/-- a plain type's class, arguments, full name -/
def infT (W : Wd) (iA iB iC io : Addr) : Tree → Addr
  | .leaf .A => iA
  | .leaf .B => iB
  | .leaf .C => iC
  | .leaf _ => io
  | .node g _ => W.inf g
def kids : Tree → List Tree
  | .leaf _ => []
  | .node _ ps => ps
def fullOf : Tree → Str
  | .leaf .A => "m.A"
  | .leaf .B => "m.B"
  | .leaf .C => "m.C"
  | .leaf _ => "builtins.object"
  | .node .box _ => "m.box"
  | .node _ _ => "m.pair"
def nmOf : Tree → Str
  | .leaf .S => "S"
  | .leaf .T => "T"
  | _ => "U"
def idOf' : Tree → Int
  | .leaf .S => 1
  | .leaf .T => 2
  | _ => 3
section
variable {W : Wd} {iA iB iC io : Addr} {news : Led}
theorem typ324 (WI : WIn W iA iB iC io news) {t : Tree} {v : Value} (hc : cls t = 324) (h : TypIn W news t v) :
    ∃ x vs, v = .ref x ∧ InstIn news x (infT W iA iB iC io t) vs ∧ TypsIn W news (kids t) vs ∧ InfoIn news (infT W iA iB iC io t) (fullOf t) := by
  cases t with
  | leaf a =>
    cases a <;> simp only [cls] at hc <;> first | exact absurd hc (by decide) | (simp only [TypIn] at h; subst h)
    · exact ⟨_, [], rfl, WI.nA, TypsIn.nil, WI.fA⟩
    · exact ⟨_, [], rfl, WI.nB, TypsIn.nil, WI.fB⟩
    · exact ⟨_, [], rfl, WI.nC, TypsIn.nil, WI.fC⟩
    · exact ⟨_, [], rfl, WI.no, TypsIn.nil, WI.fo⟩
  | node g ps =>
    cases g <;> simp only [cls] at hc <;> first | exact absurd hc (by decide) | simp only [TypIn] at h
    · obtain ⟨x, d, u, h1, h2, t1, t2, n, vs, k, rfl, a, b, c, e⟩ := h
      exact ⟨x, vs, rfl, ⟨d, u, h1, h2, t1, t2, n, k, a, b, c⟩, e, WI.fb⟩
    · obtain ⟨x, d, u, h1, h2, t1, t2, n, vs, k, rfl, a, b, c, e⟩ := h
      exact ⟨x, vs, rfl, ⟨d, u, h1, h2, t1, t2, n, k, a, b, c⟩, e, WI.fp⟩
theorem typ190 (WI : WIn W iA iB iC io news) {t : Tree} {v : Value} (hc : cls t = 190) (h : TypIn W news t v) : ∃ x, v = .ref x ∧ VarIn news x (nmOf t) (idOf' t) (W.at_ .obj) := by
  cases t with
  | leaf a =>
    cases a <;> simp only [cls] at hc <;> first | exact absurd hc (by decide) | (simp only [TypIn] at h; subst h)
    · exact ⟨_, rfl, WI.vS⟩
    · exact ⟨_, rfl, WI.vT⟩
    · exact ⟨_, rfl, WI.vU⟩
  | node g ps => cases g <;> simp only [cls] at hc <;> exact absurd hc (by decide)
theorem typ365 {t : Tree} {v : Value} (hc : cls t = 365) (h : TypIn W news t v) : ∃ ps x d l h1 t1 n vs k, t = .node .union ps ∧ v = .ref x ∧ (x, instObj 365 d) ∈ news ∧ (d, dictOf [⟨h1, .str "items" t1, .ref l⟩] n) ∈ news ∧ (l, listOf vs.toArray k) ∈ news ∧ TypsIn W news ps vs := by
  cases t with
  | leaf a => cases a <;> simp only [cls] at hc <;> exact absurd hc (by decide)
  | node g ps =>
    cases g <;> simp only [cls] at hc <;> first | exact absurd hc (by decide) | simp only [TypIn] at h
    obtain ⟨x, d, l, h1, t1, n, vs, k, rfl, a, b, c, e⟩ := h
    exact ⟨ps, x, d, l, h1, t1, n, vs, k, rfl, rfl, a, b, c, e⟩
/-- one object at a place -/
def Sv (news : Led) : Prop := ∀ a o o', (a, o) ∈ news → (a, o') ∈ news → o = o'
theorem sv_of {h₀ h : Heap} {L : Addr} {news : Led} (N : News h₀ L h news) : Sv news := fun a o o' h1 h2 => by
  have e1 := (N _ h1).1
  have e2 := (N _ h2).1
  simp only at e1 e2
  rw [e1] at e2; cases e2; rfl
theorem Sv.sub {news vis : Led} (h : Sv news) (hs : ∀ p ∈ vis, p ∈ news) : Sv vis := fun a o o' h1 h2 => h a o o' (hs _ h1) (hs _ h2)
theorem inst_inj {a b d d' : Addr} (h : instObj a d = instObj b d') : a = b ∧ d = d' := by
  simp only [instObj, Obj.mk.injEq, Value.ref.injEq, Option.some.injEq, true_and, and_true] at h; exact h
theorem dict_inj {es es' : List DictEntry} {n n' : Nat} (h : dictOf es n = dictOf es' n') : es = es' := by
  simp only [dictOf, Obj.mk.injEq, Data.dict.injEq, true_and, and_true] at h
  exact by simpa using h.1
theorem list_inj {vs us : List Value} {n n' : Nat} (h : listOf vs.toArray n = listOf us.toArray n') : vs = us := by
  simp only [PySem.W.listOf, Obj.mk.injEq, Data.seq.injEq, true_and, and_true] at h
  exact by simpa using h.1
theorem tup_inj {vs us : List Value} {n n' : Nat} (h : tupOf vs n = tupOf us n') : vs = us := by
  simp only [tupOf, Obj.mk.injEq, Data.seq.injEq, true_and, and_true] at h
  exact by simpa using h.1
theorem InstIn.uniq (S : Sv news) {x i j : Addr} {vs us : List Value} (h : InstIn news x i vs) (k : InstIn news x j us) : i = j ∧ vs = us := by
  obtain ⟨d, u, h1, h2, t1, t2, n, m, a, b, c⟩ := h
  obtain ⟨d', u', h1', h2', t1', t2', n', m', a', b', c'⟩ := k
  obtain ⟨-, rfl⟩ := inst_inj (S _ _ _ a a')
  have e := dict_inj (S _ _ _ b b')
  simp only [List.cons.injEq, DictEntry.mk.injEq, Value.ref.injEq, and_true] at e
  obtain ⟨⟨-, -, rfl⟩, -, -, rfl⟩ := e
  exact ⟨rfl, tup_inj (S _ _ _ c c')⟩
theorem InfoIn.uniq (S : Sv news) {x : Addr} {f g : Str} (h : InfoIn news x f) (k : InfoIn news x g) : f = g := by
  obtain ⟨d, h1, h2, h3, h4, h5, t1, t1', t2, t3, t4, t5, v2, v3, v4, v5, n, a, b⟩ := h
  obtain ⟨d', h1', h2', h3', h4', h5', u1, u1', u2, u3, u4, u5, v2', v3', v4', v5', n', a', b'⟩ := k
  obtain ⟨-, rfl⟩ := inst_inj (S _ _ _ a a')
  have e := dict_inj (S _ _ _ b b')
  simp only [List.cons.injEq, DictEntry.mk.injEq, Value.str.injEq, and_true] at e
  exact e.1.2.2.1
theorem VarIn.uniq (S : Sv news) {x t : Addr} {f g : Str} {k k' : Int} (h : VarIn news x f k t) (h' : VarIn news x g k' t) : f = g := by
  obtain ⟨d, i, di, l, h1, h2, h3, h4, h5, t1, t1', t2, t3, t4, t5, t5', h6, h7, t6, t6', t7, t7', n, n', n'', a, b, c, e, f⟩ := h
  obtain ⟨d', _, _, _, _, _, _, _, _, _, _, _, _, _, _, _, _, _, _, _, _, _, _, _, _, a', b', _⟩ := h'
  obtain ⟨-, rfl⟩ := inst_inj (S _ _ _ a a')
  have e := dict_inj (S _ _ _ b b')
  simp only [List.cons.injEq, DictEntry.mk.injEq, Value.str.injEq, and_true] at e
  exact e.1.2.2.1
theorem full_inf {t u : Tree} (ht : cls t = 324) (hu : cls u = 324) (h : fullOf t = fullOf u) : infT W iA iB iC io t = infT W iA iB iC io u := by
  cases t with
  | leaf a => cases u with
    | leaf b => cases a <;> simp only [cls] at ht <;> first | exact absurd ht (by decide) | (cases b <;> simp only [cls] at hu <;> first | exact absurd hu (by decide) | rfl | exact absurd h (by simp only [fullOf]; decide))
    | node g ps => cases a <;> simp only [cls] at ht <;> first | exact absurd ht (by decide) | (cases g <;> simp only [cls] at hu <;> first | exact absurd hu (by decide) | exact absurd h (by simp only [fullOf]; decide))
  | node k qs => cases u with
    | leaf b => cases k <;> simp only [cls] at ht <;> first | exact absurd ht (by decide) | (cases b <;> simp only [cls] at hu <;> first | exact absurd hu (by decide) | exact absurd h (by simp only [fullOf]; decide))
    | node g ps => cases k <;> simp only [cls] at ht <;> first | exact absurd ht (by decide) | (cases g <;> simp only [cls] at hu <;> first | exact absurd hu (by decide) | rfl | exact absurd h (by simp only [fullOf]; decide))
theorem teq_324 {t u : Tree} (ht : cls t = 324) (hu : cls u = 324) : teq t u = (decide (fullOf t = fullOf u) && teqs (kids t) (kids u)) := by
  cases t with
  | leaf a => cases u with
    | leaf b => cases a <;> simp only [cls] at ht <;> first | exact absurd ht (by decide) | (cases b <;> simp only [cls] at hu <;> first | exact absurd hu (by decide) | (simp only [teq, kids, teqs, fullOf, Bool.and_true]; decide))
    | node g ps => cases a <;> simp only [cls] at ht <;> first | exact absurd ht (by decide) | (cases g <;> simp only [cls] at hu <;> first | exact absurd hu (by decide) | (rw [show decide (fullOf (.leaf _) = fullOf (.node _ ps)) = false from decide_eq_false (by simp only [fullOf]; decide)]; simp [teq]))
  | node k qs => cases u with
    | leaf b => cases k <;> simp only [cls] at ht <;> first | exact absurd ht (by decide) | (cases b <;> simp only [cls] at hu <;> first | exact absurd hu (by decide) | (rw [show decide (fullOf (.node _ qs) = fullOf (.leaf _)) = false from decide_eq_false (by simp only [fullOf]; decide)]; simp [teq]))
    | node g ps => cases k <;> simp only [cls] at ht <;> first | exact absurd ht (by decide) | (cases g <;> simp only [cls] at hu <;> first | exact absurd hu (by decide) | (rw [show decide (fullOf (.node _ qs) = fullOf (.node _ ps)) = true from decide_eq_true rfl]; simp [teq, kids]) | (rw [show decide (fullOf (.node _ qs) = fullOf (.node _ ps)) = false from decide_eq_false (by simp only [fullOf]; decide)]; simp [teq]))
theorem teq_190 {t u : Tree} (ht : cls t = 190) (hu : cls u = 190) : teq t u = decide (idOf' t = idOf' u) := by
  cases t with
  | leaf a => cases u with
    | leaf b => cases a <;> simp only [cls] at ht <;> first | exact absurd ht (by decide) | (cases b <;> simp only [cls] at hu <;> first | exact absurd hu (by decide) | (simp only [teq, idOf']; decide))
    | node g ps => cases g <;> simp only [cls] at hu <;> exact absurd hu (by decide)
  | node k qs => cases k <;> simp only [cls] at ht <;> exact absurd ht (by decide)
theorem teq_one {t u : Tree} (ht : cls t = 224 ∨ cls t = 258 ∨ cls t = 284) (h : cls t = cls u) : teq t u = true := by
  cases t with
  | leaf a => cases u with
    | leaf b => cases a <;> simp only [cls] at ht <;> first | exact absurd ht (by decide) | (cases b <;> simp only [cls] at h <;> first | exact absurd h (by decide) | (simp only [teq]; decide))
    | node g ps => cases a <;> simp only [cls] at ht <;> first | exact absurd ht (by decide) | (cases g <;> simp only [cls] at h <;> exact absurd h (by decide))
  | node k qs => cases k <;> simp only [cls] at ht <;> exact absurd ht (by decide)
end
end Mine
namespace Mine
section
variable {W : Wd} {iA iB iC io : Addr} {news : Led}
theorem typs_inj_of {ts us : List Tree} (h : ∀ t ∈ ts, ∀ u v, TypIn W news t v → TypIn W news u v → t = u) : ∀ {us : List Tree} {vs : List Value}, TypsIn W news ts vs → TypsIn W news us vs → ts = us := by
  induction ts with
  | nil =>
    intro us vs a b
    have e1 := a.len; have e2 := b.len
    cases us with
    | nil => rfl
    | cons u s => rw [e1] at e2; simp at e2
  | cons t r ih =>
    intro us vs a b
    cases us with
    | nil => have e1 := a.len; have e2 := b.len; rw [e1] at e2; simp at e2
    | cons u s =>
      simp only [TypsIn] at a b
      obtain ⟨v, ws, rfl, a1, a2⟩ := a
      obtain ⟨v', ws', e, b1, b2⟩ := b
      injection e with e1 e2
      subst e1 e2
      rw [h t (List.mem_cons_self ..) u v a1 b1, ih (fun t ht => h t (List.mem_cons_of_mem _ ht)) a2 b2]
theorem mem_sz {t : Tree} {ts : List Tree} (h : t ∈ ts) : t.sz ≤ szs ts := by
  obtain ⟨i, hi, e⟩ := List.getElem_of_mem h
  exact szs_get (i := i) (by rw [List.getElem?_eq_getElem hi, e])
theorem typ_inj' (S : Sv news) (WI : WIn W iA iB iC io news) : ∀ (n : Nat) (t : Tree), t.sz < n → ∀ u v, TypIn W news t v → TypIn W news u v → t = u := by
  intro n
  induction n with
  | zero => intro t h; exact absurd h (Nat.not_lt_zero _)
  | succ n IH =>
    intro t hn u v ht hu
    obtain ⟨x, d, es, k, rfl, h1, h2⟩ := typ_inst WI ht
    obtain ⟨x', d', es', k', e, h1', h2'⟩ := typ_inst WI hu
    cases e
    obtain ⟨hc, -⟩ := inst_inj (S _ _ _ h1 h1')
    have c6 := cls_six t
    simp only [six, List.mem_cons, List.not_mem_nil, or_false] at c6
    rcases c6 with c | c | c | c | c | c
    · have hn2 := teq_190 c (hc ▸ c)
      obtain ⟨y, e1, v1⟩ := typ190 WI c ht
      obtain ⟨y', e2, v2⟩ := typ190 WI (hc ▸ c) hu
      cases e1; cases e2
      have := v1.uniq S v2
      cases t with
      | leaf a => cases u with
        | leaf b => cases a <;> simp only [cls] at c <;> first | exact absurd c (by decide) | (cases b <;> first | rfl | exact absurd this (by decide) | exact absurd hc (by decide))
        | node g ps => rw [c] at hc; cases g <;> simp only [cls] at hc <;> exact absurd hc (by decide)
      | node g ps => cases g <;> simp only [cls] at c <;> exact absurd c (by decide)
    · cases t with
      | leaf a => cases u with
        | leaf b => cases a <;> simp only [cls] at c <;> first | exact absurd c (by decide) | (cases b <;> first | rfl | exact absurd hc (by decide))
        | node g ps => rw [c] at hc; cases g <;> simp only [cls] at hc <;> exact absurd hc (by decide)
      | node g ps => cases g <;> simp only [cls] at c <;> exact absurd c (by decide)
    · cases t with
      | leaf a => cases u with
        | leaf b => cases a <;> simp only [cls] at c <;> first | exact absurd c (by decide) | (cases b <;> first | rfl | exact absurd hc (by decide))
        | node g ps => rw [c] at hc; cases g <;> simp only [cls] at hc <;> exact absurd hc (by decide)
      | node g ps => cases g <;> simp only [cls] at c <;> exact absurd c (by decide)
    · cases t with
      | leaf a => cases u with
        | leaf b => cases a <;> simp only [cls] at c <;> first | exact absurd c (by decide) | (cases b <;> first | rfl | exact absurd hc (by decide))
        | node g ps => rw [c] at hc; cases g <;> simp only [cls] at hc <;> exact absurd hc (by decide)
      | node g ps => cases g <;> simp only [cls] at c <;> exact absurd c (by decide)
    · obtain ⟨y, vs, e1, i1, p1, f1⟩ := typ324 WI c ht
      obtain ⟨y', vs', e2, i2, p2, f2⟩ := typ324 WI (hc ▸ c) hu
      cases e1; cases e2
      obtain ⟨e3, rfl⟩ := i1.uniq S i2
      rw [e3] at f1
      have e4 := f1.uniq S f2
      have hk : kids t = kids u := typs_inj_of (us := kids u) (fun p hp => IH p (by
        cases t with
        | leaf a => simp only [kids, List.not_mem_nil] at hp
        | node g ps => simp only [kids] at hp; have := mem_sz hp; simp only [Tree.sz] at hn; omega)) p1 p2
      have cu : cls u = 324 := hc ▸ c
      cases t with
      | leaf a => cases u with
        | leaf b => cases a <;> simp only [cls] at c <;> first | exact absurd c (by decide) | (cases b <;> simp only [cls] at cu <;> first | exact absurd cu (by decide) | rfl | exact absurd e4 (by decide))
        | node g ps => cases a <;> simp only [cls] at c <;> first | exact absurd c (by decide) | (cases g <;> simp only [cls] at cu <;> first | exact absurd cu (by decide) | exact absurd e4 (by simp only [fullOf]; decide))
      | node k qs => cases u with
        | leaf b => cases k <;> simp only [cls] at c <;> first | exact absurd c (by decide) | (cases b <;> simp only [cls] at cu <;> first | exact absurd cu (by decide) | exact absurd e4 (by simp only [fullOf]; decide))
        | node g ps =>
          simp only [kids] at hk; subst hk
          cases k <;> simp only [cls] at c <;> first | exact absurd c (by decide) | (cases g <;> simp only [cls] at cu <;> first | exact absurd cu (by decide) | rfl | exact absurd e4 (by simp only [fullOf]; decide))
    · obtain ⟨ps, y, dy, l, a1, a2, a3, vs, a4, rfl, e1, b1, b2, b3, b4⟩ := typ365 c ht
      obtain ⟨qs, y', dy', l', a1', a2', a3', vs', a4', rfl, e2, b1', b2', b3', b4'⟩ := typ365 (hc ▸ c) hu
      cases e1; cases e2
      obtain ⟨-, rfl⟩ := inst_inj (S _ _ _ b1 b1')
      have e := dict_inj (S _ _ _ b2 b2')
      simp only [List.cons.injEq, DictEntry.mk.injEq, Value.ref.injEq, and_true] at e
      obtain ⟨-, -, rfl⟩ := e
      have := list_inj (S _ _ _ b3 b3')
      subst this
      rw [typs_inj_of (us := qs) (fun p hp => IH p (by have := mem_sz hp; simp only [Tree.sz] at hn; omega)) b4 b4']
theorem typ_inj (S : Sv news) (WI : WIn W iA iB iC io news) {t u : Tree} {v : Value} (ht : TypIn W news t v) (hu : TypIn W news u v) : t = u := typ_inj' S WI _ t (Nat.lt_succ_self _) u v ht hu
end
/-- == of two types -/
def RcCon (w : World) (mean : ExcName → Option Value) (mg mb : Str → Option Value) (W : Wd) (iA iB iC io : Addr) (dep un : Nat) (t1 t2 : Tree) : Prop :=
  ∀ (A A₀ : Around) (env : Env) (outer : List Env) (base h₀ : Heap) (L : Addr) (m : Str → Option Value) (news vis : Led) (s : Shared) (x y : Value) (E : Value → Shared → Prop) (Q : Value → Shared → Prop),
    Below A₀ base outer h₀ → Fr h₀ L s.heap m → (Mine.hd.heap_39 w.params).In h₀ → News h₀ L s.heap news → Top Mine.hd.view_39 lo mean mg mb h₀ →
    A.frames = some (env :: outer) → env.frame = some L → env.scope.kind = .function → A.handled = none → A.guards = some [] → A.depth + dep < recursionLimit → A.units + un < cLine → (∀ p ∈ vis, p ∈ news) →
    WIn W iA iB iC io vis → TypIn W vis t1 x → TypIn W vis t2 y →
    (∀ h' tk', Fr h₀ L h' m → News h₀ L h' news → Q (.bool (teq t1 t2)) { s with heap := h', toks := tk' }) →
    wpAny (model PySem.Challenge.rw_ft0017_01.row.prog w) A (richCompare .Eq x y) Q E s
/-- what may change while types are compared -/
def SpOf (h₀ : Heap) (L : Addr) (m : Str → Option Value) (news : Led) (s : Shared) (s' : Shared) : Prop := ∃ h tk, s' = { s with heap := h, toks := tk } ∧ Fr h₀ L h m ∧ News h₀ L h news
theorem sp_here {h₀ : Heap} {L : Addr} {m : Str → Option Value} {news : Led} {s : Shared} (F : Fr h₀ L s.heap m) (N : News h₀ L s.heap news) : SpOf h₀ L m news s s := ⟨s.heap, s.toks, rfl, F, N⟩
theorem rcS_of {w : World} {mean : ExcName → Option Value} {mg mb : Str → Option Value} {W : Wd} {iA iB iC io : Addr} {dep un : Nat} {t1 t2 : Tree} (C : RcCon w mean mg mb W iA iB iC io dep un t1 t2)
    {A A₀ : Around} {env : Env} {outer : List Env} {base h₀ : Heap} {L : Addr} {m : Str → Option Value} {news vis : Led} {s : Shared} {x y : Value}
    (B : Below A₀ base outer h₀) (X : (Mine.hd.heap_39 w.params).In h₀) (T : Top Mine.hd.view_39 lo mean mg mb h₀)
    (hA : A.frames = some (env :: outer)) (hf : env.frame = some L) (hk : env.scope.kind = .function) (hh : A.handled = none) (hg : A.guards = some []) (hd : A.depth + dep < recursionLimit) (hu : A.units + un < cLine) (hv : ∀ p ∈ vis, p ∈ news)
    (WI : WIn W iA iB iC io vis) (h1 : TypIn W vis t1 x) (h2 : TypIn W vis t2 y) : RcS PySem.Challenge.rw_ft0017_01.row.prog w A (SpOf h₀ L m news s) x y (teq t1 t2) := by
  rintro s' E Q ⟨h, tk, rfl, F, N⟩ hQ
  exact C A A₀ env outer base h₀ L m news vis _ x y E Q B F X N T hA hf hk hh hg hd hu hv WI h1 h2 fun h' tk' F' N' => hQ _ ⟨h', tk', rfl, F', N'⟩
theorem eqS_of {w : World} {mean : ExcName → Option Value} {mg mb : Str → Option Value} {W : Wd} {iA iB iC io : Addr} {dep un : Nat} {t1 t2 : Tree} (C : RcCon w mean mg mb W iA iB iC io dep un t1 t2)
    {A A₀ : Around} {env : Env} {outer : List Env} {base h₀ : Heap} {L : Addr} {m : Str → Option Value} {news vis : Led} {s : Shared} {x y : Value}
    (B : Below A₀ base outer h₀) (X : (Mine.hd.heap_39 w.params).In h₀) (T : Top Mine.hd.view_39 lo mean mg mb h₀)
    (hA : A.frames = some (env :: outer)) (hf : env.frame = some L) (hk : env.scope.kind = .function) (hh : A.handled = none) (hg : A.guards = some []) (hd : A.depth + dep < recursionLimit) (hu : A.units + un < cLine) (hv : ∀ p ∈ vis, p ∈ news) (S : Sv vis)
    (WI : WIn W iA iB iC io vis) (h1 : TypIn W vis t1 x) (h2 : TypIn W vis t2 y) : EqS PySem.Challenge.rw_ft0017_01.row.prog w A (SpOf h₀ L m news s) x y (teq t1 t2) := by
  obtain ⟨a, _, _, _, rfl, _⟩ := typ_inst WI h1
  obtain ⟨b, _, _, _, rfl, _⟩ := typ_inst WI h2
  refine EqS.of_rc (fun e => ?_) (rcS_of C B X T hA hf hk hh hg hd hu hv WI h1 h2)
  subst e
  rw [typ_inj S WI h1 h2]; exact teq_refl _
/-- == of the i-th of each -/
def eqAt (ts us : List Tree) (i : Nat) : Bool := match ts[i]?, us[i]? with | some p, some q => teq p q | _, _ => false
theorem eqAt_succ (t : Tree) (ts : List Tree) (u : Tree) (us : List Tree) (i : Nat) : eqAt (t :: ts) (u :: us) (i + 1) = eqAt ts us i := by simp [eqAt]
theorem range_all_succ (n : Nat) (e : Nat → Bool) : (List.range (n + 1)).all e = (e 0 && (List.range n).all fun i => e (i + 1)) := by
  rw [List.range_succ_eq_map, List.all_cons, List.all_map]; rfl
theorem teqs_at : ∀ ts us : List Tree, ((List.range (min ts.length us.length)).all (eqAt ts us) && ts.length == us.length) = teqs ts us
  | [], [] => by simp [teqs]
  | [], _ :: _ => by simp [teqs]
  | _ :: _, [] => by simp [teqs]
  | t :: r, u :: s => by
    have ih := teqs_at r s
    simp only [List.length_cons, teqs]
    rw [← ih, Nat.succ_min_succ, Nat.succ_eq_add_one, range_all_succ]
    have e0 : eqAt (t :: r) (u :: s) 0 = teq t u := by simp [eqAt]
    rw [e0, Bool.and_assoc]
    congr 1
    congr 1
    rw [Bool.eq_iff_iff]; simp
section
variable {prog : Program} {w : World} {A : Around} {E : Value → Shared → Prop} {s : Shared} {SP : Shared → Prop} {l b : Addr} {vs us : List Value} {k k2 : Nat}
theorem tupleL {e : Nat → Bool} (hu : A.units < cLine) (hl : ∀ s, SP s → s.heap.get? l = some (tupOf vs k)) (hb : ∀ s, SP s → s.heap.get? b = some (tupOf us k2))
    (he : ∀ i y x, vs[i]? = some y → us[i]? = some x → EqS prog w A.in1 SP y x (e i)) : RcS prog w A SP (.ref l) (.ref b) ((List.range (min vs.length us.length)).all e && vs.length == us.length) := by
  have := tupleS (prog := prog) (w := w) (A := A) (SP := SP) (l := l) (b := b) (items := vs.toArray) (items2 := us.toArray) (n := k) (n2 := k2) (dd := none) (dd2 := none) (sl := #[]) (sl2 := #[]) (e := e) hu hl hb (fun i y x hy hx => he i y x (by simpa using hy) (by simpa using hx))
  simpa using this
theorem inL {x : Value} {e : Nat → Bool} {Q : Value → Shared → Prop} (hS : SP s) (hl : ∀ s, SP s → s.heap.get? l = some (PySem.W.listOf vs.toArray k)) (he : ∀ i y, vs[i]? = some y → EqS prog w A.in1 SP y x (e i))
    (hQ : ∀ s', SP s' → Q (.bool ((List.range vs.length).any e)) s') : wpAny (model prog w) A (compareOp .In x (.ref l)) Q E s :=
  inS (items := vs.toArray) (n := k) (dd := none) (sl := #[]) (e := e) hS hl (fun i y hy => he i y (by simpa using hy)) (by simpa using hQ)
theorem notInL {x : Value} {e : Nat → Bool} {Q : Value → Shared → Prop} (hS : SP s) (hl : ∀ s, SP s → s.heap.get? l = some (PySem.W.listOf vs.toArray k)) (he : ∀ i y, vs[i]? = some y → EqS prog w A.in1 SP y x (e i))
    (hQ : ∀ s', SP s' → Q (.bool (!(List.range vs.length).any e)) s') : wpAny (model prog w) A (compareOp .NotIn x (.ref l)) Q E s :=
  notInS (items := vs.toArray) (n := k) (dd := none) (sl := #[]) (e := e) hS hl (fun i y hy => he i y (by simpa using hy)) (by simpa using hQ)
end
section
variable {M : Model} {A : Around} {E : Value → Shared → Prop} {s : Shared} {h₀ : Heap} {L C c : Addr} {scope : Scope} {cl : List (Str × Addr)} {env : Env} {mC : Str → Option Value} {x : Str} {pos : Pos} {v : Value} {Q : Value → Shared → Prop} {news : Led} {o : Obj}
theorem nameC_L (hn : s.heap.Ns C mC) (hv : mC x = some v) (h : Q v s) (hk : scope.kind = .function) (hx : (compEnvC scope cl C env).kindOf x = some .local) (hd : (x == ("__debug__" : Str)) = false) :
    wpAny M A (eval (.Name x pos) (compEnvC scope cl C env)) Q E s := wpAny_Name (wpAny_loadName_local (env := compEnvC scope cl C env) hk hx hn hv h) hd
theorem nameC_C (N : News h₀ L s.heap news) (hc : cl.lookup x = some c) (hm : (c, o) ∈ news) (hd : o.data = .cell (some v)) (h : Q v s) (hk : scope.kind = .function) (hx : (compEnvC scope cl C env).kindOf x = some .cell) (hb : (x == ("__debug__" : Str)) = false) :
    wpAny M A (eval (.Name x pos) (compEnvC scope cl C env)) Q E s := wpAny_Name (wpAny_loadName_cell (env := compEnvC scope cl C env) hk hx hc ⟨o, N.get hm, hd⟩ h) hb
end
theorem any_at (f : Tree → Bool) (ts : List Tree) : ((List.range ts.length).any fun j => (ts[j]?).any f) = ts.any f := by
  rw [Bool.eq_iff_iff]; simp only [List.any_eq_true, List.mem_range]
  constructor
  · rintro ⟨j, hj, e⟩
    rw [List.getElem?_eq_getElem hj] at e
    exact ⟨ts[j], List.getElem_mem hj, e⟩
  · rintro ⟨t, ht, e⟩
    obtain ⟨j, hj, rfl⟩ := List.getElem_of_mem ht
    exact ⟨j, hj, by rw [List.getElem?_eq_getElem hj]; exact e⟩
theorem teq_union' (ps qs : List Tree) : teq (.node .union ps) (.node .union qs) = ((ps.all fun p => qs.any fun q => teq q p) && qs.all fun q => ps.any fun p => teq p q) := by
  rw [teq_union, Bool.and_comm]
  congr 2
  funext p; congr 1; funext q; exact teq_symm p q
theorem boolsAre_of : ∀ {bs : List Bool} {ys : List Value}, ys.length = bs.length → (∀ (j : Nat) (b : Bool), bs[j]? = some b → ys[j]? = some (Value.bool b)) → PyProof.Rows.LSm.BoolsAre ys bs
  | [], ys, h, _ => by rw [List.length_eq_zero_iff.mp h]; exact .nil
  | b :: r, [], h, _ => by simp at h
  | b :: r, y :: ys, h, hj => by
    have := hj 0 b rfl
    simp at this; subst this
    exact .cons b (boolsAre_of (by simpa using h) fun j c hc => by simpa using hj (j + 1) c (by simpa using hc))
theorem bools_comp {ps : List Tree} {vs ys : List Value} {f : Tree → Bool} {n : Nat} (hl : vs.length = ps.length) (hv : vs.length = n) (hy : ys.length = n) (hG : ∀ (j : Nat) (v : Value), vs[j]? = some v → ∃ y, ys[j]? = some y ∧ ∃ p, ps[j]? = some p ∧ y = Value.bool (f p)) : PyProof.Rows.LSm.BoolsAre ys (ps.map f) := by
  refine boolsAre_of (by rw [List.length_map]; omega) fun j b hb => ?_
  rw [List.getElem?_map] at hb
  obtain ⟨p, hp, rfl⟩ := Option.map_eq_some_iff.mp hb
  have hj : j < ps.length := (List.getElem?_eq_some_iff.mp hp).1
  obtain ⟨y, e1, p', e2, rfl⟩ := hG j _ (List.getElem?_eq_getElem (by omega : j < vs.length))
  rw [hp] at e2; cases e2; exact e1
end Mine
namespace Mine
local macro_rules | `(tactic| walk_at "idle") => `(tactic| fail "idle")
local macro_rules | `(tactic| walk_at "idle") => `(tactic| fail "idle")
local macro_rules | `(tactic| walk_at "idle") => `(tactic| fail "idle")
local macro_rules | `(tactic| walk_at "idle") => `(tactic| fail "idle")
local macro_rules | `(tactic| walk_at "idle") => `(tactic| fail "idle")
theorem fresh19 : True := by
  w_top off
  trivial
local macro_rules | `(tactic| k_mem) => `(tactic| first | with_reducible assumption | with_reducible exact List.mem_cons_self .. | (with_reducible refine List.mem_cons_of_mem _ ?_; k_mem) | (with_reducible refine List.mem_append_left _ ?_; k_mem) | (with_reducible refine List.mem_append_right _ ?_; k_mem))
local macro_rules | `(tactic| k_room) => `(tactic| ((try simp only [depth_under_make, depth_under_kw, depth_in1, depth_deeper, depth_caller]); omega))
local macro_rules | `(tactic| k_units) => `(tactic| ((try simp only [units_under_make, units_in1, units_deeper, Around.mark_units, units_caller]); omega))
local macro_rules | `(tactic| k_all) => `(tactic| first | assumption | (refine List.forall_mem_append.mpr ⟨?_, ?_⟩ <;> k_all))
theorem nev_con (w : World) (mean : ExcName → Option Value) (mg mb : Str → Option Value) (W : Wd) : Con w mean mg mb 258 4 20
    (fun news args => args = [])
    (fun news _ r => TypIn W news (.leaf .nev) r) := by
  unfold Con
  k_fill
  intro A A₀ env outer base h₀ L m news vis s args R B F X N T hA hf hk hh hg hd hu hvis hp hR
  subst hp
  k_dflt (refine' make_K (K := Mine.hd.heap_39 w.params) F N (X.keeps F.keep) ?m4 ?m5 ?m6 ?_; (case m4 => k_is); (case m5 => k_is); (case m6 => k_is))
  intro x9 d9 h9 F9 N9 l9 l9'
  replace l9' := ltN l9'
  k_dflt (refine' code_def (K := Mine.hd.heap_39 w.params) (binds := [(Str.ofString "self", .ref x9), (Str.ofString "ambiguous", .bool false)]) B F9 X N9 T ?kA hf hk ?k6 ?k7 ?k8 ?k9 ?kB ?_ ?c2 ?c3 ?c4 ?c5; (case kA => exact hA); (case k6 => k_is); (case k7 => k_is); (case k9 => exact binds_K (X.keeps F9.keep) rfl (by k_is) rfl rfl rfl); (case kB => exact locs rfl); (case c2 => exact rfl); (case c3 => exact rfl); (case c4 => exact rfl); (case c5 => decide); (case k8 => ((try simp only [depth_under_make, depth_under_kw, depth_in1, depth_deeper, depth_caller]); omega)))
  intro g' L' h' FG' F' N' B' X' T'
  clear F N B X T F9 N9
  change News g' L' h' ((x9, instObj _ d9) :: (d9, dictOf [] 0) :: news) at N'
  try dsimp only
  k_fold
  have a1 : ∀ p ∈ news, p.1 ≠ d9 := fun p hp => Nat.ne_of_lt (l9 p hp)
  k_steps
  rename Fr _ _ _ _ => F2
  rename News _ _ _ _ => N2
  refine con_leave_init2 (tl := []) hR F2 (by rw [List.append_nil]; exact N2) (Ord.cons (fun q hq => Nat.lt_trans (l9 q hq) l9') (Ord.cons l9 Ord.nil)) ?_
  simp only [TypIn]
  exact ⟨x9, d9, _, _, _, rfl, by k_mem, by k_mem⟩
end Mine
namespace Mine
local macro_rules | `(tactic| walk_at "idle") => `(tactic| fail "idle")
local macro_rules | `(tactic| walk_at "idle") => `(tactic| fail "idle")
local macro_rules | `(tactic| walk_at "idle") => `(tactic| fail "idle")
local macro_rules | `(tactic| walk_at "idle") => `(tactic| fail "idle")
local macro_rules | `(tactic| walk_at "idle") => `(tactic| fail "idle")
theorem fresh20 : True := by
  w_top off
  trivial
local macro_rules | `(tactic| k_mem) => `(tactic| first | with_reducible assumption | with_reducible exact List.mem_cons_self .. | (with_reducible refine List.mem_cons_of_mem _ ?_; k_mem) | (with_reducible refine List.mem_append_left _ ?_; k_mem) | (with_reducible refine List.mem_append_right _ ?_; k_mem))
local macro_rules | `(tactic| k_room) => `(tactic| ((try simp only [depth_under_make, depth_under_kw, depth_in1, depth_deeper, depth_caller]); omega))
local macro_rules | `(tactic| k_units) => `(tactic| ((try simp only [units_under_make, units_in1, units_deeper, Around.mark_units, units_caller]); omega))
local macro_rules | `(tactic| k_all) => `(tactic| first | assumption | (refine List.forall_mem_append.mpr ⟨?_, ?_⟩ <;> k_all))
local macro_rules | `(tactic| walk_at "compareOp Eq ref ref") => `(tactic| (k_here; refine hold ?_))
theorem eqI_con (w : World) (mean : ExcName → Option Value) (mg mb : Str → Option Value) (W : Wd) (iA iB iC io : Addr) (n : Nat) (IH : ∀ t u : Tree, t.ht < n → u.ht < n → t.sz ≤ big → u.sz ≤ big → RcCon w mean mg mb W iA iB iC io (4 * n) (20 * n) t u)
    (t u : Tree) (ht : t.ht < n + 1) (hu' : u.ht < n + 1) (hs1 : t.sz ≤ big) (hs2 : u.sz ≤ big) (hc : cls t = 324) : Con w mean mg mb 314 (4 * n + 2) (20 * n + 10)
    (fun news args => Sv news ∧ WIn W iA iB iC io news ∧ ∃ x y, args = [x, y] ∧ TypIn W news t x ∧ TypIn W news u y)
    (fun news _ r => r = if cls u = 324 then .bool (teq t u) else .notImplemented) := by
  unfold Con
  k_fill
  intro A A₀ env outer base h₀ L m news vis s args R B F X N T hA hf hk hh hg hd hu hvis hp hR
  obtain ⟨S, WI, x, y, rfl, hx, hy⟩ := hp
  obtain ⟨x, vs, rfl, ⟨d, tu, h1, h2, t1, t2, k, k', i1, i2, i3⟩, hvs, fx⟩ := typ324 WI hc hx
  have i1' := hvis _ i1
  have i2' := hvis _ i2
  have i3' := hvis _ i3
  by_cases hcu : cls u = 324
  · obtain ⟨y, us, rfl, ⟨d', tu', h1', h2', t1', t2', k2, k2', j1, j2, j3⟩, hus, fy⟩ := typ324 WI hcu hy
    have j1' := hvis _ j1
    have j2' := hvis _ j2
    have j3' := hvis _ j3
    k_dflt (refine' code_def (K := Mine.hd.heap_39 w.params) (binds := [(Str.ofString "self", .ref x), (Str.ofString "other", .ref y)]) B F X N T hA hf hk ?k6 ?k7 ?k8 ?k9 ?kB ?_ ?c2 ?c3 ?c4 ?c5; (case k6 => k_is); (case k7 => k_is); (case k9 => exact BindsTo.of_eq rfl); (case kB => exact locs rfl); (case c2 => exact rfl); (case c3 => exact rfl); (case c4 => exact rfl); (case c5 => decide); (case k8 => omega))
    intro g' L' h' FG' F' N' B' X' T'
    clear F N B X T
    try dsimp only
    k_fold
    k_steps
    have hteq := teq_324 hc hcu
    by_cases hI : infT W iA iB iC io t = infT W iA iB iC io u
    · have hfull : fullOf t = fullOf u := by rw [hI] at fx; exact fx.uniq S fy
      rw [hI]
      refine wpAny_is_ref_self ?_
      k_steps
      refine cmp_ofEq ?_
      rename Fr _ _ _ _ => F2
      rename News _ _ _ _ => N2
      have l1 := hvs.len
      have l2 := hus.len
      refine tupleL (vs := vs) (us := us) (k := k') (k2 := k2') (e := eqAt (kids t) (kids u)) (SP := SpOf g' L' _ news _) ?hu ?hl ?hb ?he _ _ _ (sp_here F2 N2) ?_
      case hu => ((try simp only [units_under_make, units_in1, units_deeper, Around.mark_units, units_caller]); omega)
      case hl => rintro _ ⟨h, tk, rfl, F3, N3⟩; exact (N3 _ i3').1
      case hb => rintro _ ⟨h, tk, rfl, F3, N3⟩; exact (N3 _ j3').1
      case he =>
        intro i a b ha hb
        obtain ⟨p, hp, hpa⟩ := hvs.get ha
        obtain ⟨q, hq, hqb⟩ := hus.get hb
        have e : eqAt (kids t) (kids u) i = teq p q := by simp only [eqAt, hp, hq]
        rw [e]
        obtain ⟨b1, b3⟩ : p.ht < n ∧ p.sz ≤ big := by
          cases t with
          | leaf a => simp [kids] at hp
          | node g ps => simp only [kids] at hp; have := hts_get hp; have := szs_get hp; simp only [Tree.ht, Tree.sz] at ht hs1; omega
        obtain ⟨b2, b4⟩ : q.ht < n ∧ q.sz ≤ big := by
          cases u with
          | leaf a => simp [kids] at hq
          | node g ps => simp only [kids] at hq; have := hts_get hq; have := szs_get hq; simp only [Tree.ht, Tree.sz] at hu' hs2; omega
        k_dflt (refine' eqS_of (IH p q b1 b2 b3 b4) ?k1 ?k3 ?k5 ?kA ?kF ?kK ?kh ?kg ?kd ?ku ?kv (S) ?kw ?k8 ?k9; (case k1 => k_asm); (case k3 => k_asm); (case k5 => k_asm); (case kA => first | exact Around.frames_deeper (Below.stack (by assumption)) | assumption); (case kF => exact rfl); (case kK => exact rfl); (case kh => first | exact hh | exact rfl | assumption); (case kg => first | exact hg | exact rfl | assumption); (case kd => ((try simp only [depth_under_make, depth_under_kw, depth_in1, depth_deeper, depth_caller]); omega)); (case ku => ((try simp only [units_under_make, units_in1, units_deeper, Around.mark_units, units_caller]); omega)))
        case kv => exact hvis
        case kw => exact WI
        case k8 => exact hpa
        case k9 => exact hqb
      rintro _ ⟨h5, tk5, rfl, F5, N5⟩
      rw [l1, l2, teqs_at]
      show LeaveK _ _ _ _ _ _ _
      refine con_leave0 (tl := []) hR F5 (by rw [List.append_nil]; exact N5) Ord.nil ?_
      rw [if_pos hcu, hteq, decide_eq_true hfull, Bool.true_and]
    · have hfull : fullOf t ≠ fullOf u := fun e => hI (full_inf hc hcu e)
      obtain ⟨_, _, _, _, _, _, _, _, _, _, _, _, _, _, _, _, _, oi, _⟩ := fx
      obtain ⟨_, _, _, _, _, _, _, _, _, _, _, _, _, _, _, _, _, oj, _⟩ := fy
      refine wpAny_is_ref_other hI (N' _ (hvis _ oi)).1 (N' _ (hvis _ oj)).1 (fun x => nomatch x) ?_
      k_steps
      show LeaveK _ _ _ _ _ _ _
      rename Fr _ _ _ _ => F2
      rename News _ _ _ _ => N2
      refine con_leave0 (tl := []) hR F2 (by rw [List.append_nil]; exact N2) Ord.nil ?_
      rw [if_pos hcu, hteq, decide_eq_false hfull, Bool.false_and]
  · obtain ⟨y, d', es, k2, rfl, j1, j2⟩ := typ_inst WI hy
    have j1' := hvis _ j1
    have j2' := hvis _ j2
    k_dflt (refine' code_def (K := Mine.hd.heap_39 w.params) (binds := [(Str.ofString "self", .ref x), (Str.ofString "other", .ref y)]) B F X N T hA hf hk ?k6 ?k7 ?k8 ?k9 ?kB ?_ ?c2 ?c3 ?c4 ?c5; (case k6 => k_is); (case k7 => k_is); (case k9 => exact BindsTo.of_eq rfl); (case kB => exact locs rfl); (case c2 => exact rfl); (case c3 => exact rfl); (case c4 => exact rfl); (case c5 => decide); (case k8 => omega))
    intro g' L' h' FG' F' N' B' X' T'
    clear F N B X T
    try dsimp only
    k_fold
    k_steps
    k_dflt (refine' isi_ne ?k1 ?k2 (cls_six u) (by decide) hcu ?_; (case k1 => k_in); (case k2 => k_inst))
    intro tk9
    k_steps
    show LeaveK _ _ _ _ _ _ _
    rename Fr _ _ _ _ => F2
    rename News _ _ _ _ => N2
    refine con_leave0 (tl := []) hR F2 (by rw [List.append_nil]; exact N2) Ord.nil ?_
    rw [if_neg hcu]
end Mine
namespace Mine
local macro_rules | `(tactic| walk_at "idle") => `(tactic| fail "idle")
local macro_rules | `(tactic| walk_at "idle") => `(tactic| fail "idle")
local macro_rules | `(tactic| walk_at "idle") => `(tactic| fail "idle")
local macro_rules | `(tactic| walk_at "idle") => `(tactic| fail "idle")
local macro_rules | `(tactic| walk_at "idle") => `(tactic| fail "idle")
theorem fresh21 : True := by
  w_top off
  trivial
local macro_rules | `(tactic| k_mem) => `(tactic| first | with_reducible assumption | with_reducible exact List.mem_cons_self .. | (with_reducible refine List.mem_cons_of_mem _ ?_; k_mem) | (with_reducible refine List.mem_append_left _ ?_; k_mem) | (with_reducible refine List.mem_append_right _ ?_; k_mem))
local macro_rules | `(tactic| k_room) => `(tactic| ((try simp only [depth_under_make, depth_under_kw, depth_in1, depth_deeper, depth_caller]); omega))
local macro_rules | `(tactic| k_units) => `(tactic| ((try simp only [units_under_make, units_in1, units_deeper, Around.mark_units, units_caller]); omega))
local macro_rules | `(tactic| k_all) => `(tactic| first | assumption | (refine List.forall_mem_append.mpr ⟨?_, ?_⟩ <;> k_all))
local macro_rules | `(tactic| walk_at "compareOp Eq ref ref") => `(tactic| (k_here; refine hold ?_))
local macro_rules | `(tactic| walk_at "compareOp Eq int int") => `(tactic| (k_here; refine hold ?_))
/-- a variable's own id -/
def IdIn (news : Led) (i : Addr) (k : Int) : Prop := ∃ di h6 h7 t6 t6' t7 t7' n', (i, instObj 147 di) ∈ news ∧ (di, dictOf [⟨h6, .str "raw_id" t6, .int k t6'⟩, ⟨h7, .str "meta_level" t7, .int 0 t7'⟩] n') ∈ news
theorem eqId_con (w : World) (mean : ExcName → Option Value) (mg mb : Str → Option Value) (k1 k2 : Int) : Con w mean mg mb 123 2 10
    (fun news args => ∃ i j, args = [.ref i, .ref j] ∧ IdIn news i k1 ∧ IdIn news j k2)
    (fun news _ r => r = .bool (decide (k1 = k2))) := by
  unfold Con
  k_fill
  intro A A₀ env outer base h₀ L m news vis s args R B F X N T hA hf hk hh hg hd hu hvis hp hR
  obtain ⟨i, j, rfl, ⟨d, h1, h2, t1, t1', t2, t2', n, i1, i2⟩, ⟨d', h1', h2', u1, u1', u2, u2', n', j1, j2⟩⟩ := hp
  have i1' := hvis _ i1
  have i2' := hvis _ i2
  have j1' := hvis _ j1
  have j2' := hvis _ j2
  k_dflt (refine' code_def (K := Mine.hd.heap_39 w.params) (binds := [(Str.ofString "self", .ref i), (Str.ofString "other", .ref j)]) B F X N T hA hf hk ?k6 ?k7 ?k8 ?k9 ?kB ?_ ?c2 ?c3 ?c4 ?c5; (case k6 => k_is); (case k7 => k_is); (case k9 => exact BindsTo.of_eq rfl); (case kB => exact locs rfl); (case c2 => exact rfl); (case c3 => exact rfl); (case c4 => exact rfl); (case c5 => decide); (case k8 => omega))
  intro g' L' h' FG' F' N' B' X' T'
  clear F N B X T
  try dsimp only
  k_fold
  k_steps
  refine wpAny_eq_int ?_
  by_cases hk : k1 = k2
  · rw [show (k1 == k2) = true from beq_iff_eq.mpr hk]
    k_steps
    refine wpAny_eq_int ?_
    rw [show ((0 : Int) == 0) = true from rfl]
    k_steps
    show LeaveK _ _ _ _ _ _ _
    rename Fr _ _ _ _ => F2
    rename News _ _ _ _ => N2
    refine con_leave0 (tl := []) hR F2 (by rw [List.append_nil]; exact N2) Ord.nil ?_
    rw [decide_eq_true hk]
  · rw [show (k1 == k2) = false from beq_false_of_ne hk]
    k_steps
    show LeaveK _ _ _ _ _ _ _
    rename Fr _ _ _ _ => F2
    rename News _ _ _ _ => N2
    refine con_leave0 (tl := []) hR F2 (by rw [List.append_nil]; exact N2) Ord.nil ?_
    rw [decide_eq_false hk]
theorem eqV_con (w : World) (mean : ExcName → Option Value) (mg mb : Str → Option Value) (W : Wd) (iA iB iC io : Addr) (n : Nat) (IH : ∀ t u : Tree, t.ht < n → u.ht < n → t.sz ≤ big → u.sz ≤ big → RcCon w mean mg mb W iA iB iC io (4 * n) (20 * n) t u)
    (t u : Tree) (hc : cls t = 190) : Con w mean mg mb 187 (4 * n + 4) (20 * n + 15)
    (fun news args => Sv news ∧ WIn W iA iB iC io news ∧ ∃ x y, args = [x, y] ∧ TypIn W news t x ∧ TypIn W news u y)
    (fun news _ r => r = if cls u = 190 then .bool (teq t u) else .notImplemented) := by
  unfold Con
  k_fill
  intro A A₀ env outer base h₀ L m news vis s args R B F X N T hA hf hk hh hg hd hu hvis hp hR
  obtain ⟨S, WI, x, y, rfl, hx, hy⟩ := hp
  obtain ⟨x, rfl, d, i, di, l, h1, h2, h3, h4, h5, t1, t1', t2, t3, t4, t5, t5', h6, h7, t6, t6', t7, t7', k, k', k'', i1, i2, i3, i4, i5⟩ := typ190 WI hc hx
  have i1' := hvis _ i1
  have i2' := hvis _ i2
  have i5' := hvis _ i5
  by_cases hcu : cls u = 190
  · obtain ⟨y, rfl, d', i', di', l', h1', h2', h3', h4', h5', u1, u1', u2, u3, u4, u5, u5', h6', h7', u6, u6', u7, u7', k2, k2', k2'', j1, j2, j3, j4, j5⟩ := typ190 WI hcu hy
    have j1' := hvis _ j1
    have j2' := hvis _ j2
    have j5' := hvis _ j5
    have hteq := teq_190 hc hcu
    k_dflt (refine' code_def (K := Mine.hd.heap_39 w.params) (binds := [(Str.ofString "self", .ref x), (Str.ofString "other", .ref y)]) B F X N T hA hf hk ?k6 ?k7 ?k8 ?k9 ?kB ?_ ?c2 ?c3 ?c4 ?c5; (case k6 => k_is); (case k7 => k_is); (case k9 => exact BindsTo.of_eq rfl); (case kB => exact locs rfl); (case c2 => exact rfl); (case c3 => exact rfl); (case c4 => exact rfl); (case c5 => decide); (case k8 => omega))
    intro g' L' h' FG' F' N' B' X' T'
    clear F N B X T
    try dsimp only
    k_fold
    k_steps
    refine cmp_ofEq ?_
    have i3' := hvis _ i3
    have j3' := hvis _ j3
    have i4' := hvis _ i4
    have j4' := hvis _ j4
    k_dflt (refine' cmp_K ?k1 ?k2 ?k3 ?k4 ?k5 ?k6 ?k7 ?k8 ?_; (case k1 => k_units); (case k2 => k_asm); (case k3 => k_asm); (case k4 => k_inst); (case k5 => k_typeOf); (case k6 => k_is); (case k7 => k_is); (case k8 => k_is))
    refine wpAny_call ?_
    k_dflt (refine' con_use (eqId_con w mean mg mb (idOf' t) (idOf' u)) (vis) ?k1 ?k2 ?k3 ?k4 ?k5 ?kA ?kF ?kK ?kh ?kg ?kd ?ku ?kv ?pre ?_; (case k1 => k_asm); (case k2 => k_asm); (case k3 => k_asm); (case k4 => k_asm); (case k5 => k_asm); (case kA => first | exact Around.frames_deeper (Below.stack (by assumption)) | assumption); (case kF => exact rfl); (case kK => exact rfl); (case kh => first | exact hh | exact rfl | assumption); (case kg => first | exact hg | exact rfl | assumption); (case kd => ((try simp only [depth_under_make, depth_under_kw, depth_in1, depth_deeper, depth_caller]); omega)); (case ku => ((try simp only [units_under_make, units_in1, units_deeper, Around.mark_units, units_caller]); omega)))
    case kv => exact hvis
    case pre => exact ⟨i, i', rfl, ⟨_, _, _, _, _, _, _, _, i3, i4⟩, ⟨_, _, _, _, _, _, _, _, j3, j4⟩⟩
    rintro r tl h9 tk9 F9 N9 O9 rfl
    clear F' N'
    dsimp only [PySem.W.CmpBack]
    by_cases hid : idOf' t = idOf' u
    · rw [decide_eq_true hid]
      k_steps
      refine cmp_ofEq ?_
      have i5'' : (l, PySem.W.listOf #[] k'') ∈ news ++ tl := List.mem_append_left _ i5'
      have j5'' : (l', PySem.W.listOf #[] k2'') ∈ news ++ tl := List.mem_append_left _ j5'
      obtain ⟨od, ou, oh1, oh2, ot1, ot2, on, ok, o1, o2, o3⟩ := WI.no
      have o1' : (W.at_ .obj, instObj 324 od) ∈ news ++ tl := List.mem_append_left _ (hvis _ o1)
      have o2' := List.mem_append_left tl (hvis _ o2)
      have otyp : TypIn W vis (.leaf .obj) (.ref (W.at_ .obj)) := by simp only [TypIn]
      k_dflt (refine' cmp_K ?k1 ?k2 ?k3 ?k4 ?k5 ?k6 ?k7 ?k8 ?_; (case k1 => k_units); (case k2 => k_asm); (case k3 => k_asm); (case k4 => k_inst); (case k5 => k_typeOf); (case k6 => k_is); (case k7 => k_is); (case k8 => k_is))
      refine wpAny_call ?_
      k_dflt (refine' con_use (eqI_con w mean mg mb W iA iB iC io n IH (.leaf .obj) (.leaf .obj) (by simp [Tree.ht]) (by simp [Tree.ht]) (by simp [Tree.sz, big]) (by simp [Tree.sz, big]) rfl) (vis) ?k1 ?k2 ?k3 ?k4 ?k5 ?kA ?kF ?kK ?kh ?kg ?kd ?ku ?kv ?pre ?_; (case k1 => k_asm); (case k2 => k_asm); (case k3 => k_asm); (case k4 => k_asm); (case k5 => k_asm); (case kA => first | exact Around.frames_deeper (Below.stack (by assumption)) | assumption); (case kF => exact rfl); (case kK => exact rfl); (case kh => first | exact hh | exact rfl | assumption); (case kg => first | exact hg | exact rfl | assumption); (case kd => ((try simp only [depth_under_make, depth_under_kw, depth_in1, depth_deeper, depth_caller]); omega)); (case ku => ((try simp only [units_under_make, units_in1, units_deeper, Around.mark_units, units_caller]); omega)))
      case kv => exact fun p hp => List.mem_append_left _ (hvis p hp)
      case pre => exact ⟨S, WI, _, _, rfl, otyp, otyp⟩
      rintro r tl2 h8 tk8 F8 N8 O8 rfl
      clear F9 N9
      rw [if_pos (show cls (.leaf .obj) = 324 from rfl), teq_refl]
      dsimp only [PySem.W.CmpBack]
      k_steps
      refine SeqAt.eq_listAt (items := #[]) (items2 := #[]) (e := fun _ => true) (News.isList (by k_asm) (List.mem_append_left _ i5'')) (News.isList (by k_asm) (List.mem_append_left _ j5'')) rfl ((by (try simp only [units_under_make, units_in1, units_deeper, Around.mark_units, units_caller]); omega)) (fun j h1 => absurd h1 (Nat.not_lt_zero _)) ?_
      show LeaveK _ _ _ _ _ _ _
      rename Fr _ _ _ _ => F2
      rename News _ _ _ _ => N2
      rw [List.append_assoc] at N2
      refine con_leave0 (tl := tl ++ tl2) hR F2 N2 (O9.app O8) ?_
      rw [if_pos hcu, hteq, decide_eq_true hid]; rfl
    · rw [decide_eq_false hid]
      k_steps
      show LeaveK _ _ _ _ _ _ _
      rename Fr _ _ _ _ => F2
      rename News _ _ _ _ => N2
      refine con_leave0 (tl := tl) hR F2 N2 O9 ?_
      rw [if_pos hcu, hteq, decide_eq_false hid]
  · obtain ⟨y, d', es, k2, rfl, j1, j2⟩ := typ_inst WI hy
    have j1' := hvis _ j1
    have j2' := hvis _ j2
    k_dflt (refine' code_def (K := Mine.hd.heap_39 w.params) (binds := [(Str.ofString "self", .ref x), (Str.ofString "other", .ref y)]) B F X N T hA hf hk ?k6 ?k7 ?k8 ?k9 ?kB ?_ ?c2 ?c3 ?c4 ?c5; (case k6 => k_is); (case k7 => k_is); (case k9 => exact BindsTo.of_eq rfl); (case kB => exact locs rfl); (case c2 => exact rfl); (case c3 => exact rfl); (case c4 => exact rfl); (case c5 => decide); (case k8 => omega))
    intro g' L' h' FG' F' N' B' X' T'
    clear F N B X T
    try dsimp only
    k_fold
    k_steps
    k_dflt (refine' isi_ne ?k1 ?k2 (cls_six u) (by decide) hcu ?_; (case k1 => k_in); (case k2 => k_inst))
    intro tk9
    k_steps
    show LeaveK _ _ _ _ _ _ _
    rename Fr _ _ _ _ => F2
    rename News _ _ _ _ => N2
    refine con_leave0 (tl := []) hR F2 (by rw [List.append_nil]; exact N2) Ord.nil ?_
    rw [if_neg hcu]
end Mine
namespace Mine
local macro_rules | `(tactic| walk_at "idle") => `(tactic| fail "idle")
local macro_rules | `(tactic| walk_at "idle") => `(tactic| fail "idle")
theorem fresh22 : True := by
  w_top off
  trivial
local macro_rules | `(tactic| k_mem) => `(tactic| first | with_reducible assumption | with_reducible exact List.mem_cons_self .. | (with_reducible refine List.mem_cons_of_mem _ ?_; k_mem) | (with_reducible refine List.mem_append_left _ ?_; k_mem) | (with_reducible refine List.mem_append_right _ ?_; k_mem))
local macro_rules | `(tactic| k_room) => `(tactic| ((try simp only [depth_under_make, depth_under_kw, depth_in1, depth_deeper, depth_caller]); omega))
local macro_rules | `(tactic| k_units) => `(tactic| ((try simp only [units_under_make, units_in1, units_deeper, Around.mark_units, units_caller]); omega))
local macro_rules | `(tactic| k_all) => `(tactic| first | assumption | (refine List.forall_mem_append.mpr ⟨?_, ?_⟩ <;> k_all))
local macro_rules | `(tactic| walk_at "compareOp Eq ref ref") => `(tactic| (k_here; refine hold ?_))
local macro_rules | `(tactic| walk_at "compareOp In ref ref") => `(tactic| (k_here; refine hold ?_))
local macro_rules | `(tactic| walk_at "eval ListComp") => `(tactic| (k_here; refine hold ?_))
local macro_rules | `(tactic| walk_at "pyIter ref") => `(tactic| (k_here; refine hold ?_))
local macro_rules | `(tactic| walk_at "call builtin:all") => `(tactic| (k_here; refine hold ?_))
local macro_rules | `(tactic| walk_at "eval Name") => `(tactic| (k_here; first | (refine nameC_L (by assumption) (by assumption) ?_ (by rfl) (by rfl) (by decide)) | (k_dflt (refine' nameC_C ?k1 ?k2 ?k3 ?k4 ?_ (by rfl) (by rfl) (by decide); (case k1 => k_asm); (case k2 => exact rfl); (case k3 => k_mem); (case k4 => assumption)))))
theorem eqU_con (w : World) (mean : ExcName → Option Value) (mg mb : Str → Option Value) (W : Wd) (iA iB iC io : Addr) (n : Nat) (IH : ∀ t u : Tree, t.ht < n → u.ht < n → t.sz ≤ big → u.sz ≤ big → RcCon w mean mg mb W iA iB iC io (4 * n) (20 * n) t u)
    (t u : Tree) (ht : t.ht < n + 1) (hu' : u.ht < n + 1) (hs1 : t.sz ≤ big) (hs2 : u.sz ≤ big) (hc : cls t = 365) : Con w mean mg mb 345 (4 * n + 2) (20 * n + 10)
    (fun news args => Sv news ∧ WIn W iA iB iC io news ∧ ∃ x y, args = [x, y] ∧ TypIn W news t x ∧ TypIn W news u y)
    (fun news _ r => r = if cls u = 365 then .bool (teq t u) else .notImplemented) := by
  unfold Con
  k_fill
  intro A A₀ env outer base h₀ L m news vis s args R B F X N T hA hf hk hh hg hd hu hvis hp hR
  obtain ⟨S, WI, x, y, rfl, hx, hy⟩ := hp
  have hx0 := hx
  have hy0 := hy
  obtain ⟨ps, x, d, l, h1, t1, k, vs, k', rfl, rfl, i1, i2, i3, hvs⟩ := typ365 hc hx
  have i1' := hvis _ i1
  have i2' := hvis _ i2
  have i3' := hvis _ i3
  by_cases hcu : cls u = 365
  · obtain ⟨qs, y, d', l', h1', t1', k2, us, k2', rfl, rfl, j1, j2, j3, hus⟩ := typ365 hcu hy
    have j1' := hvis _ j1
    have j2' := hvis _ j2
    have j3' := hvis _ j3
    k_dflt (refine' code_defC (K := Mine.hd.heap_39 w.params) (binds := [(Str.ofString "self", .ref x), (Str.ofString "other", .ref y)]) B F X N T hA hf hk ?k6 ?k7 ?k8 ?k9 ?kB ?kD ?_ ?c2 ?c3 ?c4; (case k6 => k_is); (case k7 => k_is); (case k9 => exact BindsTo.of_eq rfl); (case kB => exact rfl); (case kD => decide +kernel); (case c2 => exact rfl); (case c3 => exact rfl); (case c4 => exact rfl); (case k8 => omega))
    intro g' L' h' tk' cells' FG' F' N' Y' B' X' T' lc
    obtain ⟨c1, c2, hE, dc1, dc2⟩ := CellsAre.two Y'
    subst hE
    simp only [List.cons_append, List.nil_append] at N'
    clear F N B X T Y'
    try dsimp only
    k_fold
    k_steps
    by_cases hxy : x = y
    · subst hxy
      have he := typ_inj S WI hx0 hy0
      refine wpAny_is_ref_self ?_
      k_steps
      show LeaveK _ _ _ _ _ _ _
      rename Fr _ _ _ _ => F2
      rename News _ _ _ _ => N2
      refine con_leave hR F2 N2 [] (fun p hp => by rw [List.append_nil] at hp; k_mem) Ord.nil ?_
      rw [if_pos hcu, he, teq_refl]
    · refine wpAny_is_ref_other hxy (N' _ (List.mem_cons_of_mem _ (List.mem_cons_of_mem _ i1'))).1 (N' _ (List.mem_cons_of_mem _ (List.mem_cons_of_mem _ j1'))).1 (fun x => nomatch x) ?_
      k_steps
      have hbl := big_line
      simp only [Tree.ht, Tree.sz] at ht hu' hs1 hs2
      refine ListComp_led (hclos := by rfl) rfl (by decide) ?_
      k_steps
      refine comp_none hh F' N' (SeqOf.src SeqOf.list N' (List.mem_cons_of_mem _ (List.mem_cons_of_mem _ i3'))) (fun _ i _ y => ∃ p, ps[i]? = some p ∧ y = .bool (qs.any fun q => teq q p)) (fun _ _ _ _ _ _ h => h) (by rw [hvs.len]; have := len_szs ps; omega) (by decide) rfl rfl ?elt1 ?_
      case elt1 =>
        intro i v C mC tl own h tk E' hv F N O hn hm hC
        obtain ⟨p, hp, hpv⟩ := hvs.get hv
        obtain ⟨xv, _, _, _, rfl, _, _⟩ := typ_inst WI hpv
        have hpz := szs_get hp
        have hph := hts_get hp
        have o1 := j3'
        k_steps
        refine inL (SP := SpOf g' L' _ _ _) (vs := us) (k := k2') (e := fun j => (qs[j]?).any fun q => teq q p) (sp_here F N) ?hl1 ?he1 ?_
        case hl1 => rintro _ ⟨h, tk, rfl, F3, N3⟩; exact (N3 (l', PySem.W.listOf us.toArray k2') (by k_mem)).1
        case he1 =>
          intro j b hb
          obtain ⟨q, hq, hqb⟩ := hus.get hb
          have hqz := szs_get hq
          have hqh := hts_get hq
          simp only [hq, Option.any_some]
          k_dflt (refine' eqS_of (IH q p (by omega) (by omega) (by omega) (by omega)) ?k1 ?k3 ?k5 ?kA ?kF ?kK ?kh ?kg ?kd ?ku ?kv (S) ?kw ?k8 ?k9; (case k1 => k_asm); (case k3 => k_asm); (case k5 => k_asm); (case kA => first | exact Around.frames_deeper (Below.stack (by assumption)) | assumption); (case kF => exact rfl); (case kK => exact rfl); (case kh => first | exact hh | exact rfl | assumption); (case kg => first | exact hg | exact rfl | assumption); (case kd => ((try simp only [depth_under_make, depth_under_kw, depth_in1, depth_deeper, depth_caller]); omega)); (case ku => ((try simp only [units_under_make, units_in1, units_deeper, Around.mark_units, units_caller]); omega)))
          case kv => exact fun p hp => by have := hvis p hp; k_mem
          case kw => exact WI
          case k8 => exact hqb
          case k9 => exact hpv
        rintro _ ⟨h5, tk5, rfl, F5, N5⟩
        refine ⟨[], h5, tk5, rfl, F5, by rw [List.append_nil]; exact N5, Ord.nil, p, hp, ?_⟩
        rw [hus.len, any_at]
      intro D nD h5 tk5 ys tl5 CD
      obtain ⟨F5, N5, O5, off5, P5, lv5, ly5, G5⟩ := CD
      k_steps
      refine LSm.all_bools F5 N5 hh (News.isList N5 (List.mem_cons_self ..)) (bools_comp hvs.len lv5 ly5 G5) ?_
      intro h6 tk6 F6 N6
      rw [show (ps.map fun p => qs.any fun q => teq q p).all id = ps.all fun p => qs.any fun q => teq q p from by rw [List.all_map]; rfl]
      clear F' N' F5 N5
      have j3'' : (l', PySem.W.listOf us.toArray k2') ∈ (D, PySem.W.listOf ys.toArray nD) :: ((L' + 1 + 1, c1) :: (L' + 1, c2) :: news ++ tl5) := by k_mem
      have hteq := teq_union' ps qs
      cases hb1 : ps.all fun p => qs.any fun q => teq q p with
      | false =>
        k_steps
        show LeaveK _ _ _ _ _ _ _
        refine con_leave hR F6 N6 [] (fun p hp => by rw [List.append_nil] at hp; k_mem) Ord.nil ?_
        rw [if_pos hcu, hteq, hb1, Bool.false_and]
      | true =>
        k_steps
        refine ListComp_led (hclos := by rfl) rfl (by decide) ?_
        k_steps
        refine comp_none hh F6 N6 (SeqOf.src SeqOf.list N6 j3'') (fun _ i _ y => ∃ p, qs[i]? = some p ∧ y = .bool (ps.any fun q => teq q p)) (fun _ _ _ _ _ _ h => h) (by rw [hus.len]; have := len_szs qs; omega) (by decide) rfl rfl ?elt2 ?_
        case elt2 =>
          intro i v C mC tl own h tk E' hv F N O hn hm hC
          obtain ⟨p, hp, hpv⟩ := hus.get hv
          obtain ⟨xv, _, _, _, rfl, _, _⟩ := typ_inst WI hpv
          have hpz := szs_get hp
          have hph := hts_get hp
          have o1 := j3'
          k_steps
          refine inL (SP := SpOf g' L' _ _ _) (vs := vs) (k := k') (e := fun j => (ps[j]?).any fun q => teq q p) (sp_here F N) ?hl2 ?he2 ?_
          case hl2 => rintro _ ⟨h, tk, rfl, F3, N3⟩; exact (N3 (l, PySem.W.listOf vs.toArray k') (by k_mem)).1
          case he2 =>
            intro j b hb
            obtain ⟨q, hq, hqb⟩ := hvs.get hb
            have hqz := szs_get hq
            have hqh := hts_get hq
            simp only [hq, Option.any_some]
            k_dflt (refine' eqS_of (IH q p (by omega) (by omega) (by omega) (by omega)) ?k1 ?k3 ?k5 ?kA ?kF ?kK ?kh ?kg ?kd ?ku ?kv (S) ?kw ?k8 ?k9; (case k1 => k_asm); (case k3 => k_asm); (case k5 => k_asm); (case kA => first | exact Around.frames_deeper (Below.stack (by assumption)) | assumption); (case kF => exact rfl); (case kK => exact rfl); (case kh => first | exact hh | exact rfl | assumption); (case kg => first | exact hg | exact rfl | assumption); (case kd => ((try simp only [depth_under_make, depth_under_kw, depth_in1, depth_deeper, depth_caller]); omega)); (case ku => ((try simp only [units_under_make, units_in1, units_deeper, Around.mark_units, units_caller]); omega)))
            case kv => exact fun p hp => by have := hvis p hp; k_mem
            case kw => exact WI
            case k8 => exact hqb
            case k9 => exact hpv
          rintro _ ⟨h5, tk5, rfl, F5, N5⟩
          refine ⟨[], h5, tk5, rfl, F5, by rw [List.append_nil]; exact N5, Ord.nil, p, hp, ?_⟩
          rw [hvs.len, any_at]
        intro D2 nD2 h7 tk7 ys2 tl7 CD2
        obtain ⟨F7, N7, O7, off7, P7, lv7, ly7, G7⟩ := CD2
        k_steps
        refine LSm.all_bools F7 N7 hh (News.isList N7 (List.mem_cons_self ..)) (bools_comp hus.len lv7 ly7 G7) ?_
        intro h8 tk8 F8 N8
        rw [show (qs.map fun p => ps.any fun q => teq q p).all id = qs.all fun p => ps.any fun q => teq q p from by rw [List.all_map]; rfl]
        clear F6 N6 F7 N7
        show LeaveK _ _ _ _ _ _ _
        refine con_leave hR F8 N8 [] (fun p hp => by rw [List.append_nil] at hp; k_mem) Ord.nil ?_
        rw [if_pos hcu, hteq, hb1, Bool.true_and]
  · obtain ⟨y, d', es, k2, rfl, j1, j2⟩ := typ_inst WI hy
    have j1' := hvis _ j1
    have j2' := hvis _ j2
    k_dflt (refine' code_defC (K := Mine.hd.heap_39 w.params) (binds := [(Str.ofString "self", .ref x), (Str.ofString "other", .ref y)]) B F X N T hA hf hk ?k6 ?k7 ?k8 ?k9 ?kB ?kD ?_ ?c2 ?c3 ?c4; (case k6 => k_is); (case k7 => k_is); (case k9 => exact BindsTo.of_eq rfl); (case kB => exact rfl); (case kD => decide +kernel); (case c2 => exact rfl); (case c3 => exact rfl); (case c4 => exact rfl); (case k8 => omega))
    intro g' L' h' tk' cells' FG' F' N' Y' B' X' T' lc
    obtain ⟨c1, c2, hE, dc1, dc2⟩ := CellsAre.two Y'
    subst hE
    simp only [List.cons_append, List.nil_append] at N'
    clear F N B X T Y'
    try dsimp only
    k_fold
    k_steps
    k_dflt (refine' isi_ne ?k1 ?k2 (cls_six u) (by decide) hcu ?_; (case k1 => k_in); (case k2 => k_inst))
    intro tk9
    k_steps
    refine' nameX_B (K := Mine.hd.heap_39 w.params) ?q1 X' ?q2 ?q3 ?q4 ?q5 ?_
    case q1 => k_asm
    case q2 => k_asm
    case q3 => k_is
    case q4 => boot_by_name
    case q5 => decide
    k_steps
    show LeaveK _ _ _ _ _ _ _
    rename Fr _ _ _ _ => F2
    rename News _ _ _ _ => N2
    refine con_leave hR F2 N2 [] (fun p hp => by rw [List.append_nil] at hp; k_mem) Ord.nil ?_
    rw [if_neg hcu]
end Mine
namespace Mine
local macro_rules | `(tactic| walk_at "idle") => `(tactic| fail "idle")
local macro_rules | `(tactic| walk_at "idle") => `(tactic| fail "idle")
local macro_rules | `(tactic| walk_at "idle") => `(tactic| fail "idle")
local macro_rules | `(tactic| walk_at "idle") => `(tactic| fail "idle")
local macro_rules | `(tactic| walk_at "idle") => `(tactic| fail "idle")
local macro_rules | `(tactic| walk_at "idle") => `(tactic| fail "idle")
local macro_rules | `(tactic| walk_at "idle") => `(tactic| fail "idle")
local macro_rules | `(tactic| walk_at "idle") => `(tactic| fail "idle")
theorem fresh23 : True := by
  w_top off
  trivial
local macro_rules | `(tactic| k_mem) => `(tactic| first | with_reducible assumption | with_reducible exact List.mem_cons_self .. | (with_reducible refine List.mem_cons_of_mem _ ?_; k_mem) | (with_reducible refine List.mem_append_left _ ?_; k_mem) | (with_reducible refine List.mem_append_right _ ?_; k_mem))
local macro_rules | `(tactic| k_room) => `(tactic| ((try simp only [depth_under_make, depth_under_kw, depth_in1, depth_deeper, depth_caller]); omega))
local macro_rules | `(tactic| k_units) => `(tactic| ((try simp only [units_under_make, units_in1, units_deeper, Around.mark_units, units_caller]); omega))
local macro_rules | `(tactic| k_all) => `(tactic| first | assumption | (refine List.forall_mem_append.mpr ⟨?_, ?_⟩ <;> k_all))
local macro_rules | `(tactic| walk_at "compareOp Eq ref ref") => `(tactic| (k_here; refine hold ?_))
section
variable {prog : Program} {w : World} {A : Around} {E : Value → Shared → Prop} {s : Shared} {K : Frag} {x y C D f f' : Addr} {ox oy : Obj} {od od' : Option Obj}
theorem cmp_two {Q : Value → Shared → Prop} (hu : A.units < cLine) (X : K.In s.heap) (I : InstAt s.heap x ox C od) (J : InstAt s.heap y oy D od') (hn : notFirst K C (.ref D) = true) (hne : C ≠ D)
    (hs : findIn K (.ref C) "__eq__" = some (some (.ref f))) (hf : isFn K (.ref f) = true) (hs' : findIn K (.ref D) "__eq__" = some (some (.ref f'))) (hf' : isFn K (.ref f') = true) (hnt : ox.cls ≠ .type "tuple")
    (h : wpAny (model prog w) A (call (.ref f) [.ref x, .ref y]) (fun v s' => (∃ b, v = .bool b ∧ Q (.bool b) s') ∨ (v = .notImplemented ∧ K.In s'.heap ∧ InstAt s'.heap y oy D od' ∧
      wpAny (model prog w) A (call (.ref f') [.ref y, .ref x]) (fun v' s'' => (∃ b, v' = .bool b ∧ Q (.bool b) s'') ∨ (v' = .notImplemented ∧ InstAt s''.heap x ox C od ∧ InstAt s''.heap y oy D od' ∧ Q (.bool false) s'')) E s')) E s) :
    wpAny (model prog w) A (richCompare .Eq (.ref x) (.ref y)) Q E s := by
  have hxy : x ≠ y := by
    rintro rfl
    have e := I.at_; rw [J.at_] at e; cases e
    have e := I.cls; rw [J.cls] at e; cases e
    exact hne rfl
  have e : subIn K (.ref D) (.ref C) = some false := by
    rcases Bool.or_eq_true_iff.mp hn with e | e
    · have := beq_iff_eq.mp e; cases this; exact absurd rfl hne
    · exact beq_iff_eq.mp e
  unfold richCompare
  simp only [oneThing_ref]
  refine wpAny_holding (wpAny_bind (wpAny_cRoomFor hu ?_))
  refine wpAny_bind (I.type.here (wpAny_bind (J.type.here ?_)))
  have hq : (Value.ref C != Value.ref D) = true := by simp [hne]
  simp only [hq, if_true]
  refine wpAny_bind ((looks_subIn X e).here ?_)
  simp only [Bool.false_eq_true, if_false, Bool.not_false, if_true]
  unfold tryCompare
  refine wpAny_bind (wpAny_bind (ifBound_K X I hs hf (wpAny_mono h (fun v s' hv => ?_) fun _ _ e => e)))
  rcases hv with ⟨b, rfl, hq⟩ | ⟨rfl, X', J', h'⟩
  · exact wpAny_pure (wpAny_pure hq)
  · refine wpAny_pure ?_
    refine wpAny_bind (wpAny_bind (ifBound_K X' J' hs' hf' (wpAny_mono h' (fun v s'' hv => ?_) fun _ _ e => e)))
    rcases hv with ⟨b, rfl, hq⟩ | ⟨rfl, I'', J'', hq⟩
    · exact wpAny_pure (wpAny_pure hq)
    · refine wpAny_pure ?_
      exact wpAny_bind (wpAny_rule (wpAny_bind (wpAny_isSame_ref_other hxy I''.at_ J''.at_ hnt (wpAny_pure hq))))
end
theorem eqOne_con (w : World) (mean : ExcName → Option Value) (mg mb : Str → Option Value) (W : Wd) (iA iB iC io : Addr) (t u : Tree) (hc : cls t = 224) : Con w mean mg mb 221 2 10
    (fun news args => WIn W iA iB iC io news ∧ ∃ x y, args = [x, y] ∧ TypIn W news t x ∧ TypIn W news u y)
    (fun news _ r => r = .bool (decide (cls u = 224))) := by
  unfold Con
  k_fill
  intro A A₀ env outer base h₀ L m news vis s args R B F X N T hA hf hk hh hg hd hu hvis hp hR
  obtain ⟨WI, x, y, rfl, hx, hy⟩ := hp
  obtain ⟨x, dx, es, k, rfl, i1, i2⟩ := typ_inst WI hx
  obtain ⟨y, d', es, k2, rfl, j1, j2⟩ := typ_inst WI hy
  have j1' := hvis _ j1
  have j2' := hvis _ j2
  k_dflt (refine' code_def (K := Mine.hd.heap_39 w.params) (binds := [(Str.ofString "self", .ref x), (Str.ofString "other", .ref y)]) B F X N T hA hf hk ?k6 ?k7 ?k8 ?k9 ?kB ?_ ?c2 ?c3 ?c4 ?c5; (case k6 => k_is); (case k7 => k_is); (case k9 => exact BindsTo.of_eq rfl); (case kB => exact locs rfl); (case c2 => exact rfl); (case c3 => exact rfl); (case c4 => exact rfl); (case c5 => decide); (case k8 => omega))
  intro g' L' h' FG' F' N' B' X' T'
  clear F N B X T
  try dsimp only
  k_fold
  k_steps
  k_dflt (refine' isi_six ?k3 ?k4 ?k1 ?k2 ?_; (case k1 => k_in); (case k2 => k_inst); (case k3 => exact cls_six u); (case k4 => decide))
  intro tk9
  k_steps
  show LeaveK _ _ _ _ _ _ _
  rename Fr _ _ _ _ => F2
  rename News _ _ _ _ => N2
  refine con_leave0 (tl := []) hR F2 (by rw [List.append_nil]; exact N2) Ord.nil ?_
  rfl
theorem eqNon_con (w : World) (mean : ExcName → Option Value) (mg mb : Str → Option Value) (W : Wd) (iA iB iC io : Addr) (t u : Tree) (hc : cls t = 284) : Con w mean mg mb 274 2 10
    (fun news args => WIn W iA iB iC io news ∧ ∃ x y, args = [x, y] ∧ TypIn W news t x ∧ TypIn W news u y)
    (fun news _ r => r = .bool (decide (cls u = 284))) := by
  unfold Con
  k_fill
  intro A A₀ env outer base h₀ L m news vis s args R B F X N T hA hf hk hh hg hd hu hvis hp hR
  obtain ⟨WI, x, y, rfl, hx, hy⟩ := hp
  obtain ⟨x, dx, es, k, rfl, i1, i2⟩ := typ_inst WI hx
  obtain ⟨y, d', es, k2, rfl, j1, j2⟩ := typ_inst WI hy
  have j1' := hvis _ j1
  have j2' := hvis _ j2
  k_dflt (refine' code_def (K := Mine.hd.heap_39 w.params) (binds := [(Str.ofString "self", .ref x), (Str.ofString "other", .ref y)]) B F X N T hA hf hk ?k6 ?k7 ?k8 ?k9 ?kB ?_ ?c2 ?c3 ?c4 ?c5; (case k6 => k_is); (case k7 => k_is); (case k9 => exact BindsTo.of_eq rfl); (case kB => exact locs rfl); (case c2 => exact rfl); (case c3 => exact rfl); (case c4 => exact rfl); (case c5 => decide); (case k8 => omega))
  intro g' L' h' FG' F' N' B' X' T'
  clear F N B X T
  try dsimp only
  k_fold
  k_steps
  k_dflt (refine' isi_six ?k3 ?k4 ?k1 ?k2 ?_; (case k1 => k_in); (case k2 => k_inst); (case k3 => exact cls_six u); (case k4 => decide))
  intro tk9
  k_steps
  show LeaveK _ _ _ _ _ _ _
  rename Fr _ _ _ _ => F2
  rename News _ _ _ _ => N2
  refine con_leave0 (tl := []) hR F2 (by rw [List.append_nil]; exact N2) Ord.nil ?_
  rfl
theorem cls_nev {t : Tree} (h : cls t = 258) : t = .leaf .nev := by
  cases t with
  | leaf a => cases a <;> simp only [cls] at h <;> first | rfl | exact absurd h (by decide)
  | node g ps => cases g <;> simp only [cls] at h <;> exact absurd h (by decide)
theorem eqNev_con (w : World) (mean : ExcName → Option Value) (mg mb : Str → Option Value) (W : Wd) (iA iB iC io : Addr) (t u : Tree) (hc : cls t = 258) : Con w mean mg mb 255 2 10
    (fun news args => WIn W iA iB iC io news ∧ ∃ x y, args = [x, y] ∧ TypIn W news t x ∧ TypIn W news u y)
    (fun news _ r => r = .bool (decide (cls u = 258))) := by
  unfold Con
  k_fill
  intro A A₀ env outer base h₀ L m news vis s args R B F X N T hA hf hk hh hg hd hu hvis hp hR
  obtain ⟨WI, x, y, rfl, hx, hy⟩ := hp
  obtain ⟨x, dx, es, k, rfl, i1, i2⟩ := typ_inst WI hx
  obtain ⟨y, d', es, k2, rfl, j1, j2⟩ := typ_inst WI hy
  have j1' := hvis _ j1
  have j2' := hvis _ j2
  have i1' := hvis _ i1
  have i2' := hvis _ i2
  k_dflt (refine' code_def (K := Mine.hd.heap_39 w.params) (binds := [(Str.ofString "self", .ref x), (Str.ofString "other", .ref y)]) B F X N T hA hf hk ?k6 ?k7 ?k8 ?k9 ?kB ?_ ?c2 ?c3 ?c4 ?c5; (case k6 => k_is); (case k7 => k_is); (case k9 => exact BindsTo.of_eq rfl); (case kB => exact locs rfl); (case c2 => exact rfl); (case c3 => exact rfl); (case c4 => exact rfl); (case c5 => decide); (case k8 => omega))
  intro g' L' h' FG' F' N' B' X' T'
  clear F N B X T
  try dsimp only
  k_fold
  k_steps
  by_cases hcu : cls u = 258
  · rw [hcu] at j1 j1'
    k_dflt (refine' isi_six (C := 258) ?k3 ?k4 ?k1 ?k2 ?_; (case k1 => k_in); (case k2 => k_inst); (case k3 => decide); (case k4 => decide))
    intro tk9
    rw [show ((258 : Addr) == 258) = true from rfl]
    have e1 : t = .leaf .nev := cls_nev hc
    have e2 : u = .leaf .nev := cls_nev hcu
    subst e1 e2
    simp only [TypIn] at hx hy
    obtain ⟨x0, dx0, h1, t1, n1, e, i3, i4⟩ := hx
    obtain ⟨y0, dy0, h2, t2, n2, e', j3, j4⟩ := hy
    cases e; cases e'
    have i3' := hvis _ i3
    have i4' := hvis _ i4
    have j3' := hvis _ j3
    have j4' := hvis _ j4
    clear i1' i2' j1' j2'
    k_steps
    show LeaveK _ _ _ _ _ _ _
    rename Fr _ _ _ _ => F2
    rename News _ _ _ _ => N2
    refine con_leave0 (tl := []) hR F2 (by rw [List.append_nil]; exact N2) Ord.nil ?_
    rfl
  · k_dflt (refine' isi_ne ?k1 ?k2 (cls_six u) (by decide) hcu ?_; (case k1 => k_in); (case k2 => k_inst))
    intro tk9
    k_steps
    show LeaveK _ _ _ _ _ _ _
    rename Fr _ _ _ _ => F2
    rename News _ _ _ _ => N2
    refine con_leave0 (tl := []) hR F2 (by rw [List.append_nil]; exact N2) Ord.nil ?_
    rw [decide_eq_false hcu]
theorem con_weak {w : World} {mean : ExcName → Option Value} {mg mb : Str → Option Value} {f : Addr} {dep un dep' un' : Nat} {Pre Pre' : Led → List Value → Prop} {Post Post' : Led → List Value → Value → Prop} (C : Con w mean mg mb f dep un Pre Post)
    (hd : dep ≤ dep') (hu : un ≤ un') (h1 : ∀ l a, Pre' l a → Pre l a) (h2 : ∀ l a r, Post l a r → Post' l a r) : Con w mean mg mb f dep' un' Pre' Post' :=
  fun A A₀ env outer base h₀ L m news vis s args R B F X N T hA hf hk hh hg hD hU hv hp hR =>
    C A A₀ env outer base h₀ L m news vis s args R B F X N T hA hf hk hh hg (by omega) (by omega) hv (h1 _ _ hp) fun r tl h' tk' F' N' O' P' => hR r tl h' tk' F' N' O' (h2 _ _ _ P')
/-- the __eq__ of a class -/
def eqf (C : Addr) : Addr := if C = 190 then 187 else if C = 224 then 221 else if C = 258 then 255 else if C = 284 then 274 else if C = 324 then 314 else 345
theorem six_eq {w : World} {C : Addr} (h : C ∈ six) : findIn (Mine.hd.heap_39 w.params) (.ref C) "__eq__" = some (some (.ref (eqf C))) ∧ isFn (Mine.hd.heap_39 w.params) (.ref (eqf C)) = true := by
  simp only [six, List.mem_cons, List.not_mem_nil, or_false] at h
  rcases h with rfl | rfl | rfl | rfl | rfl | rfl <;> refine ⟨?_, ?_⟩ <;> simp only [eqf] <;> k_is
theorem six_first {w : World} {C D : Addr} (h : C ∈ six) (h' : D ∈ six) : notFirst (Mine.hd.heap_39 w.params) C (.ref D) = true := by
  simp only [six, List.mem_cons, List.not_mem_nil, or_false] at h h'
  rcases h with rfl | rfl | rfl | rfl | rfl | rfl <;> rcases h' with rfl | rfl | rfl | rfl | rfl | rfl <;> k_is
/-- what a type's __eq__ answers -/
def eqv (t u : Tree) : Value := if cls t = cls u then .bool (teq t u) else if cls t = 224 ∨ cls t = 258 ∨ cls t = 284 then .bool false else .notImplemented
theorem eqAny_con (w : World) (mean : ExcName → Option Value) (mg mb : Str → Option Value) (W : Wd) (iA iB iC io : Addr) (n : Nat) (IH : ∀ t u : Tree, t.ht < n → u.ht < n → t.sz ≤ big → u.sz ≤ big → RcCon w mean mg mb W iA iB iC io (4 * n) (20 * n) t u)
    (t u : Tree) (ht : t.ht < n + 1) (hu' : u.ht < n + 1) (hs1 : t.sz ≤ big) (hs2 : u.sz ≤ big) : Con w mean mg mb (eqf (cls t)) (4 * n + 4) (20 * n + 15)
    (fun news args => Sv news ∧ WIn W iA iB iC io news ∧ ∃ x y, args = [x, y] ∧ TypIn W news t x ∧ TypIn W news u y)
    (fun news _ r => r = eqv t u) := by
  have c6 := cls_six t
  simp only [six, List.mem_cons, List.not_mem_nil, or_false] at c6
  rcases c6 with c | c | c | c | c | c
  · rw [show eqf (cls t) = 187 from by rw [c]; rfl]
    refine con_weak (eqV_con w mean mg mb W iA iB iC io n IH t u c) (by omega) (by omega) (fun _ _ h => h) (fun _ _ r h => ?_)
    rw [h, eqv, c]
    by_cases e : cls u = 190
    · rw [if_pos e, if_pos e.symm]
    · rw [if_neg e, if_neg (Ne.symm e), if_neg (by decide)]
  · rw [show eqf (cls t) = 221 from by rw [c]; rfl]
    refine con_weak (eqOne_con w mean mg mb W iA iB iC io t u c) (by omega) (by omega) (fun _ _ h => h.2) (fun _ _ r h => ?_)
    rw [h, eqv, c]
    by_cases e : cls u = 224
    · rw [if_pos e.symm, teq_one (.inl c) (c.trans e.symm), decide_eq_true e]
    · rw [if_neg (Ne.symm e), if_pos (by decide), decide_eq_false e]
  · rw [show eqf (cls t) = 255 from by rw [c]; rfl]
    refine con_weak (eqNev_con w mean mg mb W iA iB iC io t u c) (by omega) (by omega) (fun _ _ h => h.2) (fun _ _ r h => ?_)
    rw [h, eqv, c]
    by_cases e : cls u = 258
    · rw [if_pos e.symm, teq_one (.inr (.inl c)) (c.trans e.symm), decide_eq_true e]
    · rw [if_neg (Ne.symm e), if_pos (by decide), decide_eq_false e]
  · rw [show eqf (cls t) = 274 from by rw [c]; rfl]
    refine con_weak (eqNon_con w mean mg mb W iA iB iC io t u c) (by omega) (by omega) (fun _ _ h => h.2) (fun _ _ r h => ?_)
    rw [h, eqv, c]
    by_cases e : cls u = 284
    · rw [if_pos e.symm, teq_one (.inr (.inr c)) (c.trans e.symm), decide_eq_true e]
    · rw [if_neg (Ne.symm e), if_pos (by decide), decide_eq_false e]
  · rw [show eqf (cls t) = 314 from by rw [c]; rfl]
    refine con_weak (eqI_con w mean mg mb W iA iB iC io n IH t u ht hu' hs1 hs2 c) (by omega) (by omega) (fun _ _ h => h) (fun _ _ r h => ?_)
    rw [h, eqv, c]
    by_cases e : cls u = 324
    · rw [if_pos e, if_pos e.symm]
    · rw [if_neg e, if_neg (Ne.symm e), if_neg (by decide)]
  · rw [show eqf (cls t) = 345 from by rw [c]; rfl]
    refine con_weak (eqU_con w mean mg mb W iA iB iC io n IH t u ht hu' hs1 hs2 c) (by omega) (by omega) (fun _ _ h => h) (fun _ _ r h => ?_)
    rw [h, eqv, c]
    by_cases e : cls u = 365
    · rw [if_pos e, if_pos e.symm]
    · rw [if_neg e, if_neg (Ne.symm e), if_neg (by decide)]
theorem rc_con (w : World) (mean : ExcName → Option Value) (mg mb : Str → Option Value) (W : Wd) (iA iB iC io : Addr) : ∀ (n : Nat) (t u : Tree), t.ht < n → u.ht < n → t.sz ≤ big → u.sz ≤ big → RcCon w mean mg mb W iA iB iC io (4 * n) (20 * n) t u := by
  intro n
  induction n with
  | zero => intro t u h; exact absurd h (Nat.not_lt_zero _)
  | succ n IH =>
    intro t u ht hu' hs1 hs2 A A₀ env outer base h₀ L m news vis s x y E Q B F X N T hA hf hk hh hg hd hu hv WI h1 h2 hQ
    have S : Sv vis := (sv_of N).sub hv
    obtain ⟨x, d, es, k, rfl, i1, i2⟩ := typ_inst WI h1
    obtain ⟨y, d', es', k', rfl, j1, j2⟩ := typ_inst WI h2
    have I : InstAt s.heap x _ (cls t) (some _) := InstAt.of_news N (hv _ i1) (hv _ i2)
    have J : InstAt s.heap y _ (cls u) (some _) := InstAt.of_news N (hv _ j1) (hv _ j2)
    by_cases hc : cls t = cls u
    · refine cmp_K (K := Mine.hd.heap_39 w.params) (by omega) F X I J.type (six_first (cls_six t) (cls_six u)) (six_eq (cls_six t)).1 (six_eq (cls_six t)).2 ?_
      refine wpAny_call ?_
      refine con_use (eqAny_con w mean mg mb W iA iB iC io n IH t u ht hu' hs1 hs2) vis B F X N T hA hf hk hh hg (by omega) (by omega) hv ⟨S, WI, _, _, rfl, h1, h2⟩ ?_
      rintro r tl h' tk' F' N' O' rfl
      rw [eqv, if_pos hc]
      exact hQ _ _ F' (News.sub N' (fun p hp => List.mem_append_left _ hp))
    · have hteq := teq_cls hc
      rw [hteq] at hQ
      refine cmp_two (K := Mine.hd.heap_39 w.params) (by omega) (X.keeps F.keep) I J (six_first (cls_six t) (cls_six u)) hc (six_eq (cls_six t)).1 (six_eq (cls_six t)).2 (six_eq (cls_six u)).1 (six_eq (cls_six u)).2 (fun e => nomatch e) ?_
      refine wpAny_call ?_
      refine con_use (eqAny_con w mean mg mb W iA iB iC io n IH t u ht hu' hs1 hs2) vis B F X N T hA hf hk hh hg (by omega) (by omega) hv ⟨S, WI, _, _, rfl, h1, h2⟩ ?_
      rintro r tl h' tk' F' N' O' rfl
      have N1 : News h₀ L h' news := News.sub N' (fun p hp => List.mem_append_left _ hp)
      by_cases c1 : cls t = 224 ∨ cls t = 258 ∨ cls t = 284
      · rw [eqv, if_neg hc, if_pos c1]
        exact .inl ⟨false, rfl, hQ _ _ F' N1⟩
      · rw [eqv, if_neg hc, if_neg c1]
        refine .inr ⟨rfl, X.keeps F'.keep, InstAt.of_news N1 (hv _ j1) (hv _ j2), ?_⟩
        refine wpAny_call ?_
        refine con_use (eqAny_con w mean mg mb W iA iB iC io n IH u t hu' ht hs2 hs1) vis B F' X N1 T hA hf hk hh hg (by omega) (by omega) hv ⟨S, WI, _, _, rfl, h2, h1⟩ ?_
        rintro r tl2 h8 tk8 F8 N8 O8 rfl
        have N9 : News h₀ L h8 news := News.sub N8 (fun p hp => List.mem_append_left _ hp)
        by_cases c2 : cls u = 224 ∨ cls u = 258 ∨ cls u = 284
        · rw [eqv, if_neg (Ne.symm hc), if_pos c2]
          exact .inl ⟨false, rfl, hQ _ _ F8 N9⟩
        · rw [eqv, if_neg (Ne.symm hc), if_neg c2]
          exact .inr ⟨rfl, InstAt.of_news N9 (hv _ i1) (hv _ i2), InstAt.of_news N9 (hv _ j1) (hv _ j2), hQ _ _ F8 N9⟩
end Mine
namespace Mine
local macro_rules | `(tactic| walk_at "idle") => `(tactic| fail "idle")
local macro_rules | `(tactic| walk_at "idle") => `(tactic| fail "idle")
local macro_rules | `(tactic| walk_at "idle") => `(tactic| fail "idle")
local macro_rules | `(tactic| walk_at "idle") => `(tactic| fail "idle")
local macro_rules | `(tactic| walk_at "idle") => `(tactic| fail "idle")
local macro_rules | `(tactic| walk_at "idle") => `(tactic| fail "idle")
local macro_rules | `(tactic| walk_at "idle") => `(tactic| fail "idle")
theorem fresh24 : True := by
  w_top off
  trivial
local macro_rules | `(tactic| k_mem) => `(tactic| first | with_reducible assumption | with_reducible exact List.mem_cons_self .. | (with_reducible refine List.mem_cons_of_mem _ ?_; k_mem) | (with_reducible refine List.mem_append_left _ ?_; k_mem) | (with_reducible refine List.mem_append_right _ ?_; k_mem))
local macro_rules | `(tactic| k_room) => `(tactic| ((try simp only [depth_under_make, depth_under_kw, depth_in1, depth_deeper, depth_caller]); omega))
local macro_rules | `(tactic| k_units) => `(tactic| ((try simp only [units_under_make, units_in1, units_deeper, Around.mark_units, units_caller]); omega))
local macro_rules | `(tactic| k_all) => `(tactic| first | assumption | (refine List.forall_mem_append.mpr ⟨?_, ?_⟩ <;> k_all))
local macro_rules | `(tactic| walk_at "compareOp NotIn ref ref") => `(tactic| (k_here; refine hold ?_))
local macro_rules | `(tactic| walk_at "compareOp Eq str str") => `(tactic| (k_here; refine hold ?_))
local macro_rules | `(tactic| walk_at "call ref") => `(tactic| (k_here; (with_reducible show wpAny _ _ (call (Value.ref 258) _ _) _ _ _); refine wpAny_call ?_))
def isObj : Tree → Bool
  | .leaf .obj => true
  | _ => false
theorem isObj_full {t : Tree} (h : cls t = 324) : decide (fullOf t = "builtins.object") = isObj t := by
  cases t with
  | leaf a => cases a <;> simp only [cls] at h <;> first | exact absurd h (by decide) | (simp only [fullOf, isObj]; decide)
  | node g ps => cases g <;> simp only [cls] at h <;> first | exact absurd h (by decide) | exact decide_eq_false (by simp only [fullOf]; decide)
theorem isObj_cls {t : Tree} (h : cls t ≠ 324) : isObj t = false := by
  cases t with
  | leaf a => cases a <;> first | rfl | exact absurd rfl h
  | node g ps => rfl
/-- what remove_trivial keeps -/
def rt (acc : List Tree) : List Tree → List Tree
  | [] => if acc = [] then [.leaf .nev] else acc
  | t :: r => if cls t = 258 then rt acc r else if isObj t then [t] else if acc.any (fun e => teq e t) then rt acc r else rt (acc ++ [t]) r
theorem hts_app (a b : List Tree) : hts (a ++ b) = max (hts a) (hts b) := by
  induction a with
  | nil => simp [hts]
  | cons t r ih => simp only [List.cons_append, hts, ih]; omega
theorem remove_con (w : World) (mean : ExcName → Option Value) (mg mb : Str → Option Value) (W : Wd) (iA iB iC io : Addr) (n : Nat) (ts : List Tree) (hn : hts ts < n) (hb : szs ts ≤ big) : Con w mean mg mb 559 (4 * n + 4) (20 * n + 20)
    (fun news args => WIn W iA iB iC io news ∧ ∃ l vs k, args = [.ref l] ∧ (l, listOf vs.toArray k) ∈ news ∧ TypsIn W news ts vs)
    (fun news _ r => ∃ l vs k, r = .ref l ∧ (l, listOf vs.toArray k) ∈ news ∧ TypsIn W news (rt [] ts) vs) := by
  unfold Con
  k_fill
  intro A A₀ env outer base h₀ L m news vis s args R B F X N T hA hf hk hh hg hd hu hvis hp hR
  obtain ⟨WI, l, vs, k, rfl, hl, hvs⟩ := hp
  have hl' := hvis _ hl
  k_dflt (refine' code_def (K := Mine.hd.heap_39 w.params) (binds := [(Str.ofString "types", .ref l)]) B F X N T hA hf hk ?k6 ?k7 ?k8 ?k9 ?kB ?_ ?c2 ?c3 ?c4 ?c5; (case k6 => k_is); (case k7 => k_is); (case k9 => exact BindsTo.of_eq rfl); (case kB => exact locs rfl); (case c2 => exact rfl); (case c3 => exact rfl); (case c4 => exact rfl); (case c5 => decide); (case k8 => omega))
  intro g' L' h' FG' F' N' B' X' T'
  clear F N B X T
  try dsimp only
  k_fold
  k_steps
  rename_i lf h2 l1 h3 F1 N1
  k_dflt (refine' For_invV g' ?x1 ?x2 ?_; (case x1 => exact rfl); (case x2 => exact rfl))
  refine ld F1 rfl ?_
  refine for_one (fun i nx => ∃ acc ys k' tl, nx = (lf, listOf ys.toArray k') :: (news ++ tl) ∧ Ord news ((lf, listOf ys.toArray k') :: tl) ∧ (∀ p ∈ tl, lf < p.1) ∧ TypsIn W (vis ++ tl) acc ys ∧ rt [] ts = rt acc (ts.drop i) ∧ hts acc < n ∧ szs acc ≤ szs (ts.take i)) hh (List.mem_cons_of_mem _ hl') SeqOf.list F1 N1 ?_ ?_ ?_
  · refine ⟨[], [], 0, [], by simp, ?_, fun _ h => (nomatch h), TypsIn.nil, by simp, by simp only [hts]; omega, by simp [szs]⟩
    intro q hq p hp
    rw [List.mem_singleton.mp hp]; exact l1 q hq
  · intro i v nx h tk own hv hoff hlm hJ F N
    obtain ⟨acc, ys, k', tl, rfl, hO, hlt, hT, hrt, hah, haz⟩ := hJ
    obtain ⟨t, ht, htv⟩ := hvs.get hv
    clear F1 N1
    obtain ⟨x, d, es, nn, rfl, hx, hdx⟩ := typ_inst WI htv
    have hx' := hvis _ hx
    have hdx' := hvis _ hdx
    try k_fold
    have hbl := big_line
    have haz2 := szs_take ts i
    have htz := szs_get ht
    have hth := hts_get ht
    have hdrop : ts.drop i = t :: ts.drop (i + 1) := by
      obtain ⟨hi, e⟩ := List.getElem?_eq_some_iff.mp ht
      rw [← e]; exact List.drop_eq_getElem_cons hi
    have htk : szs (ts.take (i + 1)) = szs (ts.take i) + t.sz := by
      rw [List.take_add_one, ht, Option.toList_some, szs_app]; simp [szs]
    rw [hdrop, rt] at hrt
    have hap := ap_off l1 hlt hoff
    k_steps
    by_cases hN : cls t = 258
    · rw [hN] at hx hx'
      k_dflt (refine' isi_six (C := 258) ?k3 ?k4 ?k1 ?k2 ?_; (case k1 => k_in); (case k2 => k_inst); (case k3 => decide); (case k4 => decide))
      intro tk9
      rw [show ((258 : Addr) == 258) = true from rfl]
      k_steps
      rw [if_pos hN] at hrt
      refine OnePost.next ((lf, listOf ys.toArray k') :: (news ++ tl)) (.inr rfl) F N (fun p hp => hp) ?_ hoff ⟨acc, ys, k', tl, rfl, hO, hlt, hT, hrt, hah, by omega⟩
      k_mem
    · k_dflt (refine' isi_ne ?k1 ?k2 (cls_six t) (by decide) hN ?_; (case k1 => k_in); (case k2 => k_inst))
      intro tk9
      rw [if_neg hN] at hrt
      k_steps
      by_cases hI : cls t = 324
      · obtain ⟨x', xs, e, ⟨d3, tu, h1, h2, t1, t2, k3, k4, i1, i2, i3⟩, hxs, dI, I1, I2, I3, I4, I5, J1, J1', J2, J3, J4, J5, V2, V3, V4, V5, kI, f1, f2⟩ := typ324 WI hI htv
        cases e
        have i1' := hvis _ i1
        have i2' := hvis _ i2
        have f1' := hvis _ f1
        have f2' := hvis _ f2
        clear hx' hdx'
        k_steps
        refine eq_str ?_
        rw [show (fullOf t == Str.ofString "builtins.object") = isObj t from isObj_full hI]
        cases hob : isObj t with
        | true =>
          rw [hob] at hrt
          simp only [if_true] at hrt
          k_steps
          show LeaveK _ _ _ _ _ _ _
          rename_i D5 h5 F5 N5 l5
          refine con_leave hR F5 N5 [(D5, listOf #[Value.ref x] 0)] (fun p hp => ?_) (Ord.cons (fun q hq => l5 q (by k_mem)) Ord.nil) ⟨D5, [.ref x], 0, rfl, by k_mem, ?_⟩
          · rcases List.mem_append.mp hp with h | h
            · k_mem
            · rw [List.mem_singleton.mp h]; k_mem
          · rw [hrt]; exact TypsIn.one (htv.mono fun p hp => by k_mem)
        | false =>
          rw [hob] at hrt
          simp only [Bool.false_eq_true, if_false] at hrt
          k_steps
          refine notInL (SP := SpOf g' L' _ _ _) (vs := ys) (k := k') (e := fun j => (acc[j]?).any fun q => teq q t) (sp_here F N) ?hl ?he ?_
          case hl => rintro _ ⟨h, tk, rfl, F3, N3⟩; exact (N3 (lf, PySem.W.listOf ys.toArray k') (by k_mem)).1
          case he =>
            intro j b hb
            obtain ⟨q, hq, hqb⟩ := hT.get hb
            have hqz := szs_get hq
            have hqh := hts_get hq
            simp only [hq, Option.any_some]
            have hvt : ∀ p ∈ vis ++ tl, p ∈ (lf, PySem.W.listOf ys.toArray k') :: (news ++ tl) ++ own := fun p hp => by
              rcases List.mem_append.mp hp with h | h
              · have := hvis p h; k_mem
              · k_mem
            have htv' : TypIn W (vis ++ tl) t (.ref x) := htv.mono fun p hp => by k_mem
            have WI' : WIn W iA iB iC io (vis ++ tl) := WI.mono fun p hp => by k_mem
            have S' : Sv (vis ++ tl) := (sv_of N).sub hvt
            k_dflt (refine' eqS_of (rc_con w mean mg mb W iA iB iC io n q t (by omega) (by omega) (by omega) (by omega)) ?k1 ?k3 ?k5 ?kA ?kF ?kK ?kh ?kg ?kd ?ku ?kv (S') ?kw ?k8 ?k9; (case k1 => k_asm); (case k3 => k_asm); (case k5 => k_asm); (case kA => first | exact Around.frames_deeper (Below.stack (by assumption)) | assumption); (case kF => exact rfl); (case kK => exact rfl); (case kh => first | exact hh | exact rfl | assumption); (case kg => first | exact hg | exact rfl | assumption); (case kd => ((try simp only [depth_under_make, depth_under_kw, depth_in1, depth_deeper, depth_caller]); omega)); (case ku => ((try simp only [units_under_make, units_in1, units_deeper, Around.mark_units, units_caller]); omega)))
            case kv => exact hvt
            case kw => exact WI'
            case k8 => exact hqb
            case k9 => exact htv'
          rintro _ ⟨h5, tk5, rfl, F5, N5⟩
          rw [hT.len, any_at]
          cases hA2 : acc.any fun q => teq q t with
          | true =>
            rw [hA2] at hrt
            simp only [if_true] at hrt
            rw [show (!true) = false from rfl]
            k_steps
            refine OnePost.next ((lf, listOf ys.toArray k') :: (news ++ tl)) (.inl rfl) F5 N5 (fun p hp => hp) ?_ hoff ⟨acc, ys, k', tl, rfl, hO, hlt, hT, hrt, hah, by omega⟩
            k_mem
          | false =>
            rw [hA2] at hrt
            simp only [Bool.false_eq_true, if_false] at hrt
            rw [show (!false) = true from rfl]
            clear F N
            have hlen := hT.len
            have hlen2 := len_szs acc
            k_steps
            rename Fr _ _ _ _ => F6
            rename News _ _ _ _ => N6
            rw [List.push_toArray] at N6
            refine OnePost.next ((lf, listOf (ys ++ [Value.ref x]).toArray (k' + 1)) :: (news ++ tl)) (.inl rfl) F6 N6 (fun p hp => hp) ?_ (off_same hoff) ⟨acc ++ [t], ys ++ [.ref x], k' + 1, tl, rfl, ord_same hO, hlt, hT.app (TypsIn.one (htv.mono fun p hp => by k_mem)), hrt, by rw [hts_app]; simp only [hts]; omega, by rw [szs_app]; simp only [szs]; omega⟩
            k_mem
      · k_dflt (refine' isi_ne ?k1 ?k2 (cls_six t) (by decide) hI ?_; (case k1 => k_in); (case k2 => k_inst))
        intro tk8
        rw [isObj_cls hI] at hrt
        simp only [Bool.false_eq_true, if_false] at hrt
        k_steps
        refine notInL (SP := SpOf g' L' _ _ _) (vs := ys) (k := k') (e := fun j => (acc[j]?).any fun q => teq q t) (sp_here F N) ?hl ?he ?_
        case hl => rintro _ ⟨h, tk, rfl, F3, N3⟩; exact (N3 (lf, PySem.W.listOf ys.toArray k') (by k_mem)).1
        case he =>
          intro j b hb
          obtain ⟨q, hq, hqb⟩ := hT.get hb
          have hqz := szs_get hq
          have hqh := hts_get hq
          simp only [hq, Option.any_some]
          have hvt : ∀ p ∈ vis ++ tl, p ∈ (lf, PySem.W.listOf ys.toArray k') :: (news ++ tl) ++ own := fun p hp => by
            rcases List.mem_append.mp hp with h | h
            · have := hvis p h; k_mem
            · k_mem
          have htv' : TypIn W (vis ++ tl) t (.ref x) := htv.mono fun p hp => by k_mem
          have WI' : WIn W iA iB iC io (vis ++ tl) := WI.mono fun p hp => by k_mem
          have S' : Sv (vis ++ tl) := (sv_of N).sub hvt
          k_dflt (refine' eqS_of (rc_con w mean mg mb W iA iB iC io n q t (by omega) (by omega) (by omega) (by omega)) ?k1 ?k3 ?k5 ?kA ?kF ?kK ?kh ?kg ?kd ?ku ?kv (S') ?kw ?k8 ?k9; (case k1 => k_asm); (case k3 => k_asm); (case k5 => k_asm); (case kA => first | exact Around.frames_deeper (Below.stack (by assumption)) | assumption); (case kF => exact rfl); (case kK => exact rfl); (case kh => first | exact hh | exact rfl | assumption); (case kg => first | exact hg | exact rfl | assumption); (case kd => ((try simp only [depth_under_make, depth_under_kw, depth_in1, depth_deeper, depth_caller]); omega)); (case ku => ((try simp only [units_under_make, units_in1, units_deeper, Around.mark_units, units_caller]); omega)))
          case kv => exact hvt
          case kw => exact WI'
          case k8 => exact hqb
          case k9 => exact htv'
        rintro _ ⟨h5, tk5, rfl, F5, N5⟩
        rw [hT.len, any_at]
        cases hA2 : acc.any fun q => teq q t with
        | true =>
          rw [hA2] at hrt
          simp only [if_true] at hrt
          rw [show (!true) = false from rfl]
          k_steps
          refine OnePost.next ((lf, listOf ys.toArray k') :: (news ++ tl)) (.inl rfl) F5 N5 (fun p hp => hp) ?_ hoff ⟨acc, ys, k', tl, rfl, hO, hlt, hT, hrt, hah, by omega⟩
          k_mem
        | false =>
          rw [hA2] at hrt
          simp only [Bool.false_eq_true, if_false] at hrt
          rw [show (!false) = true from rfl]
          clear F N
          have hlen := hT.len
          have hlen2 := len_szs acc
          k_steps
          rename Fr _ _ _ _ => F6
          rename News _ _ _ _ => N6
          rw [List.push_toArray] at N6
          refine OnePost.next ((lf, listOf (ys ++ [Value.ref x]).toArray (k' + 1)) :: (news ++ tl)) (.inl rfl) F6 N6 (fun p hp => hp) ?_ (off_same hoff) ⟨acc ++ [t], ys ++ [.ref x], k' + 1, tl, rfl, ord_same hO, hlt, hT.app (TypsIn.one (htv.mono fun p hp => by k_mem)), hrt, by rw [hts_app]; simp only [hts]; omega, by rw [szs_app]; simp only [szs]; omega⟩
          k_mem
  · rintro u nx h tk ⟨acc, ys, k', tl, rfl, hO, hlt, hT, hrt, hah, haz⟩ F N
    rw [hvs.len, List.drop_length] at hrt
    clear F1 N1
    show wpAny _ _ _ _ _ _
    k_steps
    have hlen := hT.len
    have hlen2 := len_szs acc
    have hbl := big_line
    refine kgr_truthy N (List.mem_cons_self ..) rfl rfl (by have := sizeLine_eq; have := szs_take ts vs.length; omega) ?_
    cases ys with
    | nil =>
      have : acc = [] := List.length_eq_zero_iff.mp (by simpa using hlen.symm)
      subst this
      rw [show (!([] : List Value).isEmpty) = false from rfl]
      k_steps
      k_dflt (refine' con_use (nev_con w mean mg mb W) (vis) ?k1 ?k2 ?k3 ?k4 ?k5 ?kA ?kF ?kK ?kh ?kg ?kd ?ku ?kv ?pre ?_; (case k1 => k_asm); (case k2 => k_asm); (case k3 => k_asm); (case k4 => k_asm); (case k5 => k_asm); (case kA => first | exact Around.frames_deeper (Below.stack (by assumption)) | assumption); (case kF => exact rfl); (case kK => exact rfl); (case kh => first | exact hh | exact rfl | assumption); (case kg => first | exact hg | exact rfl | assumption); (case kd => ((try simp only [depth_under_make, depth_under_kw, depth_in1, depth_deeper, depth_caller]); omega)); (case ku => ((try simp only [units_under_make, units_in1, units_deeper, Around.mark_units, units_caller]); omega)))
      case kv => exact fun p hp => by have := hvis p hp; k_mem
      case pre => exact rfl
      intro r9 tl9 h9 tk9 F9 N9 O9 P9
      dsimp only
      clear F N
      k_steps
      show LeaveK _ _ _ _ _ _ _
      rename_i D5 h5 F5 N5 l5
      rw [rt, if_pos rfl] at hrt
      refine con_leave hR F5 N5 ((D5, listOf #[r9] 0) :: tl9) (fun p hp => ?_) (Ord.cons (fun q hq => l5 q (by k_mem)) (O9.sub fun q hq => by k_mem)) ⟨D5, [r9], 0, rfl, by k_mem, ?_⟩
      · rcases List.mem_append.mp hp with h | h
        · k_mem
        · rcases List.mem_cons.mp h with h | h
          · rw [h]; k_mem
          · k_mem
      · rw [hrt]; exact TypsIn.one (P9.mono fun p hp => by rcases List.mem_append.mp hp with h | h <;> k_mem)
    | cons y0 yr =>
      rw [show (!(y0 :: yr).isEmpty) = true from rfl]
      k_steps
      show LeaveK _ _ _ _ _ _ _
      have hne : acc ≠ [] := fun e => by rw [e] at hlen; simp at hlen
      rw [rt, if_neg hne] at hrt
      have hT2 : TypsIn W (vis ++ tl) (rt [] ts) (y0 :: yr) := by rw [hrt]; exact hT
      refine con_leave hR F N ((lf, listOf (y0 :: yr).toArray k') :: tl) ?_ hO ⟨lf, y0 :: yr, k', rfl, by k_mem, hT2.mono ?_⟩
      · intro p hp
        simp only [List.mem_append, List.mem_cons] at hp ⊢
        rcases hp with h | h | h <;> simp [h]
      · intro p hp
        simp only [List.mem_append, List.mem_cons] at hp ⊢
        rcases hp with h | h <;> simp [h]
end Mine
namespace Mine
local macro_rules | `(tactic| k_mem) => `(tactic| first | with_reducible assumption | with_reducible exact List.mem_cons_self .. | (with_reducible refine List.mem_cons_of_mem _ ?_; k_mem) | (with_reducible refine List.mem_append_left _ ?_; k_mem) | (with_reducible refine List.mem_append_right _ ?_; k_mem))
local macro_rules | `(tactic| k_room) => `(tactic| ((try simp only [depth_under_make, depth_under_kw, depth_in1, depth_deeper, depth_caller]); omega))
local macro_rules | `(tactic| k_units) => `(tactic| ((try simp only [units_under_make, units_in1, units_deeper, Around.mark_units, units_caller]); omega))
local macro_rules | `(tactic| k_all) => `(tactic| first | assumption | (refine List.forall_mem_append.mpr ⟨?_, ?_⟩ <;> k_all))
theorem filter_range_one (p : Nat → Bool) (j : Nat) : ∀ n, j < n → (∀ i, i < n → (p i = true ↔ i = j)) → (List.range n).filter p = [j] := by
  intro n
  induction n with
  | zero => intro h; exact absurd h (Nat.not_lt_zero _)
  | succ n ih =>
    intro h hp
    rw [List.range_succ, List.filter_append]
    by_cases e : j = n
    · subst e
      have h1 : (List.range j).filter p = [] := by
        rw [List.filter_eq_nil_iff]
        intro i hi hpi
        have hi' := List.mem_range.mp hi
        have := (hp i (by omega)).mp hpi
        omega
      rw [h1, List.filter_cons, if_pos ((hp j (by omega)).mpr rfl)]; rfl
    · rw [ih (by omega) fun i hi => hp i (by omega), List.filter_cons, if_neg (fun q => e ((hp n (by omega)).mp q).symm)]; rfl
section
variable {prog : Program} {w : World} {A : Around} {E : Value → Shared → Prop} {s : Shared} {d i : Addr} {o : Obj} {es : List DictEntry} {ep : Nat} {k : Int}
theorem places_none (hno : ∀ e ∈ es, e.hash ≠ k) : placesWithHash es.toArray.size (fun i => es.toArray[i]?.map (·.hash)) k = [] := by
  unfold placesWithHash
  rw [List.filter_eq_nil_iff]
  intro j hj h
  dsimp only at h
  rw [List.getElem?_toArray, beq_iff_eq] at h
  obtain ⟨e, he, hk⟩ := Option.map_eq_some_iff.mp h
  exact hno e (List.mem_of_getElem? he) hk
theorem places_one {j : Nat} {e : DictEntry} (he : es[j]? = some e) (hk : e.hash = k) (hu : ∀ (j' : Nat) (e' : DictEntry), es[j']? = some e' → e'.hash = k → j' = j) : placesWithHash es.toArray.size (fun i => es.toArray[i]?.map (·.hash)) k = [j] := by
  unfold placesWithHash
  refine filter_range_one _ j _ (by rw [List.size_toArray]; exact (List.getElem?_eq_some_iff.mp he).1) fun i' hi => ?_
  dsimp only
  rw [List.getElem?_toArray, beq_iff_eq]
  constructor
  · intro h
    obtain ⟨e', he', hk'⟩ := Option.map_eq_some_iff.mp h
    exact hu i' e' he' hk'
  · rintro rfl
    rw [he]; exact congrArg some hk
theorem find_none {Q : Option Nat → Shared → Prop} (ho : s.heap.get? d = some o) (hd : o.data = .dict es.toArray ep) (hno : ∀ e ∈ es, e.hash ≠ k) (hne : ∀ e ∈ es, e.key ≠ .ref i) (hQ : Q none s) : wpAny (model prog w) A (dictFind d (.ref i) k) Q E s := by
  have hp := places_none hno
  unfold dictFind
  try with_reducible refine wpAny_holding ?_
  refine wpAny_bind (wpAny_dictEntries ho hd ?_)
  dsimp only
  rw [hp]
  rw [if_neg (by simp [carriedByValue])]
  rw [if_neg (by
    rw [List.any_toArray, List.any_eq_true]
    rintro ⟨e, he, hc⟩
    simp only [Bool.and_eq_true, beq_iff_eq] at hc
    exact hne e he hc.1)]
  rw [if_neg (by simp)]
  unfold tableMayTell
  simp only [List.filterMap_nil, List.isEmpty_nil, if_true]
  refine wpAny_bind (wpAny_pure ?_)
  rw [if_neg (by simp)]
  refine wpAny_bind ?_
  refine wpAny_forIn_list _ (fun rest r s' => s' = s ∧ r = (none, none) ∧ rest = []) _ ?_ ?_ _ _ ⟨rfl, rfl, rfl⟩
  · rintro x rest r s' ⟨_, _, h⟩; cases h
  · rintro r s' ⟨rfl, rfl, _⟩
    exact wpAny_pure hQ
theorem find_some {Q : Option Nat → Shared → Prop} {j : Nat} {e : DictEntry} (ho : s.heap.get? d = some o) (hd : o.data = .dict es.toArray ep) (he : es[j]? = some e) (hk : e.hash = k) (hkey : e.key = .ref i) (hu : ∀ (j' : Nat) (e' : DictEntry), es[j']? = some e' → e'.hash = k → j' = j)
    (hkeys : ∀ e' ∈ es, e'.key = .ref i → e'.hash = k) (hQ : Q (some j) s) : wpAny (model prog w) A (dictFind d (.ref i) k) Q E s := by
  have hp := places_one he hk hu
  unfold dictFind
  try with_reducible refine wpAny_holding ?_
  refine wpAny_bind (wpAny_dictEntries ho hd ?_)
  dsimp only
  rw [hp]
  have hst : ([j].filterMap fun i => es.toArray[i]?.map (·.key)) = [Value.ref i] := by
    rw [List.filterMap_cons, List.getElem?_toArray, he]; simp [hkey]
  rw [hst]
  rw [if_neg (by simp [carriedByValue])]
  rw [if_neg (by
    rw [List.any_toArray, List.any_eq_true]
    rintro ⟨e', he', hc⟩
    simp only [Bool.and_eq_true, beq_iff_eq, bne_iff_ne, ne_eq] at hc
    exact hc.2 (hkeys e' he' hc.1))]
  rw [if_pos (by simp)]
  refine wpAny_bind (wpAny_pure ?_)
  rw [if_neg (by simp)]
  refine wpAny_bind ?_
  refine wpAny_forIn_list _ (fun rest r s' => s' = s ∧ r = (none, none) ∧ rest = [j]) _ ?_ ?_ _ _ ⟨rfl, rfl, rfl⟩
  · rintro x rest r s' ⟨rfl, rfl, h⟩
    injection h with h1 h2
    subst h1 h2
    rw [List.getElem?_toArray, he]
    dsimp only
    rw [if_pos (by simp [hk])]
    refine wpAny_bind (wpAny_dictEpoch ho hd (wpAny_bind (hkey ▸ SeqAt.EqAt.same (A := A) (s := s') (Value.ref i) prog w _ _ (wpAny_bind (wpAny_dictEpoch ho hd ?_)))))
    rw [if_neg (by simp)]
    simp only [if_true, Option.isSome_none, Bool.false_eq_true, if_false]
    refine wpAny_bind (wpAny_rule ?_)
    rw [if_pos (by simp)]
    exact wpAny_pure (wpAny_pure hQ)
  · rintro r s' ⟨rfl, _, h⟩
    cases h
theorem hash_K {K : Frag} {C f : Addr} {ox : Obj} {od : Option Obj} {Q : Int → Shared → Prop} (hu : A.units < cLine) (X : K.In s.heap) (I : InstAt s.heap i ox C od) (hs : findIn K (.ref C) "__hash__" = some (some (.ref f))) (hf : isFn K (.ref f) = true)
    (h : wpAny (model prog w) A (call (.ref f) [.ref i]) (fun v s' => ∃ k t, v = .int k t ∧ 0 ≤ k ∧ k < 2 ^ 32 ∧ Q k s') E s) : wpAny (model prog w) A (pyHash (.ref i)) Q E s := by
  show wpAny _ _ (pyHashByItsType (.ref i)) _ _ _
  unfold pyHashByItsType
  refine wpAny_bind (wpAny_cRoomFor hu ?_)
  refine wpAny_bind (wpAny_bind (I.type.here ((looks_findIn X hs).here ?_)))
  rw [if_neg (by simp)]
  refine wpAny_bind (wpAny_bind (I.type.here ((looks_findIn X hs).here ?_)))
  rw [if_neg (by simp)]
  have fin : wpAny (model prog w) A (call (.ref f) ([.ref i] ++ []) >>= fun v => pure (some v)) (fun r s' => ∃ k t, r = some (.int k t) ∧ 0 ≤ k ∧ k < 2 ^ 32 ∧ Q k s') E s := wpAny_bind (wpAny_mono h (fun v s' h' => by obtain ⟨k, t, rfl, a, b, c⟩ := h'; exact wpAny_pure ⟨k, t, rfl, a, b, c⟩) fun _ _ h' => h')
  refine wpAny_bind (wpAny_mono (Q := fun r s' => ∃ k t, r = some (.int k t) ∧ 0 ≤ k ∧ k < 2 ^ 32 ∧ Q k s') (E := E) ?_ (fun r s' hr => ?_) fun _ _ e => e)
  · simp only [callSpecialIfBoundUnlessNone?, bindSpecialIfBound?]
    refine wpAny_holding (wpAny_bind (wpAny_bind (wpAny_bind (I.type.here ((looks_findIn X hs).here ?_)))))
    refine wpAny_bind (wpAny_askSetting (wpAny_ite ?_))
    have hne : ¬ ((Value.ref f == Value.none) = true) := by simp
    split
    · refine wpAny_bind ((bind_fn X _ (beq_iff_eq.mp hf)).here (wpAny_pure ?_))
      dsimp only
      rw [if_neg hne]
      exact fin
    · refine wpAny_tryCatch (wpAny_bind ((bind_fn X _ (beq_iff_eq.mp hf)).here (wpAny_pure ?_)))
      dsimp only
      rw [if_neg hne]
      exact fin
  · obtain ⟨k, t, rfl, a, b, c⟩ := hr
    dsimp only
    unfold pyHashByItsType.reduced
    have h1 : (decide (-(2 ^ 63 : Int) ≤ k) && decide (k < 2 ^ 63)) = true := by
      rw [Bool.and_eq_true, decide_eq_true_eq, decide_eq_true_eq]; constructor <;> omega
    rw [if_pos h1, if_neg (by rw [beq_iff_eq]; omega)]
    exact wpAny_pure c
/-- the hash of an own object, where what is asked may make objects -/
def HashS (prog : Program) (w : World) (A : Around) (SP : Shared → Prop) (i : Addr) (k : Int) : Prop :=
  ∀ (s : Shared) (E : Value → Shared → Prop) (Q : Int → Shared → Prop), SP s → (∀ s', SP s' → Q k s') → wpAny (model prog w) A (pyHash (.ref i)) Q E s
/-- the entries of a dict whose keys are ids: each key has its own number -/
def IdKeys (es : List DictEntry) : Prop := (∀ (j j' : Nat) (e e' : DictEntry), es[j]? = some e → es[j']? = some e' → e.hash = e'.hash → j = j')
theorem dictGetS {SP : Shared → Prop} {r : Option Value} {Q : Option Value → Shared → Prop} (hS : SP s) (hH : HashS prog w A SP i k) (hd : ∀ s', SP s' → s'.heap.get? d = some (dictOf es ep)) (hI : IdKeys es) (hkey : ∀ e ∈ es, e.key = .ref i ↔ e.hash = k)
    (hr : (es.find? (·.hash == k)).map (·.val) = r) (hQ : ∀ s', SP s' → Q r s') : wpAny (model prog w) A (dictGet d (.ref i)) Q E s := by
  unfold dictGet
  try with_reducible refine wpAny_holding ?_
  refine wpAny_bind (hH s _ _ hS fun s' hS' => ?_)
  by_cases hex : ∃ e ∈ es, e.hash = k
  · obtain ⟨e, he, hk⟩ := hex
    obtain ⟨j, hj, rfl⟩ := List.getElem_of_mem he
    have hj' := List.getElem?_eq_getElem hj
    refine wpAny_bind (find_some (hd s' hS') rfl hj' hk ((hkey _ he).mpr hk) (fun j' e' h1 h2 => hI _ _ _ _ h1 hj' (h2.trans hk.symm)) (fun e' he' h1 => (hkey _ he').mp h1) ?_)
    refine wpAny_bind (wpAny_dictEntries (hd s' hS') rfl ?_)
    have hf : es.find? (·.hash == k) = some es[j] := by
      cases h : es.find? (·.hash == k) with
      | none => exact absurd (by simpa using hk) (List.find?_eq_none.mp h _ he)
      | some e2 =>
        have h1 := List.mem_of_find?_eq_some h
        have h2 := List.find?_some h
        obtain ⟨j2, hj2, rfl⟩ := List.getElem_of_mem h1
        have := hI j j2 _ _ hj' (List.getElem?_eq_getElem hj2) (by rw [hk]; exact (beq_iff_eq.mp h2).symm)
        subst this; rfl
    rw [hf] at hr
    subst hr
    rw [List.getElem?_toArray, hj']
    exact wpAny_pure (hQ s' hS')
  · have hno : ∀ e ∈ es, e.hash ≠ k := fun e he hk => hex ⟨e, he, hk⟩
    refine wpAny_bind (find_none (hd s' hS') rfl hno (fun e he h => hno e he ((hkey e he).mp h)) ?_)
    have hf : es.find? (·.hash == k) = none := List.find?_eq_none.mpr fun e he => by simpa using hno e he
    rw [hf] at hr
    subst hr
    exact wpAny_pure (hQ s' hS')
theorem get_call {SP : Shared → Prop} {r : Option Value} {dflt : Value} {Q : Value → Shared → Prop} (hS : SP s) (hH : HashS prog w A.in1 SP i k) (hd : ∀ s', SP s' → s'.heap.get? d = some (dictOf es ep)) (lo : (d == sysModules) = false) (hI : IdKeys es) (hkey : ∀ e ∈ es, e.key = .ref i ↔ e.hash = k)
    (hr : (es.find? (·.hash == k)).map (·.val) = r) (hQ : ∀ s', SP s' → Q (r.getD dflt) s') : wpAny (model prog w) A (call (.builtin "dict.get") [.ref d, .ref i, dflt]) Q E s := by
  have hd' := hd s hS
  refine wpAny_call (codeAny_call_builtin F.slot_dict_get.plain F.entry_dict_get (F.slot_dict_get.check _ _ _ _ _ _ _ _ (show s.TypeIs (.ref d) "dict" from ⟨_, hd', rfl⟩) (F.args_dict_get_3 _ _ _) ?_))
  show wpAny _ _ (dictGet d (.ref i) >>= _) _ _ s
  refine wpAny_bind (dictGetS hS hH hd hI hkey hr fun s' hS' => ?_)
  cases r with
  | some v => exact wpAny_pure (hQ s' hS')
  | none =>
    show wpAny _ _ (Builtin.Dict.missed d (.ref i) >>= _) _ _ _
    exact wpAny_bind (wpAny_missed_other lo (wpAny_pure (hQ s' hS')))
end
end Mine
namespace Mine
local macro_rules | `(tactic| walk_at "idle") => `(tactic| fail "idle")
local macro_rules | `(tactic| walk_at "idle") => `(tactic| fail "idle")
local macro_rules | `(tactic| walk_at "idle") => `(tactic| fail "idle")
local macro_rules | `(tactic| walk_at "idle") => `(tactic| fail "idle")
local macro_rules | `(tactic| walk_at "idle") => `(tactic| fail "idle")
local macro_rules | `(tactic| walk_at "idle") => `(tactic| fail "idle")
local macro_rules | `(tactic| walk_at "idle") => `(tactic| fail "idle")
local macro_rules | `(tactic| walk_at "idle") => `(tactic| fail "idle")
local macro_rules | `(tactic| walk_at "idle") => `(tactic| fail "idle")
local macro_rules | `(tactic| walk_at "idle") => `(tactic| fail "idle")
local macro_rules | `(tactic| walk_at "idle") => `(tactic| fail "idle")
theorem fresh26 : True := by
  w_top off
  trivial
local macro_rules | `(tactic| k_mem) => `(tactic| first | with_reducible assumption | with_reducible exact List.mem_cons_self .. | (with_reducible refine List.mem_cons_of_mem _ ?_; k_mem) | (with_reducible refine List.mem_append_left _ ?_; k_mem) | (with_reducible refine List.mem_append_right _ ?_; k_mem))
local macro_rules | `(tactic| k_room) => `(tactic| ((try simp only [depth_under_make, depth_under_kw, depth_in1, depth_deeper, depth_caller]); omega))
local macro_rules | `(tactic| k_units) => `(tactic| ((try simp only [units_under_make, units_in1, units_deeper, Around.mark_units, units_caller]); omega))
local macro_rules | `(tactic| k_all) => `(tactic| first | assumption | (refine List.forall_mem_append.mpr ⟨?_, ?_⟩ <;> k_all))
theorem hash_con (w : World) (mean : ExcName → Option Value) (mg mb : Str → Option Value) (k : Int) (hk3 : k = 1 ∨ k = 2 ∨ k = 3) : Con w mean mg mb 137 2 10
    (fun news args => ∃ i, args = [.ref i] ∧ IdIn news i k)
    (fun news _ r => ∃ t, r = .int k t) := by
  unfold Con
  k_fill
  intro A A₀ env outer base h₀ L m news vis s args R B F X N T hA hf hk hh hg hd hu hvis hp hR
  obtain ⟨i, rfl, d, h1, h2, t1, t1', t2, t2', n, i1, i2⟩ := hp
  have i1' := hvis _ i1
  have i2' := hvis _ i2
  rcases hk3 with rfl | rfl | rfl
  ·
    k_dflt (refine' code_def (K := Mine.hd.heap_39 w.params) (binds := [(Str.ofString "self", .ref i)]) B F X N T hA hf hk ?k6 ?k7 ?k8 ?k9 ?kB ?_ ?c2 ?c3 ?c4 ?c5; (case k6 => k_is); (case k7 => k_is); (case k9 => exact BindsTo.of_eq rfl); (case kB => exact locs rfl); (case c2 => exact rfl); (case c3 => exact rfl); (case c4 => exact rfl); (case c5 => decide); (case k8 => omega))
    intro g' L' h' FG' F' N' B' X' T'
    clear F N B X T
    try dsimp only
    k_fold
    k_steps
    show LeaveK _ _ _ _ _ _ _
    rename Fr _ _ _ _ => F2
    rename News _ _ _ _ => N2
    exact con_leave0 (tl := []) hR F2 (by rw [List.append_nil]; exact N2) Ord.nil ⟨_, rfl⟩
  ·
    k_dflt (refine' code_def (K := Mine.hd.heap_39 w.params) (binds := [(Str.ofString "self", .ref i)]) B F X N T hA hf hk ?k6 ?k7 ?k8 ?k9 ?kB ?_ ?c2 ?c3 ?c4 ?c5; (case k6 => k_is); (case k7 => k_is); (case k9 => exact BindsTo.of_eq rfl); (case kB => exact locs rfl); (case c2 => exact rfl); (case c3 => exact rfl); (case c4 => exact rfl); (case c5 => decide); (case k8 => omega))
    intro g' L' h' FG' F' N' B' X' T'
    clear F N B X T
    try dsimp only
    k_fold
    k_steps
    show LeaveK _ _ _ _ _ _ _
    rename Fr _ _ _ _ => F2
    rename News _ _ _ _ => N2
    exact con_leave0 (tl := []) hR F2 (by rw [List.append_nil]; exact N2) Ord.nil ⟨_, rfl⟩
  ·
    k_dflt (refine' code_def (K := Mine.hd.heap_39 w.params) (binds := [(Str.ofString "self", .ref i)]) B F X N T hA hf hk ?k6 ?k7 ?k8 ?k9 ?kB ?_ ?c2 ?c3 ?c4 ?c5; (case k6 => k_is); (case k7 => k_is); (case k9 => exact BindsTo.of_eq rfl); (case kB => exact locs rfl); (case c2 => exact rfl); (case c3 => exact rfl); (case c4 => exact rfl); (case c5 => decide); (case k8 => omega))
    intro g' L' h' FG' F' N' B' X' T'
    clear F N B X T
    try dsimp only
    k_fold
    k_steps
    show LeaveK _ _ _ _ _ _ _
    rename Fr _ _ _ _ => F2
    rename News _ _ _ _ => N2
    exact con_leave0 (tl := []) hR F2 (by rw [List.append_nil]; exact N2) Ord.nil ⟨_, rfl⟩
end Mine
namespace Mine
def app (σ : List (Atom × Tree)) (a : Atom) : Tree := (σ.lookup a).getD (.leaf a)
def mkU : List Tree → Tree
  | [] => .leaf .nev
  | [t] => t
  | ts => .node .union (flats ts)
mutual
def exp (σ : List (Atom × Tree)) : Tree → Tree
  | .leaf a => app σ a
  | .node g ps => if g = .union then mkU (rt [] (flats (exps σ ps))) else .node g (exps σ ps)
def exps (σ : List (Atom × Tree)) : List Tree → List Tree
  | [] => []
  | p :: r => exp σ p :: exps σ r
end
theorem exps_map (σ : List (Atom × Tree)) (ts : List Tree) : exps σ ts = ts.map (exp σ) := by
  induction ts with
  | nil => simp [exps]
  | cons t r ih => simp [exps, ih]
theorem exps_get {σ : List (Atom × Tree)} {ts : List Tree} {i : Nat} {t : Tree} (h : ts[i]? = some t) : (exps σ ts)[i]? = some (exp σ t) := by
  rw [exps_map, List.getElem?_map, h]; rfl
def isVar : Atom → Bool
  | .S | .T | .U => true
  | _ => false
/-- where a variable's id lies -/
def IdAt (W : Wd) (news : Led) (a : Atom) (i : Addr) : Prop :=
  ∃ d h1 h2 h3 h4 h5 t1 t1' t2 t3 t4 t5 t5' l n, (W.at_ a, instObj 190 d) ∈ news ∧ (d, dictOf [⟨h1, .str "name" t1, .str (nmOf (.leaf a)) t1'⟩, ⟨h2, .str "id" t2, .ref i⟩, ⟨h3, .str "upper_bound" t3, .ref (W.at_ .obj)⟩, ⟨h4, .str "values" t4, .ref l⟩, ⟨h5, .str "variance" t5, .int 0 t5'⟩] n) ∈ news ∧ IdIn news i (idOf' (.leaf a))
def EntIn (W : Wd) (news : Led) : List (Atom × Tree) → List DictEntry → Prop
  | [], es => es = []
  | (a, t) :: r, es => ∃ i v es', es = ⟨idOf' (.leaf a), .ref i, v⟩ :: es' ∧ isVar a = true ∧ IdAt W news a i ∧ TypIn W news t v ∧ EntIn W news r es'
def DictIn (W : Wd) (news : Led) (σ : List (Atom × Tree)) (e : Addr) : Prop := ∃ es ep, (e, dictOf es ep) ∈ news ∧ EntIn W news σ es ∧ (e == sysModules) = false
def EnvIn (W : Wd) (news : Led) (σ : List (Atom × Tree)) (v : Addr) : Prop :=
  ∃ dv e h1 t1 n1, (v, instObj 550 dv) ∈ news ∧ (dv, dictOf [⟨h1, .str "variables" t1, .ref e⟩] n1) ∈ news ∧ DictIn W news σ e
section
variable {W : Wd} {iA iB iC io : Addr} {news news' : Led}
theorem IdIn.mono {i : Addr} {k : Int} (hs : ∀ p ∈ news, p ∈ news') (h : IdIn news i k) : IdIn news' i k := by
  obtain ⟨d, h6, h7, t6, t6', t7, t7', n', a, b⟩ := h; exact ⟨d, h6, h7, t6, t6', t7, t7', n', hs _ a, hs _ b⟩
theorem IdAt.mono {a : Atom} {i : Addr} (hs : ∀ p ∈ news, p ∈ news') (h : IdAt W news a i) : IdAt W news' a i := by
  obtain ⟨d, h1, h2, h3, h4, h5, t1, t1', t2, t3, t4, t5, t5', l, n, a, b, c⟩ := h
  exact ⟨d, h1, h2, h3, h4, h5, t1, t1', t2, t3, t4, t5, t5', l, n, hs _ a, hs _ b, c.mono hs⟩
theorem EntIn.mono (hs : ∀ p ∈ news, p ∈ news') : ∀ {σ : List (Atom × Tree)} {es : List DictEntry}, EntIn W news σ es → EntIn W news' σ es
  | [], _, h => h
  | (a, t) :: r, _, h => by
    simp only [EntIn] at h ⊢
    obtain ⟨i, v, es', e, h1, h2, h3, h4⟩ := h
    exact ⟨i, v, es', e, h1, h2.mono hs, h3.mono hs, EntIn.mono hs h4⟩
theorem DictIn.mono {σ : List (Atom × Tree)} {e : Addr} (hs : ∀ p ∈ news, p ∈ news') (h : DictIn W news σ e) : DictIn W news' σ e := by
  obtain ⟨es, ep, a, b, c⟩ := h; exact ⟨es, ep, hs _ a, b.mono hs, c⟩
theorem EnvIn.mono {σ : List (Atom × Tree)} {v : Addr} (hs : ∀ p ∈ news, p ∈ news') (h : EnvIn W news σ v) : EnvIn W news' σ v := by
  obtain ⟨dv, e, h1, t1, n1, a, b, c⟩ := h; exact ⟨dv, e, h1, t1, n1, hs _ a, hs _ b, c.mono hs⟩
theorem IdIn.uniq (S : Sv news) {i : Addr} {k k' : Int} (h : IdIn news i k) (h' : IdIn news i k') : k = k' := by
  obtain ⟨d, h6, h7, t6, t6', t7, t7', n', a, b⟩ := h
  obtain ⟨d2, h6', h7', u6, u6', u7, u7', n2', a2, b2⟩ := h'
  obtain ⟨-, rfl⟩ := inst_inj (S _ _ _ a a2)
  have e := dict_inj (S _ _ _ b b2)
  simp only [List.cons.injEq, DictEntry.mk.injEq, Value.int.injEq, and_true] at e
  exact e.1.2.2.1
theorem IdAt.uniq (S : Sv news) {a : Atom} {i j : Addr} (h : IdAt W news a i) (h' : IdAt W news a j) : i = j := by
  obtain ⟨d, h1, h2, h3, h4, h5, t1, t1', t2, t3, t4, t5, t5', l, n, a1, b1, c1⟩ := h
  obtain ⟨d', h1', h2', h3', h4', h5', u1, u1', u2, u3, u4, u5, u5', l', n', a2, b2, c2⟩ := h'
  obtain ⟨-, rfl⟩ := inst_inj (S _ _ _ a1 a2)
  have e := dict_inj (S _ _ _ b1 b2)
  simp only [List.cons.injEq, DictEntry.mk.injEq, Value.ref.injEq, and_true] at e
  exact e.2.1.2.2
theorem var_inj {a b : Atom} (ha : isVar a = true) (hb : isVar b = true) (h : idOf' (.leaf a) = idOf' (.leaf b)) : a = b := by
  cases a <;> first | exact absurd ha (by decide) | (cases b <;> first | rfl | exact absurd hb (by decide) | exact absurd h (by decide))
theorem EntIn.get : ∀ {σ : List (Atom × Tree)} {es : List DictEntry}, EntIn W news σ es → ∀ (j : Nat) (e : DictEntry), es[j]? = some e → ∃ a t i v, σ[j]? = some (a, t) ∧ e = ⟨idOf' (.leaf a), .ref i, v⟩ ∧ isVar a = true ∧ IdAt W news a i ∧ TypIn W news t v
  | [], _, h, j, e, he => by simp only [EntIn] at h; subst h; simp at he
  | (a, t) :: r, _, h, j, e, he => by
    simp only [EntIn] at h
    obtain ⟨i, v, es', rfl, h1, h2, h3, h4⟩ := h
    cases j with
    | zero => simp at he; subst he; exact ⟨a, t, i, v, rfl, rfl, h1, h2, h3⟩
    | succ j => simp only [List.getElem?_cons_succ] at he ⊢; exact EntIn.get h4 j e he
theorem ent_idKeys {σ : List (Atom × Tree)} {es : List DictEntry} (h : EntIn W news σ es) (hn : (σ.map (·.1)).Nodup) : IdKeys es := by
  intro j j' e e' h1 h2 hh
  obtain ⟨a, t, i, v, g1, rfl, g2, g3, g4⟩ := h.get j e h1
  obtain ⟨a', t', i', v', g1', rfl, g2', g3', g4'⟩ := h.get j' e' h2
  have ea := var_inj g2 g2' hh
  subst ea
  have k1 : (σ.map (·.1))[j]? = some a := by rw [List.getElem?_map, g1]; rfl
  have k2 : (σ.map (·.1))[j']? = some a := by rw [List.getElem?_map, g1']; rfl
  obtain ⟨l1, e1⟩ := List.getElem?_eq_some_iff.mp k1
  obtain ⟨l2, e2⟩ := List.getElem?_eq_some_iff.mp k2
  have hp := List.pairwise_iff_getElem.mp hn
  rcases Nat.lt_trichotomy j j' with q | q | q
  · exact absurd (e1.trans e2.symm) (hp j j' l1 l2 q)
  · exact q
  · exact absurd (e2.trans e1.symm) (hp j' j l2 l1 q)
theorem ent_key (S : Sv news) {σ : List (Atom × Tree)} {es : List DictEntry} (h : EntIn W news σ es) {a : Atom} {i : Addr} (ha : isVar a = true) (hi : IdAt W news a i) : ∀ e ∈ es, e.key = .ref i ↔ e.hash = idOf' (.leaf a) := by
  intro e he
  obtain ⟨j, hj, rfl⟩ := List.getElem_of_mem he
  obtain ⟨a', t', i', v', g1, g2, g3, g4, g5⟩ := h.get j _ (List.getElem?_eq_getElem hj)
  rw [g2]
  constructor
  · intro e1
    simp only [Value.ref.injEq] at e1
    subst e1
    obtain ⟨d, h1, h2, h3, h4, h5, t1, t1', t2, t3, t4, t5, t5', l, n, a1, b1, c1⟩ := hi
    obtain ⟨_, _, _, _, _, _, _, _, _, _, _, _, _, _, _, _, _, c2⟩ := g4
    exact c2.uniq S c1
  · intro e1
    have := var_inj g3 ha e1
    subst this
    exact congrArg Value.ref (g4.uniq S hi)
theorem ent_find {a : Atom} (ha : isVar a = true) : ∀ {σ : List (Atom × Tree)} {es : List DictEntry}, EntIn W news σ es → match σ.lookup a with
    | some t => ∃ v, (es.find? (·.hash == idOf' (.leaf a))).map (·.val) = some v ∧ TypIn W news t v
    | none => (es.find? (·.hash == idOf' (.leaf a))).map (·.val) = none
  | [], _, h => by simp only [EntIn] at h; subst h; simp
  | (b, t) :: r, _, h => by
    simp only [EntIn] at h
    obtain ⟨i, v, es', rfl, h1, h2, h3, h4⟩ := h
    by_cases hab : a = b
    · subst hab
      simp only [List.lookup_cons, beq_self_eq_true, List.find?_cons]
      exact ⟨v, rfl, h3⟩
    · have e1 : (a == b) = false := beq_false_of_ne hab
      have e2 : (idOf' (.leaf b) == idOf' (.leaf a)) = false := beq_false_of_ne fun e => hab (var_inj ha h1 e.symm)
      simp only [List.lookup_cons, e1, List.find?_cons, e2]
      exact ent_find ha h4
end
/-- the accept of a class -/
def accf (C : Addr) : Addr := if C = 190 then 180 else if C = 224 then 214 else if C = 258 then 248 else if C = 284 then 281 else if C = 324 then 307 else 362
end Mine
namespace Mine
local macro_rules | `(tactic| walk_at "idle") => `(tactic| fail "idle")
theorem fresh28 : True := by
  w_top off
  trivial
local macro_rules | `(tactic| k_mem) => `(tactic| first | with_reducible assumption | with_reducible exact List.mem_cons_self .. | (with_reducible refine List.mem_cons_of_mem _ ?_; k_mem) | (with_reducible refine List.mem_append_left _ ?_; k_mem) | (with_reducible refine List.mem_append_right _ ?_; k_mem))
local macro_rules | `(tactic| k_room) => `(tactic| ((try simp only [depth_under_make, depth_under_kw, depth_in1, depth_deeper, depth_caller]); omega))
local macro_rules | `(tactic| k_units) => `(tactic| ((try simp only [units_under_make, units_in1, units_deeper, Around.mark_units, units_caller]); omega))
local macro_rules | `(tactic| k_all) => `(tactic| first | assumption | (refine List.forall_mem_append.mpr ⟨?_, ?_⟩ <;> k_all))
local macro_rules | `(tactic| k_enter) => `(tactic| (refine' code_def ?k1 ?k2 ?k3 ?k4 ?k5 ?kA ?kF ?kK ?k6 ?k7 ?k8 ?k9 ?kB ?_ ?c2 ?c3 ?c4 ?c5; (case kA => first | exact Around.frames_deeper (Below.stack (by assumption)) | assumption); (case kF => exact rfl); (case kK => exact rfl); (case k1 => k_asm); (case k2 => k_asm); (case k3 => k_asm); (case k4 => k_asm); (case k5 => k_asm); (case k6 => k_is); (case k7 => k_is); (case k8 => k_room); (case k9 => first | exact BindsTo.of_eq rfl | exact binds_K (by k_in) rfl (by k_is) rfl rfl rfl); (case c5 => decide); (case kB => exact locs rfl); (case c2 => exact rfl); (case c3 => exact rfl); (case c4 => exact rfl); k_whole; intro g' L' h' FG' F' N' B' X' T'; (try dsimp only); (try k_fold)))
local macro_rules | `(tactic| walk_at "call ref") => `(tactic| (k_here; (with_reducible show wpAny _ _ (call (Value.ref 540) _ _) _ _ _); refine wpAny_call ?_))
local macro_rules | `(tactic| walk_at "call ref") => `(tactic| (k_here; (with_reducible show wpAny _ _ (call (Value.ref 533) _ _) _ _ _); refine wpAny_call ?_))
local macro_rules | `(tactic| walk_at "call ref") => `(tactic| (k_here; (with_reducible show wpAny _ _ (call (Value.ref 547) _ _) _ _ _); refine wpAny_call ?_))
local macro_rules | `(tactic| walk_at "call ref") => `(tactic| (k_here; (with_reducible show wpAny _ _ (call (Value.ref 428) _ _) _ _ _); refine wpAny_call ?_))
local macro_rules | `(tactic| walk_at "call ref") => `(tactic| (k_here; (with_reducible show wpAny _ _ (call (Value.ref 374) _ _) _ _ _); refine wpAny_call ?_))
local macro_rules | `(tactic| walk_at "call ref") => `(tactic| (k_here; (with_reducible show wpAny _ _ (call (Value.ref 559) _ _) _ _ _); refine wpAny_call ?_))
local macro_rules | `(tactic| walk_at "call ref") => `(tactic| (k_here; (with_reducible show wpAny _ _ (call (Value.ref 365) _ _) _ _ _); refine wpAny_call ?_))
local macro_rules | `(tactic| walk_at "call ref") => `(tactic| (k_here; (with_reducible show wpAny _ _ (call (Value.ref 324) _ _) _ _ _); refine wpAny_call ?_))
local macro_rules | `(tactic| walk_at "call ref") => `(tactic| (k_here; (with_reducible show wpAny _ _ (call (Value.ref 352) _ _) _ _ _); refine wpAny_call ?_))
local macro_rules | `(tactic| walk_at "call builtin:dict.get") => `(tactic| (k_here; refine hold ?_))
local macro_rules | `(tactic| walk_at "eval ListComp") => `(tactic| (k_here; refine hold ?_))
theorem visV_con (w : World) (mean : ExcName → Option Value) (mg mb : Str → Option Value) (W : Wd) (iA iB iC io : Addr) (σ : List (Atom × Tree)) (hσ : (σ.map (·.1)).Nodup) (t : Tree) (hc : cls t = 190) : Con w mean mg mb 540 4 30
    (fun news args => Sv news ∧ WIn W iA iB iC io news ∧ ∃ x v, args = [.ref v, x] ∧ TypIn W news t x ∧ EnvIn W news σ v)
    (fun news _ r => TypIn W news (exp σ t) r) := by
  unfold Con
  k_fill
  intro A A₀ env outer base h₀ L m news vis s args R B F X N T hA hf hk hh hg hd hu hvis hp hR
  obtain ⟨S, WI, x, v, rfl, hx, dv, e, q1, u1, n1, e1, e2, es, ep, e3, ee, lo9⟩ := hp
  have hx0 := hx
  obtain ⟨x, rfl, d, i, di, l, h1, h2, h3, h4, h5, t1, t1', t2, t3, t4, t5, t5', h6, h7, t6, t6', t7, t7', k, k', k'', i1, i2, i3, i4, i5⟩ := typ190 WI hc hx
  have i1' := hvis _ i1
  have i2' := hvis _ i2
  have i3' := hvis _ i3
  have i4' := hvis _ i4
  have e1' := hvis _ e1
  have e2' := hvis _ e2
  have e3' := hvis _ e3
  k_dflt (refine' code_def (K := Mine.hd.heap_39 w.params) (binds := [(Str.ofString "self", .ref v), (Str.ofString "t", .ref x)]) B F X N T hA hf hk ?k6 ?k7 ?k8 ?k9 ?kB ?_ ?c2 ?c3 ?c4 ?c5; (case k6 => k_is); (case k7 => k_is); (case k9 => exact BindsTo.of_eq rfl); (case kB => exact locs rfl); (case c2 => exact rfl); (case c3 => exact rfl); (case c4 => exact rfl); (case c5 => decide); (case k8 => omega))
  intro g' L' h' FG' F' N' B' X' T'
  clear F N B X T
  try dsimp only
  k_fold
  k_steps
  refine getMethod_builtin (T := "dict") ⟨_, (N' _ e3').1, rfl⟩ F.plainAttrs_dict F.slot_dict_get F.type_dict_get (fun a ha => by cases ha; exact ⟨_, (N' _ e3').1, rfl⟩) ?_
  k_steps
  have hvar : ∃ a, t = .leaf a ∧ isVar a = true := by
    cases t with
    | leaf a => exact ⟨a, rfl, by cases a <;> simp only [cls] at hc <;> first | rfl | exact absurd hc (by decide)⟩
    | node g ps => cases g <;> simp only [cls] at hc <;> exact absurd hc (by decide)
  obtain ⟨a, rfl, ha⟩ := hvar
  have hat : W.at_ a = x := by cases a <;> simp only [TypIn, cls] at hx0 hc <;> first | (cases hx0; rfl) | exact absurd hc (by decide)
  subst hat
  have hid : IdAt W vis a i := ⟨d, _, _, _, _, _, _, _, _, _, _, _, _, _, _, i1, i2, di, _, _, _, _, _, _, _, i3, i4⟩
  refine get_call (SP := SpOf g' L' _ news _) (k := idOf' (.leaf a)) (es := es) (ep := ep) (sp_here F' N') ?hH ?hd lo9 (ent_idKeys ee hσ) (ent_key S ee ha hid) rfl ?_
  case hd => rintro _ ⟨h, tk, rfl, F3, N3⟩; exact (N3 _ e3').1
  case hH =>
    rintro _ E Q ⟨h, tk, rfl, F3, N3⟩ hQ
    refine hash_K (K := Mine.hd.heap_39 w.params) (C := 147) (f := 137) ((by (try simp only [units_under_make, units_in1, units_deeper, Around.mark_units, units_caller]); omega)) (X'.keeps F3.keep) (InstAt.of_news N3 i3' i4') (by k_is) (by k_is) ?_
    refine wpAny_call ?_
    have h3 : idOf' (.leaf a) = 1 ∨ idOf' (.leaf a) = 2 ∨ idOf' (.leaf a) = 3 := by cases a <;> simp [idOf']
    clear F' N'
    k_dflt (refine' con_use (hash_con w mean mg mb (idOf' (.leaf a)) h3) (vis) ?k1 ?k2 ?k3 ?k4 ?k5 ?kA ?kF ?kK ?kh ?kg ?kd ?ku ?kv ?pre ?_; (case k1 => k_asm); (case k2 => k_asm); (case k3 => k_asm); (case k4 => k_asm); (case k5 => k_asm); (case kA => first | exact Around.frames_deeper (Below.stack (by assumption)) | assumption); (case kF => exact rfl); (case kK => exact rfl); (case kh => first | exact hh | exact rfl | assumption); (case kg => first | exact hg | exact rfl | assumption); (case kd => ((try simp only [depth_under_make, depth_under_kw, depth_in1, depth_deeper, depth_caller]); omega)); (case ku => ((try simp only [units_under_make, units_in1, units_deeper, Around.mark_units, units_caller]); omega)))
    case kv => exact hvis
    case pre => exact ⟨i, rfl, di, _, _, _, _, _, _, _, i3, i4⟩
    rintro r tl h9 tk9 F9 N9 O9 ⟨t9, rfl⟩
    exact ⟨_, t9, rfl, by rcases h3 with h | h | h <;> rw [h] <;> decide, by rcases h3 with h | h | h <;> rw [h] <;> decide, hQ _ ⟨h9, tk9, rfl, F9, News.sub N9 fun p hp => List.mem_append_left _ hp⟩⟩
  rintro _ ⟨h5, tk5, rfl, F5, N5⟩
  have hf := ent_find ha ee
  clear F' N'
  cases hl : σ.lookup a with
  | none =>
    rw [hl] at hf
    rw [hf]
    k_steps
    show LeaveK _ _ _ _ _ _ _
    rename Fr _ _ _ _ => F2
    rename News _ _ _ _ => N2
    refine con_leave0 (tl := []) hR F2 (by rw [List.append_nil]; exact N2) Ord.nil ?_
    rw [List.append_nil, exp, app, hl]
    exact hx0
  | some u =>
    rw [hl] at hf
    obtain ⟨v9, hv9, tv9⟩ := hf
    rw [hv9]
    k_steps
    show LeaveK _ _ _ _ _ _ _
    rename Fr _ _ _ _ => F2
    rename News _ _ _ _ => N2
    refine con_leave0 (tl := []) hR F2 (by rw [List.append_nil]; exact N2) Ord.nil ?_
    rw [List.append_nil, exp, app, hl]
    exact tv9
/-- what is asked of an accept and what it gives -/
def PreA (W : Wd) (iA iB iC io : Addr) (σ : List (Atom × Tree)) (t : Tree) (news : Led) (args : List Value) : Prop := Sv news ∧ WIn W iA iB iC io news ∧ ∃ x v, args = [x, .ref v] ∧ TypIn W news t x ∧ EnvIn W news σ v
def PreV (W : Wd) (iA iB iC io : Addr) (σ : List (Atom × Tree)) (t : Tree) (news : Led) (args : List Value) : Prop := Sv news ∧ WIn W iA iB iC io news ∧ ∃ x v, args = [.ref v, x] ∧ TypIn W news t x ∧ EnvIn W news σ v
def PreT (W : Wd) (iA iB iC io : Addr) (σ : List (Atom × Tree)) (ts : List Tree) (news : Led) (args : List Value) : Prop := Sv news ∧ WIn W iA iB iC io news ∧ ∃ v l o vs, args = [.ref v, .ref l] ∧ (l, o) ∈ news ∧ SeqOf o vs ∧ TypsIn W news ts vs ∧ EnvIn W news σ v
def PostA (W : Wd) (σ : List (Atom × Tree)) (t : Tree) (news : Led) (_ : List Value) (r : Value) : Prop := TypIn W news (exp σ t) r
def PostT (W : Wd) (σ : List (Atom × Tree)) (ts : List Tree) (news : Led) (_ : List Value) (r : Value) : Prop := ∃ l vs k, r = .ref l ∧ (l, PySem.W.listOf vs.toArray k) ∈ news ∧ TypsIn W news (exps σ ts) vs
theorem ent_vars {W : Wd} {news : Led} {a : Atom} {t : Tree} : ∀ {σ : List (Atom × Tree)} {es : List DictEntry}, EntIn W news σ es → σ.lookup a = some t → isVar a = true
  | [], _, _, h => by simp at h
  | (b, u) :: r, _, he, h => by
    simp only [EntIn] at he
    obtain ⟨i, v, es', rfl, h1, h2, h3, h4⟩ := he
    by_cases hab : a = b
    · rw [hab]; exact h1
    · simp only [List.lookup_cons, beq_false_of_ne hab] at h
      exact ent_vars h4 h
theorem exp_same {W : Wd} {news : Led} {σ : List (Atom × Tree)} {es : List DictEntry} (he : EntIn W news σ es) {a : Atom} (ha : isVar a = false) : exp σ (.leaf a) = .leaf a := by
  rw [exp, app]
  cases h : σ.lookup a with
  | none => rfl
  | some t => rw [ent_vars he h] at ha; cases ha
theorem visV_con' (w : World) (mean : ExcName → Option Value) (mg mb : Str → Option Value) (W : Wd) (iA iB iC io : Addr) (σ : List (Atom × Tree)) (hσ : (σ.map (·.1)).Nodup) (t : Tree) (hc : cls t = 190) : Con w mean mg mb 540 4 30 (PreV W iA iB iC io σ t) (PostA W σ t) := visV_con w mean mg mb W iA iB iC io σ hσ t hc
theorem accV_con (w : World) (mean : ExcName → Option Value) (mg mb : Str → Option Value) (W : Wd) (iA iB iC io : Addr) (σ : List (Atom × Tree)) (t : Tree) (hc : cls t = 190) (d u : Nat) (C : Con w mean mg mb 540 d u (PreV W iA iB iC io σ t) (PostA W σ t)) : Con w mean mg mb 180 (d + 2) (u + 10) (PreA W iA iB iC io σ t) (PostA W σ t) := by
  unfold Con
  k_fill
  intro A A₀ env outer base h₀ L m news vis s args R B F X N T hA hf hk hh hg hd hu hvis hp hR
  obtain ⟨S, WI, x, v, rfl, hx, he⟩ := hp
  have he0 := he
  obtain ⟨dv, e, q1, u1, n1, e1, e2, ee⟩ := he
  obtain ⟨x, dx, es, nn, rfl, i1, i2⟩ := typ_inst WI hx
  have i1' := hvis _ i1
  have i2' := hvis _ i2
  have e1' := hvis _ e1
  have e2' := hvis _ e2
  k_dflt (refine' code_def (K := Mine.hd.heap_39 w.params) (binds := [(Str.ofString "self", .ref x), (Str.ofString "visitor", .ref v)]) B F X N T hA hf hk ?k6 ?k7 ?k8 ?k9 ?kB ?_ ?c2 ?c3 ?c4 ?c5; (case k6 => k_is); (case k7 => k_is); (case k9 => exact BindsTo.of_eq rfl); (case kB => exact locs rfl); (case c2 => exact rfl); (case c3 => exact rfl); (case c4 => exact rfl); (case c5 => decide); (case k8 => omega))
  intro g' L' h' FG' F' N' B' X' T'
  clear F N B X T
  try dsimp only
  k_fold
  k_steps
  k_dflt (refine' con_use (C) (vis) ?k1 ?k2 ?k3 ?k4 ?k5 ?kA ?kF ?kK ?kh ?kg ?kd ?ku ?kv ?pre ?_; (case k1 => k_asm); (case k2 => k_asm); (case k3 => k_asm); (case k4 => k_asm); (case k5 => k_asm); (case kA => first | exact Around.frames_deeper (Below.stack (by assumption)) | assumption); (case kF => exact rfl); (case kK => exact rfl); (case kh => first | exact hh | exact rfl | assumption); (case kg => first | exact hg | exact rfl | assumption); (case kd => ((try simp only [depth_under_make, depth_under_kw, depth_in1, depth_deeper, depth_caller]); omega)); (case ku => ((try simp only [units_under_make, units_in1, units_deeper, Around.mark_units, units_caller]); omega)))
  case kv => exact hvis
  case pre => exact ⟨S, WI, _, _, rfl, hx, he0⟩
  intro r tl h9 tk9 F9 N9 O9 P9
  dsimp only
  show LeaveK _ _ _ _ _ _ _
  exact con_leave0 (tl := tl) hR F9 N9 O9 P9
theorem accI_con (w : World) (mean : ExcName → Option Value) (mg mb : Str → Option Value) (W : Wd) (iA iB iC io : Addr) (σ : List (Atom × Tree)) (t : Tree) (hc : cls t = 324) (d u : Nat) (C : Con w mean mg mb 533 d u (PreV W iA iB iC io σ t) (PostA W σ t)) : Con w mean mg mb 307 (d + 2) (u + 10) (PreA W iA iB iC io σ t) (PostA W σ t) := by
  unfold Con
  k_fill
  intro A A₀ env outer base h₀ L m news vis s args R B F X N T hA hf hk hh hg hd hu hvis hp hR
  obtain ⟨S, WI, x, v, rfl, hx, he⟩ := hp
  have he0 := he
  obtain ⟨dv, e, q1, u1, n1, e1, e2, ee⟩ := he
  obtain ⟨x, dx, es, nn, rfl, i1, i2⟩ := typ_inst WI hx
  have i1' := hvis _ i1
  have i2' := hvis _ i2
  have e1' := hvis _ e1
  have e2' := hvis _ e2
  k_dflt (refine' code_def (K := Mine.hd.heap_39 w.params) (binds := [(Str.ofString "self", .ref x), (Str.ofString "visitor", .ref v)]) B F X N T hA hf hk ?k6 ?k7 ?k8 ?k9 ?kB ?_ ?c2 ?c3 ?c4 ?c5; (case k6 => k_is); (case k7 => k_is); (case k9 => exact BindsTo.of_eq rfl); (case kB => exact locs rfl); (case c2 => exact rfl); (case c3 => exact rfl); (case c4 => exact rfl); (case c5 => decide); (case k8 => omega))
  intro g' L' h' FG' F' N' B' X' T'
  clear F N B X T
  try dsimp only
  k_fold
  k_steps
  k_dflt (refine' con_use (C) (vis) ?k1 ?k2 ?k3 ?k4 ?k5 ?kA ?kF ?kK ?kh ?kg ?kd ?ku ?kv ?pre ?_; (case k1 => k_asm); (case k2 => k_asm); (case k3 => k_asm); (case k4 => k_asm); (case k5 => k_asm); (case kA => first | exact Around.frames_deeper (Below.stack (by assumption)) | assumption); (case kF => exact rfl); (case kK => exact rfl); (case kh => first | exact hh | exact rfl | assumption); (case kg => first | exact hg | exact rfl | assumption); (case kd => ((try simp only [depth_under_make, depth_under_kw, depth_in1, depth_deeper, depth_caller]); omega)); (case ku => ((try simp only [units_under_make, units_in1, units_deeper, Around.mark_units, units_caller]); omega)))
  case kv => exact hvis
  case pre => exact ⟨S, WI, _, _, rfl, hx, he0⟩
  intro r tl h9 tk9 F9 N9 O9 P9
  dsimp only
  show LeaveK _ _ _ _ _ _ _
  exact con_leave0 (tl := tl) hR F9 N9 O9 P9
theorem accU_con (w : World) (mean : ExcName → Option Value) (mg mb : Str → Option Value) (W : Wd) (iA iB iC io : Addr) (σ : List (Atom × Tree)) (t : Tree) (hc : cls t = 365) (d u : Nat) (C : Con w mean mg mb 547 d u (PreV W iA iB iC io σ t) (PostA W σ t)) : Con w mean mg mb 362 (d + 2) (u + 10) (PreA W iA iB iC io σ t) (PostA W σ t) := by
  unfold Con
  k_fill
  intro A A₀ env outer base h₀ L m news vis s args R B F X N T hA hf hk hh hg hd hu hvis hp hR
  obtain ⟨S, WI, x, v, rfl, hx, he⟩ := hp
  have he0 := he
  obtain ⟨dv, e, q1, u1, n1, e1, e2, ee⟩ := he
  obtain ⟨x, dx, es, nn, rfl, i1, i2⟩ := typ_inst WI hx
  have i1' := hvis _ i1
  have i2' := hvis _ i2
  have e1' := hvis _ e1
  have e2' := hvis _ e2
  k_dflt (refine' code_def (K := Mine.hd.heap_39 w.params) (binds := [(Str.ofString "self", .ref x), (Str.ofString "visitor", .ref v)]) B F X N T hA hf hk ?k6 ?k7 ?k8 ?k9 ?kB ?_ ?c2 ?c3 ?c4 ?c5; (case k6 => k_is); (case k7 => k_is); (case k9 => exact BindsTo.of_eq rfl); (case kB => exact locs rfl); (case c2 => exact rfl); (case c3 => exact rfl); (case c4 => exact rfl); (case c5 => decide); (case k8 => omega))
  intro g' L' h' FG' F' N' B' X' T'
  clear F N B X T
  try dsimp only
  k_fold
  k_steps
  k_dflt (refine' con_use (C) (vis) ?k1 ?k2 ?k3 ?k4 ?k5 ?kA ?kF ?kK ?kh ?kg ?kd ?ku ?kv ?pre ?_; (case k1 => k_asm); (case k2 => k_asm); (case k3 => k_asm); (case k4 => k_asm); (case k5 => k_asm); (case kA => first | exact Around.frames_deeper (Below.stack (by assumption)) | assumption); (case kF => exact rfl); (case kK => exact rfl); (case kh => first | exact hh | exact rfl | assumption); (case kg => first | exact hg | exact rfl | assumption); (case kd => ((try simp only [depth_under_make, depth_under_kw, depth_in1, depth_deeper, depth_caller]); omega)); (case ku => ((try simp only [units_under_make, units_in1, units_deeper, Around.mark_units, units_caller]); omega)))
  case kv => exact hvis
  case pre => exact ⟨S, WI, _, _, rfl, hx, he0⟩
  intro r tl h9 tk9 F9 N9 O9 P9
  dsimp only
  show LeaveK _ _ _ _ _ _ _
  exact con_leave0 (tl := tl) hR F9 N9 O9 P9
theorem accAny_con (w : World) (mean : ExcName → Option Value) (mg mb : Str → Option Value) (W : Wd) (iA iB iC io : Addr) (σ : List (Atom × Tree)) : Con w mean mg mb 214 4 20 (PreA W iA iB iC io σ (.leaf .any)) (PostA W σ (.leaf .any)) := by
  unfold Con
  k_fill
  intro A A₀ env outer base h₀ L m news vis s args R B F X N T hA hf hk hh hg hd hu hvis hp hR
  obtain ⟨S, WI, x, v, rfl, hx, dv, e, q1, u1, n1, e1, e2, es0, ep, e3, ee, lo9⟩ := hp
  obtain ⟨x, dx, es, nn, rfl, i1, i2⟩ := typ_inst WI hx
  have i1' := hvis _ i1
  have i2' := hvis _ i2
  have e1' := hvis _ e1
  have e2' := hvis _ e2
  k_dflt (refine' code_def (K := Mine.hd.heap_39 w.params) (binds := [(Str.ofString "self", .ref x), (Str.ofString "visitor", .ref v)]) B F X N T hA hf hk ?k6 ?k7 ?k8 ?k9 ?kB ?_ ?c2 ?c3 ?c4 ?c5; (case k6 => k_is); (case k7 => k_is); (case k9 => exact BindsTo.of_eq rfl); (case kB => exact locs rfl); (case c2 => exact rfl); (case c3 => exact rfl); (case c4 => exact rfl); (case c5 => decide); (case k8 => omega))
  intro g' L' h' FG' F' N' B' X' T'
  clear F N B X T
  try dsimp only
  k_fold
  k_steps
  show LeaveK _ _ _ _ _ _ _
  rename Fr _ _ _ _ => F2
  rename News _ _ _ _ => N2
  refine con_leave0 (tl := []) hR F2 (by rw [List.append_nil]; exact N2) Ord.nil ?_
  rw [List.append_nil, PostA, exp_same ee rfl]
  exact hx
theorem accNev_con (w : World) (mean : ExcName → Option Value) (mg mb : Str → Option Value) (W : Wd) (iA iB iC io : Addr) (σ : List (Atom × Tree)) : Con w mean mg mb 248 4 20 (PreA W iA iB iC io σ (.leaf .nev)) (PostA W σ (.leaf .nev)) := by
  unfold Con
  k_fill
  intro A A₀ env outer base h₀ L m news vis s args R B F X N T hA hf hk hh hg hd hu hvis hp hR
  obtain ⟨S, WI, x, v, rfl, hx, dv, e, q1, u1, n1, e1, e2, es0, ep, e3, ee, lo9⟩ := hp
  obtain ⟨x, dx, es, nn, rfl, i1, i2⟩ := typ_inst WI hx
  have i1' := hvis _ i1
  have i2' := hvis _ i2
  have e1' := hvis _ e1
  have e2' := hvis _ e2
  k_dflt (refine' code_def (K := Mine.hd.heap_39 w.params) (binds := [(Str.ofString "self", .ref x), (Str.ofString "visitor", .ref v)]) B F X N T hA hf hk ?k6 ?k7 ?k8 ?k9 ?kB ?_ ?c2 ?c3 ?c4 ?c5; (case k6 => k_is); (case k7 => k_is); (case k9 => exact BindsTo.of_eq rfl); (case kB => exact locs rfl); (case c2 => exact rfl); (case c3 => exact rfl); (case c4 => exact rfl); (case c5 => decide); (case k8 => omega))
  intro g' L' h' FG' F' N' B' X' T'
  clear F N B X T
  try dsimp only
  k_fold
  k_steps
  show LeaveK _ _ _ _ _ _ _
  rename Fr _ _ _ _ => F2
  rename News _ _ _ _ => N2
  refine con_leave0 (tl := []) hR F2 (by rw [List.append_nil]; exact N2) Ord.nil ?_
  rw [List.append_nil, PostA, exp_same ee rfl]
  exact hx
theorem accNon_con (w : World) (mean : ExcName → Option Value) (mg mb : Str → Option Value) (W : Wd) (iA iB iC io : Addr) (σ : List (Atom × Tree)) : Con w mean mg mb 281 4 20 (PreA W iA iB iC io σ (.leaf .non)) (PostA W σ (.leaf .non)) := by
  unfold Con
  k_fill
  intro A A₀ env outer base h₀ L m news vis s args R B F X N T hA hf hk hh hg hd hu hvis hp hR
  obtain ⟨S, WI, x, v, rfl, hx, dv, e, q1, u1, n1, e1, e2, es0, ep, e3, ee, lo9⟩ := hp
  obtain ⟨x, dx, es, nn, rfl, i1, i2⟩ := typ_inst WI hx
  have i1' := hvis _ i1
  have i2' := hvis _ i2
  have e1' := hvis _ e1
  have e2' := hvis _ e2
  k_dflt (refine' code_def (K := Mine.hd.heap_39 w.params) (binds := [(Str.ofString "self", .ref x), (Str.ofString "visitor", .ref v)]) B F X N T hA hf hk ?k6 ?k7 ?k8 ?k9 ?kB ?_ ?c2 ?c3 ?c4 ?c5; (case k6 => k_is); (case k7 => k_is); (case k9 => exact BindsTo.of_eq rfl); (case kB => exact locs rfl); (case c2 => exact rfl); (case c3 => exact rfl); (case c4 => exact rfl); (case c5 => decide); (case k8 => omega))
  intro g' L' h' FG' F' N' B' X' T'
  clear F N B X T
  try dsimp only
  k_fold
  k_steps
  show LeaveK _ _ _ _ _ _ _
  rename Fr _ _ _ _ => F2
  rename News _ _ _ _ => N2
  refine con_leave0 (tl := []) hR F2 (by rw [List.append_nil]; exact N2) Ord.nil ?_
  rw [List.append_nil, PostA, exp_same ee rfl]
  exact hx
end Mine
namespace Mine
local macro_rules | `(tactic| walk_at "idle") => `(tactic| fail "idle")
local macro_rules | `(tactic| walk_at "idle") => `(tactic| fail "idle")
local macro_rules | `(tactic| walk_at "idle") => `(tactic| fail "idle")
local macro_rules | `(tactic| walk_at "idle") => `(tactic| fail "idle")
theorem fresh29 : True := by
  w_top off
  trivial
local macro_rules | `(tactic| k_mem) => `(tactic| first | with_reducible assumption | with_reducible exact List.mem_cons_self .. | (with_reducible refine List.mem_cons_of_mem _ ?_; k_mem) | (with_reducible refine List.mem_append_left _ ?_; k_mem) | (with_reducible refine List.mem_append_right _ ?_; k_mem))
local macro_rules | `(tactic| k_room) => `(tactic| ((try simp only [depth_under_make, depth_under_kw, depth_in1, depth_deeper, depth_caller]); omega))
local macro_rules | `(tactic| k_units) => `(tactic| ((try simp only [units_under_make, units_in1, units_deeper, Around.mark_units, units_caller]); omega))
local macro_rules | `(tactic| k_all) => `(tactic| first | assumption | (refine List.forall_mem_append.mpr ⟨?_, ?_⟩ <;> k_all))
local macro_rules | `(tactic| k_enter) => `(tactic| (refine' code_def ?k1 ?k2 ?k3 ?k4 ?k5 ?kA ?kF ?kK ?k6 ?k7 ?k8 ?k9 ?kB ?_ ?c2 ?c3 ?c4 ?c5; (case kA => first | exact Around.frames_deeper (Below.stack (by assumption)) | assumption); (case kF => exact rfl); (case kK => exact rfl); (case k1 => k_asm); (case k2 => k_asm); (case k3 => k_asm); (case k4 => k_asm); (case k5 => k_asm); (case k6 => k_is); (case k7 => k_is); (case k8 => k_room); (case k9 => first | exact BindsTo.of_eq rfl | exact binds_K (by k_in) rfl (by k_is) rfl rfl rfl); (case c5 => decide); (case kB => exact locs rfl); (case c2 => exact rfl); (case c3 => exact rfl); (case c4 => exact rfl); k_whole; intro g' L' h' FG' F' N' B' X' T'; (try dsimp only); (try k_fold)))
local macro_rules | `(tactic| walk_at "call ref") => `(tactic| (k_here; (with_reducible show wpAny _ _ (call (Value.ref 180) _ _) _ _ _); refine wpAny_call ?_))
local macro_rules | `(tactic| walk_at "call ref") => `(tactic| (k_here; (with_reducible show wpAny _ _ (call (Value.ref 214) _ _) _ _ _); refine wpAny_call ?_))
local macro_rules | `(tactic| walk_at "call ref") => `(tactic| (k_here; (with_reducible show wpAny _ _ (call (Value.ref 248) _ _) _ _ _); refine wpAny_call ?_))
local macro_rules | `(tactic| walk_at "call ref") => `(tactic| (k_here; (with_reducible show wpAny _ _ (call (Value.ref 281) _ _) _ _ _); refine wpAny_call ?_))
local macro_rules | `(tactic| walk_at "call ref") => `(tactic| (k_here; (with_reducible show wpAny _ _ (call (Value.ref 307) _ _) _ _ _); refine wpAny_call ?_))
local macro_rules | `(tactic| walk_at "call ref") => `(tactic| (k_here; (with_reducible show wpAny _ _ (call (Value.ref 362) _ _) _ _ _); refine wpAny_call ?_))
local macro_rules | `(tactic| walk_at "eval ListComp") => `(tactic| (k_here; refine hold ?_))
local macro_rules | `(tactic| walk_at "pyIter ref") => `(tactic| (k_here; refine hold ?_))
local macro_rules | `(tactic| walk_at "eval Name") => `(tactic| (k_here; first | (refine nameC_L (by assumption) (by assumption) ?_ (by rfl) (by rfl) (by decide)) | (k_dflt (refine' nameC_C ?k1 ?k2 ?k3 ?k4 ?_ (by rfl) (by rfl) (by decide); (case k1 => k_asm); (case k2 => exact rfl); (case k3 => k_mem); (case k4 => assumption)))))
theorem cls_any {t : Tree} (h : cls t = 224) : t = .leaf .any := by
  cases t with
  | leaf a => cases a <;> simp only [cls] at h <;> first | rfl | exact absurd h (by decide)
  | node g ps => cases g <;> simp only [cls] at h <;> exact absurd h (by decide)
theorem cls_non {t : Tree} (h : cls t = 284) : t = .leaf .non := by
  cases t with
  | leaf a => cases a <;> simp only [cls] at h <;> first | rfl | exact absurd h (by decide)
  | node g ps => cases g <;> simp only [cls] at h <;> exact absurd h (by decide)
theorem accf_val {t : Tree} {C : Addr} (h : cls t = C) : accf (cls t) = accf C := by rw [h]
theorem translate_con (w : World) (mean : ExcName → Option Value) (mg mb : Str → Option Value) (W : Wd) (iA iB iC io : Addr) (σ : List (Atom × Tree)) (ts : List Tree) (hb : szs ts ≤ big) (d u : Nat)
    (C : ∀ t ∈ ts, Con w mean mg mb (accf (cls t)) d u (PreA W iA iB iC io σ t) (PostA W σ t)) : Con w mean mg mb 428 (d + 2) (u + 10) (PreT W iA iB iC io σ ts) (PostT W σ ts) := by
  unfold Con
  k_fill
  intro A A₀ env outer base h₀ L m news vis s args R B F X N T hA hf hk hh hg hd hu hvis hp hR
  obtain ⟨S, WI, v, l, o, vs, rfl, hl, hO, hvs, he⟩ := hp
  have he0 := he
  have hl' := hvis _ hl
  have hbl := big_line
  k_dflt (refine' code_defC (K := Mine.hd.heap_39 w.params) (binds := [(Str.ofString "self", .ref v), (Str.ofString "types", .ref l)]) B F X N T hA hf hk ?k6 ?k7 ?k8 ?k9 ?kB ?kD ?_ ?c2 ?c3 ?c4; (case k6 => k_is); (case k7 => k_is); (case k9 => exact BindsTo.of_eq rfl); (case kB => exact rfl); (case kD => decide +kernel); (case c2 => exact rfl); (case c3 => exact rfl); (case c4 => exact rfl); (case k8 => omega))
  intro g' L' h' tk' cells' FG' F' N' Y' B' X' T' lc
  obtain ⟨c1, hE, dc1⟩ := CellsAre.one Y'
  subst hE
  simp only [List.cons_append, List.nil_append] at N'
  clear F N B X T Y'
  try dsimp only
  k_fold
  k_steps
  refine ListComp_led (hclos := by rfl) rfl (by decide) ?_
  k_steps
  refine comp_none hh F' N' (hO.src N' (List.mem_cons_of_mem _ hl')) (fun led i _ y => ∃ t l2, ts[i]? = some t ∧ TypIn W (vis ++ l2) (exp σ t) y ∧ ∀ p ∈ l2, p ∈ led ∧ ∀ q ∈ (L' + 1, c1) :: news, q.1 < p.1) (fun l l' i _ y hs h => ?_) (by rw [hvs.len]; have := len_szs ts; omega) (by decide) rfl rfl ?elt ?_
  · obtain ⟨t, l2, h1, h2, h3⟩ := h; exact ⟨t, l2, h1, h2, fun p hp => ⟨hs _ (h3 p hp).1, (h3 p hp).2⟩⟩
  case elt =>
    intro i v1 C1 mC tl own h tk E' hv F N O hn hm hC
    obtain ⟨t, ht, htv⟩ := hvs.get hv
    have Ct := C t (List.mem_of_getElem? ht)
    obtain ⟨x, dx, es, nn, rfl, i1, i2⟩ := typ_inst WI htv
    have c6 := cls_six t
    simp only [six, List.mem_cons, List.not_mem_nil, or_false] at c6
    rcases c6 with c | c | c | c | c | c
    · obtain ⟨x', e', d1, j, dj, l1, h1, h2, h3, h4, h5, t1, t1', t2, t3, t4, t5, t5', h6, h7, t6, t6', t7, t7', k, k', k'', z1, z2, z3, z4, z5⟩ := typ190 WI c htv
      cases e'
      have z1' := List.mem_append_right own (List.mem_append_left tl (List.mem_cons_of_mem (L' + 1, c1) (hvis _ z1)))
      have z2' := List.mem_append_right own (List.mem_append_left tl (List.mem_cons_of_mem (L' + 1, c1) (hvis _ z2)))
      have Ct' : Con w mean mg mb 180 d u (PreA W iA iB iC io σ t) (PostA W σ t) := by have h := Ct; rw [c] at h; exact h
      k_steps
      k_dflt (refine' con_use (Ct') (vis) ?k1 ?k2 ?k3 ?k4 ?k5 ?kA ?kF ?kK ?kh ?kg ?kd ?ku ?kv ?pre ?_; (case k1 => k_asm); (case k2 => k_asm); (case k3 => k_asm); (case k4 => k_asm); (case k5 => k_asm); (case kA => first | exact Around.frames_deeper (Below.stack (by assumption)) | assumption); (case kF => exact rfl); (case kK => exact rfl); (case kh => first | exact hh | exact rfl | assumption); (case kg => first | exact hg | exact rfl | assumption); (case kd => ((try simp only [depth_under_make, depth_under_kw, depth_in1, depth_deeper, depth_caller]); omega)); (case ku => ((try simp only [units_under_make, units_in1, units_deeper, Around.mark_units, units_caller]); omega)))
      case kv => exact fun p hp => List.mem_append_right own (List.mem_append_left tl (List.mem_cons_of_mem (L' + 1, c1) (hvis _ hp)))
      case pre => exact ⟨S, WI, _, _, rfl, htv, he0⟩
      intro r tl9 h9 tk9 F9 N9 O9 P9
      exact ⟨tl9, h9, tk9, rfl, F9, N9, O9, t, tl9, ht, P9, fun p hp => ⟨List.mem_append_right _ hp, fun q hq => O9 q (List.mem_append_right _ (List.mem_append_left _ hq)) p hp⟩⟩
    · have et := cls_any c
      have htv' := htv
      rw [et] at htv'
      simp only [TypIn] at htv'
      cases htv'
      obtain ⟨d1, h1, h2, t1, t1', t2, k, z1, z2⟩ := WI.any
      have z1' := List.mem_append_right own (List.mem_append_left tl (List.mem_cons_of_mem (L' + 1, c1) (hvis _ z1)))
      have z2' := List.mem_append_right own (List.mem_append_left tl (List.mem_cons_of_mem (L' + 1, c1) (hvis _ z2)))
      have Ct' : Con w mean mg mb 214 d u (PreA W iA iB iC io σ t) (PostA W σ t) := by have h := Ct; rw [c] at h; exact h
      k_steps
      k_dflt (refine' con_use (Ct') (vis) ?k1 ?k2 ?k3 ?k4 ?k5 ?kA ?kF ?kK ?kh ?kg ?kd ?ku ?kv ?pre ?_; (case k1 => k_asm); (case k2 => k_asm); (case k3 => k_asm); (case k4 => k_asm); (case k5 => k_asm); (case kA => first | exact Around.frames_deeper (Below.stack (by assumption)) | assumption); (case kF => exact rfl); (case kK => exact rfl); (case kh => first | exact hh | exact rfl | assumption); (case kg => first | exact hg | exact rfl | assumption); (case kd => ((try simp only [depth_under_make, depth_under_kw, depth_in1, depth_deeper, depth_caller]); omega)); (case ku => ((try simp only [units_under_make, units_in1, units_deeper, Around.mark_units, units_caller]); omega)))
      case kv => exact fun p hp => List.mem_append_right own (List.mem_append_left tl (List.mem_cons_of_mem (L' + 1, c1) (hvis _ hp)))
      case pre => exact ⟨S, WI, _, _, rfl, htv, he0⟩
      intro r tl9 h9 tk9 F9 N9 O9 P9
      exact ⟨tl9, h9, tk9, rfl, F9, N9, O9, t, tl9, ht, P9, fun p hp => ⟨List.mem_append_right _ hp, fun q hq => O9 q (List.mem_append_right _ (List.mem_append_left _ hq)) p hp⟩⟩
    · have et := cls_nev c
      have htv' := htv
      rw [et] at htv'
      simp only [TypIn] at htv'
      obtain ⟨x', d1, h1, t1, k, e', z1, z2⟩ := htv'
      cases e'
      have z1' := List.mem_append_right own (List.mem_append_left tl (List.mem_cons_of_mem (L' + 1, c1) (hvis _ z1)))
      have z2' := List.mem_append_right own (List.mem_append_left tl (List.mem_cons_of_mem (L' + 1, c1) (hvis _ z2)))
      have Ct' : Con w mean mg mb 248 d u (PreA W iA iB iC io σ t) (PostA W σ t) := by have h := Ct; rw [c] at h; exact h
      k_steps
      k_dflt (refine' con_use (Ct') (vis) ?k1 ?k2 ?k3 ?k4 ?k5 ?kA ?kF ?kK ?kh ?kg ?kd ?ku ?kv ?pre ?_; (case k1 => k_asm); (case k2 => k_asm); (case k3 => k_asm); (case k4 => k_asm); (case k5 => k_asm); (case kA => first | exact Around.frames_deeper (Below.stack (by assumption)) | assumption); (case kF => exact rfl); (case kK => exact rfl); (case kh => first | exact hh | exact rfl | assumption); (case kg => first | exact hg | exact rfl | assumption); (case kd => ((try simp only [depth_under_make, depth_under_kw, depth_in1, depth_deeper, depth_caller]); omega)); (case ku => ((try simp only [units_under_make, units_in1, units_deeper, Around.mark_units, units_caller]); omega)))
      case kv => exact fun p hp => List.mem_append_right own (List.mem_append_left tl (List.mem_cons_of_mem (L' + 1, c1) (hvis _ hp)))
      case pre => exact ⟨S, WI, _, _, rfl, htv, he0⟩
      intro r tl9 h9 tk9 F9 N9 O9 P9
      exact ⟨tl9, h9, tk9, rfl, F9, N9, O9, t, tl9, ht, P9, fun p hp => ⟨List.mem_append_right _ hp, fun q hq => O9 q (List.mem_append_right _ (List.mem_append_left _ hq)) p hp⟩⟩
    · have et := cls_non c
      have htv' := htv
      rw [et] at htv'
      simp only [TypIn] at htv'
      cases htv'
      obtain ⟨d1, k, z1, z2⟩ := WI.non
      have z1' := List.mem_append_right own (List.mem_append_left tl (List.mem_cons_of_mem (L' + 1, c1) (hvis _ z1)))
      have z2' := List.mem_append_right own (List.mem_append_left tl (List.mem_cons_of_mem (L' + 1, c1) (hvis _ z2)))
      have Ct' : Con w mean mg mb 281 d u (PreA W iA iB iC io σ t) (PostA W σ t) := by have h := Ct; rw [c] at h; exact h
      k_steps
      k_dflt (refine' con_use (Ct') (vis) ?k1 ?k2 ?k3 ?k4 ?k5 ?kA ?kF ?kK ?kh ?kg ?kd ?ku ?kv ?pre ?_; (case k1 => k_asm); (case k2 => k_asm); (case k3 => k_asm); (case k4 => k_asm); (case k5 => k_asm); (case kA => first | exact Around.frames_deeper (Below.stack (by assumption)) | assumption); (case kF => exact rfl); (case kK => exact rfl); (case kh => first | exact hh | exact rfl | assumption); (case kg => first | exact hg | exact rfl | assumption); (case kd => ((try simp only [depth_under_make, depth_under_kw, depth_in1, depth_deeper, depth_caller]); omega)); (case ku => ((try simp only [units_under_make, units_in1, units_deeper, Around.mark_units, units_caller]); omega)))
      case kv => exact fun p hp => List.mem_append_right own (List.mem_append_left tl (List.mem_cons_of_mem (L' + 1, c1) (hvis _ hp)))
      case pre => exact ⟨S, WI, _, _, rfl, htv, he0⟩
      intro r tl9 h9 tk9 F9 N9 O9 P9
      exact ⟨tl9, h9, tk9, rfl, F9, N9, O9, t, tl9, ht, P9, fun p hp => ⟨List.mem_append_right _ hp, fun q hq => O9 q (List.mem_append_right _ (List.mem_append_left _ hq)) p hp⟩⟩
    · obtain ⟨x', xs, e', ⟨d1, tu, h1, h2, t1, t2, k, k', z1, z2, z3⟩, hxs, fx⟩ := typ324 WI c htv
      cases e'
      have z1' := List.mem_append_right own (List.mem_append_left tl (List.mem_cons_of_mem (L' + 1, c1) (hvis _ z1)))
      have z2' := List.mem_append_right own (List.mem_append_left tl (List.mem_cons_of_mem (L' + 1, c1) (hvis _ z2)))
      have Ct' : Con w mean mg mb 307 d u (PreA W iA iB iC io σ t) (PostA W σ t) := by have h := Ct; rw [c] at h; exact h
      k_steps
      k_dflt (refine' con_use (Ct') (vis) ?k1 ?k2 ?k3 ?k4 ?k5 ?kA ?kF ?kK ?kh ?kg ?kd ?ku ?kv ?pre ?_; (case k1 => k_asm); (case k2 => k_asm); (case k3 => k_asm); (case k4 => k_asm); (case k5 => k_asm); (case kA => first | exact Around.frames_deeper (Below.stack (by assumption)) | assumption); (case kF => exact rfl); (case kK => exact rfl); (case kh => first | exact hh | exact rfl | assumption); (case kg => first | exact hg | exact rfl | assumption); (case kd => ((try simp only [depth_under_make, depth_under_kw, depth_in1, depth_deeper, depth_caller]); omega)); (case ku => ((try simp only [units_under_make, units_in1, units_deeper, Around.mark_units, units_caller]); omega)))
      case kv => exact fun p hp => List.mem_append_right own (List.mem_append_left tl (List.mem_cons_of_mem (L' + 1, c1) (hvis _ hp)))
      case pre => exact ⟨S, WI, _, _, rfl, htv, he0⟩
      intro r tl9 h9 tk9 F9 N9 O9 P9
      exact ⟨tl9, h9, tk9, rfl, F9, N9, O9, t, tl9, ht, P9, fun p hp => ⟨List.mem_append_right _ hp, fun q hq => O9 q (List.mem_append_right _ (List.mem_append_left _ hq)) p hp⟩⟩
    · obtain ⟨qs, x', d1, l1, h1, t1, k, us, k', et, e', z1, z2, z3, hus⟩ := typ365 c htv
      cases e'
      have z1' := List.mem_append_right own (List.mem_append_left tl (List.mem_cons_of_mem (L' + 1, c1) (hvis _ z1)))
      have z2' := List.mem_append_right own (List.mem_append_left tl (List.mem_cons_of_mem (L' + 1, c1) (hvis _ z2)))
      have Ct' : Con w mean mg mb 362 d u (PreA W iA iB iC io σ t) (PostA W σ t) := by have h := Ct; rw [c] at h; exact h
      k_steps
      k_dflt (refine' con_use (Ct') (vis) ?k1 ?k2 ?k3 ?k4 ?k5 ?kA ?kF ?kK ?kh ?kg ?kd ?ku ?kv ?pre ?_; (case k1 => k_asm); (case k2 => k_asm); (case k3 => k_asm); (case k4 => k_asm); (case k5 => k_asm); (case kA => first | exact Around.frames_deeper (Below.stack (by assumption)) | assumption); (case kF => exact rfl); (case kK => exact rfl); (case kh => first | exact hh | exact rfl | assumption); (case kg => first | exact hg | exact rfl | assumption); (case kd => ((try simp only [depth_under_make, depth_under_kw, depth_in1, depth_deeper, depth_caller]); omega)); (case ku => ((try simp only [units_under_make, units_in1, units_deeper, Around.mark_units, units_caller]); omega)))
      case kv => exact fun p hp => List.mem_append_right own (List.mem_append_left tl (List.mem_cons_of_mem (L' + 1, c1) (hvis _ hp)))
      case pre => exact ⟨S, WI, _, _, rfl, htv, he0⟩
      intro r tl9 h9 tk9 F9 N9 O9 P9
      exact ⟨tl9, h9, tk9, rfl, F9, N9, O9, t, tl9, ht, P9, fun p hp => ⟨List.mem_append_right _ hp, fun q hq => O9 q (List.mem_append_right _ (List.mem_append_left _ hq)) p hp⟩⟩
  intro D nD h5 tk5 ys tl5 CD
  obtain ⟨F5, N5, O5, off5, P5, lv5, ly5, G5⟩ := CD
  k_steps
  show LeaveK _ _ _ _ _ _ _
  refine con_leave hR F5 N5 ((D, PySem.W.listOf ys.toArray nD) :: tl5) (fun p hp => ?_) (O5.sub fun q hq => List.mem_cons_of_mem _ hq) ⟨D, ys, nD, rfl, by k_mem, ?_⟩
  · rcases List.mem_append.mp hp with h | h
    · k_mem
    · rcases List.mem_cons.mp h with h | h
      · rw [h]; k_mem
      · k_mem
  refine TypsIn.of (by rw [ly5, exps_map, List.length_map, hvs.len]) fun i y t' hy ht' => ?_
  have hi : i < vs.length := by rw [← ly5]; exact (List.getElem?_eq_some_iff.mp hy).1
  obtain ⟨y', e1, t, l2, e2, e3, e4⟩ := G5 i _ (List.getElem?_eq_getElem hi)
  rw [hy] at e1; cases e1
  rw [exps_get e2] at ht'; cases ht'
  refine e3.mono fun p hp => ?_
  rcases List.mem_append.mp hp with h | h
  · exact List.mem_append_left _ h
  · obtain ⟨h1, h2⟩ := e4 p h
    rcases List.mem_append.mp h1 with h3 | h3
    · exact absurd (h2 p h3) (Nat.lt_irrefl _)
    · exact List.mem_append_right _ (List.mem_cons_of_mem _ h3)
end Mine
namespace Mine
local macro_rules | `(tactic| walk_at "idle") => `(tactic| fail "idle")
local macro_rules | `(tactic| walk_at "idle") => `(tactic| fail "idle")
local macro_rules | `(tactic| walk_at "idle") => `(tactic| fail "idle")
local macro_rules | `(tactic| walk_at "idle") => `(tactic| fail "idle")
local macro_rules | `(tactic| walk_at "idle") => `(tactic| fail "idle")
local macro_rules | `(tactic| walk_at "idle") => `(tactic| fail "idle")
theorem fresh30 : True := by
  w_top off
  trivial
local macro_rules | `(tactic| k_mem) => `(tactic| first | with_reducible assumption | with_reducible exact List.mem_cons_self .. | (with_reducible refine List.mem_cons_of_mem _ ?_; k_mem) | (with_reducible refine List.mem_append_left _ ?_; k_mem) | (with_reducible refine List.mem_append_right _ ?_; k_mem))
local macro_rules | `(tactic| k_room) => `(tactic| ((try simp only [depth_under_make, depth_under_kw, depth_in1, depth_deeper, depth_caller]); omega))
local macro_rules | `(tactic| k_units) => `(tactic| ((try simp only [units_under_make, units_in1, units_deeper, Around.mark_units, units_caller]); omega))
local macro_rules | `(tactic| k_all) => `(tactic| first | assumption | (refine List.forall_mem_append.mpr ⟨?_, ?_⟩ <;> k_all))
local macro_rules | `(tactic| k_enter) => `(tactic| (refine' code_def ?k1 ?k2 ?k3 ?k4 ?k5 ?kA ?kF ?kK ?k6 ?k7 ?k8 ?k9 ?kB ?_ ?c2 ?c3 ?c4 ?c5; (case kA => first | exact Around.frames_deeper (Below.stack (by assumption)) | assumption); (case kF => exact rfl); (case kK => exact rfl); (case k1 => k_asm); (case k2 => k_asm); (case k3 => k_asm); (case k4 => k_asm); (case k5 => k_asm); (case k6 => k_is); (case k7 => k_is); (case k8 => k_room); (case k9 => first | exact BindsTo.of_eq rfl | exact binds_K (by k_in) rfl (by k_is) rfl rfl rfl); (case c5 => decide); (case kB => exact locs rfl); (case c2 => exact rfl); (case c3 => exact rfl); (case c4 => exact rfl); k_whole; intro g' L' h' FG' F' N' B' X' T'; (try dsimp only); (try k_fold)))
local macro_rules | `(tactic| walk_at "call ref") => `(tactic| (k_here; (with_reducible show wpAny _ _ (call (Value.ref 428) _ _) _ _ _); refine wpAny_call ?_))
local macro_rules | `(tactic| walk_at "call ref") => `(tactic| (k_here; (with_reducible show wpAny _ _ (call (Value.ref 324) _ _) _ _ _); refine wpAny_call ?_))
local macro_rules | `(tactic| walk_at "call ref") => `(tactic| (k_here; (with_reducible show wpAny _ _ (call (Value.ref 352) _ _) _ _ _); refine wpAny_call ?_))
local macro_rules | `(tactic| walk_at "call ref") => `(tactic| (k_here; (with_reducible show wpAny _ _ (call (Value.ref 559) _ _) _ _ _); refine wpAny_call ?_))
local macro_rules | `(tactic| walk_at "call ref") => `(tactic| (k_here; (with_reducible show wpAny _ _ (call (Value.ref 374) _ _) _ _ _); refine wpAny_call ?_))
local macro_rules | `(tactic| walk_at "call ref") => `(tactic| (k_here; (with_reducible show wpAny _ _ (call (Value.ref 365) _ _) _ _ _); refine wpAny_call ?_))
local macro_rules | `(tactic| walk_at "call ref") => `(tactic| (k_here; (with_reducible show wpAny _ _ (call (Value.ref 258) _ _) _ _ _); refine wpAny_call ?_))
local macro_rules | `(tactic| walk_at "compareOp Eq int int") => `(tactic| (k_here; refine hold ?_))
theorem sub_app {vis news tl : Led} (h : ∀ p ∈ vis, p ∈ news) : ∀ p ∈ vis ++ tl, p ∈ news ++ tl := fun p hp => (List.mem_append.mp hp).elim (fun q => List.mem_append_left _ (h p q)) (fun q => List.mem_append_right _ q)
theorem visI_con (w : World) (mean : ExcName → Option Value) (mg mb : Str → Option Value) (W : Wd) (iA iB iC io : Addr) (σ : List (Atom × Tree)) (t : Tree) (hc : cls t = 324) (hb : t.sz ≤ big) (d u : Nat)
    (C : Con w mean mg mb 428 d u (PreT W iA iB iC io σ (kids t)) (PostT W σ (kids t))) : Con w mean mg mb 533 (d + 8) (u + 40) (PreV W iA iB iC io σ t) (PostA W σ t) := by
  unfold Con
  k_fill
  intro A A₀ env outer base h₀ L m news vis s args R B F X N T hA hf hk hh hg hd hu hvis hp hR
  obtain ⟨S, WI, x, v, rfl, hx, he⟩ := hp
  have he0 := he
  have hx0 := hx
  obtain ⟨dv, e, q1, u1, n1, e1, e2, es, ep, e3, ee, lo9⟩ := he
  have e1' := hvis _ e1
  have e2' := hvis _ e2
  obtain ⟨x, vs, rfl, ⟨dx, tu, h1, h2, t1, t2, k, k', i1, i2, i3⟩, hvs, fx⟩ := typ324 WI hc hx
  have i1' := hvis _ i1
  have i2' := hvis _ i2
  have i3' := hvis _ i3
  k_dflt (refine' code_def (K := Mine.hd.heap_39 w.params) (binds := [(Str.ofString "self", .ref v), (Str.ofString "t", .ref x)]) B F X N T hA hf hk ?k6 ?k7 ?k8 ?k9 ?kB ?_ ?c2 ?c3 ?c4 ?c5; (case k6 => k_is); (case k7 => k_is); (case k9 => exact BindsTo.of_eq rfl); (case kB => exact locs rfl); (case c2 => exact rfl); (case c3 => exact rfl); (case c4 => exact rfl); (case c5 => decide); (case k8 => omega))
  intro g' L' h' FG' F' N' B' X' T'
  clear F N B X T
  try dsimp only
  k_fold
  k_steps
  have hbl := big_line
  have hlen := hvs.len
  have hls := len_szs (kids t)
  have hkz : szs (kids t) ≤ t.sz := by cases t <;> simp [kids, Tree.sz, szs]
  refine len_tuple (items := vs.toArray) (News.isTup N' i3') (by rw [List.size_toArray]; have := sizeLine_eq; omega) ?_
  k_steps
  refine wpAny_eq_int ?_
  rw [List.size_toArray]
  by_cases hv0 : vs = []
  · rw [show ((vs.length : Int) == 0) = true from by rw [hv0]; rfl]
    k_steps
    show LeaveK _ _ _ _ _ _ _
    rename Fr _ _ _ _ => F2
    rename News _ _ _ _ => N2
    refine con_leave0 (tl := []) hR F2 (by rw [List.append_nil]; exact N2) Ord.nil ?_
    have hk0 : kids t = [] := List.length_eq_zero_iff.mp (by rw [← hlen, hv0]; rfl)
    have : exp σ t = t := by
      cases t with
      | leaf a => exact exp_same ee (by cases a <;> simp only [cls] at hc <;> first | rfl | exact absurd hc (by decide))
      | node g ps =>
        simp only [kids] at hk0; subst hk0
        cases g <;> simp only [cls] at hc <;> first | exact absurd hc (by decide) | simp [exp, exps]
    rw [List.append_nil, PostA, this]
    exact hx0
  · rw [show ((vs.length : Int) == 0) = false from by
      have : vs.length ≠ 0 := fun e => hv0 (List.length_eq_zero_iff.mp e)
      simp [this]]
    k_steps
    k_dflt (refine' con_use (C) (vis) ?k1 ?k2 ?k3 ?k4 ?k5 ?kA ?kF ?kK ?kh ?kg ?kd ?ku ?kv ?pre ?_; (case k1 => k_asm); (case k2 => k_asm); (case k3 => k_asm); (case k4 => k_asm); (case k5 => k_asm); (case kA => first | exact Around.frames_deeper (Below.stack (by assumption)) | assumption); (case kF => exact rfl); (case kK => exact rfl); (case kh => first | exact hh | exact rfl | assumption); (case kg => first | exact hg | exact rfl | assumption); (case kd => ((try simp only [depth_under_make, depth_under_kw, depth_in1, depth_deeper, depth_caller]); omega)); (case ku => ((try simp only [units_under_make, units_in1, units_deeper, Around.mark_units, units_caller]); omega)))
    case kv => exact hvis
    case pre => exact ⟨S, WI, v, tu, _, vs, rfl, i3, SeqOf.tup, hvs, he0⟩
    intro r tl h9 tk9 F9 N9 O9 P9
    obtain ⟨l, ws, k9, rfl, hl, hws⟩ := P9
    have i1'' := List.mem_append_left tl i1'
    have i2'' := List.mem_append_left tl i2'
    clear F' N'
    dsimp only
    k_steps
    have hws' := hws.len
    have hexl : (exps σ (kids t)).length = (kids t).length := by rw [exps_map, List.length_map]
    k_dflt (refine' con_use (inst_con w mean mg mb (infT W iA iB iC io t) ws (by omega)) (vis ++ tl) ?k1 ?k2 ?k3 ?k4 ?k5 ?kA ?kF ?kK ?kh ?kg ?kd ?ku ?kv ?pre ?_; (case k1 => k_asm); (case k2 => k_asm); (case k3 => k_asm); (case k4 => k_asm); (case k5 => k_asm); (case kA => first | exact Around.frames_deeper (Below.stack (by assumption)) | assumption); (case kF => exact rfl); (case kK => exact rfl); (case kh => first | exact hh | exact rfl | assumption); (case kg => first | exact hg | exact rfl | assumption); (case kd => ((try simp only [depth_under_make, depth_under_kw, depth_in1, depth_deeper, depth_caller]); omega)); (case ku => ((try simp only [units_under_make, units_in1, units_deeper, Around.mark_units, units_caller]); omega)))
    case kv => exact sub_app hvis
    case pre => exact ⟨l, k9, rfl, hl⟩
    intro r tl2 h8 tk8 F8 N8 O8 P8
    obtain ⟨y, rfl, hI⟩ := P8
    dsimp only
    k_steps
    show LeaveK _ _ _ _ _ _ _
    rename Fr _ _ _ _ => F2
    rename News _ _ _ _ => N2
    rw [List.append_assoc] at N2
    refine con_leave0 (tl := tl ++ tl2) hR F2 N2 (O9.app O8) ?_
    have hn : ∃ g ps, t = .node g ps ∧ g ≠ .union := by
      cases t with
      | leaf a => simp only [kids] at hlen; exact absurd (List.length_eq_zero_iff.mp hlen) hv0
      | node g ps => exact ⟨g, ps, rfl, fun e => by rw [e] at hc; simp only [cls] at hc; exact absurd hc (by decide)⟩
    obtain ⟨g, ps, rfl, hg2⟩ := hn
    rw [PostA, exp, if_neg hg2]
    rw [← List.append_assoc]
    obtain ⟨dy, ty, y1, y2, y3, y4, y5, y6, b1, b2, b3⟩ := hI
    have hws2 : TypsIn W (vis ++ tl ++ tl2) (exps σ ps) ws := hws.mono fun p hp => List.mem_append_left _ hp
    cases g <;> first | exact absurd rfl hg2 | (simp only [TypIn]; exact ⟨y, dy, ty, _, _, _, _, _, ws, _, rfl, b1, b2, b3, hws2⟩)
end Mine
namespace Mine
local macro_rules | `(tactic| walk_at "idle") => `(tactic| fail "idle")
local macro_rules | `(tactic| walk_at "idle") => `(tactic| fail "idle")
local macro_rules | `(tactic| walk_at "idle") => `(tactic| fail "idle")
local macro_rules | `(tactic| walk_at "idle") => `(tactic| fail "idle")
local macro_rules | `(tactic| walk_at "idle") => `(tactic| fail "idle")
local macro_rules | `(tactic| walk_at "idle") => `(tactic| fail "idle")
local macro_rules | `(tactic| walk_at "idle") => `(tactic| fail "idle")
local macro_rules | `(tactic| walk_at "idle") => `(tactic| fail "idle")
local macro_rules | `(tactic| walk_at "idle") => `(tactic| fail "idle")
local macro_rules | `(tactic| walk_at "idle") => `(tactic| fail "idle")
theorem fresh31 : True := by
  w_top off
  trivial
local macro_rules | `(tactic| k_mem) => `(tactic| first | with_reducible assumption | with_reducible exact List.mem_cons_self .. | (with_reducible refine List.mem_cons_of_mem _ ?_; k_mem) | (with_reducible refine List.mem_append_left _ ?_; k_mem) | (with_reducible refine List.mem_append_right _ ?_; k_mem))
local macro_rules | `(tactic| k_room) => `(tactic| ((try simp only [depth_under_make, depth_under_kw, depth_in1, depth_deeper, depth_caller]); omega))
local macro_rules | `(tactic| k_units) => `(tactic| ((try simp only [units_under_make, units_in1, units_deeper, Around.mark_units, units_caller]); omega))
local macro_rules | `(tactic| k_all) => `(tactic| first | assumption | (refine List.forall_mem_append.mpr ⟨?_, ?_⟩ <;> k_all))
local macro_rules | `(tactic| k_enter) => `(tactic| (refine' code_def ?k1 ?k2 ?k3 ?k4 ?k5 ?kA ?kF ?kK ?k6 ?k7 ?k8 ?k9 ?kB ?_ ?c2 ?c3 ?c4 ?c5; (case kA => first | exact Around.frames_deeper (Below.stack (by assumption)) | assumption); (case kF => exact rfl); (case kK => exact rfl); (case k1 => k_asm); (case k2 => k_asm); (case k3 => k_asm); (case k4 => k_asm); (case k5 => k_asm); (case k6 => k_is); (case k7 => k_is); (case k8 => k_room); (case k9 => first | exact BindsTo.of_eq rfl | exact binds_K (by k_in) rfl (by k_is) rfl rfl rfl); (case c5 => decide); (case kB => exact locs rfl); (case c2 => exact rfl); (case c3 => exact rfl); (case c4 => exact rfl); k_whole; intro g' L' h' FG' F' N' B' X' T'; (try dsimp only); (try k_fold)))
local macro_rules | `(tactic| walk_at "call ref") => `(tactic| (k_here; (with_reducible show wpAny _ _ (call (Value.ref 365) _ _) _ _ _); refine wpAny_call ?_))
local macro_rules | `(tactic| walk_at "call ref") => `(tactic| (k_here; (with_reducible show wpAny _ _ (call (Value.ref 258) _ _) _ _ _); refine wpAny_call ?_))
local macro_rules | `(tactic| walk_at "call builtin:len") => `(tactic| (k_here; refine hold ?_))
local macro_rules | `(tactic| walk_at "compareOp Gt int int") => `(tactic| (k_here; refine hold ?_))
local macro_rules | `(tactic| walk_at "compareOp Eq int int") => `(tactic| (k_here; refine hold ?_))
/-- the lists that make_union takes -/
theorem mkunion_con (w : World) (mean : ExcName → Option Value) (mg mb : Str → Option Value) (W : Wd) (iA iB iC io : Addr) (n : Nat) (ts : List Tree) (hn : hts ts < n) (hb : szs ts ≤ big) : Con w mean mg mb 352 (2 * n + 8) (20 * n + 40)
    (fun news args => WIn W iA iB iC io news ∧ ∃ l vs k, args = [.ref l] ∧ (l, PySem.W.listOf vs.toArray k) ∈ news ∧ TypsIn W news ts vs)
    (fun news _ r => TypIn W news (mkU ts) r) := by
  unfold Con
  k_fill
  intro A A₀ env outer base h₀ L m news vis s args R B F X N T hA hf hk hh hg hd hu hvis hp hR
  obtain ⟨WI, l, vs, k, rfl, hl, hvs⟩ := hp
  have hl' := hvis _ hl
  have hlen := hvs.len
  have hbl := big_line
  have hls := len_szs ts
  k_dflt (refine' code_def (K := Mine.hd.heap_39 w.params) (binds := [(Str.ofString "items", .ref l)]) B F X N T hA hf hk ?k6 ?k7 ?k8 ?k9 ?kB ?_ ?c2 ?c3 ?c4 ?c5; (case k6 => k_is); (case k7 => k_is); (case k9 => exact BindsTo.of_eq rfl); (case kB => exact locs rfl); (case c2 => exact rfl); (case c3 => exact rfl); (case c4 => exact rfl); (case c5 => decide); (case k8 => omega))
  intro g' L' h' FG' F' N' B' X' T'
  clear F N B X T
  try dsimp only
  k_fold
  match ts, vs, hvs, hlen with
  | [], [], hvs, hlen =>
    k_steps
    refine call_len_list (items := ([] : List Value).toArray) (News.isList (by k_asm) (by k_mem)) (by rw [List.size_toArray]; have := sizeLine_eq; simp only [List.length_cons, List.length_nil] at *; omega) ?_
    rw [List.size_toArray]
    k_steps
    refine gt_int ?_
    rw [show decide ((([] : List Value).length : Int) > 1) = false from rfl]
    k_steps
    refine call_len_list (items := ([] : List Value).toArray) (News.isList (by k_asm) (by k_mem)) (by rw [List.size_toArray]; have := sizeLine_eq; simp only [List.length_cons, List.length_nil] at *; omega) ?_
    rw [List.size_toArray]
    k_steps
    refine wpAny_eq_int ?_
    rw [show ((([] : List Value).length : Int) == 1) = false from rfl]
    k_steps
    k_dflt (refine' con_use (nev_con w mean mg mb W) (vis) ?k1 ?k2 ?k3 ?k4 ?k5 ?kA ?kF ?kK ?kh ?kg ?kd ?ku ?kv ?pre ?_; (case k1 => k_asm); (case k2 => k_asm); (case k3 => k_asm); (case k4 => k_asm); (case k5 => k_asm); (case kA => first | exact Around.frames_deeper (Below.stack (by assumption)) | assumption); (case kF => exact rfl); (case kK => exact rfl); (case kh => first | exact hh | exact rfl | assumption); (case kg => first | exact hg | exact rfl | assumption); (case kd => ((try simp only [depth_under_make, depth_under_kw, depth_in1, depth_deeper, depth_caller]); omega)); (case ku => ((try simp only [units_under_make, units_in1, units_deeper, Around.mark_units, units_caller]); omega)))
    case kv => exact hvis
    case pre => exact rfl
    intro r tl h9 tk9 F9 N9 O9 P9
    dsimp only
    show LeaveK _ _ _ _ _ _ _
    exact con_leave0 (tl := tl) hR F9 N9 O9 P9
  | [t], [v], hvs, hlen =>
    k_steps
    refine call_len_list (items := ([v]).toArray) (News.isList (by k_asm) (by k_mem)) (by rw [List.size_toArray]; have := sizeLine_eq; simp only [List.length_cons, List.length_nil] at *; omega) ?_
    rw [List.size_toArray]
    k_steps
    refine gt_int ?_
    rw [show decide ((([v] : List Value).length : Int) > 1) = false from rfl]
    k_steps
    refine call_len_list (items := ([v]).toArray) (News.isList (by k_asm) (by k_mem)) (by rw [List.size_toArray]; have := sizeLine_eq; simp only [List.length_cons, List.length_nil] at *; omega) ?_
    rw [List.size_toArray]
    k_steps
    refine wpAny_eq_int ?_
    rw [show ((([v] : List Value).length : Int) == 1) = true from rfl]
    k_steps
    refine PyProof.Rows.item_list (items := ([v] : List Value).toArray) (x := v) (News.isList (by k_asm) (by k_mem)) (by decide) (by decide) rfl ?_
    show LeaveK _ _ _ _ _ _ _
    rename Fr _ _ _ _ => F2
    rename News _ _ _ _ => N2
    refine con_leave0 (tl := []) hR F2 (by rw [List.append_nil]; exact N2) Ord.nil ?_
    simp only [TypsIn] at hvs
    obtain ⟨v', us, e, h1, rfl⟩ := hvs
    cases e
    rw [List.append_nil]; exact h1
  | t1 :: t2 :: tr, v1 :: v2 :: vr, hvs, hlen =>
    k_steps
    refine call_len_list (items := (v1 :: v2 :: vr).toArray) (News.isList (by k_asm) (by k_mem)) (by rw [List.size_toArray]; have := sizeLine_eq; simp only [List.length_cons, List.length_nil] at *; omega) ?_
    rw [List.size_toArray]
    k_steps
    refine gt_int ?_
    rw [show decide (((v1 :: v2 :: vr).length : Int) > 1) = true from decide_eq_true (by simp only [List.length_cons]; omega)]
    k_steps
    k_dflt (refine' con_use (union_con w mean mg mb W iA iB iC io n (t1 :: t2 :: tr) hn hb) (vis) ?k1 ?k2 ?k3 ?k4 ?k5 ?kA ?kF ?kK ?kh ?kg ?kd ?ku ?kv ?pre ?_; (case k1 => k_asm); (case k2 => k_asm); (case k3 => k_asm); (case k4 => k_asm); (case k5 => k_asm); (case kA => first | exact Around.frames_deeper (Below.stack (by assumption)) | assumption); (case kF => exact rfl); (case kK => exact rfl); (case kh => first | exact hh | exact rfl | assumption); (case kg => first | exact hg | exact rfl | assumption); (case kd => ((try simp only [depth_under_make, depth_under_kw, depth_in1, depth_deeper, depth_caller]); omega)); (case ku => ((try simp only [units_under_make, units_in1, units_deeper, Around.mark_units, units_caller]); omega)))
    case kv => exact hvis
    case pre => exact ⟨WI, l, _, k, rfl, hl, hvs⟩
    intro r tl h9 tk9 F9 N9 O9 P9
    dsimp only
    show LeaveK _ _ _ _ _ _ _
    exact con_leave0 (tl := tl) hR F9 N9 O9 P9
end Mine
namespace Mine
local macro_rules | `(tactic| walk_at "idle") => `(tactic| fail "idle")
local macro_rules | `(tactic| walk_at "idle") => `(tactic| fail "idle")
local macro_rules | `(tactic| walk_at "idle") => `(tactic| fail "idle")
local macro_rules | `(tactic| walk_at "idle") => `(tactic| fail "idle")
local macro_rules | `(tactic| walk_at "idle") => `(tactic| fail "idle")
local macro_rules | `(tactic| walk_at "idle") => `(tactic| fail "idle")
local macro_rules | `(tactic| walk_at "idle") => `(tactic| fail "idle")
local macro_rules | `(tactic| walk_at "idle") => `(tactic| fail "idle")
local macro_rules | `(tactic| walk_at "idle") => `(tactic| fail "idle")
local macro_rules | `(tactic| walk_at "idle") => `(tactic| fail "idle")
local macro_rules | `(tactic| walk_at "idle") => `(tactic| fail "idle")
local macro_rules | `(tactic| walk_at "idle") => `(tactic| fail "idle")
theorem fresh32 : True := by
  w_top off
  trivial
local macro_rules | `(tactic| k_mem) => `(tactic| first | with_reducible assumption | with_reducible exact List.mem_cons_self .. | (with_reducible refine List.mem_cons_of_mem _ ?_; k_mem) | (with_reducible refine List.mem_append_left _ ?_; k_mem) | (with_reducible refine List.mem_append_right _ ?_; k_mem))
local macro_rules | `(tactic| k_room) => `(tactic| ((try simp only [depth_under_make, depth_under_kw, depth_in1, depth_deeper, depth_caller]); omega))
local macro_rules | `(tactic| k_units) => `(tactic| ((try simp only [units_under_make, units_in1, units_deeper, Around.mark_units, units_caller]); omega))
local macro_rules | `(tactic| k_all) => `(tactic| first | assumption | (refine List.forall_mem_append.mpr ⟨?_, ?_⟩ <;> k_all))
local macro_rules | `(tactic| k_enter) => `(tactic| (refine' code_def ?k1 ?k2 ?k3 ?k4 ?k5 ?kA ?kF ?kK ?k6 ?k7 ?k8 ?k9 ?kB ?_ ?c2 ?c3 ?c4 ?c5; (case kA => first | exact Around.frames_deeper (Below.stack (by assumption)) | assumption); (case kF => exact rfl); (case kK => exact rfl); (case k1 => k_asm); (case k2 => k_asm); (case k3 => k_asm); (case k4 => k_asm); (case k5 => k_asm); (case k6 => k_is); (case k7 => k_is); (case k8 => k_room); (case k9 => first | exact BindsTo.of_eq rfl | exact binds_K (by k_in) rfl (by k_is) rfl rfl rfl); (case c5 => decide); (case kB => exact locs rfl); (case c2 => exact rfl); (case c3 => exact rfl); (case c4 => exact rfl); k_whole; intro g' L' h' FG' F' N' B' X' T'; (try dsimp only); (try k_fold)))
local macro_rules | `(tactic| walk_at "call ref") => `(tactic| (k_here; (with_reducible show wpAny _ _ (call (Value.ref 428) _ _) _ _ _); refine wpAny_call ?_))
local macro_rules | `(tactic| walk_at "call ref") => `(tactic| (k_here; (with_reducible show wpAny _ _ (call (Value.ref 352) _ _) _ _ _); refine wpAny_call ?_))
local macro_rules | `(tactic| walk_at "call ref") => `(tactic| (k_here; (with_reducible show wpAny _ _ (call (Value.ref 559) _ _) _ _ _); refine wpAny_call ?_))
local macro_rules | `(tactic| walk_at "call ref") => `(tactic| (k_here; (with_reducible show wpAny _ _ (call (Value.ref 374) _ _) _ _ _); refine wpAny_call ?_))
mutual
theorem flat1_ht : ∀ t : Tree, hts (flat1 t) ≤ t.ht
  | .leaf a => by simp [flat1, hts, Tree.ht]
  | .node .union ps => by simp only [flat1, Tree.ht]; have := flats_ht ps; omega
  | .node .box ps => by simp [flat1, hts]
  | .node .pair ps => by simp [flat1, hts]
theorem flats_ht : ∀ ts : List Tree, hts (flats ts) ≤ hts ts
  | [] => by simp [flats]
  | t :: r => by simp only [flats, hts_app, hts]; have := flat1_ht t; have := flats_ht r; omega
end
theorem rt_bound : ∀ (ts acc : List Tree), hts (rt acc ts) ≤ max (hts acc) (hts ts) ∧ szs (rt acc ts) ≤ szs acc + szs ts + 1
  | [], acc => by
    simp only [rt]
    split
    · simp [hts, szs, Tree.ht, Tree.sz]
    · simp only [hts, szs]; omega
  | t :: r, acc => by
    simp only [rt]
    have h1 := rt_bound r acc
    have h2 := rt_bound r (acc ++ [t])
    simp only [hts_app, szs_app, hts, szs] at *
    split
    · omega
    split
    · simp only [hts, szs]; omega
    split
    · omega
    · omega
theorem visU_con (w : World) (mean : ExcName → Option Value) (mg mb : Str → Option Value) (W : Wd) (iA iB iC io : Addr) (σ : List (Atom × Tree)) (ps : List Tree) (d u H : Nat) (hH : hts (exps σ ps) < H) (hb : szs (exps σ ps) + 1 ≤ big)
    (C : Con w mean mg mb 428 d u (PreT W iA iB iC io σ ps) (PostT W σ ps)) : Con w mean mg mb 547 (d + 4 * H + 20) (u + 20 * H + 60) (PreV W iA iB iC io σ (.node .union ps)) (PostA W σ (.node .union ps)) := by
  unfold Con
  k_fill
  intro A A₀ env outer base h₀ L m news vis s args R B F X N T hA hf hk hh hg hd hu hvis hp hR
  obtain ⟨S, WI, x, v, rfl, hx, he⟩ := hp
  have he0 := he
  obtain ⟨dv, e, q1, u1, n1, e1, e2, es, ep, e3, ee, lo9⟩ := he
  have e1' := hvis _ e1
  have e2' := hvis _ e2
  simp only [TypIn] at hx
  obtain ⟨x, dx, l, h1, t1, k, vs, k', rfl, i1, i2, i3, hvs⟩ := hx
  have i1' := hvis _ i1
  have i2' := hvis _ i2
  have f1 := flats_ht (exps σ ps)
  have f2 := flats_sz (exps σ ps)
  have f3 := rt_bound (flats (exps σ ps)) []
  simp only [hts, szs] at f3
  k_dflt (refine' code_def (K := Mine.hd.heap_39 w.params) (binds := [(Str.ofString "self", .ref v), (Str.ofString "t", .ref x)]) B F X N T hA hf hk ?k6 ?k7 ?k8 ?k9 ?kB ?_ ?c2 ?c3 ?c4 ?c5; (case k6 => k_is); (case k7 => k_is); (case k9 => exact BindsTo.of_eq rfl); (case kB => exact locs rfl); (case c2 => exact rfl); (case c3 => exact rfl); (case c4 => exact rfl); (case c5 => decide); (case k8 => omega))
  intro g' L' h' FG' F' N' B' X' T'
  clear F N B X T
  try dsimp only
  k_fold
  k_steps
  k_dflt (refine' con_use (C) (vis) ?k1 ?k2 ?k3 ?k4 ?k5 ?kA ?kF ?kK ?kh ?kg ?kd ?ku ?kv ?pre ?_; (case k1 => k_asm); (case k2 => k_asm); (case k3 => k_asm); (case k4 => k_asm); (case k5 => k_asm); (case kA => first | exact Around.frames_deeper (Below.stack (by assumption)) | assumption); (case kF => exact rfl); (case kK => exact rfl); (case kh => first | exact hh | exact rfl | assumption); (case kg => first | exact hg | exact rfl | assumption); (case kd => ((try simp only [depth_under_make, depth_under_kw, depth_in1, depth_deeper, depth_caller]); omega)); (case ku => ((try simp only [units_under_make, units_in1, units_deeper, Around.mark_units, units_caller]); omega)))
  case kv => exact hvis
  case pre => exact ⟨S, WI, v, l, _, vs, rfl, i3, SeqOf.list, hvs, he0⟩
  intro r tl h9 tk9 F9 N9 O9 P9
  obtain ⟨l2, ws, k9, rfl, hl2, hws⟩ := P9
  clear F' N'
  dsimp only
  k_steps
  k_dflt (refine' con_use (flatten_con w mean mg mb W iA iB iC io H (exps σ ps) hH (by omega)) (vis ++ tl) ?k1 ?k2 ?k3 ?k4 ?k5 ?kA ?kF ?kK ?kh ?kg ?kd ?ku ?kv ?pre ?_; (case k1 => k_asm); (case k2 => k_asm); (case k3 => k_asm); (case k4 => k_asm); (case k5 => k_asm); (case kA => first | exact Around.frames_deeper (Below.stack (by assumption)) | assumption); (case kF => exact rfl); (case kK => exact rfl); (case kh => first | exact hh | exact rfl | assumption); (case kg => first | exact hg | exact rfl | assumption); (case kd => ((try simp only [depth_under_make, depth_under_kw, depth_in1, depth_deeper, depth_caller]); omega)); (case ku => ((try simp only [units_under_make, units_in1, units_deeper, Around.mark_units, units_caller]); omega)))
  case kv => exact sub_app hvis
  case pre => exact ⟨WI.mono fun p hp => List.mem_append_left _ hp, l2, ws, k9, rfl, hl2, hws⟩
  intro r tl2 h8 tk8 F8 N8 O8 P8
  obtain ⟨l3, ws3, k3, rfl, hl3, hws3⟩ := P8
  try clear F9 N9
  dsimp only
  k_steps
  k_dflt (refine' con_use (remove_con w mean mg mb W iA iB iC io H (flats (exps σ ps)) (by omega) (by omega)) (vis ++ tl ++ tl2) ?k1 ?k2 ?k3 ?k4 ?k5 ?kA ?kF ?kK ?kh ?kg ?kd ?ku ?kv ?pre ?_; (case k1 => k_asm); (case k2 => k_asm); (case k3 => k_asm); (case k4 => k_asm); (case k5 => k_asm); (case kA => first | exact Around.frames_deeper (Below.stack (by assumption)) | assumption); (case kF => exact rfl); (case kK => exact rfl); (case kh => first | exact hh | exact rfl | assumption); (case kg => first | exact hg | exact rfl | assumption); (case kd => ((try simp only [depth_under_make, depth_under_kw, depth_in1, depth_deeper, depth_caller]); omega)); (case ku => ((try simp only [units_under_make, units_in1, units_deeper, Around.mark_units, units_caller]); omega)))
  case kv => exact sub_app (sub_app hvis)
  case pre => exact ⟨WI.mono fun p hp => List.mem_append_left _ (List.mem_append_left _ hp), l3, ws3, k3, rfl, hl3, hws3⟩
  intro r tl3 h7 tk7 F7 N7 O7 P7
  obtain ⟨l4, ws4, k4, rfl, hl4, hws4⟩ := P7
  try clear F8 N8
  dsimp only
  k_steps
  k_dflt (refine' con_use (mkunion_con w mean mg mb W iA iB iC io H (rt [] (flats (exps σ ps))) (by omega) (by omega)) (vis ++ tl ++ tl2 ++ tl3) ?k1 ?k2 ?k3 ?k4 ?k5 ?kA ?kF ?kK ?kh ?kg ?kd ?ku ?kv ?pre ?_; (case k1 => k_asm); (case k2 => k_asm); (case k3 => k_asm); (case k4 => k_asm); (case k5 => k_asm); (case kA => first | exact Around.frames_deeper (Below.stack (by assumption)) | assumption); (case kF => exact rfl); (case kK => exact rfl); (case kh => first | exact hh | exact rfl | assumption); (case kg => first | exact hg | exact rfl | assumption); (case kd => ((try simp only [depth_under_make, depth_under_kw, depth_in1, depth_deeper, depth_caller]); omega)); (case ku => ((try simp only [units_under_make, units_in1, units_deeper, Around.mark_units, units_caller]); omega)))
  case kv => exact sub_app (sub_app (sub_app hvis))
  case pre => exact ⟨WI.mono fun p hp => List.mem_append_left _ (List.mem_append_left _ (List.mem_append_left _ hp)), l4, ws4, k4, rfl, hl4, hws4⟩
  intro r tl4 h6 tk6 F6 N6 O6 P6
  try clear F7 N7
  dsimp only
  k_steps
  show LeaveK _ _ _ _ _ _ _
  rename Fr _ _ _ _ => F2
  rename News _ _ _ _ => N2
  simp only [List.append_assoc] at N2 P6 O8 O7 O6
  refine con_leave0 (tl := tl ++ (tl2 ++ (tl3 ++ tl4))) hR F2 N2 ?_ ?_
  · refine O9.app ((O8.sub ?_).app ((O7.sub ?_).app (O6.sub ?_))) <;> intro q hq <;> first | exact hq | simpa only [List.mem_append, or_assoc] using hq
  · rw [PostA, exp, if_pos rfl]; exact P6
end Mine
namespace Mine
local macro_rules | `(tactic| k_mem) => `(tactic| first | with_reducible assumption | with_reducible exact List.mem_cons_self .. | (with_reducible refine List.mem_cons_of_mem _ ?_; k_mem) | (with_reducible refine List.mem_append_left _ ?_; k_mem) | (with_reducible refine List.mem_append_right _ ?_; k_mem))
local macro_rules | `(tactic| k_room) => `(tactic| ((try simp only [depth_under_make, depth_under_kw, depth_in1, depth_deeper, depth_caller]); omega))
local macro_rules | `(tactic| k_units) => `(tactic| ((try simp only [units_under_make, units_in1, units_deeper, Around.mark_units, units_caller]); omega))
local macro_rules | `(tactic| k_all) => `(tactic| first | assumption | (refine List.forall_mem_append.mpr ⟨?_, ?_⟩ <;> k_all))
local macro_rules | `(tactic| k_enter) => `(tactic| (refine' code_def ?k1 ?k2 ?k3 ?k4 ?k5 ?kA ?kF ?kK ?k6 ?k7 ?k8 ?k9 ?kB ?_ ?c2 ?c3 ?c4 ?c5; (case kA => first | exact Around.frames_deeper (Below.stack (by assumption)) | assumption); (case kF => exact rfl); (case kK => exact rfl); (case k1 => k_asm); (case k2 => k_asm); (case k3 => k_asm); (case k4 => k_asm); (case k5 => k_asm); (case k6 => k_is); (case k7 => k_is); (case k8 => k_room); (case k9 => first | exact BindsTo.of_eq rfl | exact binds_K (by k_in) rfl (by k_is) rfl rfl rfl); (case c5 => decide); (case kB => exact locs rfl); (case c2 => exact rfl); (case c3 => exact rfl); (case c4 => exact rfl); k_whole; intro g' L' h' FG' F' N' B' X' T'; (try dsimp only); (try k_fold)))
local macro_rules | `(tactic| walk_at "call ref") => `(tactic| (k_here; (with_reducible show wpAny _ _ (call (Value.ref 180) _ _) _ _ _); refine wpAny_call ?_))
local macro_rules | `(tactic| walk_at "call ref") => `(tactic| (k_here; (with_reducible show wpAny _ _ (call (Value.ref 214) _ _) _ _ _); refine wpAny_call ?_))
local macro_rules | `(tactic| walk_at "call ref") => `(tactic| (k_here; (with_reducible show wpAny _ _ (call (Value.ref 248) _ _) _ _ _); refine wpAny_call ?_))
local macro_rules | `(tactic| walk_at "call ref") => `(tactic| (k_here; (with_reducible show wpAny _ _ (call (Value.ref 281) _ _) _ _ _); refine wpAny_call ?_))
local macro_rules | `(tactic| walk_at "call ref") => `(tactic| (k_here; (with_reducible show wpAny _ _ (call (Value.ref 307) _ _) _ _ _); refine wpAny_call ?_))
local macro_rules | `(tactic| walk_at "call ref") => `(tactic| (k_here; (with_reducible show wpAny _ _ (call (Value.ref 362) _ _) _ _ _); refine wpAny_call ?_))
theorem rt_sz : ∀ (ts acc : List Tree), szs (rt acc ts) ≤ max 1 (szs acc + szs ts)
  | [], acc => by
    simp only [rt]
    split
    · simp only [szs, Tree.sz]; omega
    · simp only [szs]; omega
  | t :: r, acc => by
    simp only [rt]
    have h1 := rt_sz r acc
    have h2 := rt_sz r (acc ++ [t])
    simp only [szs_app, szs] at *
    split
    · omega
    split
    · simp only [szs]; omega
    split
    · omega
    · omega
theorem sz_pos (t : Tree) : 1 ≤ t.sz := by cases t <;> simp [Tree.sz]
theorem mkU_sz (ts : List Tree) (n : Nat) (h : szs ts ≤ max 1 n) : (mkU ts).sz ≤ n + 1 := by
  match ts, h with
  | [], _ => simp [mkU, Tree.sz]
  | [t], h => simp only [mkU, szs] at *; omega
  | t :: u :: r, h =>
    simp only [mkU, Tree.sz]
    have h1 := flats_sz (t :: u :: r)
    have := sz_pos t
    have := sz_pos u
    simp only [szs] at *
    omega
theorem mkU_ht (ts : List Tree) : (mkU ts).ht ≤ hts ts + 1 := by
  match ts with
  | [] => simp [mkU, Tree.ht]
  | [t] => simp only [mkU, hts]; omega
  | t :: u :: r =>
    simp only [mkU, Tree.ht]
    have h1 := flats_ht (t :: u :: r)
    omega
mutual
theorem exp_bound (σ : List (Atom × Tree)) (hb sb : Nat) (h1 : 1 ≤ sb) (hσ : ∀ a t, σ.lookup a = some t → t.ht ≤ hb ∧ t.sz ≤ sb) : ∀ t : Tree, (exp σ t).ht ≤ t.ht + hb ∧ (exp σ t).sz ≤ t.sz * sb
  | .leaf a => by
    simp only [exp, app]
    cases h : σ.lookup a with
    | none => simp [Tree.ht, Tree.sz]; exact h1
    | some t => have := hσ a t h; simp only [Option.getD_some, Tree.ht, Tree.sz]; omega
  | .node g ps => by
    have ih := exps_bound σ hb sb h1 hσ ps
    simp only [exp]
    split
    · have a1 := flats_ht (exps σ ps)
      have a2 := flats_sz (exps σ ps)
      have a3 := (rt_bound (flats (exps σ ps)) []).1
      have a4 := rt_sz (flats (exps σ ps)) []
      have a5 := mkU_ht (rt [] (flats (exps σ ps)))
      have a6 := mkU_sz (rt [] (flats (exps σ ps))) (szs (flats (exps σ ps))) (by simpa only [szs, Nat.zero_add] using a4)
      simp only [hts, Tree.ht, Tree.sz] at *
      rw [Nat.add_mul]
      omega
    · simp only [Tree.ht, Tree.sz]
      rw [Nat.add_mul]
      omega
theorem exps_bound (σ : List (Atom × Tree)) (hb sb : Nat) (h1 : 1 ≤ sb) (hσ : ∀ a t, σ.lookup a = some t → t.ht ≤ hb ∧ t.sz ≤ sb) : ∀ ts : List Tree, hts (exps σ ts) ≤ hts ts + hb ∧ szs (exps σ ts) ≤ szs ts * sb
  | [] => by simp [exps, hts, szs]
  | t :: r => by
    have a := exp_bound σ hb sb h1 hσ t
    have b := exps_bound σ hb sb h1 hσ r
    simp only [exps, hts, szs]
    rw [Nat.add_mul]
    omega
end
theorem exp_con (w : World) (mean : ExcName → Option Value) (mg mb : Str → Option Value) (W : Wd) (iA iB iC io : Addr) (σ : List (Atom × Tree)) (hσ : (σ.map (·.1)).Nodup) (hb sb H : Nat) (h1 : 1 ≤ sb) (hs : ∀ a t, σ.lookup a = some t → t.ht ≤ hb ∧ t.sz ≤ sb) :
    ∀ (n : Nat) (t : Tree), t.ht < n → n + hb < H → t.sz * sb + 2 ≤ big → Con w mean mg mb (accf (cls t)) (n * (4 * H + 40)) (n * (20 * H + 120)) (PreA W iA iB iC io σ t) (PostA W σ t) := by
  intro n
  induction n with
  | zero => intro t h; exact absurd h (Nat.not_lt_zero _)
  | succ n IH =>
    intro t ht hH hz
    have hzk : szs (kids t) * sb + 2 ≤ big := by
      cases t with
      | leaf a => simp only [kids, szs, Tree.sz] at *; omega
      | node g ps => simp only [kids, Tree.sz] at *; rw [Nat.add_mul] at hz; omega
    have hle : ∀ m, m ≤ m * sb := fun m => Nat.le_mul_of_pos_right m h1
    have htk : ∀ p ∈ kids t, p.ht < n ∧ p.sz ≤ szs (kids t) := fun p hp => by
      cases t with
      | leaf a => simp [kids] at hp
      | node g ps =>
        simp only [kids] at hp ⊢
        have := hts_le hp
        simp only [Tree.ht] at ht
        exact ⟨by omega, mem_sz hp⟩
    have TR : Con w mean mg mb 428 (n * (4 * H + 40) + 2) (n * (20 * H + 120) + 10) (PreT W iA iB iC io σ (kids t)) (PostT W σ (kids t)) := by
      refine translate_con w mean mg mb W iA iB iC io σ (kids t) (by have := hle (szs (kids t)); omega) _ _ fun p hp => IH p (htk p hp).1 (by omega) ?_
      have := Nat.mul_le_mul_right sb (htk p hp).2
      omega
    have e1 : (n + 1) * (4 * H + 40) = n * (4 * H + 40) + (4 * H + 40) := by rw [Nat.add_mul, Nat.one_mul]
    have e2 : (n + 1) * (20 * H + 120) = n * (20 * H + 120) + (20 * H + 120) := by rw [Nat.add_mul, Nat.one_mul]
    rw [e1, e2]
    have c6 := cls_six t
    simp only [six, List.mem_cons, List.not_mem_nil, or_false] at c6
    rcases c6 with c | c | c | c | c | c
    · rw [show accf (cls t) = 180 from by rw [c]; rfl]
      exact con_weak (accV_con w mean mg mb W iA iB iC io σ t c _ _ (visV_con' w mean mg mb W iA iB iC io σ hσ t c)) (by omega) (by omega) (fun _ _ h => h) fun _ _ _ h => h
    · have := cls_any c; subst this
      exact con_weak (accAny_con w mean mg mb W iA iB iC io σ) (by omega) (by omega) (fun _ _ h => h) fun _ _ _ h => h
    · have := cls_nev c; subst this
      exact con_weak (accNev_con w mean mg mb W iA iB iC io σ) (by omega) (by omega) (fun _ _ h => h) fun _ _ _ h => h
    · have := cls_non c; subst this
      exact con_weak (accNon_con w mean mg mb W iA iB iC io σ) (by omega) (by omega) (fun _ _ h => h) fun _ _ _ h => h
    · rw [show accf (cls t) = 307 from by rw [c]; rfl]
      have hle2 := hle t.sz
      exact con_weak (accI_con w mean mg mb W iA iB iC io σ t c _ _ (visI_con w mean mg mb W iA iB iC io σ t c (by omega) _ _ TR)) (by omega) (by omega) (fun _ _ h => h) fun _ _ _ h => h
    · rw [show accf (cls t) = 362 from by rw [c]; rfl]
      obtain ⟨ps, rfl⟩ : ∃ ps, t = .node .union ps := by
        cases t with
        | leaf a => cases a <;> simp [cls] at c
        | node g ps => cases g <;> simp [cls] at c; exact ⟨ps, rfl⟩
      simp only [kids] at TR hzk
      have hbd := exps_bound σ hb sb h1 hs ps
      simp only [Tree.ht] at ht
      exact con_weak (accU_con w mean mg mb W iA iB iC io σ _ c _ _ (visU_con w mean mg mb W iA iB iC io σ ps _ _ H (by omega) (by omega) TR)) (by omega) (by omega) (fun _ _ h => h) fun _ _ _ h => h
end Mine
namespace Mine
local macro_rules | `(tactic| walk_at "idle") => `(tactic| fail "idle")
local macro_rules | `(tactic| walk_at "idle") => `(tactic| fail "idle")
local macro_rules | `(tactic| walk_at "idle") => `(tactic| fail "idle")
local macro_rules | `(tactic| walk_at "idle") => `(tactic| fail "idle")
local macro_rules | `(tactic| walk_at "idle") => `(tactic| fail "idle")
local macro_rules | `(tactic| walk_at "idle") => `(tactic| fail "idle")
local macro_rules | `(tactic| walk_at "idle") => `(tactic| fail "idle")
local macro_rules | `(tactic| walk_at "idle") => `(tactic| fail "idle")
local macro_rules | `(tactic| walk_at "idle") => `(tactic| fail "idle")
local macro_rules | `(tactic| walk_at "idle") => `(tactic| fail "idle")
theorem fresh34 : True := by
  w_top off
  trivial
local macro_rules | `(tactic| k_mem) => `(tactic| first | with_reducible assumption | with_reducible exact List.mem_cons_self .. | (with_reducible refine List.mem_cons_of_mem _ ?_; k_mem) | (with_reducible refine List.mem_append_left _ ?_; k_mem) | (with_reducible refine List.mem_append_right _ ?_; k_mem))
local macro_rules | `(tactic| k_room) => `(tactic| ((try simp only [depth_under_make, depth_under_kw, depth_in1, depth_deeper, depth_caller]); omega))
local macro_rules | `(tactic| k_units) => `(tactic| ((try simp only [units_under_make, units_in1, units_deeper, Around.mark_units, units_caller]); omega))
local macro_rules | `(tactic| k_all) => `(tactic| first | assumption | (refine List.forall_mem_append.mpr ⟨?_, ?_⟩ <;> k_all))
local macro_rules | `(tactic| k_enter) => `(tactic| (refine' code_def ?k1 ?k2 ?k3 ?k4 ?k5 ?kA ?kF ?kK ?k6 ?k7 ?k8 ?k9 ?kB ?_ ?c2 ?c3 ?c4 ?c5; (case kA => first | exact Around.frames_deeper (Below.stack (by assumption)) | assumption); (case kF => exact rfl); (case kK => exact rfl); (case k1 => k_asm); (case k2 => k_asm); (case k3 => k_asm); (case k4 => k_asm); (case k5 => k_asm); (case k6 => k_is); (case k7 => k_is); (case k8 => k_room); (case k9 => first | exact BindsTo.of_eq rfl | exact binds_K (by k_in) rfl (by k_is) rfl rfl rfl); (case c5 => decide); (case kB => exact locs rfl); (case c2 => exact rfl); (case c3 => exact rfl); (case c4 => exact rfl); k_whole; intro g' L' h' FG' F' N' B' X' T'; (try dsimp only); (try k_fold)))
local macro_rules | `(tactic| walk_at "call ref") => `(tactic| (k_here; (with_reducible show wpAny _ _ (call (Value.ref 180) _ _) _ _ _); refine wpAny_call ?_))
local macro_rules | `(tactic| walk_at "call ref") => `(tactic| (k_here; (with_reducible show wpAny _ _ (call (Value.ref 214) _ _) _ _ _); refine wpAny_call ?_))
local macro_rules | `(tactic| walk_at "call ref") => `(tactic| (k_here; (with_reducible show wpAny _ _ (call (Value.ref 248) _ _) _ _ _); refine wpAny_call ?_))
local macro_rules | `(tactic| walk_at "call ref") => `(tactic| (k_here; (with_reducible show wpAny _ _ (call (Value.ref 281) _ _) _ _ _); refine wpAny_call ?_))
local macro_rules | `(tactic| walk_at "call ref") => `(tactic| (k_here; (with_reducible show wpAny _ _ (call (Value.ref 307) _ _) _ _ _); refine wpAny_call ?_))
local macro_rules | `(tactic| walk_at "call ref") => `(tactic| (k_here; (with_reducible show wpAny _ _ (call (Value.ref 362) _ _) _ _ _); refine wpAny_call ?_))
local macro_rules | `(tactic| walk_at "call ref") => `(tactic| (k_here; (with_reducible show wpAny _ _ (call (Value.ref 550) _ _) _ _ _); refine wpAny_call ?_))
theorem visitor_con (w : World) (mean : ExcName → Option Value) (mg mb : Str → Option Value) (W : Wd) (σ : List (Atom × Tree)) : Con w mean mg mb 550 4 20
    (fun news args => ∃ e, args = [.ref e] ∧ DictIn W news σ e)
    (fun news _ r => ∃ v, r = .ref v ∧ EnvIn W news σ v) := by
  unfold Con
  k_fill
  intro A A₀ env outer base h₀ L m news vis s args R B F X N T hA hf hk hh hg hd hu hvis hp hR
  obtain ⟨e, rfl, he⟩ := hp
  k_dflt (refine' make_K (K := Mine.hd.heap_39 w.params) F N (X.keeps F.keep) ?m4 ?m5 ?m6 ?_; (case m4 => k_is); (case m5 => k_is); (case m6 => k_is))
  intro x9 d9 h9 F9 N9 l9 l9'
  replace l9' := ltN l9'
  k_dflt (refine' code_def (K := Mine.hd.heap_39 w.params) (binds := [(Str.ofString "self", .ref x9), (Str.ofString "variables", .ref e)]) B F9 X N9 T ?kA hf hk ?k6 ?k7 ?k8 ?k9 ?kB ?_ ?c2 ?c3 ?c4 ?c5; (case kA => exact hA); (case k6 => k_is); (case k7 => k_is); (case k9 => exact BindsTo.of_eq rfl); (case kB => exact locs rfl); (case c2 => exact rfl); (case c3 => exact rfl); (case c4 => exact rfl); (case c5 => decide); (case k8 => ((try simp only [depth_under_make, depth_under_kw, depth_in1, depth_deeper, depth_caller]); omega)))
  intro g' L' h' FG' F' N' B' X' T'
  clear F N B X T F9 N9
  change News g' L' h' ((x9, instObj _ d9) :: (d9, dictOf [] 0) :: news) at N'
  try dsimp only
  k_fold
  have a1 : ∀ p ∈ news, p.1 ≠ d9 := fun p hp => Nat.ne_of_lt (l9 p hp)
  k_steps
  rename Fr _ _ _ _ => F2
  rename News _ _ _ _ => N2
  refine con_leave_init2 (tl := []) hR F2 (by rw [List.append_nil]; exact N2) (Ord.cons (fun q hq => Nat.lt_trans (l9 q hq) l9') (Ord.cons l9 Ord.nil)) ?_
  exact ⟨x9, rfl, d9, e, _, _, _, by k_mem, by k_mem, he.mono fun p hp => by k_mem⟩
theorem expand_con (w : World) (mean : ExcName → Option Value) (mg mb : Str → Option Value) (W : Wd) (iA iB iC io : Addr) (σ : List (Atom × Tree)) (t : Tree) (d u : Nat)
    (C : Con w mean mg mb (accf (cls t)) d u (PreA W iA iB iC io σ t) (PostA W σ t)) : Con w mean mg mb 512 (d + 8) (u + 40)
    (fun news args => Sv news ∧ WIn W iA iB iC io news ∧ ∃ x e, args = [x, .ref e] ∧ TypIn W news t x ∧ DictIn W news σ e)
    (PostA W σ t) := by
  unfold Con
  k_fill
  intro A A₀ env outer base h₀ L m news vis s args R B F X N T hA hf hk hh hg hd hu hvis hp hR
  obtain ⟨S, WI, x, e, rfl, hx, he⟩ := hp
  obtain ⟨x, dx, es, nn, rfl, i1, i2⟩ := typ_inst WI hx
  have c6 := cls_six t
  simp only [six, List.mem_cons, List.not_mem_nil, or_false] at c6
  rcases c6 with c | c | c | c | c | c
  · obtain ⟨x', e', d1, j, dj, l1, h1, h2, h3, h4, h5, t1, t1', t2, t3, t4, t5, t5', h6, h7, t6, t6', t7, t7', k, k', k'', z1, z2, z3, z4, z5⟩ := typ190 WI c hx
    cases e'
    have z1' := hvis _ z1
    have z2' := hvis _ z2
    have Ct' : Con w mean mg mb 180 d u (PreA W iA iB iC io σ t) (PostA W σ t) := by have h := C; rw [c] at h; exact h
    k_dflt (refine' code_def (K := Mine.hd.heap_39 w.params) (binds := [(Str.ofString "typ", .ref x), (Str.ofString "env", .ref e)]) B F X N T hA hf hk ?k6 ?k7 ?k8 ?k9 ?kB ?_ ?c2 ?c3 ?c4 ?c5; (case k6 => k_is); (case k7 => k_is); (case k9 => exact BindsTo.of_eq rfl); (case kB => exact locs rfl); (case c2 => exact rfl); (case c3 => exact rfl); (case c4 => exact rfl); (case c5 => decide); (case k8 => omega))
    intro g' L' h' FG' F' N' B' X' T'
    clear F N B X T
    try dsimp only
    k_fold
    k_steps
    k_dflt (refine' con_use (visitor_con w mean mg mb W σ) (vis) ?k1 ?k2 ?k3 ?k4 ?k5 ?kA ?kF ?kK ?kh ?kg ?kd ?ku ?kv ?pre ?_; (case k1 => k_asm); (case k2 => k_asm); (case k3 => k_asm); (case k4 => k_asm); (case k5 => k_asm); (case kA => first | exact Around.frames_deeper (Below.stack (by assumption)) | assumption); (case kF => exact rfl); (case kK => exact rfl); (case kh => first | exact hh | exact rfl | assumption); (case kg => first | exact hg | exact rfl | assumption); (case kd => ((try simp only [depth_under_make, depth_under_kw, depth_in1, depth_deeper, depth_caller]); omega)); (case ku => ((try simp only [units_under_make, units_in1, units_deeper, Around.mark_units, units_caller]); omega)))
    case kv => exact hvis
    case pre => exact ⟨e, rfl, he⟩
    intro r tl h9 tk9 F9 N9 O9 P9
    obtain ⟨v, rfl, hv⟩ := P9
    clear F' N'
    dsimp only
    k_steps
    k_dflt (refine' con_use (Ct') (vis ++ tl) ?k1 ?k2 ?k3 ?k4 ?k5 ?kA ?kF ?kK ?kh ?kg ?kd ?ku ?kv ?pre ?_; (case k1 => k_asm); (case k2 => k_asm); (case k3 => k_asm); (case k4 => k_asm); (case k5 => k_asm); (case kA => first | exact Around.frames_deeper (Below.stack (by assumption)) | assumption); (case kF => exact rfl); (case kK => exact rfl); (case kh => first | exact hh | exact rfl | assumption); (case kg => first | exact hg | exact rfl | assumption); (case kd => ((try simp only [depth_under_make, depth_under_kw, depth_in1, depth_deeper, depth_caller]); omega)); (case ku => ((try simp only [units_under_make, units_in1, units_deeper, Around.mark_units, units_caller]); omega)))
    case kv => exact sub_app hvis
    case pre => exact ⟨(sv_of N9).sub (sub_app hvis), WI.mono fun p hp => List.mem_append_left _ hp, _, _, rfl, hx.mono fun p hp => List.mem_append_left _ hp, hv⟩
    intro r tl2 h8 tk8 F8 N8 O8 P8
    clear F9 N9
    dsimp only
    show LeaveK _ _ _ _ _ _ _
    rw [List.append_assoc] at N8 P8
    exact con_leave0 (tl := tl ++ tl2) hR F8 N8 (O9.app O8) P8
  · have et := cls_any c
    have htv' := hx
    rw [et] at htv'
    simp only [TypIn] at htv'
    cases htv'
    obtain ⟨d1, h1, h2, t1, t1', t2, k, z1, z2⟩ := WI.any
    have z1' := hvis _ z1
    have z2' := hvis _ z2
    have Ct' : Con w mean mg mb 214 d u (PreA W iA iB iC io σ t) (PostA W σ t) := by have h := C; rw [c] at h; exact h
    k_dflt (refine' code_def (K := Mine.hd.heap_39 w.params) (binds := [(Str.ofString "typ", .ref (W.at_ .any)), (Str.ofString "env", .ref e)]) B F X N T hA hf hk ?k6 ?k7 ?k8 ?k9 ?kB ?_ ?c2 ?c3 ?c4 ?c5; (case k6 => k_is); (case k7 => k_is); (case k9 => exact BindsTo.of_eq rfl); (case kB => exact locs rfl); (case c2 => exact rfl); (case c3 => exact rfl); (case c4 => exact rfl); (case c5 => decide); (case k8 => omega))
    intro g' L' h' FG' F' N' B' X' T'
    clear F N B X T
    try dsimp only
    k_fold
    k_steps
    k_dflt (refine' con_use (visitor_con w mean mg mb W σ) (vis) ?k1 ?k2 ?k3 ?k4 ?k5 ?kA ?kF ?kK ?kh ?kg ?kd ?ku ?kv ?pre ?_; (case k1 => k_asm); (case k2 => k_asm); (case k3 => k_asm); (case k4 => k_asm); (case k5 => k_asm); (case kA => first | exact Around.frames_deeper (Below.stack (by assumption)) | assumption); (case kF => exact rfl); (case kK => exact rfl); (case kh => first | exact hh | exact rfl | assumption); (case kg => first | exact hg | exact rfl | assumption); (case kd => ((try simp only [depth_under_make, depth_under_kw, depth_in1, depth_deeper, depth_caller]); omega)); (case ku => ((try simp only [units_under_make, units_in1, units_deeper, Around.mark_units, units_caller]); omega)))
    case kv => exact hvis
    case pre => exact ⟨e, rfl, he⟩
    intro r tl h9 tk9 F9 N9 O9 P9
    obtain ⟨v, rfl, hv⟩ := P9
    clear F' N'
    dsimp only
    k_steps
    k_dflt (refine' con_use (Ct') (vis ++ tl) ?k1 ?k2 ?k3 ?k4 ?k5 ?kA ?kF ?kK ?kh ?kg ?kd ?ku ?kv ?pre ?_; (case k1 => k_asm); (case k2 => k_asm); (case k3 => k_asm); (case k4 => k_asm); (case k5 => k_asm); (case kA => first | exact Around.frames_deeper (Below.stack (by assumption)) | assumption); (case kF => exact rfl); (case kK => exact rfl); (case kh => first | exact hh | exact rfl | assumption); (case kg => first | exact hg | exact rfl | assumption); (case kd => ((try simp only [depth_under_make, depth_under_kw, depth_in1, depth_deeper, depth_caller]); omega)); (case ku => ((try simp only [units_under_make, units_in1, units_deeper, Around.mark_units, units_caller]); omega)))
    case kv => exact sub_app hvis
    case pre => exact ⟨(sv_of N9).sub (sub_app hvis), WI.mono fun p hp => List.mem_append_left _ hp, _, _, rfl, hx.mono fun p hp => List.mem_append_left _ hp, hv⟩
    intro r tl2 h8 tk8 F8 N8 O8 P8
    clear F9 N9
    dsimp only
    show LeaveK _ _ _ _ _ _ _
    rw [List.append_assoc] at N8 P8
    exact con_leave0 (tl := tl ++ tl2) hR F8 N8 (O9.app O8) P8
  · have et := cls_nev c
    have htv' := hx
    rw [et] at htv'
    simp only [TypIn] at htv'
    obtain ⟨x', d1, h1, t1, k, e', z1, z2⟩ := htv'
    cases e'
    have z1' := hvis _ z1
    have z2' := hvis _ z2
    have Ct' : Con w mean mg mb 248 d u (PreA W iA iB iC io σ t) (PostA W σ t) := by have h := C; rw [c] at h; exact h
    k_dflt (refine' code_def (K := Mine.hd.heap_39 w.params) (binds := [(Str.ofString "typ", .ref x), (Str.ofString "env", .ref e)]) B F X N T hA hf hk ?k6 ?k7 ?k8 ?k9 ?kB ?_ ?c2 ?c3 ?c4 ?c5; (case k6 => k_is); (case k7 => k_is); (case k9 => exact BindsTo.of_eq rfl); (case kB => exact locs rfl); (case c2 => exact rfl); (case c3 => exact rfl); (case c4 => exact rfl); (case c5 => decide); (case k8 => omega))
    intro g' L' h' FG' F' N' B' X' T'
    clear F N B X T
    try dsimp only
    k_fold
    k_steps
    k_dflt (refine' con_use (visitor_con w mean mg mb W σ) (vis) ?k1 ?k2 ?k3 ?k4 ?k5 ?kA ?kF ?kK ?kh ?kg ?kd ?ku ?kv ?pre ?_; (case k1 => k_asm); (case k2 => k_asm); (case k3 => k_asm); (case k4 => k_asm); (case k5 => k_asm); (case kA => first | exact Around.frames_deeper (Below.stack (by assumption)) | assumption); (case kF => exact rfl); (case kK => exact rfl); (case kh => first | exact hh | exact rfl | assumption); (case kg => first | exact hg | exact rfl | assumption); (case kd => ((try simp only [depth_under_make, depth_under_kw, depth_in1, depth_deeper, depth_caller]); omega)); (case ku => ((try simp only [units_under_make, units_in1, units_deeper, Around.mark_units, units_caller]); omega)))
    case kv => exact hvis
    case pre => exact ⟨e, rfl, he⟩
    intro r tl h9 tk9 F9 N9 O9 P9
    obtain ⟨v, rfl, hv⟩ := P9
    clear F' N'
    dsimp only
    k_steps
    k_dflt (refine' con_use (Ct') (vis ++ tl) ?k1 ?k2 ?k3 ?k4 ?k5 ?kA ?kF ?kK ?kh ?kg ?kd ?ku ?kv ?pre ?_; (case k1 => k_asm); (case k2 => k_asm); (case k3 => k_asm); (case k4 => k_asm); (case k5 => k_asm); (case kA => first | exact Around.frames_deeper (Below.stack (by assumption)) | assumption); (case kF => exact rfl); (case kK => exact rfl); (case kh => first | exact hh | exact rfl | assumption); (case kg => first | exact hg | exact rfl | assumption); (case kd => ((try simp only [depth_under_make, depth_under_kw, depth_in1, depth_deeper, depth_caller]); omega)); (case ku => ((try simp only [units_under_make, units_in1, units_deeper, Around.mark_units, units_caller]); omega)))
    case kv => exact sub_app hvis
    case pre => exact ⟨(sv_of N9).sub (sub_app hvis), WI.mono fun p hp => List.mem_append_left _ hp, _, _, rfl, hx.mono fun p hp => List.mem_append_left _ hp, hv⟩
    intro r tl2 h8 tk8 F8 N8 O8 P8
    clear F9 N9
    dsimp only
    show LeaveK _ _ _ _ _ _ _
    rw [List.append_assoc] at N8 P8
    exact con_leave0 (tl := tl ++ tl2) hR F8 N8 (O9.app O8) P8
  · have et := cls_non c
    have htv' := hx
    rw [et] at htv'
    simp only [TypIn] at htv'
    cases htv'
    obtain ⟨d1, k, z1, z2⟩ := WI.non
    have z1' := hvis _ z1
    have z2' := hvis _ z2
    have Ct' : Con w mean mg mb 281 d u (PreA W iA iB iC io σ t) (PostA W σ t) := by have h := C; rw [c] at h; exact h
    k_dflt (refine' code_def (K := Mine.hd.heap_39 w.params) (binds := [(Str.ofString "typ", .ref (W.at_ .non)), (Str.ofString "env", .ref e)]) B F X N T hA hf hk ?k6 ?k7 ?k8 ?k9 ?kB ?_ ?c2 ?c3 ?c4 ?c5; (case k6 => k_is); (case k7 => k_is); (case k9 => exact BindsTo.of_eq rfl); (case kB => exact locs rfl); (case c2 => exact rfl); (case c3 => exact rfl); (case c4 => exact rfl); (case c5 => decide); (case k8 => omega))
    intro g' L' h' FG' F' N' B' X' T'
    clear F N B X T
    try dsimp only
    k_fold
    k_steps
    k_dflt (refine' con_use (visitor_con w mean mg mb W σ) (vis) ?k1 ?k2 ?k3 ?k4 ?k5 ?kA ?kF ?kK ?kh ?kg ?kd ?ku ?kv ?pre ?_; (case k1 => k_asm); (case k2 => k_asm); (case k3 => k_asm); (case k4 => k_asm); (case k5 => k_asm); (case kA => first | exact Around.frames_deeper (Below.stack (by assumption)) | assumption); (case kF => exact rfl); (case kK => exact rfl); (case kh => first | exact hh | exact rfl | assumption); (case kg => first | exact hg | exact rfl | assumption); (case kd => ((try simp only [depth_under_make, depth_under_kw, depth_in1, depth_deeper, depth_caller]); omega)); (case ku => ((try simp only [units_under_make, units_in1, units_deeper, Around.mark_units, units_caller]); omega)))
    case kv => exact hvis
    case pre => exact ⟨e, rfl, he⟩
    intro r tl h9 tk9 F9 N9 O9 P9
    obtain ⟨v, rfl, hv⟩ := P9
    clear F' N'
    dsimp only
    k_steps
    k_dflt (refine' con_use (Ct') (vis ++ tl) ?k1 ?k2 ?k3 ?k4 ?k5 ?kA ?kF ?kK ?kh ?kg ?kd ?ku ?kv ?pre ?_; (case k1 => k_asm); (case k2 => k_asm); (case k3 => k_asm); (case k4 => k_asm); (case k5 => k_asm); (case kA => first | exact Around.frames_deeper (Below.stack (by assumption)) | assumption); (case kF => exact rfl); (case kK => exact rfl); (case kh => first | exact hh | exact rfl | assumption); (case kg => first | exact hg | exact rfl | assumption); (case kd => ((try simp only [depth_under_make, depth_under_kw, depth_in1, depth_deeper, depth_caller]); omega)); (case ku => ((try simp only [units_under_make, units_in1, units_deeper, Around.mark_units, units_caller]); omega)))
    case kv => exact sub_app hvis
    case pre => exact ⟨(sv_of N9).sub (sub_app hvis), WI.mono fun p hp => List.mem_append_left _ hp, _, _, rfl, hx.mono fun p hp => List.mem_append_left _ hp, hv⟩
    intro r tl2 h8 tk8 F8 N8 O8 P8
    clear F9 N9
    dsimp only
    show LeaveK _ _ _ _ _ _ _
    rw [List.append_assoc] at N8 P8
    exact con_leave0 (tl := tl ++ tl2) hR F8 N8 (O9.app O8) P8
  · obtain ⟨x', xs, e', ⟨d1, tu, h1, h2, t1, t2, k, k', z1, z2, z3⟩, hxs, fx⟩ := typ324 WI c hx
    cases e'
    have z1' := hvis _ z1
    have z2' := hvis _ z2
    have Ct' : Con w mean mg mb 307 d u (PreA W iA iB iC io σ t) (PostA W σ t) := by have h := C; rw [c] at h; exact h
    k_dflt (refine' code_def (K := Mine.hd.heap_39 w.params) (binds := [(Str.ofString "typ", .ref x), (Str.ofString "env", .ref e)]) B F X N T hA hf hk ?k6 ?k7 ?k8 ?k9 ?kB ?_ ?c2 ?c3 ?c4 ?c5; (case k6 => k_is); (case k7 => k_is); (case k9 => exact BindsTo.of_eq rfl); (case kB => exact locs rfl); (case c2 => exact rfl); (case c3 => exact rfl); (case c4 => exact rfl); (case c5 => decide); (case k8 => omega))
    intro g' L' h' FG' F' N' B' X' T'
    clear F N B X T
    try dsimp only
    k_fold
    k_steps
    k_dflt (refine' con_use (visitor_con w mean mg mb W σ) (vis) ?k1 ?k2 ?k3 ?k4 ?k5 ?kA ?kF ?kK ?kh ?kg ?kd ?ku ?kv ?pre ?_; (case k1 => k_asm); (case k2 => k_asm); (case k3 => k_asm); (case k4 => k_asm); (case k5 => k_asm); (case kA => first | exact Around.frames_deeper (Below.stack (by assumption)) | assumption); (case kF => exact rfl); (case kK => exact rfl); (case kh => first | exact hh | exact rfl | assumption); (case kg => first | exact hg | exact rfl | assumption); (case kd => ((try simp only [depth_under_make, depth_under_kw, depth_in1, depth_deeper, depth_caller]); omega)); (case ku => ((try simp only [units_under_make, units_in1, units_deeper, Around.mark_units, units_caller]); omega)))
    case kv => exact hvis
    case pre => exact ⟨e, rfl, he⟩
    intro r tl h9 tk9 F9 N9 O9 P9
    obtain ⟨v, rfl, hv⟩ := P9
    clear F' N'
    dsimp only
    k_steps
    k_dflt (refine' con_use (Ct') (vis ++ tl) ?k1 ?k2 ?k3 ?k4 ?k5 ?kA ?kF ?kK ?kh ?kg ?kd ?ku ?kv ?pre ?_; (case k1 => k_asm); (case k2 => k_asm); (case k3 => k_asm); (case k4 => k_asm); (case k5 => k_asm); (case kA => first | exact Around.frames_deeper (Below.stack (by assumption)) | assumption); (case kF => exact rfl); (case kK => exact rfl); (case kh => first | exact hh | exact rfl | assumption); (case kg => first | exact hg | exact rfl | assumption); (case kd => ((try simp only [depth_under_make, depth_under_kw, depth_in1, depth_deeper, depth_caller]); omega)); (case ku => ((try simp only [units_under_make, units_in1, units_deeper, Around.mark_units, units_caller]); omega)))
    case kv => exact sub_app hvis
    case pre => exact ⟨(sv_of N9).sub (sub_app hvis), WI.mono fun p hp => List.mem_append_left _ hp, _, _, rfl, hx.mono fun p hp => List.mem_append_left _ hp, hv⟩
    intro r tl2 h8 tk8 F8 N8 O8 P8
    clear F9 N9
    dsimp only
    show LeaveK _ _ _ _ _ _ _
    rw [List.append_assoc] at N8 P8
    exact con_leave0 (tl := tl ++ tl2) hR F8 N8 (O9.app O8) P8
  · obtain ⟨qs, x', d1, l1, h1, t1, k, us, k', et, e', z1, z2, z3, hus⟩ := typ365 c hx
    cases e'
    have z1' := hvis _ z1
    have z2' := hvis _ z2
    have Ct' : Con w mean mg mb 362 d u (PreA W iA iB iC io σ t) (PostA W σ t) := by have h := C; rw [c] at h; exact h
    k_dflt (refine' code_def (K := Mine.hd.heap_39 w.params) (binds := [(Str.ofString "typ", .ref x), (Str.ofString "env", .ref e)]) B F X N T hA hf hk ?k6 ?k7 ?k8 ?k9 ?kB ?_ ?c2 ?c3 ?c4 ?c5; (case k6 => k_is); (case k7 => k_is); (case k9 => exact BindsTo.of_eq rfl); (case kB => exact locs rfl); (case c2 => exact rfl); (case c3 => exact rfl); (case c4 => exact rfl); (case c5 => decide); (case k8 => omega))
    intro g' L' h' FG' F' N' B' X' T'
    clear F N B X T
    try dsimp only
    k_fold
    k_steps
    k_dflt (refine' con_use (visitor_con w mean mg mb W σ) (vis) ?k1 ?k2 ?k3 ?k4 ?k5 ?kA ?kF ?kK ?kh ?kg ?kd ?ku ?kv ?pre ?_; (case k1 => k_asm); (case k2 => k_asm); (case k3 => k_asm); (case k4 => k_asm); (case k5 => k_asm); (case kA => first | exact Around.frames_deeper (Below.stack (by assumption)) | assumption); (case kF => exact rfl); (case kK => exact rfl); (case kh => first | exact hh | exact rfl | assumption); (case kg => first | exact hg | exact rfl | assumption); (case kd => ((try simp only [depth_under_make, depth_under_kw, depth_in1, depth_deeper, depth_caller]); omega)); (case ku => ((try simp only [units_under_make, units_in1, units_deeper, Around.mark_units, units_caller]); omega)))
    case kv => exact hvis
    case pre => exact ⟨e, rfl, he⟩
    intro r tl h9 tk9 F9 N9 O9 P9
    obtain ⟨v, rfl, hv⟩ := P9
    clear F' N'
    dsimp only
    k_steps
    k_dflt (refine' con_use (Ct') (vis ++ tl) ?k1 ?k2 ?k3 ?k4 ?k5 ?kA ?kF ?kK ?kh ?kg ?kd ?ku ?kv ?pre ?_; (case k1 => k_asm); (case k2 => k_asm); (case k3 => k_asm); (case k4 => k_asm); (case k5 => k_asm); (case kA => first | exact Around.frames_deeper (Below.stack (by assumption)) | assumption); (case kF => exact rfl); (case kK => exact rfl); (case kh => first | exact hh | exact rfl | assumption); (case kg => first | exact hg | exact rfl | assumption); (case kd => ((try simp only [depth_under_make, depth_under_kw, depth_in1, depth_deeper, depth_caller]); omega)); (case ku => ((try simp only [units_under_make, units_in1, units_deeper, Around.mark_units, units_caller]); omega)))
    case kv => exact sub_app hvis
    case pre => exact ⟨(sv_of N9).sub (sub_app hvis), WI.mono fun p hp => List.mem_append_left _ hp, _, _, rfl, hx.mono fun p hp => List.mem_append_left _ hp, hv⟩
    intro r tl2 h8 tk8 F8 N8 O8 P8
    clear F9 N9
    dsimp only
    show LeaveK _ _ _ _ _ _ _
    rw [List.append_assoc] at N8 P8
    exact con_leave0 (tl := tl ++ tl2) hR F8 N8 (O9.app O8) P8
end Mine
namespace Mine
local macro_rules | `(tactic| walk_at "idle") => `(tactic| fail "idle")
local macro_rules | `(tactic| walk_at "idle") => `(tactic| fail "idle")
local macro_rules | `(tactic| walk_at "idle") => `(tactic| fail "idle")
local macro_rules | `(tactic| walk_at "idle") => `(tactic| fail "idle")
local macro_rules | `(tactic| walk_at "idle") => `(tactic| fail "idle")
local macro_rules | `(tactic| walk_at "idle") => `(tactic| fail "idle")
local macro_rules | `(tactic| walk_at "idle") => `(tactic| fail "idle")
local macro_rules | `(tactic| walk_at "idle") => `(tactic| fail "idle")
theorem fresh35 : True := by
  w_top off
  trivial
local macro_rules | `(tactic| k_mem) => `(tactic| first | with_reducible assumption | with_reducible exact List.mem_cons_self .. | (with_reducible refine List.mem_cons_of_mem _ ?_; k_mem) | (with_reducible refine List.mem_append_left _ ?_; k_mem) | (with_reducible refine List.mem_append_right _ ?_; k_mem))
local macro_rules | `(tactic| k_room) => `(tactic| ((try simp only [depth_under_make, depth_under_kw, depth_in1, depth_deeper, depth_caller]); omega))
local macro_rules | `(tactic| k_units) => `(tactic| ((try simp only [units_under_make, units_in1, units_deeper, Around.mark_units, units_caller]); omega))
local macro_rules | `(tactic| k_all) => `(tactic| first | assumption | (refine List.forall_mem_append.mpr ⟨?_, ?_⟩ <;> k_all))
local macro_rules | `(tactic| k_enter) => `(tactic| (refine' code_def ?k1 ?k2 ?k3 ?k4 ?k5 ?kA ?kF ?kK ?k6 ?k7 ?k8 ?k9 ?kB ?_ ?c2 ?c3 ?c4 ?c5; (case kA => first | exact Around.frames_deeper (Below.stack (by assumption)) | assumption); (case kF => exact rfl); (case kK => exact rfl); (case k1 => k_asm); (case k2 => k_asm); (case k3 => k_asm); (case k4 => k_asm); (case k5 => k_asm); (case k6 => k_is); (case k7 => k_is); (case k8 => k_room); (case k9 => first | exact BindsTo.of_eq rfl | exact binds_K (by k_in) rfl (by k_is) rfl rfl rfl); (case c5 => decide); (case kB => exact locs rfl); (case c2 => exact rfl); (case c3 => exact rfl); (case c4 => exact rfl); k_whole; intro g' L' h' FG' F' N' B' X' T'; (try dsimp only); (try k_fold)))
local macro_rules | `(tactic| walk_at "call ref") => `(tactic| (k_here; (with_reducible show wpAny _ _ (call (Value.ref 477) _ _) _ _ _); refine wpAny_call ?_))
local macro_rules | `(tactic| walk_at "call ref") => `(tactic| (k_here; (with_reducible show wpAny _ _ (call (Value.ref 484) _ _) _ _ _); refine wpAny_call ?_))
local macro_rules | `(tactic| walk_at "call ref") => `(tactic| (k_here; (with_reducible show wpAny _ _ (call (Value.ref 491) _ _) _ _ _); refine wpAny_call ?_))
local macro_rules | `(tactic| walk_at "call ref") => `(tactic| (k_here; (with_reducible show wpAny _ _ (call (Value.ref 449) _ _) _ _ _); refine wpAny_call ?_))
local macro_rules | `(tactic| walk_at "call ref") => `(tactic| (k_here; (with_reducible show wpAny _ _ (call (Value.ref 180) _ _) _ _ _); refine wpAny_call ?_))
local macro_rules | `(tactic| walk_at "call ref") => `(tactic| (k_here; (with_reducible show wpAny _ _ (call (Value.ref 214) _ _) _ _ _); refine wpAny_call ?_))
local macro_rules | `(tactic| walk_at "call ref") => `(tactic| (k_here; (with_reducible show wpAny _ _ (call (Value.ref 248) _ _) _ _ _); refine wpAny_call ?_))
local macro_rules | `(tactic| walk_at "call ref") => `(tactic| (k_here; (with_reducible show wpAny _ _ (call (Value.ref 281) _ _) _ _ _); refine wpAny_call ?_))
local macro_rules | `(tactic| walk_at "call ref") => `(tactic| (k_here; (with_reducible show wpAny _ _ (call (Value.ref 307) _ _) _ _ _); refine wpAny_call ?_))
local macro_rules | `(tactic| walk_at "call ref") => `(tactic| (k_here; (with_reducible show wpAny _ _ (call (Value.ref 362) _ _) _ _ _); refine wpAny_call ?_))
mutual
def tvars : Tree → List Atom
  | .leaf a => if isVar a then [a] else []
  | .node _ ps => tvarss ps
def tvarss : List Tree → List Atom
  | [] => []
  | p :: r => tvars p ++ tvarss r
end
theorem tvarss_snoc {ts : List Tree} {i : Nat} {t : Tree} (h : ts[i]? = some t) : tvarss (ts.take (i + 1)) = tvarss (ts.take i) ++ tvars t := by
  have app : ∀ a b : List Tree, tvarss (a ++ b) = tvarss a ++ tvarss b := by
    intro a; induction a with
    | nil => intro b; simp [tvarss]
    | cons t r ih => intro b; simp [tvarss, ih]
  rw [List.take_add_one, h, Option.toList_some, app]; simp [tvarss]
mutual
theorem tvars_len : ∀ t : Tree, (tvars t).length ≤ t.sz
  | .leaf a => by simp only [tvars, Tree.sz]; split <;> simp
  | .node _ ps => by simp only [tvars, Tree.sz]; have := tvarss_len ps; omega
theorem tvarss_len : ∀ ts : List Tree, (tvarss ts).length ≤ szs ts
  | [] => by simp [tvarss]
  | t :: r => by simp only [tvarss, List.length_append, szs]; have := tvars_len t; have := tvarss_len r; omega
end
/-- the extractor -/
def XIn (news : Led) (v : Addr) : Prop := ∃ dv n, (v, instObj 494 dv) ∈ news ∧ (dv, dictOf [] n) ∈ news
def refs (W : Wd) (as : List Atom) : List Value := as.map fun a => .ref (W.at_ a)
def PreX (W : Wd) (iA iB iC io : Addr) (t : Tree) (news : Led) (args : List Value) : Prop := WIn W iA iB iC io news ∧ ∃ x v, args = [x, .ref v] ∧ TypIn W news t x ∧ XIn news v
def PreXV (W : Wd) (iA iB iC io : Addr) (t : Tree) (news : Led) (args : List Value) : Prop := WIn W iA iB iC io news ∧ ∃ x v, args = [.ref v, x] ∧ TypIn W news t x ∧ XIn news v
def PreXT (W : Wd) (iA iB iC io : Addr) (ts : List Tree) (news : Led) (args : List Value) : Prop := WIn W iA iB iC io news ∧ ∃ v l o vs, args = [.ref v, .ref l] ∧ (l, o) ∈ news ∧ SeqOf o vs ∧ TypsIn W news ts vs ∧ XIn news v
def PostX (W : Wd) (as : List Atom) (news : Led) (_ : List Value) (r : Value) : Prop := ∃ l k, r = .ref l ∧ (l, PySem.W.listOf (refs W as).toArray k) ∈ news
theorem XIn.mono {news news' : Led} {v : Addr} (hs : ∀ p ∈ news, p ∈ news') (h : XIn news v) : XIn news' v := by
  obtain ⟨dv, n, a, b⟩ := h; exact ⟨dv, n, hs _ a, hs _ b⟩
theorem xV_con (w : World) (mean : ExcName → Option Value) (mg mb : Str → Option Value) (W : Wd) (iA iB iC io : Addr) (t : Tree) (hc : cls t = 190) : Con w mean mg mb 477 4 20 (PreXV W iA iB iC io t) (PostX W (tvars t)) := by
  unfold Con
  k_fill
  intro A A₀ env outer base h₀ L m news vis s args R B F X N T hA hf hk hh hg hd hu hvis hp hR
  obtain ⟨WI, x, v, rfl, hx, hX⟩ := hp
  have hvar : ∃ a, t = .leaf a ∧ isVar a = true := by
    cases t with
    | leaf a => exact ⟨a, rfl, by cases a <;> simp only [cls] at hc <;> first | rfl | exact absurd hc (by decide)⟩
    | node g ps => cases g <;> simp only [cls] at hc <;> exact absurd hc (by decide)
  obtain ⟨a, rfl, ha⟩ := hvar
  have hat : x = .ref (W.at_ a) := by cases a <;> simp only [TypIn, cls] at hx hc <;> first | exact hx | exact absurd hc (by decide)
  subst hat
  k_dflt (refine' code_def (K := Mine.hd.heap_39 w.params) (binds := [(Str.ofString "self", .ref v), (Str.ofString "t", .ref (W.at_ a))]) B F X N T hA hf hk ?k6 ?k7 ?k8 ?k9 ?kB ?_ ?c2 ?c3 ?c4 ?c5; (case k6 => k_is); (case k7 => k_is); (case k9 => exact BindsTo.of_eq rfl); (case kB => exact locs rfl); (case c2 => exact rfl); (case c3 => exact rfl); (case c4 => exact rfl); (case c5 => decide); (case k8 => omega))
  intro g' L' h' FG' F' N' B' X' T'
  clear F N B X T
  try dsimp only
  k_fold
  k_steps
  show LeaveK _ _ _ _ _ _ _
  rename_i D5 h5 F5 N5 l5
  refine con_leave1 (tl := []) hR F5 (by rw [List.append_nil]; exact N5) (Ord.cons l5 Ord.nil) ⟨D5, 0, rfl, ?_⟩
  rw [show tvars (.leaf a) = [a] from by simp [tvars, ha]]
  exact List.mem_append_right _ (List.mem_cons_self ..)
theorem xI_con (w : World) (mean : ExcName → Option Value) (mg mb : Str → Option Value) (W : Wd) (iA iB iC io : Addr) (t : Tree) (hc : cls t = 324) (d u : Nat)
    (C : Con w mean mg mb 449 d u (PreXT W iA iB iC io (kids t)) (PostX W (tvarss (kids t)))) : Con w mean mg mb 484 (d + 2) (u + 10) (PreXV W iA iB iC io t) (PostX W (tvars t)) := by
  unfold Con
  k_fill
  intro A A₀ env outer base h₀ L m news vis s args R B F X N T hA hf hk hh hg hd hu hvis hp hR
  obtain ⟨WI, x, v, rfl, hx, hX⟩ := hp
  have hX0 := hX
  obtain ⟨dv, n, e1, e2⟩ := hX
  have e1' := hvis _ e1
  have e2' := hvis _ e2
  obtain ⟨x, vs, rfl, ⟨dx, tu, h1, h2, t1, t2, k, k', i1, i2, i3⟩, hvs, fx⟩ := typ324 WI hc hx
  have i1' := hvis _ i1
  have i2' := hvis _ i2
  k_dflt (refine' code_def (K := Mine.hd.heap_39 w.params) (binds := [(Str.ofString "self", .ref v), (Str.ofString "t", .ref x)]) B F X N T hA hf hk ?k6 ?k7 ?k8 ?k9 ?kB ?_ ?c2 ?c3 ?c4 ?c5; (case k6 => k_is); (case k7 => k_is); (case k9 => exact BindsTo.of_eq rfl); (case kB => exact locs rfl); (case c2 => exact rfl); (case c3 => exact rfl); (case c4 => exact rfl); (case c5 => decide); (case k8 => omega))
  intro g' L' h' FG' F' N' B' X' T'
  clear F N B X T
  try dsimp only
  k_fold
  k_steps
  k_dflt (refine' con_use (C) (vis) ?k1 ?k2 ?k3 ?k4 ?k5 ?kA ?kF ?kK ?kh ?kg ?kd ?ku ?kv ?pre ?_; (case k1 => k_asm); (case k2 => k_asm); (case k3 => k_asm); (case k4 => k_asm); (case k5 => k_asm); (case kA => first | exact Around.frames_deeper (Below.stack (by assumption)) | assumption); (case kF => exact rfl); (case kK => exact rfl); (case kh => first | exact hh | exact rfl | assumption); (case kg => first | exact hg | exact rfl | assumption); (case kd => ((try simp only [depth_under_make, depth_under_kw, depth_in1, depth_deeper, depth_caller]); omega)); (case ku => ((try simp only [units_under_make, units_in1, units_deeper, Around.mark_units, units_caller]); omega)))
  case kv => exact hvis
  case pre => exact ⟨WI, v, tu, _, vs, rfl, i3, SeqOf.tup, hvs, hX0⟩
  intro r tl h9 tk9 F9 N9 O9 P9
  dsimp only
  show LeaveK _ _ _ _ _ _ _
  have e : tvars t = tvarss (kids t) := by
    cases t with
    | leaf a => cases a <;> simp only [cls] at hc <;> first | exact absurd hc (by decide) | rfl
    | node g ps => rfl
  exact con_leave0 (tl := tl) hR F9 N9 O9 (by rw [e]; exact P9)
theorem xU_con (w : World) (mean : ExcName → Option Value) (mg mb : Str → Option Value) (W : Wd) (iA iB iC io : Addr) (t : Tree) (hc : cls t = 365) (d u : Nat)
    (C : Con w mean mg mb 449 d u (PreXT W iA iB iC io (kids t)) (PostX W (tvarss (kids t)))) : Con w mean mg mb 491 (d + 2) (u + 10) (PreXV W iA iB iC io t) (PostX W (tvars t)) := by
  unfold Con
  k_fill
  intro A A₀ env outer base h₀ L m news vis s args R B F X N T hA hf hk hh hg hd hu hvis hp hR
  obtain ⟨WI, x, v, rfl, hx, hX⟩ := hp
  have hX0 := hX
  obtain ⟨dv, n, e1, e2⟩ := hX
  have e1' := hvis _ e1
  have e2' := hvis _ e2
  obtain ⟨ps, x, dx, l, h1, t1, k, vs, k', rfl, rfl, i1, i2, i3, hvs⟩ := typ365 hc hx
  have i1' := hvis _ i1
  have i2' := hvis _ i2
  k_dflt (refine' code_def (K := Mine.hd.heap_39 w.params) (binds := [(Str.ofString "self", .ref v), (Str.ofString "t", .ref x)]) B F X N T hA hf hk ?k6 ?k7 ?k8 ?k9 ?kB ?_ ?c2 ?c3 ?c4 ?c5; (case k6 => k_is); (case k7 => k_is); (case k9 => exact BindsTo.of_eq rfl); (case kB => exact locs rfl); (case c2 => exact rfl); (case c3 => exact rfl); (case c4 => exact rfl); (case c5 => decide); (case k8 => omega))
  intro g' L' h' FG' F' N' B' X' T'
  clear F N B X T
  try dsimp only
  k_fold
  k_steps
  k_dflt (refine' con_use (C) (vis) ?k1 ?k2 ?k3 ?k4 ?k5 ?kA ?kF ?kK ?kh ?kg ?kd ?ku ?kv ?pre ?_; (case k1 => k_asm); (case k2 => k_asm); (case k3 => k_asm); (case k4 => k_asm); (case k5 => k_asm); (case kA => first | exact Around.frames_deeper (Below.stack (by assumption)) | assumption); (case kF => exact rfl); (case kK => exact rfl); (case kh => first | exact hh | exact rfl | assumption); (case kg => first | exact hg | exact rfl | assumption); (case kd => ((try simp only [depth_under_make, depth_under_kw, depth_in1, depth_deeper, depth_caller]); omega)); (case ku => ((try simp only [units_under_make, units_in1, units_deeper, Around.mark_units, units_caller]); omega)))
  case kv => exact hvis
  case pre => exact ⟨WI, v, l, _, vs, rfl, i3, SeqOf.list, hvs, hX0⟩
  intro r tl h9 tk9 F9 N9 O9 P9
  dsimp only
  show LeaveK _ _ _ _ _ _ _
  exact con_leave0 (tl := tl) hR F9 N9 O9 P9
theorem xaccV_con (w : World) (mean : ExcName → Option Value) (mg mb : Str → Option Value) (W : Wd) (iA iB iC io : Addr) (t : Tree) (hc : cls t = 190) (d u : Nat) (C : Con w mean mg mb 477 d u (PreXV W iA iB iC io t) (PostX W (tvars t))) : Con w mean mg mb 180 (d + 2) (u + 10) (PreX W iA iB iC io t) (PostX W (tvars t)) := by
  unfold Con
  k_fill
  intro A A₀ env outer base h₀ L m news vis s args R B F X N T hA hf hk hh hg hd hu hvis hp hR
  obtain ⟨WI, x, v, rfl, hx, hX⟩ := hp
  have hX0 := hX
  obtain ⟨dv, n, e1, e2⟩ := hX
  obtain ⟨x, dx, es, nn, rfl, i1, i2⟩ := typ_inst WI hx
  have i1' := hvis _ i1
  have i2' := hvis _ i2
  have e1' := hvis _ e1
  have e2' := hvis _ e2
  k_dflt (refine' code_def (K := Mine.hd.heap_39 w.params) (binds := [(Str.ofString "self", .ref x), (Str.ofString "visitor", .ref v)]) B F X N T hA hf hk ?k6 ?k7 ?k8 ?k9 ?kB ?_ ?c2 ?c3 ?c4 ?c5; (case k6 => k_is); (case k7 => k_is); (case k9 => exact BindsTo.of_eq rfl); (case kB => exact locs rfl); (case c2 => exact rfl); (case c3 => exact rfl); (case c4 => exact rfl); (case c5 => decide); (case k8 => omega))
  intro g' L' h' FG' F' N' B' X' T'
  clear F N B X T
  try dsimp only
  k_fold
  k_steps
  k_dflt (refine' con_use (C) (vis) ?k1 ?k2 ?k3 ?k4 ?k5 ?kA ?kF ?kK ?kh ?kg ?kd ?ku ?kv ?pre ?_; (case k1 => k_asm); (case k2 => k_asm); (case k3 => k_asm); (case k4 => k_asm); (case k5 => k_asm); (case kA => first | exact Around.frames_deeper (Below.stack (by assumption)) | assumption); (case kF => exact rfl); (case kK => exact rfl); (case kh => first | exact hh | exact rfl | assumption); (case kg => first | exact hg | exact rfl | assumption); (case kd => ((try simp only [depth_under_make, depth_under_kw, depth_in1, depth_deeper, depth_caller]); omega)); (case ku => ((try simp only [units_under_make, units_in1, units_deeper, Around.mark_units, units_caller]); omega)))
  case kv => exact hvis
  case pre => exact ⟨WI, _, _, rfl, hx, hX0⟩
  intro r tl h9 tk9 F9 N9 O9 P9
  dsimp only
  show LeaveK _ _ _ _ _ _ _
  exact con_leave0 (tl := tl) hR F9 N9 O9 P9
theorem xaccI_con (w : World) (mean : ExcName → Option Value) (mg mb : Str → Option Value) (W : Wd) (iA iB iC io : Addr) (t : Tree) (hc : cls t = 324) (d u : Nat) (C : Con w mean mg mb 484 d u (PreXV W iA iB iC io t) (PostX W (tvars t))) : Con w mean mg mb 307 (d + 2) (u + 10) (PreX W iA iB iC io t) (PostX W (tvars t)) := by
  unfold Con
  k_fill
  intro A A₀ env outer base h₀ L m news vis s args R B F X N T hA hf hk hh hg hd hu hvis hp hR
  obtain ⟨WI, x, v, rfl, hx, hX⟩ := hp
  have hX0 := hX
  obtain ⟨dv, n, e1, e2⟩ := hX
  obtain ⟨x, dx, es, nn, rfl, i1, i2⟩ := typ_inst WI hx
  have i1' := hvis _ i1
  have i2' := hvis _ i2
  have e1' := hvis _ e1
  have e2' := hvis _ e2
  k_dflt (refine' code_def (K := Mine.hd.heap_39 w.params) (binds := [(Str.ofString "self", .ref x), (Str.ofString "visitor", .ref v)]) B F X N T hA hf hk ?k6 ?k7 ?k8 ?k9 ?kB ?_ ?c2 ?c3 ?c4 ?c5; (case k6 => k_is); (case k7 => k_is); (case k9 => exact BindsTo.of_eq rfl); (case kB => exact locs rfl); (case c2 => exact rfl); (case c3 => exact rfl); (case c4 => exact rfl); (case c5 => decide); (case k8 => omega))
  intro g' L' h' FG' F' N' B' X' T'
  clear F N B X T
  try dsimp only
  k_fold
  k_steps
  k_dflt (refine' con_use (C) (vis) ?k1 ?k2 ?k3 ?k4 ?k5 ?kA ?kF ?kK ?kh ?kg ?kd ?ku ?kv ?pre ?_; (case k1 => k_asm); (case k2 => k_asm); (case k3 => k_asm); (case k4 => k_asm); (case k5 => k_asm); (case kA => first | exact Around.frames_deeper (Below.stack (by assumption)) | assumption); (case kF => exact rfl); (case kK => exact rfl); (case kh => first | exact hh | exact rfl | assumption); (case kg => first | exact hg | exact rfl | assumption); (case kd => ((try simp only [depth_under_make, depth_under_kw, depth_in1, depth_deeper, depth_caller]); omega)); (case ku => ((try simp only [units_under_make, units_in1, units_deeper, Around.mark_units, units_caller]); omega)))
  case kv => exact hvis
  case pre => exact ⟨WI, _, _, rfl, hx, hX0⟩
  intro r tl h9 tk9 F9 N9 O9 P9
  dsimp only
  show LeaveK _ _ _ _ _ _ _
  exact con_leave0 (tl := tl) hR F9 N9 O9 P9
theorem xaccU_con (w : World) (mean : ExcName → Option Value) (mg mb : Str → Option Value) (W : Wd) (iA iB iC io : Addr) (t : Tree) (hc : cls t = 365) (d u : Nat) (C : Con w mean mg mb 491 d u (PreXV W iA iB iC io t) (PostX W (tvars t))) : Con w mean mg mb 362 (d + 2) (u + 10) (PreX W iA iB iC io t) (PostX W (tvars t)) := by
  unfold Con
  k_fill
  intro A A₀ env outer base h₀ L m news vis s args R B F X N T hA hf hk hh hg hd hu hvis hp hR
  obtain ⟨WI, x, v, rfl, hx, hX⟩ := hp
  have hX0 := hX
  obtain ⟨dv, n, e1, e2⟩ := hX
  obtain ⟨x, dx, es, nn, rfl, i1, i2⟩ := typ_inst WI hx
  have i1' := hvis _ i1
  have i2' := hvis _ i2
  have e1' := hvis _ e1
  have e2' := hvis _ e2
  k_dflt (refine' code_def (K := Mine.hd.heap_39 w.params) (binds := [(Str.ofString "self", .ref x), (Str.ofString "visitor", .ref v)]) B F X N T hA hf hk ?k6 ?k7 ?k8 ?k9 ?kB ?_ ?c2 ?c3 ?c4 ?c5; (case k6 => k_is); (case k7 => k_is); (case k9 => exact BindsTo.of_eq rfl); (case kB => exact locs rfl); (case c2 => exact rfl); (case c3 => exact rfl); (case c4 => exact rfl); (case c5 => decide); (case k8 => omega))
  intro g' L' h' FG' F' N' B' X' T'
  clear F N B X T
  try dsimp only
  k_fold
  k_steps
  k_dflt (refine' con_use (C) (vis) ?k1 ?k2 ?k3 ?k4 ?k5 ?kA ?kF ?kK ?kh ?kg ?kd ?ku ?kv ?pre ?_; (case k1 => k_asm); (case k2 => k_asm); (case k3 => k_asm); (case k4 => k_asm); (case k5 => k_asm); (case kA => first | exact Around.frames_deeper (Below.stack (by assumption)) | assumption); (case kF => exact rfl); (case kK => exact rfl); (case kh => first | exact hh | exact rfl | assumption); (case kg => first | exact hg | exact rfl | assumption); (case kd => ((try simp only [depth_under_make, depth_under_kw, depth_in1, depth_deeper, depth_caller]); omega)); (case ku => ((try simp only [units_under_make, units_in1, units_deeper, Around.mark_units, units_caller]); omega)))
  case kv => exact hvis
  case pre => exact ⟨WI, _, _, rfl, hx, hX0⟩
  intro r tl h9 tk9 F9 N9 O9 P9
  dsimp only
  show LeaveK _ _ _ _ _ _ _
  exact con_leave0 (tl := tl) hR F9 N9 O9 P9
theorem xaccAny_con (w : World) (mean : ExcName → Option Value) (mg mb : Str → Option Value) (W : Wd) (iA iB iC io : Addr) : Con w mean mg mb 214 4 20 (PreX W iA iB iC io (.leaf .any)) (PostX W (tvars (.leaf .any))) := by
  unfold Con
  k_fill
  intro A A₀ env outer base h₀ L m news vis s args R B F X N T hA hf hk hh hg hd hu hvis hp hR
  obtain ⟨WI, x, v, rfl, hx, dv, n, e1, e2⟩ := hp
  obtain ⟨x, dx, es, nn, rfl, i1, i2⟩ := typ_inst WI hx
  have i1' := hvis _ i1
  have i2' := hvis _ i2
  have e1' := hvis _ e1
  have e2' := hvis _ e2
  k_dflt (refine' code_def (K := Mine.hd.heap_39 w.params) (binds := [(Str.ofString "self", .ref x), (Str.ofString "visitor", .ref v)]) B F X N T hA hf hk ?k6 ?k7 ?k8 ?k9 ?kB ?_ ?c2 ?c3 ?c4 ?c5; (case k6 => k_is); (case k7 => k_is); (case k9 => exact BindsTo.of_eq rfl); (case kB => exact locs rfl); (case c2 => exact rfl); (case c3 => exact rfl); (case c4 => exact rfl); (case c5 => decide); (case k8 => omega))
  intro g' L' h' FG' F' N' B' X' T'
  clear F N B X T
  try dsimp only
  k_fold
  k_steps
  show LeaveK _ _ _ _ _ _ _
  rename Fr _ _ _ _ => F2
  rename News _ _ _ _ => N2
  rename (∀ p ∈ news, p.1 < _) => l5
  exact con_leave1 (tl := []) hR F2 (by rw [List.append_nil]; exact N2) (Ord.cons l5 Ord.nil) ⟨_, 0, rfl, List.mem_append_right _ (List.mem_cons_self ..)⟩
theorem xaccNev_con (w : World) (mean : ExcName → Option Value) (mg mb : Str → Option Value) (W : Wd) (iA iB iC io : Addr) : Con w mean mg mb 248 4 20 (PreX W iA iB iC io (.leaf .nev)) (PostX W (tvars (.leaf .nev))) := by
  unfold Con
  k_fill
  intro A A₀ env outer base h₀ L m news vis s args R B F X N T hA hf hk hh hg hd hu hvis hp hR
  obtain ⟨WI, x, v, rfl, hx, dv, n, e1, e2⟩ := hp
  obtain ⟨x, dx, es, nn, rfl, i1, i2⟩ := typ_inst WI hx
  have i1' := hvis _ i1
  have i2' := hvis _ i2
  have e1' := hvis _ e1
  have e2' := hvis _ e2
  k_dflt (refine' code_def (K := Mine.hd.heap_39 w.params) (binds := [(Str.ofString "self", .ref x), (Str.ofString "visitor", .ref v)]) B F X N T hA hf hk ?k6 ?k7 ?k8 ?k9 ?kB ?_ ?c2 ?c3 ?c4 ?c5; (case k6 => k_is); (case k7 => k_is); (case k9 => exact BindsTo.of_eq rfl); (case kB => exact locs rfl); (case c2 => exact rfl); (case c3 => exact rfl); (case c4 => exact rfl); (case c5 => decide); (case k8 => omega))
  intro g' L' h' FG' F' N' B' X' T'
  clear F N B X T
  try dsimp only
  k_fold
  k_steps
  show LeaveK _ _ _ _ _ _ _
  rename Fr _ _ _ _ => F2
  rename News _ _ _ _ => N2
  rename (∀ p ∈ news, p.1 < _) => l5
  exact con_leave1 (tl := []) hR F2 (by rw [List.append_nil]; exact N2) (Ord.cons l5 Ord.nil) ⟨_, 0, rfl, List.mem_append_right _ (List.mem_cons_self ..)⟩
theorem xaccNon_con (w : World) (mean : ExcName → Option Value) (mg mb : Str → Option Value) (W : Wd) (iA iB iC io : Addr) : Con w mean mg mb 281 4 20 (PreX W iA iB iC io (.leaf .non)) (PostX W (tvars (.leaf .non))) := by
  unfold Con
  k_fill
  intro A A₀ env outer base h₀ L m news vis s args R B F X N T hA hf hk hh hg hd hu hvis hp hR
  obtain ⟨WI, x, v, rfl, hx, dv, n, e1, e2⟩ := hp
  obtain ⟨x, dx, es, nn, rfl, i1, i2⟩ := typ_inst WI hx
  have i1' := hvis _ i1
  have i2' := hvis _ i2
  have e1' := hvis _ e1
  have e2' := hvis _ e2
  k_dflt (refine' code_def (K := Mine.hd.heap_39 w.params) (binds := [(Str.ofString "self", .ref x), (Str.ofString "visitor", .ref v)]) B F X N T hA hf hk ?k6 ?k7 ?k8 ?k9 ?kB ?_ ?c2 ?c3 ?c4 ?c5; (case k6 => k_is); (case k7 => k_is); (case k9 => exact BindsTo.of_eq rfl); (case kB => exact locs rfl); (case c2 => exact rfl); (case c3 => exact rfl); (case c4 => exact rfl); (case c5 => decide); (case k8 => omega))
  intro g' L' h' FG' F' N' B' X' T'
  clear F N B X T
  try dsimp only
  k_fold
  k_steps
  show LeaveK _ _ _ _ _ _ _
  rename Fr _ _ _ _ => F2
  rename News _ _ _ _ => N2
  rename (∀ p ∈ news, p.1 < _) => l5
  exact con_leave1 (tl := []) hR F2 (by rw [List.append_nil]; exact N2) (Ord.cons l5 Ord.nil) ⟨_, 0, rfl, List.mem_append_right _ (List.mem_cons_self ..)⟩
end Mine
namespace Mine
local macro_rules | `(tactic| walk_at "idle") => `(tactic| fail "idle")
local macro_rules | `(tactic| walk_at "idle") => `(tactic| fail "idle")
local macro_rules | `(tactic| walk_at "idle") => `(tactic| fail "idle")
local macro_rules | `(tactic| walk_at "idle") => `(tactic| fail "idle")
local macro_rules | `(tactic| walk_at "idle") => `(tactic| fail "idle")
local macro_rules | `(tactic| walk_at "idle") => `(tactic| fail "idle")
local macro_rules | `(tactic| walk_at "idle") => `(tactic| fail "idle")
local macro_rules | `(tactic| walk_at "idle") => `(tactic| fail "idle")
local macro_rules | `(tactic| walk_at "idle") => `(tactic| fail "idle")
local macro_rules | `(tactic| walk_at "idle") => `(tactic| fail "idle")
local macro_rules | `(tactic| walk_at "idle") => `(tactic| fail "idle")
local macro_rules | `(tactic| walk_at "idle") => `(tactic| fail "idle")
local macro_rules | `(tactic| walk_at "idle") => `(tactic| fail "idle")
theorem fresh36 : True := by
  w_top off
  trivial
local macro_rules | `(tactic| k_mem) => `(tactic| first | with_reducible assumption | with_reducible exact List.mem_cons_self .. | (with_reducible refine List.mem_cons_of_mem _ ?_; k_mem) | (with_reducible refine List.mem_append_left _ ?_; k_mem) | (with_reducible refine List.mem_append_right _ ?_; k_mem))
local macro_rules | `(tactic| k_room) => `(tactic| ((try simp only [depth_under_make, depth_under_kw, depth_in1, depth_deeper, depth_caller]); omega))
local macro_rules | `(tactic| k_units) => `(tactic| ((try simp only [units_under_make, units_in1, units_deeper, Around.mark_units, units_caller]); omega))
local macro_rules | `(tactic| k_all) => `(tactic| first | assumption | (refine List.forall_mem_append.mpr ⟨?_, ?_⟩ <;> k_all))
local macro_rules | `(tactic| k_enter) => `(tactic| (refine' code_def ?k1 ?k2 ?k3 ?k4 ?k5 ?kA ?kF ?kK ?k6 ?k7 ?k8 ?k9 ?kB ?_ ?c2 ?c3 ?c4 ?c5; (case kA => first | exact Around.frames_deeper (Below.stack (by assumption)) | assumption); (case kF => exact rfl); (case kK => exact rfl); (case k1 => k_asm); (case k2 => k_asm); (case k3 => k_asm); (case k4 => k_asm); (case k5 => k_asm); (case k6 => k_is); (case k7 => k_is); (case k8 => k_room); (case k9 => first | exact BindsTo.of_eq rfl | exact binds_K (by k_in) rfl (by k_is) rfl rfl rfl); (case c5 => decide); (case kB => exact locs rfl); (case c2 => exact rfl); (case c3 => exact rfl); (case c4 => exact rfl); k_whole; intro g' L' h' FG' F' N' B' X' T'; (try dsimp only); (try k_fold)))
local macro_rules | `(tactic| walk_at "call ref") => `(tactic| (k_here; (with_reducible show wpAny _ _ (call (Value.ref 180) _ _) _ _ _); refine wpAny_call ?_))
local macro_rules | `(tactic| walk_at "call ref") => `(tactic| (k_here; (with_reducible show wpAny _ _ (call (Value.ref 214) _ _) _ _ _); refine wpAny_call ?_))
local macro_rules | `(tactic| walk_at "call ref") => `(tactic| (k_here; (with_reducible show wpAny _ _ (call (Value.ref 248) _ _) _ _ _); refine wpAny_call ?_))
local macro_rules | `(tactic| walk_at "call ref") => `(tactic| (k_here; (with_reducible show wpAny _ _ (call (Value.ref 281) _ _) _ _ _); refine wpAny_call ?_))
local macro_rules | `(tactic| walk_at "call ref") => `(tactic| (k_here; (with_reducible show wpAny _ _ (call (Value.ref 307) _ _) _ _ _); refine wpAny_call ?_))
local macro_rules | `(tactic| walk_at "call ref") => `(tactic| (k_here; (with_reducible show wpAny _ _ (call (Value.ref 362) _ _) _ _ _); refine wpAny_call ?_))
theorem refs_app (W : Wd) (a b : List Atom) : refs W (a ++ b) = refs W a ++ refs W b := List.map_append ..
theorem query_con (w : World) (mean : ExcName → Option Value) (mg mb : Str → Option Value) (W : Wd) (iA iB iC io : Addr) (ts : List Tree) (hb : szs ts ≤ big) (d u : Nat)
    (C : ∀ t ∈ ts, Con w mean mg mb (accf (cls t)) d u (PreX W iA iB iC io t) (PostX W (tvars t))) : Con w mean mg mb 449 (d + 2) (u + 10) (PreXT W iA iB iC io ts) (PostX W (tvarss ts)) := by
  unfold Con
  k_fill
  intro A A₀ env outer base h₀ L m news vis s args R B F X N T hA hf hk hh hg hd hu hvis hp hR
  obtain ⟨WI, v, l, o, vs, rfl, hl, hO9, hvs, hX⟩ := hp
  have hX0 := hX
  obtain ⟨dv, n, e1, e2⟩ := hX
  have hl' := hvis _ hl
  k_dflt (refine' code_def (K := Mine.hd.heap_39 w.params) (binds := [(Str.ofString "self", .ref v), (Str.ofString "items", .ref l)]) B F X N T hA hf hk ?k6 ?k7 ?k8 ?k9 ?kB ?_ ?c2 ?c3 ?c4 ?c5; (case k6 => k_is); (case k7 => k_is); (case k9 => exact BindsTo.of_eq rfl); (case kB => exact locs rfl); (case c2 => exact rfl); (case c3 => exact rfl); (case c4 => exact rfl); (case c5 => decide); (case k8 => omega))
  intro g' L' h' FG' F' N' B' X' T'
  clear F N B X T
  try dsimp only
  k_fold
  k_steps
  rename_i lf h2 l1 h3 F1 N1
  k_dflt (refine' For_invV g' ?x1 ?x2 ?_; (case x1 => exact rfl); (case x2 => exact rfl))
  refine ld F1 rfl ?_
  refine for_one (fun i nx => ∃ k' tl, nx = (lf, listOf (refs W (tvarss (ts.take i))).toArray k') :: (news ++ tl) ∧ Ord news ((lf, listOf (refs W (tvarss (ts.take i))).toArray k') :: tl) ∧ (∀ p ∈ tl, lf < p.1)) hh (List.mem_cons_of_mem _ hl') hO9 F1 N1 ?_ ?_ ?_
  · refine ⟨0, [], by simp [tvarss, refs], ?_, fun _ h => (nomatch h)⟩
    intro q hq p hp
    rw [List.mem_singleton.mp hp]; exact l1 q hq
  · intro i v1 nx h tk own hv hoff hlm hJ F N
    obtain ⟨k', tl, rfl, hO, hlt⟩ := hJ
    obtain ⟨t, ht, htv⟩ := hvs.get hv
    clear F1 N1
    have Ct := C t (List.mem_of_getElem? ht)
    have hsz : (tvarss (ts.take (i + 1))).length ≤ big := Nat.le_trans (tvarss_len _) (Nat.le_trans (szs_take _ _) hb)
    have hbl := big_line
    rw [tvarss_snoc ht, List.length_append] at hsz
    have hr1 : (refs W (tvarss (ts.take i))).length = (tvarss (ts.take i)).length := List.length_map ..
    have hr2 : (refs W (tvars t)).length = (tvars t).length := List.length_map ..
    have hap := ap_off l1 hlt hoff
    have e1' := List.mem_append_left own (List.mem_cons_of_mem (lf, listOf (refs W (tvarss (ts.take i))).toArray k') (List.mem_append_left tl (hvis _ e1)))
    have e2' := List.mem_append_left own (List.mem_cons_of_mem (lf, listOf (refs W (tvarss (ts.take i))).toArray k') (List.mem_append_left tl (hvis _ e2)))
    obtain ⟨x, dx, es, nn, rfl, i1, i2⟩ := typ_inst WI htv
    have c6 := cls_six t
    simp only [six, List.mem_cons, List.not_mem_nil, or_false] at c6
    rcases c6 with c | c | c | c | c | c
    · obtain ⟨x', e', d1, j, dj, l1', h1, h2, h3, h4, h5, t1, t1', t2, t3, t4, t5, t5', h6, h7, t6, t6', t7, t7', k1, k2, k3, z1, z2, z3, z4, z5⟩ := typ190 WI c htv
      cases e'
      have z1' := List.mem_append_left own (List.mem_cons_of_mem (lf, listOf (refs W (tvarss (ts.take i))).toArray k') (List.mem_append_left tl (hvis _ z1)))
      have z2' := List.mem_append_left own (List.mem_cons_of_mem (lf, listOf (refs W (tvarss (ts.take i))).toArray k') (List.mem_append_left tl (hvis _ z2)))
      have Ct' : Con w mean mg mb 180 d u (PreX W iA iB iC io t) (PostX W (tvars t)) := by have h := Ct; rw [c] at h; exact h
      try k_fold
      k_steps
      k_dflt (refine' con_use (Ct') (vis) ?k1 ?k2 ?k3 ?k4 ?k5 ?kA ?kF ?kK ?kh ?kg ?kd ?ku ?kv ?pre ?_; (case k1 => k_asm); (case k2 => k_asm); (case k3 => k_asm); (case k4 => k_asm); (case k5 => k_asm); (case kA => first | exact Around.frames_deeper (Below.stack (by assumption)) | assumption); (case kF => exact rfl); (case kK => exact rfl); (case kh => first | exact hh | exact rfl | assumption); (case kg => first | exact hg | exact rfl | assumption); (case kd => ((try simp only [depth_under_make, depth_under_kw, depth_in1, depth_deeper, depth_caller]); omega)); (case ku => ((try simp only [units_under_make, units_in1, units_deeper, Around.mark_units, units_caller]); omega)))
      case kv => exact fun p hp => List.mem_append_left _ (List.mem_cons_of_mem _ (List.mem_append_left _ (hvis p hp)))
      case pre => exact ⟨WI, _, _, rfl, htv, hX0⟩
      intro r9 tl9 h9 tk9 F9 N9 O9 P9
      obtain ⟨l9, k9, rfl, hl9⟩ := P9
      have hl9' : (l9, listOf (refs W (tvars t)).toArray k9) ∈ (lf, listOf (refs W (tvarss (ts.take i))).toArray k') :: (news ++ tl) ++ own ++ tl9 := by
        rcases List.mem_append.mp hl9 with h | h
        · have := hvis _ h; k_mem
        · k_mem
      dsimp only
      try clear F N
      have hap9 := ap_more hap O9 (List.mem_append_left _ (List.mem_cons_self ..))
      k_steps
      k_dflt (refine' extend_in (own := []) (rest := news ++ tl ++ own ++ tl9) ?aF ?aN ?ao ?ap ?ab ?_ ?az; (case aF => k_asm); (case aN => k_asm); (case ao => exact fun _ h => nomatch h); (case ap => exact hap9); (case ab => exact (News.get (by k_asm) hl9')); (case az => ((try simp only [List.size_toArray]); omega)))
      intro h5 n5 F5 N5
      rw [List.nil_append, List.toList_toArray] at N5
      k_steps
      refine OnePost.next ((lf, listOf (refs W (tvarss (ts.take i)) ++ refs W (tvars t)).toArray n5) :: (news ++ tl ++ tl9)) (.inl rfl) F5 N5 ?_ ?_ ?_ ?_
      · intro p hp
        simp only [List.cons_append, List.mem_cons, List.mem_append] at hp ⊢
        rcases hp with h | ((h | h) | h) | h <;> simp [h]
      · k_mem
      · exact off_tl hoff (O9.sub fun q hq => List.mem_append_right _ hq)
      · exact ⟨n5, tl ++ tl9, by rw [tvarss_snoc ht, refs_app]; simp, by rw [tvarss_snoc ht, refs_app]; exact ord_grow hO O9 fun q hq => by k_mem, lt_grow hlt O9 (by k_mem)⟩
    · have et := cls_any c
      have htv' := htv
      rw [et] at htv'
      simp only [TypIn] at htv'
      cases htv'
      obtain ⟨d1, h1, h2, t1, t1', t2, k1, z1, z2⟩ := WI.any
      have z1' := List.mem_append_left own (List.mem_cons_of_mem (lf, listOf (refs W (tvarss (ts.take i))).toArray k') (List.mem_append_left tl (hvis _ z1)))
      have z2' := List.mem_append_left own (List.mem_cons_of_mem (lf, listOf (refs W (tvarss (ts.take i))).toArray k') (List.mem_append_left tl (hvis _ z2)))
      have Ct' : Con w mean mg mb 214 d u (PreX W iA iB iC io t) (PostX W (tvars t)) := by have h := Ct; rw [c] at h; exact h
      try k_fold
      k_steps
      k_dflt (refine' con_use (Ct') (vis) ?k1 ?k2 ?k3 ?k4 ?k5 ?kA ?kF ?kK ?kh ?kg ?kd ?ku ?kv ?pre ?_; (case k1 => k_asm); (case k2 => k_asm); (case k3 => k_asm); (case k4 => k_asm); (case k5 => k_asm); (case kA => first | exact Around.frames_deeper (Below.stack (by assumption)) | assumption); (case kF => exact rfl); (case kK => exact rfl); (case kh => first | exact hh | exact rfl | assumption); (case kg => first | exact hg | exact rfl | assumption); (case kd => ((try simp only [depth_under_make, depth_under_kw, depth_in1, depth_deeper, depth_caller]); omega)); (case ku => ((try simp only [units_under_make, units_in1, units_deeper, Around.mark_units, units_caller]); omega)))
      case kv => exact fun p hp => List.mem_append_left _ (List.mem_cons_of_mem _ (List.mem_append_left _ (hvis p hp)))
      case pre => exact ⟨WI, _, _, rfl, htv, hX0⟩
      intro r9 tl9 h9 tk9 F9 N9 O9 P9
      obtain ⟨l9, k9, rfl, hl9⟩ := P9
      have hl9' : (l9, listOf (refs W (tvars t)).toArray k9) ∈ (lf, listOf (refs W (tvarss (ts.take i))).toArray k') :: (news ++ tl) ++ own ++ tl9 := by
        rcases List.mem_append.mp hl9 with h | h
        · have := hvis _ h; k_mem
        · k_mem
      dsimp only
      try clear F N
      have hap9 := ap_more hap O9 (List.mem_append_left _ (List.mem_cons_self ..))
      k_steps
      k_dflt (refine' extend_in (own := []) (rest := news ++ tl ++ own ++ tl9) ?aF ?aN ?ao ?ap ?ab ?_ ?az; (case aF => k_asm); (case aN => k_asm); (case ao => exact fun _ h => nomatch h); (case ap => exact hap9); (case ab => exact (News.get (by k_asm) hl9')); (case az => ((try simp only [List.size_toArray]); omega)))
      intro h5 n5 F5 N5
      rw [List.nil_append, List.toList_toArray] at N5
      k_steps
      refine OnePost.next ((lf, listOf (refs W (tvarss (ts.take i)) ++ refs W (tvars t)).toArray n5) :: (news ++ tl ++ tl9)) (.inl rfl) F5 N5 ?_ ?_ ?_ ?_
      · intro p hp
        simp only [List.cons_append, List.mem_cons, List.mem_append] at hp ⊢
        rcases hp with h | ((h | h) | h) | h <;> simp [h]
      · k_mem
      · exact off_tl hoff (O9.sub fun q hq => List.mem_append_right _ hq)
      · exact ⟨n5, tl ++ tl9, by rw [tvarss_snoc ht, refs_app]; simp, by rw [tvarss_snoc ht, refs_app]; exact ord_grow hO O9 fun q hq => by k_mem, lt_grow hlt O9 (by k_mem)⟩
    · have et := cls_nev c
      have htv' := htv
      rw [et] at htv'
      simp only [TypIn] at htv'
      obtain ⟨x', d1, h1, t1, k1, e', z1, z2⟩ := htv'
      cases e'
      have z1' := List.mem_append_left own (List.mem_cons_of_mem (lf, listOf (refs W (tvarss (ts.take i))).toArray k') (List.mem_append_left tl (hvis _ z1)))
      have z2' := List.mem_append_left own (List.mem_cons_of_mem (lf, listOf (refs W (tvarss (ts.take i))).toArray k') (List.mem_append_left tl (hvis _ z2)))
      have Ct' : Con w mean mg mb 248 d u (PreX W iA iB iC io t) (PostX W (tvars t)) := by have h := Ct; rw [c] at h; exact h
      try k_fold
      k_steps
      k_dflt (refine' con_use (Ct') (vis) ?k1 ?k2 ?k3 ?k4 ?k5 ?kA ?kF ?kK ?kh ?kg ?kd ?ku ?kv ?pre ?_; (case k1 => k_asm); (case k2 => k_asm); (case k3 => k_asm); (case k4 => k_asm); (case k5 => k_asm); (case kA => first | exact Around.frames_deeper (Below.stack (by assumption)) | assumption); (case kF => exact rfl); (case kK => exact rfl); (case kh => first | exact hh | exact rfl | assumption); (case kg => first | exact hg | exact rfl | assumption); (case kd => ((try simp only [depth_under_make, depth_under_kw, depth_in1, depth_deeper, depth_caller]); omega)); (case ku => ((try simp only [units_under_make, units_in1, units_deeper, Around.mark_units, units_caller]); omega)))
      case kv => exact fun p hp => List.mem_append_left _ (List.mem_cons_of_mem _ (List.mem_append_left _ (hvis p hp)))
      case pre => exact ⟨WI, _, _, rfl, htv, hX0⟩
      intro r9 tl9 h9 tk9 F9 N9 O9 P9
      obtain ⟨l9, k9, rfl, hl9⟩ := P9
      have hl9' : (l9, listOf (refs W (tvars t)).toArray k9) ∈ (lf, listOf (refs W (tvarss (ts.take i))).toArray k') :: (news ++ tl) ++ own ++ tl9 := by
        rcases List.mem_append.mp hl9 with h | h
        · have := hvis _ h; k_mem
        · k_mem
      dsimp only
      try clear F N
      have hap9 := ap_more hap O9 (List.mem_append_left _ (List.mem_cons_self ..))
      k_steps
      k_dflt (refine' extend_in (own := []) (rest := news ++ tl ++ own ++ tl9) ?aF ?aN ?ao ?ap ?ab ?_ ?az; (case aF => k_asm); (case aN => k_asm); (case ao => exact fun _ h => nomatch h); (case ap => exact hap9); (case ab => exact (News.get (by k_asm) hl9')); (case az => ((try simp only [List.size_toArray]); omega)))
      intro h5 n5 F5 N5
      rw [List.nil_append, List.toList_toArray] at N5
      k_steps
      refine OnePost.next ((lf, listOf (refs W (tvarss (ts.take i)) ++ refs W (tvars t)).toArray n5) :: (news ++ tl ++ tl9)) (.inl rfl) F5 N5 ?_ ?_ ?_ ?_
      · intro p hp
        simp only [List.cons_append, List.mem_cons, List.mem_append] at hp ⊢
        rcases hp with h | ((h | h) | h) | h <;> simp [h]
      · k_mem
      · exact off_tl hoff (O9.sub fun q hq => List.mem_append_right _ hq)
      · exact ⟨n5, tl ++ tl9, by rw [tvarss_snoc ht, refs_app]; simp, by rw [tvarss_snoc ht, refs_app]; exact ord_grow hO O9 fun q hq => by k_mem, lt_grow hlt O9 (by k_mem)⟩
    · have et := cls_non c
      have htv' := htv
      rw [et] at htv'
      simp only [TypIn] at htv'
      cases htv'
      obtain ⟨d1, k1, z1, z2⟩ := WI.non
      have z1' := List.mem_append_left own (List.mem_cons_of_mem (lf, listOf (refs W (tvarss (ts.take i))).toArray k') (List.mem_append_left tl (hvis _ z1)))
      have z2' := List.mem_append_left own (List.mem_cons_of_mem (lf, listOf (refs W (tvarss (ts.take i))).toArray k') (List.mem_append_left tl (hvis _ z2)))
      have Ct' : Con w mean mg mb 281 d u (PreX W iA iB iC io t) (PostX W (tvars t)) := by have h := Ct; rw [c] at h; exact h
      try k_fold
      k_steps
      k_dflt (refine' con_use (Ct') (vis) ?k1 ?k2 ?k3 ?k4 ?k5 ?kA ?kF ?kK ?kh ?kg ?kd ?ku ?kv ?pre ?_; (case k1 => k_asm); (case k2 => k_asm); (case k3 => k_asm); (case k4 => k_asm); (case k5 => k_asm); (case kA => first | exact Around.frames_deeper (Below.stack (by assumption)) | assumption); (case kF => exact rfl); (case kK => exact rfl); (case kh => first | exact hh | exact rfl | assumption); (case kg => first | exact hg | exact rfl | assumption); (case kd => ((try simp only [depth_under_make, depth_under_kw, depth_in1, depth_deeper, depth_caller]); omega)); (case ku => ((try simp only [units_under_make, units_in1, units_deeper, Around.mark_units, units_caller]); omega)))
      case kv => exact fun p hp => List.mem_append_left _ (List.mem_cons_of_mem _ (List.mem_append_left _ (hvis p hp)))
      case pre => exact ⟨WI, _, _, rfl, htv, hX0⟩
      intro r9 tl9 h9 tk9 F9 N9 O9 P9
      obtain ⟨l9, k9, rfl, hl9⟩ := P9
      have hl9' : (l9, listOf (refs W (tvars t)).toArray k9) ∈ (lf, listOf (refs W (tvarss (ts.take i))).toArray k') :: (news ++ tl) ++ own ++ tl9 := by
        rcases List.mem_append.mp hl9 with h | h
        · have := hvis _ h; k_mem
        · k_mem
      dsimp only
      try clear F N
      have hap9 := ap_more hap O9 (List.mem_append_left _ (List.mem_cons_self ..))
      k_steps
      k_dflt (refine' extend_in (own := []) (rest := news ++ tl ++ own ++ tl9) ?aF ?aN ?ao ?ap ?ab ?_ ?az; (case aF => k_asm); (case aN => k_asm); (case ao => exact fun _ h => nomatch h); (case ap => exact hap9); (case ab => exact (News.get (by k_asm) hl9')); (case az => ((try simp only [List.size_toArray]); omega)))
      intro h5 n5 F5 N5
      rw [List.nil_append, List.toList_toArray] at N5
      k_steps
      refine OnePost.next ((lf, listOf (refs W (tvarss (ts.take i)) ++ refs W (tvars t)).toArray n5) :: (news ++ tl ++ tl9)) (.inl rfl) F5 N5 ?_ ?_ ?_ ?_
      · intro p hp
        simp only [List.cons_append, List.mem_cons, List.mem_append] at hp ⊢
        rcases hp with h | ((h | h) | h) | h <;> simp [h]
      · k_mem
      · exact off_tl hoff (O9.sub fun q hq => List.mem_append_right _ hq)
      · exact ⟨n5, tl ++ tl9, by rw [tvarss_snoc ht, refs_app]; simp, by rw [tvarss_snoc ht, refs_app]; exact ord_grow hO O9 fun q hq => by k_mem, lt_grow hlt O9 (by k_mem)⟩
    · obtain ⟨x', xs, e', ⟨d1, tu, h1, h2, t1, t2, k1, k2, z1, z2, z3⟩, hxs, fx⟩ := typ324 WI c htv
      cases e'
      have z1' := List.mem_append_left own (List.mem_cons_of_mem (lf, listOf (refs W (tvarss (ts.take i))).toArray k') (List.mem_append_left tl (hvis _ z1)))
      have z2' := List.mem_append_left own (List.mem_cons_of_mem (lf, listOf (refs W (tvarss (ts.take i))).toArray k') (List.mem_append_left tl (hvis _ z2)))
      have Ct' : Con w mean mg mb 307 d u (PreX W iA iB iC io t) (PostX W (tvars t)) := by have h := Ct; rw [c] at h; exact h
      try k_fold
      k_steps
      k_dflt (refine' con_use (Ct') (vis) ?k1 ?k2 ?k3 ?k4 ?k5 ?kA ?kF ?kK ?kh ?kg ?kd ?ku ?kv ?pre ?_; (case k1 => k_asm); (case k2 => k_asm); (case k3 => k_asm); (case k4 => k_asm); (case k5 => k_asm); (case kA => first | exact Around.frames_deeper (Below.stack (by assumption)) | assumption); (case kF => exact rfl); (case kK => exact rfl); (case kh => first | exact hh | exact rfl | assumption); (case kg => first | exact hg | exact rfl | assumption); (case kd => ((try simp only [depth_under_make, depth_under_kw, depth_in1, depth_deeper, depth_caller]); omega)); (case ku => ((try simp only [units_under_make, units_in1, units_deeper, Around.mark_units, units_caller]); omega)))
      case kv => exact fun p hp => List.mem_append_left _ (List.mem_cons_of_mem _ (List.mem_append_left _ (hvis p hp)))
      case pre => exact ⟨WI, _, _, rfl, htv, hX0⟩
      intro r9 tl9 h9 tk9 F9 N9 O9 P9
      obtain ⟨l9, k9, rfl, hl9⟩ := P9
      have hl9' : (l9, listOf (refs W (tvars t)).toArray k9) ∈ (lf, listOf (refs W (tvarss (ts.take i))).toArray k') :: (news ++ tl) ++ own ++ tl9 := by
        rcases List.mem_append.mp hl9 with h | h
        · have := hvis _ h; k_mem
        · k_mem
      dsimp only
      try clear F N
      have hap9 := ap_more hap O9 (List.mem_append_left _ (List.mem_cons_self ..))
      k_steps
      k_dflt (refine' extend_in (own := []) (rest := news ++ tl ++ own ++ tl9) ?aF ?aN ?ao ?ap ?ab ?_ ?az; (case aF => k_asm); (case aN => k_asm); (case ao => exact fun _ h => nomatch h); (case ap => exact hap9); (case ab => exact (News.get (by k_asm) hl9')); (case az => ((try simp only [List.size_toArray]); omega)))
      intro h5 n5 F5 N5
      rw [List.nil_append, List.toList_toArray] at N5
      k_steps
      refine OnePost.next ((lf, listOf (refs W (tvarss (ts.take i)) ++ refs W (tvars t)).toArray n5) :: (news ++ tl ++ tl9)) (.inl rfl) F5 N5 ?_ ?_ ?_ ?_
      · intro p hp
        simp only [List.cons_append, List.mem_cons, List.mem_append] at hp ⊢
        rcases hp with h | ((h | h) | h) | h <;> simp [h]
      · k_mem
      · exact off_tl hoff (O9.sub fun q hq => List.mem_append_right _ hq)
      · exact ⟨n5, tl ++ tl9, by rw [tvarss_snoc ht, refs_app]; simp, by rw [tvarss_snoc ht, refs_app]; exact ord_grow hO O9 fun q hq => by k_mem, lt_grow hlt O9 (by k_mem)⟩
    · obtain ⟨qs, x', d1, l1', h1, t1, k1, us, k2, et, e', z1, z2, z3, hus⟩ := typ365 c htv
      cases e'
      have z1' := List.mem_append_left own (List.mem_cons_of_mem (lf, listOf (refs W (tvarss (ts.take i))).toArray k') (List.mem_append_left tl (hvis _ z1)))
      have z2' := List.mem_append_left own (List.mem_cons_of_mem (lf, listOf (refs W (tvarss (ts.take i))).toArray k') (List.mem_append_left tl (hvis _ z2)))
      have Ct' : Con w mean mg mb 362 d u (PreX W iA iB iC io t) (PostX W (tvars t)) := by have h := Ct; rw [c] at h; exact h
      try k_fold
      k_steps
      k_dflt (refine' con_use (Ct') (vis) ?k1 ?k2 ?k3 ?k4 ?k5 ?kA ?kF ?kK ?kh ?kg ?kd ?ku ?kv ?pre ?_; (case k1 => k_asm); (case k2 => k_asm); (case k3 => k_asm); (case k4 => k_asm); (case k5 => k_asm); (case kA => first | exact Around.frames_deeper (Below.stack (by assumption)) | assumption); (case kF => exact rfl); (case kK => exact rfl); (case kh => first | exact hh | exact rfl | assumption); (case kg => first | exact hg | exact rfl | assumption); (case kd => ((try simp only [depth_under_make, depth_under_kw, depth_in1, depth_deeper, depth_caller]); omega)); (case ku => ((try simp only [units_under_make, units_in1, units_deeper, Around.mark_units, units_caller]); omega)))
      case kv => exact fun p hp => List.mem_append_left _ (List.mem_cons_of_mem _ (List.mem_append_left _ (hvis p hp)))
      case pre => exact ⟨WI, _, _, rfl, htv, hX0⟩
      intro r9 tl9 h9 tk9 F9 N9 O9 P9
      obtain ⟨l9, k9, rfl, hl9⟩ := P9
      have hl9' : (l9, listOf (refs W (tvars t)).toArray k9) ∈ (lf, listOf (refs W (tvarss (ts.take i))).toArray k') :: (news ++ tl) ++ own ++ tl9 := by
        rcases List.mem_append.mp hl9 with h | h
        · have := hvis _ h; k_mem
        · k_mem
      dsimp only
      try clear F N
      have hap9 := ap_more hap O9 (List.mem_append_left _ (List.mem_cons_self ..))
      k_steps
      k_dflt (refine' extend_in (own := []) (rest := news ++ tl ++ own ++ tl9) ?aF ?aN ?ao ?ap ?ab ?_ ?az; (case aF => k_asm); (case aN => k_asm); (case ao => exact fun _ h => nomatch h); (case ap => exact hap9); (case ab => exact (News.get (by k_asm) hl9')); (case az => ((try simp only [List.size_toArray]); omega)))
      intro h5 n5 F5 N5
      rw [List.nil_append, List.toList_toArray] at N5
      k_steps
      refine OnePost.next ((lf, listOf (refs W (tvarss (ts.take i)) ++ refs W (tvars t)).toArray n5) :: (news ++ tl ++ tl9)) (.inl rfl) F5 N5 ?_ ?_ ?_ ?_
      · intro p hp
        simp only [List.cons_append, List.mem_cons, List.mem_append] at hp ⊢
        rcases hp with h | ((h | h) | h) | h <;> simp [h]
      · k_mem
      · exact off_tl hoff (O9.sub fun q hq => List.mem_append_right _ hq)
      · exact ⟨n5, tl ++ tl9, by rw [tvarss_snoc ht, refs_app]; simp, by rw [tvarss_snoc ht, refs_app]; exact ord_grow hO O9 fun q hq => by k_mem, lt_grow hlt O9 (by k_mem)⟩
  · rintro u1 nx h tk ⟨k', tl, rfl, hO, hlt⟩ F N
    rw [hvs.len, List.take_length] at *
    clear F1 N1
    show wpAny _ _ _ _ _ _
    k_steps
    show LeaveK _ _ _ _ _ _ _
    refine con_leave hR F N ((lf, listOf (refs W (tvarss ts)).toArray k') :: tl) ?_ hO ⟨lf, k', rfl, by k_mem⟩
    intro p hp
    simp only [List.mem_append, List.mem_cons] at hp ⊢
    rcases hp with h | h | h <;> simp [h]
end Mine
namespace Mine
local macro_rules | `(tactic| walk_at "idle") => `(tactic| fail "idle")
local macro_rules | `(tactic| walk_at "idle") => `(tactic| fail "idle")
local macro_rules | `(tactic| walk_at "idle") => `(tactic| fail "idle")
local macro_rules | `(tactic| walk_at "idle") => `(tactic| fail "idle")
local macro_rules | `(tactic| walk_at "idle") => `(tactic| fail "idle")
local macro_rules | `(tactic| walk_at "idle") => `(tactic| fail "idle")
local macro_rules | `(tactic| walk_at "idle") => `(tactic| fail "idle")
local macro_rules | `(tactic| walk_at "idle") => `(tactic| fail "idle")
local macro_rules | `(tactic| walk_at "idle") => `(tactic| fail "idle")
local macro_rules | `(tactic| walk_at "idle") => `(tactic| fail "idle")
local macro_rules | `(tactic| walk_at "idle") => `(tactic| fail "idle")
local macro_rules | `(tactic| walk_at "idle") => `(tactic| fail "idle")
local macro_rules | `(tactic| walk_at "idle") => `(tactic| fail "idle")
theorem fresh37 : True := by
  w_top off
  trivial
local macro_rules | `(tactic| k_mem) => `(tactic| first | with_reducible assumption | with_reducible exact List.mem_cons_self .. | (with_reducible refine List.mem_cons_of_mem _ ?_; k_mem) | (with_reducible refine List.mem_append_left _ ?_; k_mem) | (with_reducible refine List.mem_append_right _ ?_; k_mem))
local macro_rules | `(tactic| k_room) => `(tactic| ((try simp only [depth_under_make, depth_under_kw, depth_in1, depth_deeper, depth_caller]); omega))
local macro_rules | `(tactic| k_units) => `(tactic| ((try simp only [units_under_make, units_in1, units_deeper, Around.mark_units, units_caller]); omega))
local macro_rules | `(tactic| k_all) => `(tactic| first | assumption | (refine List.forall_mem_append.mpr ⟨?_, ?_⟩ <;> k_all))
local macro_rules | `(tactic| k_enter) => `(tactic| (refine' code_def ?k1 ?k2 ?k3 ?k4 ?k5 ?kA ?kF ?kK ?k6 ?k7 ?k8 ?k9 ?kB ?_ ?c2 ?c3 ?c4 ?c5; (case kA => first | exact Around.frames_deeper (Below.stack (by assumption)) | assumption); (case kF => exact rfl); (case kK => exact rfl); (case k1 => k_asm); (case k2 => k_asm); (case k3 => k_asm); (case k4 => k_asm); (case k5 => k_asm); (case k6 => k_is); (case k7 => k_is); (case k8 => k_room); (case k9 => first | exact BindsTo.of_eq rfl | exact binds_K (by k_in) rfl (by k_is) rfl rfl rfl); (case c5 => decide); (case kB => exact locs rfl); (case c2 => exact rfl); (case c3 => exact rfl); (case c4 => exact rfl); k_whole; intro g' L' h' FG' F' N' B' X' T'; (try dsimp only); (try k_fold)))
local macro_rules | `(tactic| walk_at "call ref") => `(tactic| (k_here; (with_reducible show wpAny _ _ (call (Value.ref 180) _ _) _ _ _); refine wpAny_call ?_))
local macro_rules | `(tactic| walk_at "call ref") => `(tactic| (k_here; (with_reducible show wpAny _ _ (call (Value.ref 214) _ _) _ _ _); refine wpAny_call ?_))
local macro_rules | `(tactic| walk_at "call ref") => `(tactic| (k_here; (with_reducible show wpAny _ _ (call (Value.ref 248) _ _) _ _ _); refine wpAny_call ?_))
local macro_rules | `(tactic| walk_at "call ref") => `(tactic| (k_here; (with_reducible show wpAny _ _ (call (Value.ref 281) _ _) _ _ _); refine wpAny_call ?_))
local macro_rules | `(tactic| walk_at "call ref") => `(tactic| (k_here; (with_reducible show wpAny _ _ (call (Value.ref 307) _ _) _ _ _); refine wpAny_call ?_))
local macro_rules | `(tactic| walk_at "call ref") => `(tactic| (k_here; (with_reducible show wpAny _ _ (call (Value.ref 362) _ _) _ _ _); refine wpAny_call ?_))
local macro_rules | `(tactic| walk_at "call ref") => `(tactic| (k_here; (with_reducible show wpAny _ _ (call (Value.ref 494) _ _) _ _ _); refine wpAny_call ?_))
theorem x_con (w : World) (mean : ExcName → Option Value) (mg mb : Str → Option Value) (W : Wd) (iA iB iC io : Addr) :
    ∀ (n : Nat) (t : Tree), t.ht < n → t.sz ≤ big → Con w mean mg mb (accf (cls t)) (n * 10) (n * 40) (PreX W iA iB iC io t) (PostX W (tvars t)) := by
  intro n
  induction n with
  | zero => intro t h; exact absurd h (Nat.not_lt_zero _)
  | succ n IH =>
    intro t ht hz
    have hzk : szs (kids t) ≤ t.sz := by cases t <;> simp [kids, Tree.sz, szs]
    have htk : ∀ p ∈ kids t, p.ht < n ∧ p.sz ≤ szs (kids t) := fun p hp => by
      cases t with
      | leaf a => simp [kids] at hp
      | node g ps =>
        simp only [kids] at hp ⊢
        have := hts_le hp
        simp only [Tree.ht] at ht
        exact ⟨by omega, mem_sz hp⟩
    have TR : Con w mean mg mb 449 (n * 10 + 2) (n * 40 + 10) (PreXT W iA iB iC io (kids t)) (PostX W (tvarss (kids t))) :=
      query_con w mean mg mb W iA iB iC io (kids t) (by omega) _ _ fun p hp => IH p (htk p hp).1 (by have := (htk p hp).2; omega)
    have e1 : (n + 1) * 10 = n * 10 + 10 := by rw [Nat.add_mul, Nat.one_mul]
    have e2 : (n + 1) * 40 = n * 40 + 40 := by rw [Nat.add_mul, Nat.one_mul]
    rw [e1, e2]
    have c6 := cls_six t
    simp only [six, List.mem_cons, List.not_mem_nil, or_false] at c6
    rcases c6 with c | c | c | c | c | c
    · rw [show accf (cls t) = 180 from by rw [c]; rfl]
      exact con_weak (xaccV_con w mean mg mb W iA iB iC io t c _ _ (xV_con w mean mg mb W iA iB iC io t c)) (by omega) (by omega) (fun _ _ h => h) fun _ _ _ h => h
    · have := cls_any c; subst this
      exact con_weak (xaccAny_con w mean mg mb W iA iB iC io) (by omega) (by omega) (fun _ _ h => h) fun _ _ _ h => h
    · have := cls_nev c; subst this
      exact con_weak (xaccNev_con w mean mg mb W iA iB iC io) (by omega) (by omega) (fun _ _ h => h) fun _ _ _ h => h
    · have := cls_non c; subst this
      exact con_weak (xaccNon_con w mean mg mb W iA iB iC io) (by omega) (by omega) (fun _ _ h => h) fun _ _ _ h => h
    · rw [show accf (cls t) = 307 from by rw [c]; rfl]
      exact con_weak (xaccI_con w mean mg mb W iA iB iC io t c _ _ (xI_con w mean mg mb W iA iB iC io t c _ _ TR)) (by omega) (by omega) (fun _ _ h => h) fun _ _ _ h => h
    · rw [show accf (cls t) = 362 from by rw [c]; rfl]
      exact con_weak (xaccU_con w mean mg mb W iA iB iC io t c _ _ (xU_con w mean mg mb W iA iB iC io t c _ _ TR)) (by omega) (by omega) (fun _ _ h => h) fun _ _ _ h => h
theorem xmake_con (w : World) (mean : ExcName → Option Value) (mg mb : Str → Option Value) : Con w mean mg mb 494 4 20
    (fun news args => args = [])
    (fun news _ r => ∃ v, r = .ref v ∧ XIn news v) := by
  unfold Con
  k_fill
  intro A A₀ env outer base h₀ L m news vis s args R B F X N T hA hf hk hh hg hd hu hvis hp hR
  subst hp
  k_dflt (refine' make_K0 (K := Mine.hd.heap_39 w.params) F N (X.keeps F.keep) ?m4 ?m5 ?_; (case m4 => k_is); (case m5 => k_is))
  intro x dx h' F' N' l1 l2
  have l2' := ltN l2
  refine hR _ [(x, instObj 494 dx), (dx, dictOf [] 0)] h' _ F' (fun p hp => N' p ?_) (Ord.cons (fun q hq => Nat.lt_trans (l1 q hq) l2') (Ord.cons l1 Ord.nil)) ⟨x, rfl, dx, 0, by k_mem, by k_mem⟩
  rcases List.mem_append.mp hp with h | h
  · k_mem
  · rcases List.mem_cons.mp h with h | h
    · rw [h]; exact List.mem_cons_self ..
    · rw [List.mem_singleton.mp h]; exact List.mem_cons_of_mem _ (List.mem_cons_self ..)
theorem allvars_con (w : World) (mean : ExcName → Option Value) (mg mb : Str → Option Value) (W : Wd) (iA iB iC io : Addr) (t : Tree) (d u : Nat)
    (C : Con w mean mg mb (accf (cls t)) d u (PreX W iA iB iC io t) (PostX W (tvars t))) : Con w mean mg mb 505 (d + 8) (u + 40)
    (fun news args => WIn W iA iB iC io news ∧ ∃ x, args = [x] ∧ TypIn W news t x)
    (PostX W (tvars t)) := by
  unfold Con
  k_fill
  intro A A₀ env outer base h₀ L m news vis s args R B F X N T hA hf hk hh hg hd hu hvis hp hR
  obtain ⟨WI, x, rfl, hx⟩ := hp
  obtain ⟨x, dx, es, nn, rfl, i1, i2⟩ := typ_inst WI hx
  have c6 := cls_six t
  simp only [six, List.mem_cons, List.not_mem_nil, or_false] at c6
  rcases c6 with c | c | c | c | c | c
  · obtain ⟨x', e', d1, j, dj, l1, h1, h2, h3, h4, h5, t1, t1', t2, t3, t4, t5, t5', h6, h7, t6, t6', t7, t7', k, k', k'', z1, z2, z3, z4, z5⟩ := typ190 WI c hx
    cases e'
    have z1' := hvis _ z1
    have z2' := hvis _ z2
    have Ct' : Con w mean mg mb 180 d u (PreX W iA iB iC io t) (PostX W (tvars t)) := by have h := C; rw [c] at h; exact h
    k_dflt (refine' code_def (K := Mine.hd.heap_39 w.params) (binds := [(Str.ofString "tp", .ref x)]) B F X N T hA hf hk ?k6 ?k7 ?k8 ?k9 ?kB ?_ ?c2 ?c3 ?c4 ?c5; (case k6 => k_is); (case k7 => k_is); (case k9 => exact BindsTo.of_eq rfl); (case kB => exact locs rfl); (case c2 => exact rfl); (case c3 => exact rfl); (case c4 => exact rfl); (case c5 => decide); (case k8 => omega))
    intro g' L' h' FG' F' N' B' X' T'
    clear F N B X T
    try dsimp only
    k_fold
    k_steps
    k_dflt (refine' con_use (xmake_con w mean mg mb) (vis) ?k1 ?k2 ?k3 ?k4 ?k5 ?kA ?kF ?kK ?kh ?kg ?kd ?ku ?kv ?pre ?_; (case k1 => k_asm); (case k2 => k_asm); (case k3 => k_asm); (case k4 => k_asm); (case k5 => k_asm); (case kA => first | exact Around.frames_deeper (Below.stack (by assumption)) | assumption); (case kF => exact rfl); (case kK => exact rfl); (case kh => first | exact hh | exact rfl | assumption); (case kg => first | exact hg | exact rfl | assumption); (case kd => ((try simp only [depth_under_make, depth_under_kw, depth_in1, depth_deeper, depth_caller]); omega)); (case ku => ((try simp only [units_under_make, units_in1, units_deeper, Around.mark_units, units_caller]); omega)))
    case kv => exact hvis
    case pre => exact rfl
    intro r tl h9 tk9 F9 N9 O9 P9
    obtain ⟨v, rfl, hv⟩ := P9
    clear F' N'
    dsimp only
    k_steps
    k_dflt (refine' con_use (Ct') (vis ++ tl) ?k1 ?k2 ?k3 ?k4 ?k5 ?kA ?kF ?kK ?kh ?kg ?kd ?ku ?kv ?pre ?_; (case k1 => k_asm); (case k2 => k_asm); (case k3 => k_asm); (case k4 => k_asm); (case k5 => k_asm); (case kA => first | exact Around.frames_deeper (Below.stack (by assumption)) | assumption); (case kF => exact rfl); (case kK => exact rfl); (case kh => first | exact hh | exact rfl | assumption); (case kg => first | exact hg | exact rfl | assumption); (case kd => ((try simp only [depth_under_make, depth_under_kw, depth_in1, depth_deeper, depth_caller]); omega)); (case ku => ((try simp only [units_under_make, units_in1, units_deeper, Around.mark_units, units_caller]); omega)))
    case kv => exact sub_app hvis
    case pre => exact ⟨WI.mono fun p hp => List.mem_append_left _ hp, _, _, rfl, hx.mono fun p hp => List.mem_append_left _ hp, hv⟩
    intro r tl2 h8 tk8 F8 N8 O8 P8
    clear F9 N9
    dsimp only
    show LeaveK _ _ _ _ _ _ _
    rw [List.append_assoc] at N8 P8
    exact con_leave0 (tl := tl ++ tl2) hR F8 N8 (O9.app O8) P8
  · have et := cls_any c
    have htv' := hx
    rw [et] at htv'
    simp only [TypIn] at htv'
    cases htv'
    obtain ⟨d1, h1, h2, t1, t1', t2, k, z1, z2⟩ := WI.any
    have z1' := hvis _ z1
    have z2' := hvis _ z2
    have Ct' : Con w mean mg mb 214 d u (PreX W iA iB iC io t) (PostX W (tvars t)) := by have h := C; rw [c] at h; exact h
    k_dflt (refine' code_def (K := Mine.hd.heap_39 w.params) (binds := [(Str.ofString "tp", .ref (W.at_ .any))]) B F X N T hA hf hk ?k6 ?k7 ?k8 ?k9 ?kB ?_ ?c2 ?c3 ?c4 ?c5; (case k6 => k_is); (case k7 => k_is); (case k9 => exact BindsTo.of_eq rfl); (case kB => exact locs rfl); (case c2 => exact rfl); (case c3 => exact rfl); (case c4 => exact rfl); (case c5 => decide); (case k8 => omega))
    intro g' L' h' FG' F' N' B' X' T'
    clear F N B X T
    try dsimp only
    k_fold
    k_steps
    k_dflt (refine' con_use (xmake_con w mean mg mb) (vis) ?k1 ?k2 ?k3 ?k4 ?k5 ?kA ?kF ?kK ?kh ?kg ?kd ?ku ?kv ?pre ?_; (case k1 => k_asm); (case k2 => k_asm); (case k3 => k_asm); (case k4 => k_asm); (case k5 => k_asm); (case kA => first | exact Around.frames_deeper (Below.stack (by assumption)) | assumption); (case kF => exact rfl); (case kK => exact rfl); (case kh => first | exact hh | exact rfl | assumption); (case kg => first | exact hg | exact rfl | assumption); (case kd => ((try simp only [depth_under_make, depth_under_kw, depth_in1, depth_deeper, depth_caller]); omega)); (case ku => ((try simp only [units_under_make, units_in1, units_deeper, Around.mark_units, units_caller]); omega)))
    case kv => exact hvis
    case pre => exact rfl
    intro r tl h9 tk9 F9 N9 O9 P9
    obtain ⟨v, rfl, hv⟩ := P9
    clear F' N'
    dsimp only
    k_steps
    k_dflt (refine' con_use (Ct') (vis ++ tl) ?k1 ?k2 ?k3 ?k4 ?k5 ?kA ?kF ?kK ?kh ?kg ?kd ?ku ?kv ?pre ?_; (case k1 => k_asm); (case k2 => k_asm); (case k3 => k_asm); (case k4 => k_asm); (case k5 => k_asm); (case kA => first | exact Around.frames_deeper (Below.stack (by assumption)) | assumption); (case kF => exact rfl); (case kK => exact rfl); (case kh => first | exact hh | exact rfl | assumption); (case kg => first | exact hg | exact rfl | assumption); (case kd => ((try simp only [depth_under_make, depth_under_kw, depth_in1, depth_deeper, depth_caller]); omega)); (case ku => ((try simp only [units_under_make, units_in1, units_deeper, Around.mark_units, units_caller]); omega)))
    case kv => exact sub_app hvis
    case pre => exact ⟨WI.mono fun p hp => List.mem_append_left _ hp, _, _, rfl, hx.mono fun p hp => List.mem_append_left _ hp, hv⟩
    intro r tl2 h8 tk8 F8 N8 O8 P8
    clear F9 N9
    dsimp only
    show LeaveK _ _ _ _ _ _ _
    rw [List.append_assoc] at N8 P8
    exact con_leave0 (tl := tl ++ tl2) hR F8 N8 (O9.app O8) P8
  · have et := cls_nev c
    have htv' := hx
    rw [et] at htv'
    simp only [TypIn] at htv'
    obtain ⟨x', d1, h1, t1, k, e', z1, z2⟩ := htv'
    cases e'
    have z1' := hvis _ z1
    have z2' := hvis _ z2
    have Ct' : Con w mean mg mb 248 d u (PreX W iA iB iC io t) (PostX W (tvars t)) := by have h := C; rw [c] at h; exact h
    k_dflt (refine' code_def (K := Mine.hd.heap_39 w.params) (binds := [(Str.ofString "tp", .ref x)]) B F X N T hA hf hk ?k6 ?k7 ?k8 ?k9 ?kB ?_ ?c2 ?c3 ?c4 ?c5; (case k6 => k_is); (case k7 => k_is); (case k9 => exact BindsTo.of_eq rfl); (case kB => exact locs rfl); (case c2 => exact rfl); (case c3 => exact rfl); (case c4 => exact rfl); (case c5 => decide); (case k8 => omega))
    intro g' L' h' FG' F' N' B' X' T'
    clear F N B X T
    try dsimp only
    k_fold
    k_steps
    k_dflt (refine' con_use (xmake_con w mean mg mb) (vis) ?k1 ?k2 ?k3 ?k4 ?k5 ?kA ?kF ?kK ?kh ?kg ?kd ?ku ?kv ?pre ?_; (case k1 => k_asm); (case k2 => k_asm); (case k3 => k_asm); (case k4 => k_asm); (case k5 => k_asm); (case kA => first | exact Around.frames_deeper (Below.stack (by assumption)) | assumption); (case kF => exact rfl); (case kK => exact rfl); (case kh => first | exact hh | exact rfl | assumption); (case kg => first | exact hg | exact rfl | assumption); (case kd => ((try simp only [depth_under_make, depth_under_kw, depth_in1, depth_deeper, depth_caller]); omega)); (case ku => ((try simp only [units_under_make, units_in1, units_deeper, Around.mark_units, units_caller]); omega)))
    case kv => exact hvis
    case pre => exact rfl
    intro r tl h9 tk9 F9 N9 O9 P9
    obtain ⟨v, rfl, hv⟩ := P9
    clear F' N'
    dsimp only
    k_steps
    k_dflt (refine' con_use (Ct') (vis ++ tl) ?k1 ?k2 ?k3 ?k4 ?k5 ?kA ?kF ?kK ?kh ?kg ?kd ?ku ?kv ?pre ?_; (case k1 => k_asm); (case k2 => k_asm); (case k3 => k_asm); (case k4 => k_asm); (case k5 => k_asm); (case kA => first | exact Around.frames_deeper (Below.stack (by assumption)) | assumption); (case kF => exact rfl); (case kK => exact rfl); (case kh => first | exact hh | exact rfl | assumption); (case kg => first | exact hg | exact rfl | assumption); (case kd => ((try simp only [depth_under_make, depth_under_kw, depth_in1, depth_deeper, depth_caller]); omega)); (case ku => ((try simp only [units_under_make, units_in1, units_deeper, Around.mark_units, units_caller]); omega)))
    case kv => exact sub_app hvis
    case pre => exact ⟨WI.mono fun p hp => List.mem_append_left _ hp, _, _, rfl, hx.mono fun p hp => List.mem_append_left _ hp, hv⟩
    intro r tl2 h8 tk8 F8 N8 O8 P8
    clear F9 N9
    dsimp only
    show LeaveK _ _ _ _ _ _ _
    rw [List.append_assoc] at N8 P8
    exact con_leave0 (tl := tl ++ tl2) hR F8 N8 (O9.app O8) P8
  · have et := cls_non c
    have htv' := hx
    rw [et] at htv'
    simp only [TypIn] at htv'
    cases htv'
    obtain ⟨d1, k, z1, z2⟩ := WI.non
    have z1' := hvis _ z1
    have z2' := hvis _ z2
    have Ct' : Con w mean mg mb 281 d u (PreX W iA iB iC io t) (PostX W (tvars t)) := by have h := C; rw [c] at h; exact h
    k_dflt (refine' code_def (K := Mine.hd.heap_39 w.params) (binds := [(Str.ofString "tp", .ref (W.at_ .non))]) B F X N T hA hf hk ?k6 ?k7 ?k8 ?k9 ?kB ?_ ?c2 ?c3 ?c4 ?c5; (case k6 => k_is); (case k7 => k_is); (case k9 => exact BindsTo.of_eq rfl); (case kB => exact locs rfl); (case c2 => exact rfl); (case c3 => exact rfl); (case c4 => exact rfl); (case c5 => decide); (case k8 => omega))
    intro g' L' h' FG' F' N' B' X' T'
    clear F N B X T
    try dsimp only
    k_fold
    k_steps
    k_dflt (refine' con_use (xmake_con w mean mg mb) (vis) ?k1 ?k2 ?k3 ?k4 ?k5 ?kA ?kF ?kK ?kh ?kg ?kd ?ku ?kv ?pre ?_; (case k1 => k_asm); (case k2 => k_asm); (case k3 => k_asm); (case k4 => k_asm); (case k5 => k_asm); (case kA => first | exact Around.frames_deeper (Below.stack (by assumption)) | assumption); (case kF => exact rfl); (case kK => exact rfl); (case kh => first | exact hh | exact rfl | assumption); (case kg => first | exact hg | exact rfl | assumption); (case kd => ((try simp only [depth_under_make, depth_under_kw, depth_in1, depth_deeper, depth_caller]); omega)); (case ku => ((try simp only [units_under_make, units_in1, units_deeper, Around.mark_units, units_caller]); omega)))
    case kv => exact hvis
    case pre => exact rfl
    intro r tl h9 tk9 F9 N9 O9 P9
    obtain ⟨v, rfl, hv⟩ := P9
    clear F' N'
    dsimp only
    k_steps
    k_dflt (refine' con_use (Ct') (vis ++ tl) ?k1 ?k2 ?k3 ?k4 ?k5 ?kA ?kF ?kK ?kh ?kg ?kd ?ku ?kv ?pre ?_; (case k1 => k_asm); (case k2 => k_asm); (case k3 => k_asm); (case k4 => k_asm); (case k5 => k_asm); (case kA => first | exact Around.frames_deeper (Below.stack (by assumption)) | assumption); (case kF => exact rfl); (case kK => exact rfl); (case kh => first | exact hh | exact rfl | assumption); (case kg => first | exact hg | exact rfl | assumption); (case kd => ((try simp only [depth_under_make, depth_under_kw, depth_in1, depth_deeper, depth_caller]); omega)); (case ku => ((try simp only [units_under_make, units_in1, units_deeper, Around.mark_units, units_caller]); omega)))
    case kv => exact sub_app hvis
    case pre => exact ⟨WI.mono fun p hp => List.mem_append_left _ hp, _, _, rfl, hx.mono fun p hp => List.mem_append_left _ hp, hv⟩
    intro r tl2 h8 tk8 F8 N8 O8 P8
    clear F9 N9
    dsimp only
    show LeaveK _ _ _ _ _ _ _
    rw [List.append_assoc] at N8 P8
    exact con_leave0 (tl := tl ++ tl2) hR F8 N8 (O9.app O8) P8
  · obtain ⟨x', xs, e', ⟨d1, tu, h1, h2, t1, t2, k, k', z1, z2, z3⟩, hxs, fx⟩ := typ324 WI c hx
    cases e'
    have z1' := hvis _ z1
    have z2' := hvis _ z2
    have Ct' : Con w mean mg mb 307 d u (PreX W iA iB iC io t) (PostX W (tvars t)) := by have h := C; rw [c] at h; exact h
    k_dflt (refine' code_def (K := Mine.hd.heap_39 w.params) (binds := [(Str.ofString "tp", .ref x)]) B F X N T hA hf hk ?k6 ?k7 ?k8 ?k9 ?kB ?_ ?c2 ?c3 ?c4 ?c5; (case k6 => k_is); (case k7 => k_is); (case k9 => exact BindsTo.of_eq rfl); (case kB => exact locs rfl); (case c2 => exact rfl); (case c3 => exact rfl); (case c4 => exact rfl); (case c5 => decide); (case k8 => omega))
    intro g' L' h' FG' F' N' B' X' T'
    clear F N B X T
    try dsimp only
    k_fold
    k_steps
    k_dflt (refine' con_use (xmake_con w mean mg mb) (vis) ?k1 ?k2 ?k3 ?k4 ?k5 ?kA ?kF ?kK ?kh ?kg ?kd ?ku ?kv ?pre ?_; (case k1 => k_asm); (case k2 => k_asm); (case k3 => k_asm); (case k4 => k_asm); (case k5 => k_asm); (case kA => first | exact Around.frames_deeper (Below.stack (by assumption)) | assumption); (case kF => exact rfl); (case kK => exact rfl); (case kh => first | exact hh | exact rfl | assumption); (case kg => first | exact hg | exact rfl | assumption); (case kd => ((try simp only [depth_under_make, depth_under_kw, depth_in1, depth_deeper, depth_caller]); omega)); (case ku => ((try simp only [units_under_make, units_in1, units_deeper, Around.mark_units, units_caller]); omega)))
    case kv => exact hvis
    case pre => exact rfl
    intro r tl h9 tk9 F9 N9 O9 P9
    obtain ⟨v, rfl, hv⟩ := P9
    clear F' N'
    dsimp only
    k_steps
    k_dflt (refine' con_use (Ct') (vis ++ tl) ?k1 ?k2 ?k3 ?k4 ?k5 ?kA ?kF ?kK ?kh ?kg ?kd ?ku ?kv ?pre ?_; (case k1 => k_asm); (case k2 => k_asm); (case k3 => k_asm); (case k4 => k_asm); (case k5 => k_asm); (case kA => first | exact Around.frames_deeper (Below.stack (by assumption)) | assumption); (case kF => exact rfl); (case kK => exact rfl); (case kh => first | exact hh | exact rfl | assumption); (case kg => first | exact hg | exact rfl | assumption); (case kd => ((try simp only [depth_under_make, depth_under_kw, depth_in1, depth_deeper, depth_caller]); omega)); (case ku => ((try simp only [units_under_make, units_in1, units_deeper, Around.mark_units, units_caller]); omega)))
    case kv => exact sub_app hvis
    case pre => exact ⟨WI.mono fun p hp => List.mem_append_left _ hp, _, _, rfl, hx.mono fun p hp => List.mem_append_left _ hp, hv⟩
    intro r tl2 h8 tk8 F8 N8 O8 P8
    clear F9 N9
    dsimp only
    show LeaveK _ _ _ _ _ _ _
    rw [List.append_assoc] at N8 P8
    exact con_leave0 (tl := tl ++ tl2) hR F8 N8 (O9.app O8) P8
  · obtain ⟨qs, x', d1, l1, h1, t1, k, us, k', et, e', z1, z2, z3, hus⟩ := typ365 c hx
    cases e'
    have z1' := hvis _ z1
    have z2' := hvis _ z2
    have Ct' : Con w mean mg mb 362 d u (PreX W iA iB iC io t) (PostX W (tvars t)) := by have h := C; rw [c] at h; exact h
    k_dflt (refine' code_def (K := Mine.hd.heap_39 w.params) (binds := [(Str.ofString "tp", .ref x)]) B F X N T hA hf hk ?k6 ?k7 ?k8 ?k9 ?kB ?_ ?c2 ?c3 ?c4 ?c5; (case k6 => k_is); (case k7 => k_is); (case k9 => exact BindsTo.of_eq rfl); (case kB => exact locs rfl); (case c2 => exact rfl); (case c3 => exact rfl); (case c4 => exact rfl); (case c5 => decide); (case k8 => omega))
    intro g' L' h' FG' F' N' B' X' T'
    clear F N B X T
    try dsimp only
    k_fold
    k_steps
    k_dflt (refine' con_use (xmake_con w mean mg mb) (vis) ?k1 ?k2 ?k3 ?k4 ?k5 ?kA ?kF ?kK ?kh ?kg ?kd ?ku ?kv ?pre ?_; (case k1 => k_asm); (case k2 => k_asm); (case k3 => k_asm); (case k4 => k_asm); (case k5 => k_asm); (case kA => first | exact Around.frames_deeper (Below.stack (by assumption)) | assumption); (case kF => exact rfl); (case kK => exact rfl); (case kh => first | exact hh | exact rfl | assumption); (case kg => first | exact hg | exact rfl | assumption); (case kd => ((try simp only [depth_under_make, depth_under_kw, depth_in1, depth_deeper, depth_caller]); omega)); (case ku => ((try simp only [units_under_make, units_in1, units_deeper, Around.mark_units, units_caller]); omega)))
    case kv => exact hvis
    case pre => exact rfl
    intro r tl h9 tk9 F9 N9 O9 P9
    obtain ⟨v, rfl, hv⟩ := P9
    clear F' N'
    dsimp only
    k_steps
    k_dflt (refine' con_use (Ct') (vis ++ tl) ?k1 ?k2 ?k3 ?k4 ?k5 ?kA ?kF ?kK ?kh ?kg ?kd ?ku ?kv ?pre ?_; (case k1 => k_asm); (case k2 => k_asm); (case k3 => k_asm); (case k4 => k_asm); (case k5 => k_asm); (case kA => first | exact Around.frames_deeper (Below.stack (by assumption)) | assumption); (case kF => exact rfl); (case kK => exact rfl); (case kh => first | exact hh | exact rfl | assumption); (case kg => first | exact hg | exact rfl | assumption); (case kd => ((try simp only [depth_under_make, depth_under_kw, depth_in1, depth_deeper, depth_caller]); omega)); (case ku => ((try simp only [units_under_make, units_in1, units_deeper, Around.mark_units, units_caller]); omega)))
    case kv => exact sub_app hvis
    case pre => exact ⟨WI.mono fun p hp => List.mem_append_left _ hp, _, _, rfl, hx.mono fun p hp => List.mem_append_left _ hp, hv⟩
    intro r tl2 h8 tk8 F8 N8 O8 P8
    clear F9 N9
    dsimp only
    show LeaveK _ _ _ _ _ _ _
    rw [List.append_assoc] at N8 P8
    exact con_leave0 (tl := tl ++ tl2) hR F8 N8 (O9.app O8) P8
end Mine
namespace Mine
local macro_rules | `(tactic| walk_at "idle") => `(tactic| fail "idle")
local macro_rules | `(tactic| walk_at "idle") => `(tactic| fail "idle")
local macro_rules | `(tactic| walk_at "idle") => `(tactic| fail "idle")
local macro_rules | `(tactic| walk_at "idle") => `(tactic| fail "idle")
local macro_rules | `(tactic| walk_at "idle") => `(tactic| fail "idle")
local macro_rules | `(tactic| walk_at "idle") => `(tactic| fail "idle")
local macro_rules | `(tactic| walk_at "idle") => `(tactic| fail "idle")
local macro_rules | `(tactic| walk_at "idle") => `(tactic| fail "idle")
local macro_rules | `(tactic| walk_at "idle") => `(tactic| fail "idle")
local macro_rules | `(tactic| walk_at "idle") => `(tactic| fail "idle")
local macro_rules | `(tactic| walk_at "idle") => `(tactic| fail "idle")
local macro_rules | `(tactic| walk_at "idle") => `(tactic| fail "idle")
local macro_rules | `(tactic| walk_at "idle") => `(tactic| fail "idle")
theorem fresh38 : True := by
  w_top off
  trivial
local macro_rules | `(tactic| k_mem) => `(tactic| first | with_reducible assumption | with_reducible exact List.mem_cons_self .. | (with_reducible refine List.mem_cons_of_mem _ ?_; k_mem) | (with_reducible refine List.mem_append_left _ ?_; k_mem) | (with_reducible refine List.mem_append_right _ ?_; k_mem))
local macro_rules | `(tactic| k_room) => `(tactic| ((try simp only [depth_under_make, depth_under_kw, depth_in1, depth_deeper, depth_caller]); omega))
local macro_rules | `(tactic| k_units) => `(tactic| ((try simp only [units_under_make, units_in1, units_deeper, Around.mark_units, units_caller]); omega))
local macro_rules | `(tactic| k_all) => `(tactic| first | assumption | (refine List.forall_mem_append.mpr ⟨?_, ?_⟩ <;> k_all))
local macro_rules | `(tactic| k_enter) => `(tactic| (refine' code_def ?k1 ?k2 ?k3 ?k4 ?k5 ?kA ?kF ?kK ?k6 ?k7 ?k8 ?k9 ?kB ?_ ?c2 ?c3 ?c4 ?c5; (case kA => first | exact Around.frames_deeper (Below.stack (by assumption)) | assumption); (case kF => exact rfl); (case kK => exact rfl); (case k1 => k_asm); (case k2 => k_asm); (case k3 => k_asm); (case k4 => k_asm); (case k5 => k_asm); (case k6 => k_is); (case k7 => k_is); (case k8 => k_room); (case k9 => first | exact BindsTo.of_eq rfl | exact binds_K (by k_in) rfl (by k_is) rfl rfl rfl); (case c5 => decide); (case kB => exact locs rfl); (case c2 => exact rfl); (case c3 => exact rfl); (case c4 => exact rfl); k_whole; intro g' L' h' FG' F' N' B' X' T'; (try dsimp only); (try k_fold)))
local macro_rules | `(tactic| walk_at "call ref") => `(tactic| (k_here; (with_reducible show wpAny _ _ (call (Value.ref 593) _ _) _ _ _); refine wpAny_call ?_))
local macro_rules | `(tactic| walk_at "call ref") => `(tactic| (k_here; (with_reducible show wpAny _ _ (call (Value.ref 324) _ _) _ _ _); refine wpAny_call ?_))
local macro_rules | `(tactic| walk_at "call ref") => `(tactic| (k_here; (with_reducible show wpAny _ _ (call (Value.ref 365) _ _) _ _ _); refine wpAny_call ?_))
local macro_rules | `(tactic| walk_at "eval ListComp") => `(tactic| (k_here; refine hold ?_))
local macro_rules | `(tactic| walk_at "exec Assign cons ListComp") => `(tactic| (k_here; refine hold ?_))
local macro_rules | `(tactic| walk_at "pyIter ref") => `(tactic| (k_here; refine hold ?_))
local macro_rules | `(tactic| walk_at "compareOp Eq str str") => `(tactic| (k_here; refine hold ?_))
local macro_rules | `(tactic| walk_at "eval Name") => `(tactic| (k_here; first | (refine nameC_L (by assumption) (by assumption) ?_ (by rfl) (by rfl) (by decide)) | (k_dflt (refine' nameC_C ?k1 ?k2 ?k3 ?k4 ?_ (by rfl) (by rfl) (by decide); (case k1 => k_asm); (case k2 => exact rfl); (case k3 => k_mem); (case k4 => assumption)))))
mutual
def mk : Tree → Tree
  | .leaf a => .leaf a
  | .node g ps => .node g (if g = .union then flats (mks ps) else mks ps)
def mks : List Tree → List Tree
  | [] => []
  | p :: r => mk p :: mks r
end
theorem isStr_self (x : Str) (tk : Tok) : Value.isStrOf x (.str x tk) = true := by simp [Value.isStrOf]
/-- the law's world of names -/
def DWIn (w : World) (W : Wd) (news : Led) (wd : Addr) : Prop :=
  ∃ o kvs, (wd, o) ∈ news ∧ o.IsDictOf (PySem.strKind PySem.Challenge.rw_ft0017_01.row.prog w) kvs ∧ (wd == sysModules) = false ∧ (∀ a : Atom, ∃ v, valueAt kvs a.nm = some v ∧ TypIn W news (.leaf a) v) ∧ ∀ g : Tag, g ≠ .union → valueAt kvs g.nm = some (.ref (W.inf g))
theorem DWIn.mono {w : World} {W : Wd} {news news' : Led} {wd : Addr} (hs : ∀ p ∈ news, p ∈ news') (h : DWIn w W news wd) : DWIn w W news' wd := by
  obtain ⟨o, kvs, a, b, c, d, e⟩ := h
  exact ⟨o, kvs, hs _ a, b, c, fun a => let ⟨v, h1, h2⟩ := d a; ⟨v, h1, h2.mono hs⟩, e⟩
theorem tail_pick (x : Value) (vs : List Value) : kms_pick (x :: vs).toArray.toList (some 1) none = vs := by
  simp [kms_pick, kms_lo, kms_hi]
theorem eq_union (g : Tag) : (g.nm == Str.ofString "union") = decide (g = .union) := by cases g <;> decide
theorem mks_len : ∀ ts : List Tree, (mks ts).length = ts.length
  | [] => by simp [mks]
  | t :: r => by simp [mks, mks_len r]
theorem mks_get {ts : List Tree} {i : Nat} {t : Tree} (h : ts[i]? = some t) : (mks ts)[i]? = some (mk t) := by
  have e : ∀ l, mks l = l.map mk := by intro l; induction l with | nil => simp [mks] | cons t r ih => simp [mks, ih]
  rw [e, List.getElem?_map, h]; rfl
mutual
theorem mk_b : ∀ t : Tree, (mk t).ht ≤ t.ht ∧ (mk t).sz ≤ t.sz
  | .leaf a => by simp [mk]
  | .node g ps => by
    have h := mks_b ps
    have h1 := flats_ht (mks ps)
    have h2 := flats_sz (mks ps)
    simp only [mk, Tree.ht, Tree.sz]
    split <;> omega
theorem mks_b : ∀ ts : List Tree, hts (mks ts) ≤ hts ts ∧ szs (mks ts) ≤ szs ts
  | [] => by simp [mks]
  | t :: r => by
    have a := mk_b t
    have b := mks_b r
    simp only [mks, hts, szs]
    omega
end
theorem made_con (w : World) (mean : ExcName → Option Value) (mg mb : Str → Option Value) (W : Wd) (iA iB iC io : Addr) (H : Nat) : ∀ (n : Nat) (t : Tree), t.ht < n → n < H → t.sz ≤ big → Con w mean mg mb 593 (n * 8 + 2 * H) (n * 40 + 20 * H)
    (fun news args => WIn W iA iB iC io news ∧ ∃ x wd, args = [x, .ref wd] ∧ TreeIn news t x ∧ DWIn w W news wd)
    (fun news _ r => TypIn W news (mk t) r) := by
  intro n
  induction n with
  | zero => intro t h; exact absurd h (Nat.not_lt_zero _)
  | succ n IH =>
  intro t ht hH hz
  unfold Con
  k_fill
  intro A A₀ env outer base h₀ L m news vis s args R B F X N T hA hf hk hh hg hd hu hvis hp hR
  obtain ⟨WI, x, wd, rfl, hx, hD⟩ := hp
  have hD0 := hD
  obtain ⟨o, kvs, d1, d2, d3, d4, d5⟩ := hD
  have d1' := hvis _ d1
  cases t with
  | leaf a =>
    simp only [TreeIn] at hx
    obtain ⟨tk0, rfl⟩ := hx
    k_dflt (refine' code_defC (K := Mine.hd.heap_39 w.params) (binds := [(Str.ofString "tree", .str a.nm tk0), (Str.ofString "world", .ref wd)]) B F X N T hA hf hk ?k6 ?k7 ?k8 ?k9 ?kB ?kD ?_ ?c2 ?c3 ?c4; (case k6 => k_is); (case k7 => k_is); (case k9 => exact BindsTo.of_eq rfl); (case kB => exact rfl); (case kD => decide +kernel); (case c2 => exact rfl); (case c3 => exact rfl); (case c4 => exact rfl); (case k8 => omega))
    intro g' L' h' tk' cells' FG' F' N' Y' B' X' T' lc
    obtain ⟨c1, hE, dc1⟩ := CellsAre.one Y'
    subst hE
    simp only [List.cons_append, List.nil_append] at N'
    clear F N B X T Y'
    try dsimp only
    k_fold
    k_steps
    obtain ⟨v9, hv9, htv⟩ := d4 a
    refine kda_item (knd := PySem.strKind PySem.Challenge.rw_ft0017_01.row.prog w) (k := a.nm) N' (List.mem_cons_of_mem _ d1') d2 (by simp [PySem.strKind, Value.isStrOf]) hv9 ?_
    show LeaveK _ _ _ _ _ _ _
    refine con_leave hR F' N' [] (fun p hp => by rw [List.append_nil] at hp; exact List.mem_cons_of_mem _ hp) Ord.nil ?_
    rw [List.append_nil, mk]; exact htv
  | node g ps =>
    simp only [TreeIn] at hx
    obtain ⟨l, tk0, vs, k0, rfl, hl, hvs⟩ := hx
    have hl' := hvis _ hl
    have hbl := big_line
    have hlen := hvs.len
    have hls := len_szs ps
    simp only [Tree.sz] at hz
    k_dflt (refine' code_defC (K := Mine.hd.heap_39 w.params) (binds := [(Str.ofString "tree", .ref l), (Str.ofString "world", .ref wd)]) B F X N T hA hf hk ?k6 ?k7 ?k8 ?k9 ?kB ?kD ?_ ?c2 ?c3 ?c4; (case k6 => k_is); (case k7 => k_is); (case k9 => exact BindsTo.of_eq rfl); (case kB => exact rfl); (case kD => decide +kernel); (case c2 => exact rfl); (case c3 => exact rfl); (case c4 => exact rfl); (case k8 => omega))
    intro g' L' h' tk' cells' FG' F' N' Y' B' X' T' lc
    obtain ⟨c1, hE, dc1⟩ := CellsAre.one Y'
    subst hE
    simp only [List.cons_append, List.nil_append] at N'
    clear F N B X T Y'
    try dsimp only
    k_fold
    k_steps
    refine AssignComp_led (hsw := by with_unfolding_all rfl) (hclos := by rfl) rfl (by decide) ?_
    k_steps
    k_dflt (refine' kms_slice_lit (its := ((Value.str g.nm tk0) :: vs).toArray) (zs := vs) (lo := some 1) (hi := none) ?zzF ?zzN ?zzl ?zzp ?zzq ?zze ?_ ?zzs ?zzt ?zzz; (case zzF => k_asm); (case zzN => k_asm); (case zzl => exact News.isList (by k_asm) (List.mem_cons_of_mem _ hl')); (case zzp => kmk_part); (case zzq => kmk_part); (case zze => exact tail_pick _ _); (case zzs => with_unfolding_all rfl); (case zzt => kmk_pure); (case zzz => (rw [List.size_toArray, List.length_cons]; omega)))
    intro D6 h6 F6 N6 l6
    refine comp_some hh F6 N6 (SeqOf.src SeqOf.list N6 (List.mem_cons_self ..)) (fun led i _ y => ∃ t l2, ps[i]? = some t ∧ TypIn W (vis ++ l2) (mk t) y ∧ ∀ p ∈ l2, p ∈ led ∧ ∀ q ∈ (D6, PySem.W.listOf vs.toArray 0) :: (L' + 1, c1) :: news, q.1 < p.1) (fun l l' i _ y hs h => ?_) (by omega) (by decide) rfl rfl rfl rfl ?elt ?_
    · obtain ⟨t, l2, h1, h2, h3⟩ := h; exact ⟨t, l2, h1, h2, fun p hp => ⟨hs _ (h3 p hp).1, (h3 p hp).2⟩⟩
    case elt =>
      intro i v1 C1 mC tl own h tk E' hv F N O hn hm hC
      obtain ⟨t, ht', htv⟩ := hvs.get hv
      have b1 := hts_get ht'
      have b2 := szs_get ht'
      simp only [Tree.ht] at ht
      have hv2 : ∀ p ∈ vis, p ∈ own ++ ((D6, PySem.W.listOf vs.toArray 0) :: (L' + 1, c1) :: news ++ tl) := fun p hp => List.mem_append_right own (List.mem_append_left tl (List.mem_cons_of_mem _ (List.mem_cons_of_mem _ (hvis _ hp))))
      k_steps
      k_dflt (refine' con_use (IH t (by omega) (by omega) (by omega)) (vis) ?k1 ?k2 ?k3 ?k4 ?k5 ?kA ?kF ?kK ?kh ?kg ?kd ?ku ?kv ?pre ?_; (case k1 => k_asm); (case k2 => k_asm); (case k3 => k_asm); (case k4 => k_asm); (case k5 => k_asm); (case kA => first | exact Around.frames_deeper (Below.stack (by assumption)) | assumption); (case kF => exact rfl); (case kK => exact rfl); (case kh => first | exact hh | exact rfl | assumption); (case kg => first | exact hg | exact rfl | assumption); (case kd => ((try simp only [depth_under_make, depth_under_kw, depth_in1, depth_deeper, depth_caller]); omega)); (case ku => ((try simp only [units_under_make, units_in1, units_deeper, Around.mark_units, units_caller]); omega)))
      case kv => exact hv2
      case pre => exact ⟨WI, _, _, rfl, htv, hD0⟩
      intro r tl9 h9 tk9 F9 N9 O9 P9
      exact ⟨tl9, h9, tk9, rfl, F9, N9, O9, t, tl9, ht', P9, fun p hp => ⟨List.mem_append_right _ hp, fun q hq => O9 q (List.mem_append_right _ (List.mem_append_left _ hq)) p hp⟩⟩
    intro D nD h5 tk5 ys tl5 CD
    obtain ⟨F5, N5, O5, off5, P5, lv5, ly5, G5⟩ := CD
    have hys : TypsIn W (vis ++ tl5) (mks ps) ys := by
      refine TypsIn.of (by rw [ly5, mks_len, hvs.len]) fun i y t' hy ht' => ?_
      have hi : i < vs.length := by rw [← ly5]; exact (List.getElem?_eq_some_iff.mp hy).1
      obtain ⟨y', e1, t, l2, e2, e3, e4⟩ := G5 i _ (List.getElem?_eq_getElem hi)
      rw [hy] at e1; cases e1
      rw [mks_get e2] at ht'; cases ht'
      refine e3.mono fun p hp => ?_
      rcases List.mem_append.mp hp with h | h
      · exact List.mem_append_left _ h
      · obtain ⟨h1, h2⟩ := e4 p h
        rcases List.mem_append.mp h1 with h3 | h3
        · exact absurd (h2 p h3) (Nat.lt_irrefl _)
        · exact List.mem_append_right _ h3
    clear F' N' F6 N6
    k_steps
    have hmb := mks_b ps
    simp only [Tree.ht] at ht
    have hl5 : (l, PySem.W.listOf (Value.str g.nm tk0 :: vs).toArray k0) ∈ (D, PySem.W.listOf ys.toArray nD) :: ((D6, PySem.W.listOf vs.toArray 0) :: (L' + 1, c1) :: news ++ tl5) := by k_mem
    have hd5 : (wd, o) ∈ (D, PySem.W.listOf ys.toArray nD) :: ((D6, PySem.W.listOf vs.toArray 0) :: (L' + 1, c1) :: news ++ tl5) := by k_mem
    have hv5 : ∀ p ∈ vis ++ (D, PySem.W.listOf ys.toArray nD) :: tl5, p ∈ (D, PySem.W.listOf ys.toArray nD) :: ((D6, PySem.W.listOf vs.toArray 0) :: (L' + 1, c1) :: news ++ tl5) := fun p hp => by
      rcases List.mem_append.mp hp with h | h
      · have := hvis p h; k_mem
      · rcases List.mem_cons.mp h with h | h
        · rw [h]; k_mem
        · k_mem
    have hys5 : TypsIn W (vis ++ (D, PySem.W.listOf ys.toArray nD) :: tl5) (mks ps) ys := hys.mono fun p hp => by
      rcases List.mem_append.mp hp with h | h
      · exact List.mem_append_left _ h
      · exact List.mem_append_right _ (List.mem_cons_of_mem _ h)
    have O5' : Ord news ((D, PySem.W.listOf ys.toArray nD) :: tl5) := O5.sub fun q hq => List.mem_cons_of_mem _ (List.mem_cons_of_mem _ hq)
    refine PyProof.Rows.item_list (items := (Value.str g.nm tk0 :: vs).toArray) (x := .str g.nm tk0) (News.isList N5 hl5) (by decide) (by decide) (by simp) ?_
    k_steps
    refine eq_str ?_
    rw [eq_union g]
    by_cases hg : g = .union
    · rw [decide_eq_true hg]
      k_steps
      k_dflt (refine' con_use (union_con w mean mg mb W iA iB iC io H (mks ps) (by omega) (by omega)) (vis ++ (D, PySem.W.listOf ys.toArray nD) :: tl5) ?k1 ?k2 ?k3 ?k4 ?k5 ?kA ?kF ?kK ?kh ?kg ?kd ?ku ?kv ?pre ?_; (case k1 => k_asm); (case k2 => k_asm); (case k3 => k_asm); (case k4 => k_asm); (case k5 => k_asm); (case kA => first | exact Around.frames_deeper (Below.stack (by assumption)) | assumption); (case kF => exact rfl); (case kK => exact rfl); (case kh => first | exact hh | exact rfl | assumption); (case kg => first | exact hg | exact rfl | assumption); (case kd => ((try simp only [depth_under_make, depth_under_kw, depth_in1, depth_deeper, depth_caller]); omega)); (case ku => ((try simp only [units_under_make, units_in1, units_deeper, Around.mark_units, units_caller]); omega)))
      case kv => exact hv5
      case pre => exact ⟨WI.mono fun p hp => List.mem_append_left _ hp, D, ys, nD, rfl, List.mem_append_right _ (List.mem_cons_self ..), hys5⟩
      intro r tl9 h9 tk9 F9 N9 O9 P9
      dsimp only
      show LeaveK _ _ _ _ _ _ _
      refine con_leave hR F9 N9 (((D, PySem.W.listOf ys.toArray nD) :: tl5) ++ tl9) (fun p hp => ?_) (O5'.app (O9.sub fun q hq => ?_)) ?_
      · simp only [List.mem_append, List.mem_cons] at hp ⊢
        rcases hp with h | (h | h) | h <;> simp [h]
      · simp only [List.mem_append, List.mem_cons] at hq ⊢
        rcases hq with h | h | h <;> simp [h]
      · rw [← List.append_assoc, hg, mk, if_pos rfl]; exact P9
    · rw [decide_eq_false hg]
      k_steps
      refine PyProof.Rows.item_list (items := (Value.str g.nm tk0 :: vs).toArray) (x := .str g.nm tk0) (News.isList N5 hl5) (by decide) (by decide) (by simp) ?_
      k_steps
      refine kda_item (knd := PySem.strKind PySem.Challenge.rw_ft0017_01.row.prog w) (k := g.nm) N5 hd5 d2 (by simp [PySem.strKind, Value.isStrOf]) (d5 g hg) ?_
      k_steps
      have hyl := hys.len
      have hml := len_szs (mks ps)
      k_dflt (refine' con_use (inst_con w mean mg mb (W.inf g) ys (by omega)) (vis ++ (D, PySem.W.listOf ys.toArray nD) :: tl5) ?k1 ?k2 ?k3 ?k4 ?k5 ?kA ?kF ?kK ?kh ?kg ?kd ?ku ?kv ?pre ?_; (case k1 => k_asm); (case k2 => k_asm); (case k3 => k_asm); (case k4 => k_asm); (case k5 => k_asm); (case kA => first | exact Around.frames_deeper (Below.stack (by assumption)) | assumption); (case kF => exact rfl); (case kK => exact rfl); (case kh => first | exact hh | exact rfl | assumption); (case kg => first | exact hg | exact rfl | assumption); (case kd => ((try simp only [depth_under_make, depth_under_kw, depth_in1, depth_deeper, depth_caller]); omega)); (case ku => ((try simp only [units_under_make, units_in1, units_deeper, Around.mark_units, units_caller]); omega)))
      case kv => exact hv5
      case pre => exact ⟨D, nD, rfl, List.mem_append_right _ (List.mem_cons_self ..)⟩
      intro r tl9 h9 tk9 F9 N9 O9 P9
      obtain ⟨y, rfl, hI⟩ := P9
      dsimp only
      show LeaveK _ _ _ _ _ _ _
      refine con_leave hR F9 N9 (((D, PySem.W.listOf ys.toArray nD) :: tl5) ++ tl9) (fun p hp => ?_) (O5'.app (O9.sub fun q hq => ?_)) ?_
      · simp only [List.mem_append, List.mem_cons] at hp ⊢
        rcases hp with h | (h | h) | h <;> simp [h]
      · simp only [List.mem_append, List.mem_cons] at hq ⊢
        rcases hq with h | h | h <;> simp [h]
      · rw [← List.append_assoc, mk, if_neg hg]
        obtain ⟨dy, ty, y1, y2, y3, y4, y5, y6, b1, b2, b3⟩ := hI
        have hws2 := hys5.mono (fun p hp => List.mem_append_left tl9 hp)
        cases g <;> first | exact absurd rfl hg | (simp only [TypIn]; exact ⟨y, dy, ty, _, _, _, _, _, ys, _, rfl, b1, b2, b3, hws2⟩)
end Mine
namespace Mine
local macro_rules | `(tactic| walk_at "idle") => `(tactic| fail "idle")
local macro_rules | `(tactic| walk_at "idle") => `(tactic| fail "idle")
local macro_rules | `(tactic| walk_at "idle") => `(tactic| fail "idle")
local macro_rules | `(tactic| walk_at "idle") => `(tactic| fail "idle")
local macro_rules | `(tactic| walk_at "idle") => `(tactic| fail "idle")
local macro_rules | `(tactic| walk_at "idle") => `(tactic| fail "idle")
local macro_rules | `(tactic| walk_at "idle") => `(tactic| fail "idle")
local macro_rules | `(tactic| walk_at "idle") => `(tactic| fail "idle")
local macro_rules | `(tactic| walk_at "idle") => `(tactic| fail "idle")
local macro_rules | `(tactic| walk_at "idle") => `(tactic| fail "idle")
local macro_rules | `(tactic| walk_at "idle") => `(tactic| fail "idle")
local macro_rules | `(tactic| walk_at "idle") => `(tactic| fail "idle")
local macro_rules | `(tactic| walk_at "idle") => `(tactic| fail "idle")
local macro_rules | `(tactic| walk_at "idle") => `(tactic| fail "idle")
theorem fresh39 : True := by
  w_top off
  trivial
local macro_rules | `(tactic| k_mem) => `(tactic| first | with_reducible assumption | with_reducible exact List.mem_cons_self .. | (with_reducible refine List.mem_cons_of_mem _ ?_; k_mem) | (with_reducible refine List.mem_append_left _ ?_; k_mem) | (with_reducible refine List.mem_append_right _ ?_; k_mem))
local macro_rules | `(tactic| k_room) => `(tactic| ((try simp only [depth_under_make, depth_under_kw, depth_in1, depth_deeper, depth_caller]); omega))
local macro_rules | `(tactic| k_units) => `(tactic| ((try simp only [units_under_make, units_in1, units_deeper, Around.mark_units, units_caller]); omega))
local macro_rules | `(tactic| k_all) => `(tactic| first | assumption | (refine List.forall_mem_append.mpr ⟨?_, ?_⟩ <;> k_all))
local macro_rules | `(tactic| k_enter) => `(tactic| (refine' code_def ?k1 ?k2 ?k3 ?k4 ?k5 ?kA ?kF ?kK ?k6 ?k7 ?k8 ?k9 ?kB ?_ ?c2 ?c3 ?c4 ?c5; (case kA => first | exact Around.frames_deeper (Below.stack (by assumption)) | assumption); (case kF => exact rfl); (case kK => exact rfl); (case k1 => k_asm); (case k2 => k_asm); (case k3 => k_asm); (case k4 => k_asm); (case k5 => k_asm); (case k6 => k_is); (case k7 => k_is); (case k8 => k_room); (case k9 => first | exact BindsTo.of_eq rfl | exact binds_K (by k_in) rfl (by k_is) rfl rfl rfl); (case c5 => decide); (case kB => exact locs rfl); (case c2 => exact rfl); (case c3 => exact rfl); (case c4 => exact rfl); k_whole; intro g' L' h' FG' F' N' B' X' T'; (try dsimp only); (try k_fold)))
local macro_rules | `(tactic| walk_at "call ref") => `(tactic| (k_here; (with_reducible show wpAny _ _ (call (Value.ref 598) _ _) _ _ _); refine wpAny_call ?_))
local macro_rules | `(tactic| walk_at "eval ListComp") => `(tactic| (k_here; refine hold ?_))
local macro_rules | `(tactic| walk_at "pyIter ref") => `(tactic| (k_here; refine hold ?_))
local macro_rules | `(tactic| walk_at "compareOp Eq str str") => `(tactic| (k_here; refine hold ?_))
local macro_rules | `(tactic| walk_at "compareOp NotEq ref ref") => `(tactic| (k_here; refine hold ?_))
local macro_rules | `(tactic| walk_at "compareOp Is ref ref") => `(tactic| (k_here; refine hold ?_))
local macro_rules | `(tactic| walk_at "binaryOp Add ref ref") => `(tactic| (k_here; refine hold ?_))
local macro_rules | `(tactic| walk_at "eval Name") => `(tactic| (k_here; first | (refine nameC_L (by assumption) (by assumption) ?_ (by rfl) (by rfl) (by decide)) | (k_dflt (refine' nameC_C ?k1 ?k2 ?k3 ?k4 ?_ (by rfl) (by rfl) (by decide); (case k1 => k_asm); (case k2 => exact rfl); (case k3 => k_mem); (case k4 => assumption)))))
theorem Ord.tail {news tl : Led} {p : Addr × Obj} (h : Ord news (p :: tl)) : Ord news tl := fun q hq r hr => h q hq r (List.mem_cons_of_mem _ hr)
theorem add_list {prog : Program} {w : World} {A : Around} {E : Value → Shared → Prop} {s : Shared} {h₀ : Heap} {L a b : Addr} {m : Str → Option Value} {news : List (Addr × Obj)} {vs us : List Value} {k k2 : Nat} {Q : Value → Shared → Prop} (F : Fr h₀ L s.heap m) (N : News h₀ L s.heap news) (ha : (a, PySem.W.listOf vs.toArray k) ∈ news) (hb : (b, PySem.W.listOf us.toArray k2) ∈ news)
    (hz : vs.length + us.length ≤ sizeLine) (h : ∀ D h', Fr h₀ L h' m → News h₀ L h' ((D, PySem.W.listOf (vs ++ us).toArray 0) :: news) → (∀ p ∈ news, p.1 < D) → Q (.ref D) { s with heap := h' }) : wpAny (model prog w) A (binaryOp .Add (.ref a) (.ref b)) Q E s := by
  exact kmk_add_lit F N (News.isList N ha) (News.isList N hb) (zs := vs ++ us) (by simp) h (by simpa using hz)
theorem shown_con (w : World) (mean : ExcName → Option Value) (mg mb : Str → Option Value) (W : Wd) (iA iB iC io : Addr) : ∀ (n : Nat) (t : Tree), t.ht < n → t.sz ≤ big → t.ok → Con w mean mg mb 598 (n * 8) (n * 40)
    (fun news args => WIn W iA iB iC io news ∧ ∃ x wd, args = [x, .ref wd] ∧ TypIn W news t x ∧ DWIn w W news wd)
    (fun news _ r => TreeIn news t r) := by
  intro n
  induction n with
  | zero => intro t h; exact absurd h (Nat.not_lt_zero _)
  | succ n IH =>
  intro t ht hz hok
  unfold Con
  k_fill
  intro A A₀ env outer base h₀ L m news vis s args R B F X N T hA hf hk hh hg hd hu hvis hp hR
  obtain ⟨WI, x, wd, rfl, hx, hD⟩ := hp
  have hD0 := hD
  obtain ⟨o, kvs, d1, d2, d3, d4, d5⟩ := hD
  have d1' := hvis _ d1
  have hx0 := hx
  obtain ⟨x, dx, es, nn, rfl, i1, i2⟩ := typ_inst WI hx
  have i1' := hvis _ i1
  have i2' := hvis _ i2
  by_cases hU : cls t = 365
  · obtain ⟨ps, x', d1x, l, h1, t1, k, vs, k', rfl, e', z1, z2, z3, hvs⟩ := typ365 hU hx
    cases e'
    have z1' := hvis _ z1
    have z2' := hvis _ z2
    have z3' := hvis _ z3
    clear i1' i2'
    k_dflt (refine' code_defC (K := Mine.hd.heap_39 w.params) (binds := [(Str.ofString "typ", .ref x), (Str.ofString "world", .ref wd)]) B F X N T hA hf hk ?k6 ?k7 ?k8 ?k9 ?kB ?kD ?_ ?c2 ?c3 ?c4; (case k6 => k_is); (case k7 => k_is); (case k9 => exact BindsTo.of_eq rfl); (case kB => exact rfl); (case kD => decide +kernel); (case c2 => exact rfl); (case c3 => exact rfl); (case c4 => exact rfl); (case k8 => omega))
    intro g' L' h' tk' cells' FG' F' N' Y' B' X' T' lc
    obtain ⟨c1, hE, dc1⟩ := CellsAre.one Y'
    subst hE
    simp only [List.cons_append, List.nil_append] at N'
    clear F N B X T Y'
    try dsimp only
    k_fold
    k_steps
    rename_i lu hu Fu Nu lu1
    have hbl := big_line
    have hlen := hvs.len
    have hls := len_szs ps
    simp only [Tree.ht, Tree.sz] at ht hz
    refine ListComp_led (hclos := by rfl) rfl (by decide) ?_
    k_steps
    refine comp_none hh Fu Nu (SeqOf.src SeqOf.list Nu (List.mem_cons_of_mem _ (List.mem_cons_of_mem _ z3'))) (fun led i _ y => ∃ t l2, ps[i]? = some t ∧ TreeIn (vis ++ l2) t y ∧ ∀ p ∈ l2, p ∈ led ∧ ∀ q ∈ (lu, PySem.W.listOf #[Value.str (Str.ofString "union") tk'] 0) :: (L' + 1, c1) :: news, q.1 < p.1) (fun l l' i _ y hs h => ?_) (by omega) (by decide) rfl rfl ?elt ?_
    · obtain ⟨t, l2, h1, h2, h3⟩ := h; exact ⟨t, l2, h1, h2, fun p hp => ⟨hs _ (h3 p hp).1, (h3 p hp).2⟩⟩
    case elt =>
      intro i v1 C1 mC tl own h tkx E' hv F N O hn hm hC
      obtain ⟨t, ht', htv⟩ := hvs.get hv
      have b1 := hts_get ht'
      have b2 := szs_get ht'
      have hv2 : ∀ p ∈ vis, p ∈ own ++ ((lu, PySem.W.listOf #[Value.str (Str.ofString "union") tk'] 0) :: (L' + 1, c1) :: news ++ tl) := fun p hp => List.mem_append_right own (List.mem_append_left tl (List.mem_cons_of_mem _ (List.mem_cons_of_mem _ (hvis _ hp))))
      k_steps
      k_dflt (refine' con_use (IH t (by omega) (by omega) (oks_mem hok.2 (List.mem_of_getElem? ht'))) (vis) ?k1 ?k2 ?k3 ?k4 ?k5 ?kA ?kF ?kK ?kh ?kg ?kd ?ku ?kv ?pre ?_; (case k1 => k_asm); (case k2 => k_asm); (case k3 => k_asm); (case k4 => k_asm); (case k5 => k_asm); (case kA => first | exact Around.frames_deeper (Below.stack (by assumption)) | assumption); (case kF => exact rfl); (case kK => exact rfl); (case kh => first | exact hh | exact rfl | assumption); (case kg => first | exact hg | exact rfl | assumption); (case kd => ((try simp only [depth_under_make, depth_under_kw, depth_in1, depth_deeper, depth_caller]); omega)); (case ku => ((try simp only [units_under_make, units_in1, units_deeper, Around.mark_units, units_caller]); omega)))
      case kv => exact hv2
      case pre => exact ⟨WI, _, _, rfl, htv, hD0⟩
      intro r tl9 h9 tk9 F9 N9 O9 P9
      exact ⟨tl9, h9, tk9, rfl, F9, N9, O9, t, tl9, ht', P9, fun p hp => ⟨List.mem_append_right _ hp, fun q hq => O9 q (List.mem_append_right _ (List.mem_append_left _ hq)) p hp⟩⟩
    intro D nD h5 tk5 ys tl5 CD
    obtain ⟨F5, N5, O5, off5, P5, lv5, ly5, G5⟩ := CD
    have hys : TreesIn (vis ++ tl5) ps ys := by
      refine TreesIn.of (by rw [ly5, hvs.len]) fun i y t' hy ht' => ?_
      have hi : i < vs.length := by rw [← ly5]; exact (List.getElem?_eq_some_iff.mp hy).1
      obtain ⟨y', e1, t, l2, e2, e3, e4⟩ := G5 i _ (List.getElem?_eq_getElem hi)
      rw [hy] at e1; cases e1
      rw [e2] at ht'; cases ht'
      refine e3.mono fun p hp => ?_
      rcases List.mem_append.mp hp with h | h
      · exact List.mem_append_left _ h
      · obtain ⟨h1, h2⟩ := e4 p h
        rcases List.mem_append.mp h1 with h3 | h3
        · exact absurd (h2 p h3) (Nat.lt_irrefl _)
        · exact List.mem_append_right _ h3
    clear Fu Nu
    k_steps
    refine add_list F5 N5 (vs := [Value.str (Str.ofString "union") tk']) (us := ys) (k := 0) (k2 := nD) (by k_mem) (by k_mem) (by simp only [List.length_cons, List.length_nil]; omega) ?_
    intro D9 h9 F9 N9 l9
    show LeaveK _ _ _ _ _ _ _
    refine con_leave hR F9 N9 ((D9, PySem.W.listOf ([Value.str (Str.ofString "union") tk'] ++ ys).toArray 0) :: tl5) (fun p hp => ?_) (Ord.cons (fun q hq => l9 q (by k_mem)) (O5.sub (fun q hq => List.mem_cons_of_mem _ (List.mem_cons_of_mem _ hq)) |>.tail)) ?_
    · simp only [List.mem_append, List.mem_cons] at hp ⊢
      rcases hp with h | h | h <;> simp [h]
    · simp only [TreeIn]
      exact ⟨D9, tk', ys, 0, rfl, List.mem_append_right _ (List.mem_cons_self ..), hys.mono fun p hp => by
        rcases List.mem_append.mp hp with h | h
        · exact List.mem_append_left _ h
        · exact List.mem_append_right _ (List.mem_cons_of_mem _ h)⟩
  ·
    k_dflt (refine' code_defC (K := Mine.hd.heap_39 w.params) (binds := [(Str.ofString "typ", .ref x), (Str.ofString "world", .ref wd)]) B F X N T hA hf hk ?k6 ?k7 ?k8 ?k9 ?kB ?kD ?_ ?c2 ?c3 ?c4; (case k6 => k_is); (case k7 => k_is); (case k9 => exact BindsTo.of_eq rfl); (case kB => exact rfl); (case kD => decide +kernel); (case c2 => exact rfl); (case c3 => exact rfl); (case c4 => exact rfl); (case k8 => omega))
    intro g' L' h' tk' cells' FG' F' N' Y' B' X' T' lc
    obtain ⟨c1, hE, dc1⟩ := CellsAre.one Y'
    subst hE
    simp only [List.cons_append, List.nil_append] at N'
    clear F N B X T Y'
    try dsimp only
    k_fold
    k_steps
    k_dflt (refine' isi_ne ?k1 ?k2 (cls_six t) (by decide) hU ?_; (case k1 => k_in); (case k2 => k_inst))
    intro tk9
    k_steps
    by_cases hI : cls t = 324
    · obtain ⟨x', vs, e, ⟨d3, tu, h1, h2, t1, t2, k3, k4, z1, z2, z3⟩, hvs, f0⟩ := typ324 WI hI hx
      cases e
      have z1' := hvis _ z1
      have z2' := hvis _ z2
      have z3' := hvis _ z3
      clear i1' i2'
      k_steps
      refine cmp_ofNotEq ?_
      rename_i D7 h7 F7 N7 l7
      refine SeqAt.RcNeAt.tuples (items := vs.toArray) (items2 := #[]) (e := fun _ => true) ⟨_, (N7 _ (List.mem_cons_of_mem _ (List.mem_cons_of_mem _ z3'))).1, rfl, _, rfl⟩ ⟨_, (N7 _ (List.mem_cons_self ..)).1, rfl, _, rfl⟩ ((by (try simp only [units_under_make, units_in1, units_deeper, Around.mark_units, units_caller]); omega)) (fun j h1 h2 => absurd h2 (Nat.not_lt_zero _)) _ _ _ _ ?_
      have hlen0 := hvs.len
      by_cases hv0 : vs = []
      · subst hv0
        rw [show (!((List.range (min ([] : List Value).toArray.size (#[] : Array Value).size)).all (fun _ => true) && ([] : List Value).toArray.size == (#[] : Array Value).size)) = false from rfl]
        have hk0 : kids t = [] := List.length_eq_zero_iff.mp (by rw [← hlen0]; rfl)
        obtain ⟨dI, I1, I2, I3, I4, I5, J1, J1', J2, J3, J4, J5, V2, V3, V4, V5, kI, f1, f2⟩ := f0
        have f1' := hvis _ f1
        have f2' := hvis _ f2
        have hleaf : ∃ a, t = .leaf a := by
          cases t with
          | leaf a => exact ⟨a, rfl⟩
          | node g ps =>
            simp only [kids] at hk0; subst hk0
            exact absurd rfl (hok.1 fun e => hU (by rw [e]; rfl))
        obtain ⟨a, rfl⟩ := hleaf
        cases a <;> first | exact absurd hI (by decide) | skip
        all_goals (simp only [infT, fullOf] at *)
        all_goals k_steps
        all_goals (show LeaveK _ _ _ _ _ _ _; rename Fr _ _ _ _ => F2; rename News _ _ _ _ => N2; refine con_leave hR F2 N2 [] (fun p hp => by rw [List.append_nil] at hp; k_mem) Ord.nil ?_; simp only [TreeIn]; exact ⟨_, rfl⟩)
      · rw [show (!((List.range (min vs.toArray.size (#[] : Array Value).size)).all (fun _ => true) && vs.toArray.size == (#[] : Array Value).size)) = true from by
          have : vs.length ≠ 0 := fun e => hv0 (List.length_eq_zero_iff.mp e)
          simp [this]]
        k_steps
        have hnode : ∃ g ps, t = .node g ps ∧ g ≠ .union := by
          cases t with
          | leaf a => simp only [kids] at hlen0; exact absurd (List.length_eq_zero_iff.mp hlen0) hv0
          | node g ps => exact ⟨g, ps, rfl, fun e => hU (by rw [e]; rfl)⟩
        obtain ⟨g, ps, rfl, hg⟩ := hnode
        refine kda_item (knd := PySem.strKind PySem.Challenge.rw_ft0017_01.row.prog w) (k := Tag.nm .box) N7 (List.mem_cons_of_mem _ (List.mem_cons_of_mem _ d1')) d2 (by simp [PySem.strKind, Value.isStrOf, Tag.nm]) (d5 .box (fun e => nomatch e)) ?_
        k_steps
        have hik : ∃ di, (W.inf g, instObj 64 di) ∈ vis := by
          cases g with
          | box => obtain ⟨dI, I1, I2, I3, I4, I5, J1, J1', J2, J3, J4, J5, V2, V3, V4, V5, kI, f1, f2⟩ := WI.fb; exact ⟨dI, f1⟩
          | pair => obtain ⟨dI, I1, I2, I3, I4, I5, J1, J1', J2, J3, J4, J5, V2, V3, V4, V5, kI, f1, f2⟩ := WI.fp; exact ⟨dI, f1⟩
          | union => exact absurd rfl hg
        cases g with
        | union => exact absurd rfl hg
        | box =>
          refine wpAny_is_ref_self ?_
          k_steps
          rename_i lu hu Fu Nu lu1
          have hbl := big_line
          have hvs : TypsIn W vis ps vs := hvs
          have hlen := hvs.len
          have hls := len_szs ps
          simp only [Tree.ht, Tree.sz] at ht hz
          refine ListComp_led (hclos := by rfl) rfl (by decide) ?_
          k_steps
          refine comp_none hh Fu Nu (SeqOf.src (SeqOf.tup (vs := vs) (n := k4)) Nu (List.mem_cons_of_mem _ (List.mem_cons_of_mem _ (List.mem_cons_of_mem _ z3')))) (fun led i _ y => ∃ t l2, ps[i]? = some t ∧ TreeIn (vis ++ l2) t y ∧ ∀ p ∈ l2, p ∈ led ∧ ∀ q ∈ (lu, PySem.W.listOf #[Value.str (Str.ofString "box") (tk + 1 + 1 + 1)] 0) :: (D7, ({ cls := Value.type "tuple", data := Data.seq #[] } : Obj)) :: (L' + 1, c1) :: news, q.1 < p.1) (fun l l' i _ y hs h => ?_) (by omega) (by decide) rfl rfl ?elt ?_
          · obtain ⟨t, l2, h1, h2, h3⟩ := h; exact ⟨t, l2, h1, h2, fun p hp => ⟨hs _ (h3 p hp).1, (h3 p hp).2⟩⟩
          case elt =>
            intro i v1 C1 mC tl own h tkx E' hv F N O hn hm hC
            obtain ⟨t, ht', htv⟩ := hvs.get hv
            have b1 := hts_get ht'
            have b2 := szs_get ht'
            have hv2 : ∀ p ∈ vis, p ∈ own ++ ((lu, PySem.W.listOf #[Value.str (Str.ofString "box") (tk + 1 + 1 + 1)] 0) :: (D7, ({ cls := Value.type "tuple", data := Data.seq #[] } : Obj)) :: (L' + 1, c1) :: news ++ tl) := fun p hp => List.mem_append_right own (List.mem_append_left tl (List.mem_cons_of_mem _ (List.mem_cons_of_mem _ (List.mem_cons_of_mem _ (hvis _ hp)))))
            k_steps
            k_dflt (refine' con_use (IH t (by omega) (by omega) (oks_mem hok.2 (List.mem_of_getElem? ht'))) (vis) ?k1 ?k2 ?k3 ?k4 ?k5 ?kA ?kF ?kK ?kh ?kg ?kd ?ku ?kv ?pre ?_; (case k1 => k_asm); (case k2 => k_asm); (case k3 => k_asm); (case k4 => k_asm); (case k5 => k_asm); (case kA => first | exact Around.frames_deeper (Below.stack (by assumption)) | assumption); (case kF => exact rfl); (case kK => exact rfl); (case kh => first | exact hh | exact rfl | assumption); (case kg => first | exact hg | exact rfl | assumption); (case kd => ((try simp only [depth_under_make, depth_under_kw, depth_in1, depth_deeper, depth_caller]); omega)); (case ku => ((try simp only [units_under_make, units_in1, units_deeper, Around.mark_units, units_caller]); omega)))
            case kv => exact hv2
            case pre => exact ⟨WI, _, _, rfl, htv, hD0⟩
            intro r tl9 h9 tk9 F9 N9 O9 P9
            exact ⟨tl9, h9, tk9, rfl, F9, N9, O9, t, tl9, ht', P9, fun p hp => ⟨List.mem_append_right _ hp, fun q hq => O9 q (List.mem_append_right _ (List.mem_append_left _ hq)) p hp⟩⟩
          intro D nD h5 tk5 ys tl5 CD
          obtain ⟨F5, N5, O5, off5, P5, lv5, ly5, G5⟩ := CD
          have hys : TreesIn (vis ++ tl5) ps ys := by
            refine TreesIn.of (by rw [ly5, hvs.len]) fun i y t' hy ht' => ?_
            have hi : i < vs.length := by rw [← ly5]; exact (List.getElem?_eq_some_iff.mp hy).1
            obtain ⟨y', e1, t, l2, e2, e3, e4⟩ := G5 i _ (List.getElem?_eq_getElem hi)
            rw [hy] at e1; cases e1
            rw [e2] at ht'; cases ht'
            refine e3.mono fun p hp => ?_
            rcases List.mem_append.mp hp with h | h
            · exact List.mem_append_left _ h
            · obtain ⟨h1, h2⟩ := e4 p h
              rcases List.mem_append.mp h1 with h3 | h3
              · exact absurd (h2 p h3) (Nat.lt_irrefl _)
              · exact List.mem_append_right _ h3
          clear Fu Nu
          k_steps
          refine add_list F5 N5 (vs := [Value.str (Str.ofString "box") (tk + 1 + 1 + 1)]) (us := ys) (k := 0) (k2 := nD) (by k_mem) (by k_mem) (by simp only [List.length_cons, List.length_nil]; omega) ?_
          intro D9 h9 F9 N9 l9
          show LeaveK _ _ _ _ _ _ _
          refine con_leave hR F9 N9 ((D9, PySem.W.listOf ([Value.str (Str.ofString "box") (tk + 1 + 1 + 1)] ++ ys).toArray 0) :: tl5) (fun p hp => ?_) (Ord.cons (fun q hq => l9 q (by k_mem)) (O5.sub (fun q hq => List.mem_cons_of_mem _ (List.mem_cons_of_mem _ (List.mem_cons_of_mem _ hq))) |>.tail)) ?_
          · simp only [List.mem_append, List.mem_cons] at hp ⊢
            rcases hp with h | h | h <;> simp [h]
          · simp only [TreeIn]
            exact ⟨D9, (tk + 1 + 1 + 1), ys, 0, rfl, List.mem_append_right _ (List.mem_cons_self ..), hys.mono fun p hp => by
              rcases List.mem_append.mp hp with h | h
              · exact List.mem_append_left _ h
              · exact List.mem_append_right _ (List.mem_cons_of_mem _ h)⟩
        | pair =>
          obtain ⟨di, hi⟩ := hik
          obtain ⟨dI, I1, I2, I3, I4, I5, J1, J1', J2, J3, J4, J5, V2, V3, V4, V5, kI, f1, f2⟩ := WI.fb
          refine wpAny_is_ref_other (Ne.symm WI.ne) (N7 _ (List.mem_cons_of_mem _ (List.mem_cons_of_mem _ (hvis _ hi)))).1 (N7 _ (List.mem_cons_of_mem _ (List.mem_cons_of_mem _ (hvis _ f1)))).1 (fun x => nomatch x) ?_
          k_steps
          rename_i lu hu Fu Nu lu1
          have hbl := big_line
          have hvs : TypsIn W vis ps vs := hvs
          have hlen := hvs.len
          have hls := len_szs ps
          simp only [Tree.ht, Tree.sz] at ht hz
          refine ListComp_led (hclos := by rfl) rfl (by decide) ?_
          k_steps
          refine comp_none hh Fu Nu (SeqOf.src (SeqOf.tup (vs := vs) (n := k4)) Nu (List.mem_cons_of_mem _ (List.mem_cons_of_mem _ (List.mem_cons_of_mem _ z3')))) (fun led i _ y => ∃ t l2, ps[i]? = some t ∧ TreeIn (vis ++ l2) t y ∧ ∀ p ∈ l2, p ∈ led ∧ ∀ q ∈ (lu, PySem.W.listOf #[Value.str (Str.ofString "pair") (tk + 1 + 1 + 1)] 0) :: (D7, ({ cls := Value.type "tuple", data := Data.seq #[] } : Obj)) :: (L' + 1, c1) :: news, q.1 < p.1) (fun l l' i _ y hs h => ?_) (by omega) (by decide) rfl rfl ?elt ?_
          · obtain ⟨t, l2, h1, h2, h3⟩ := h; exact ⟨t, l2, h1, h2, fun p hp => ⟨hs _ (h3 p hp).1, (h3 p hp).2⟩⟩
          case elt =>
            intro i v1 C1 mC tl own h tkx E' hv F N O hn hm hC
            obtain ⟨t, ht', htv⟩ := hvs.get hv
            have b1 := hts_get ht'
            have b2 := szs_get ht'
            have hv2 : ∀ p ∈ vis, p ∈ own ++ ((lu, PySem.W.listOf #[Value.str (Str.ofString "pair") (tk + 1 + 1 + 1)] 0) :: (D7, ({ cls := Value.type "tuple", data := Data.seq #[] } : Obj)) :: (L' + 1, c1) :: news ++ tl) := fun p hp => List.mem_append_right own (List.mem_append_left tl (List.mem_cons_of_mem _ (List.mem_cons_of_mem _ (List.mem_cons_of_mem _ (hvis _ hp)))))
            k_steps
            k_dflt (refine' con_use (IH t (by omega) (by omega) (oks_mem hok.2 (List.mem_of_getElem? ht'))) (vis) ?k1 ?k2 ?k3 ?k4 ?k5 ?kA ?kF ?kK ?kh ?kg ?kd ?ku ?kv ?pre ?_; (case k1 => k_asm); (case k2 => k_asm); (case k3 => k_asm); (case k4 => k_asm); (case k5 => k_asm); (case kA => first | exact Around.frames_deeper (Below.stack (by assumption)) | assumption); (case kF => exact rfl); (case kK => exact rfl); (case kh => first | exact hh | exact rfl | assumption); (case kg => first | exact hg | exact rfl | assumption); (case kd => ((try simp only [depth_under_make, depth_under_kw, depth_in1, depth_deeper, depth_caller]); omega)); (case ku => ((try simp only [units_under_make, units_in1, units_deeper, Around.mark_units, units_caller]); omega)))
            case kv => exact hv2
            case pre => exact ⟨WI, _, _, rfl, htv, hD0⟩
            intro r tl9 h9 tk9 F9 N9 O9 P9
            exact ⟨tl9, h9, tk9, rfl, F9, N9, O9, t, tl9, ht', P9, fun p hp => ⟨List.mem_append_right _ hp, fun q hq => O9 q (List.mem_append_right _ (List.mem_append_left _ hq)) p hp⟩⟩
          intro D nD h5 tk5 ys tl5 CD
          obtain ⟨F5, N5, O5, off5, P5, lv5, ly5, G5⟩ := CD
          have hys : TreesIn (vis ++ tl5) ps ys := by
            refine TreesIn.of (by rw [ly5, hvs.len]) fun i y t' hy ht' => ?_
            have hi : i < vs.length := by rw [← ly5]; exact (List.getElem?_eq_some_iff.mp hy).1
            obtain ⟨y', e1, t, l2, e2, e3, e4⟩ := G5 i _ (List.getElem?_eq_getElem hi)
            rw [hy] at e1; cases e1
            rw [e2] at ht'; cases ht'
            refine e3.mono fun p hp => ?_
            rcases List.mem_append.mp hp with h | h
            · exact List.mem_append_left _ h
            · obtain ⟨h1, h2⟩ := e4 p h
              rcases List.mem_append.mp h1 with h3 | h3
              · exact absurd (h2 p h3) (Nat.lt_irrefl _)
              · exact List.mem_append_right _ h3
          clear Fu Nu
          k_steps
          refine add_list F5 N5 (vs := [Value.str (Str.ofString "pair") (tk + 1 + 1 + 1)]) (us := ys) (k := 0) (k2 := nD) (by k_mem) (by k_mem) (by simp only [List.length_cons, List.length_nil]; omega) ?_
          intro D9 h9 F9 N9 l9
          show LeaveK _ _ _ _ _ _ _
          refine con_leave hR F9 N9 ((D9, PySem.W.listOf ([Value.str (Str.ofString "pair") (tk + 1 + 1 + 1)] ++ ys).toArray 0) :: tl5) (fun p hp => ?_) (Ord.cons (fun q hq => l9 q (by k_mem)) (O5.sub (fun q hq => List.mem_cons_of_mem _ (List.mem_cons_of_mem _ (List.mem_cons_of_mem _ hq))) |>.tail)) ?_
          · simp only [List.mem_append, List.mem_cons] at hp ⊢
            rcases hp with h | h | h <;> simp [h]
          · simp only [TreeIn]
            exact ⟨D9, (tk + 1 + 1 + 1), ys, 0, rfl, List.mem_append_right _ (List.mem_cons_self ..), hys.mono fun p hp => by
              rcases List.mem_append.mp hp with h | h
              · exact List.mem_append_left _ h
              · exact List.mem_append_right _ (List.mem_cons_of_mem _ h)⟩
    · k_dflt (refine' isi_ne ?k1 ?k2 (cls_six t) (by decide) hI ?_; (case k1 => k_in); (case k2 => k_inst))
      intro tk8
      clear i1' i2'
      have c6 := cls_six t
      simp only [six, List.mem_cons, List.not_mem_nil, or_false] at c6
      rcases c6 with c | c | c | c | c | c
      · obtain ⟨x', e', d1, j, dj, l1', h1, h2, h3, h4, h5, t1, t1', t2, t3, t4, t5, t5', h6, h7, t6, t6', t7, t7', k1, k2, k3, z1, z2, z3, z4, z5⟩ := typ190 WI c hx
        cases e'
        have z1' := hvis _ z1
        have z2' := hvis _ z2
        k_steps
        show LeaveK _ _ _ _ _ _ _
        rename Fr _ _ _ _ => F2
        rename News _ _ _ _ => N2
        refine con_leave hR F2 N2 [] (fun p hp => by rw [List.append_nil] at hp; k_mem) Ord.nil ?_
        cases t with
        | leaf a => cases a <;> simp only [cls] at c <;> first | exact absurd c (by decide) | (simp only [TreeIn]; exact ⟨_, rfl⟩)
        | node g ps => cases g <;> simp only [cls] at c <;> exact absurd c (by decide)
      · have et := cls_any c
        have htv' := hx
        rw [et] at htv'
        simp only [TypIn] at htv'
        cases htv'
        obtain ⟨d1, h1, h2, t1, t1', t2, k1, z1, z2⟩ := WI.any
        have z1' := hvis _ z1
        have z2' := hvis _ z2
        k_steps
        show LeaveK _ _ _ _ _ _ _
        rename Fr _ _ _ _ => F2
        rename News _ _ _ _ => N2
        refine con_leave hR F2 N2 [] (fun p hp => by rw [List.append_nil] at hp; k_mem) Ord.nil ?_
        rw [et]; simp only [TreeIn]; exact ⟨_, rfl⟩
      · have et := cls_nev c
        have htv' := hx
        rw [et] at htv'
        simp only [TypIn] at htv'
        obtain ⟨x', d1, h1, t1, k1, e', z1, z2⟩ := htv'
        cases e'
        have z1' := hvis _ z1
        have z2' := hvis _ z2
        k_steps
        show LeaveK _ _ _ _ _ _ _
        rename Fr _ _ _ _ => F2
        rename News _ _ _ _ => N2
        refine con_leave hR F2 N2 [] (fun p hp => by rw [List.append_nil] at hp; k_mem) Ord.nil ?_
        rw [et]; simp only [TreeIn]; exact ⟨_, rfl⟩
      · have et := cls_non c
        have htv' := hx
        rw [et] at htv'
        simp only [TypIn] at htv'
        cases htv'
        obtain ⟨d1, k1, z1, z2⟩ := WI.non
        have z1' := hvis _ z1
        have z2' := hvis _ z2
        k_steps
        show LeaveK _ _ _ _ _ _ _
        rename Fr _ _ _ _ => F2
        rename News _ _ _ _ => N2
        refine con_leave hR F2 N2 [] (fun p hp => by rw [List.append_nil] at hp; k_mem) Ord.nil ?_
        rw [et]; simp only [TreeIn]; exact ⟨_, rfl⟩
      · exact absurd c hI
      · exact absurd c hU
end Mine
namespace Mine
open PySem.Builtin.Str
def pc (c : Nat) : Bool := decide (32 ≤ c) && decide (c ≤ 126)
theorem pc_print {c : Nat} (h : pc c = true) : Unicode.isPrintable c = true := by
  have k : ∀ c < 127, 32 ≤ c → Unicode.isPrintable c = true := by decide +kernel
  simp only [pc, Bool.and_eq_true, decide_eq_true_eq] at h
  exact k c (by omega) h.1
def esc (q c : Nat) : List Nat := if c == q || c == 92 then [92, c] else [c]
theorem esc_eq {q c : Nat} (h : pc c = true) : reprChar q c = esc q c := by
  have hp := pc_print h
  simp only [pc, Bool.and_eq_true, decide_eq_true_eq] at h
  have h1 : (c == 10) = false := beq_false_of_ne (by omega)
  have h2 : (c == 13) = false := beq_false_of_ne (by omega)
  have h3 : (c == 9) = false := beq_false_of_ne (by omega)
  unfold reprChar esc
  simp only [h1, h2, h3, hp, if_true, Bool.false_eq_true, if_false]
theorem fold_rep (q : Nat) : ∀ (l : List Nat) (acc : Array Nat), (l.foldl (fun out c => out ++ (reprChar q c).toArray) acc).toList = acc.toList ++ l.flatMap (reprChar q)
  | [], acc => by simp
  | c :: r, acc => by rw [List.foldl_cons, fold_rep q r]; simp
def pcs (x : Str) : Prop := ∀ c ∈ x.cps.toList, pc c = true
theorem flat_esc {q : Nat} : ∀ {l : List Nat}, (∀ c ∈ l, pc c = true) → l.flatMap (reprChar q) = l.flatMap (esc q)
  | [], _ => rfl
  | c :: r, h => by rw [List.flatMap_cons, List.flatMap_cons, esc_eq (h c (List.mem_cons_self ..)), flat_esc fun d hd => h d (List.mem_cons_of_mem _ hd)]
theorem rep_list {x : Str} (h : pcs x) : (reprText x).cps.toList = reprQuote x :: (x.cps.toList.flatMap (esc (reprQuote x)) ++ [reprQuote x]) := by
  unfold reprText
  simp only [Array.toList_push]
  rw [← Array.foldl_toList, fold_rep, flat_esc h]
  simp
theorem quote_ne (x : Str) : reprQuote x ≠ 92 := by unfold reprQuote; split <;> decide
theorem quote_pc (x : Str) : pc (reprQuote x) = true := by unfold reprQuote; split <;> decide
theorem esc_inj {q : Nat} (hq : q ≠ 92) : ∀ {l l' r r' : List Nat}, l.flatMap (esc q) ++ q :: r = l'.flatMap (esc q) ++ q :: r' → l = l' ∧ r = r'
  | [], [], r, r', h => by simpa using h
  | [], c :: l', r, r', h => by
    exfalso
    rw [List.flatMap_cons] at h
    unfold esc at h
    split at h
    · simp only [List.flatMap_nil, List.nil_append, List.cons_append, List.cons.injEq] at h; exact hq h.1
    · rename_i hc
      simp only [List.flatMap_nil, List.nil_append, List.cons_append, List.cons.injEq] at h
      simp [h.1] at hc
  | c :: l, [], r, r', h => by
    exfalso
    rw [List.flatMap_cons] at h
    unfold esc at h
    split at h
    · simp only [List.flatMap_nil, List.nil_append, List.cons_append, List.cons.injEq] at h; exact hq h.1.symm
    · rename_i hc
      simp only [List.flatMap_nil, List.nil_append, List.cons_append, List.cons.injEq] at h
      simp [h.1] at hc
  | c :: l, d :: l', r, r', h => by
    rw [List.flatMap_cons, List.flatMap_cons] at h
    by_cases hc : (c == q || c == 92) = true
    · by_cases hd : (d == q || d == 92) = true
      · simp only [esc, hc, hd, if_true, List.cons_append, List.nil_append, List.append_assoc, List.cons.injEq, true_and] at h
        obtain ⟨a, b⟩ := esc_inj hq (l := l) (l' := l') h.2
        exact ⟨by rw [h.1, a], b⟩
      · exfalso
        have e1 : esc q c = [92, c] := by simp only [esc, hc, if_true]
        have e2 : esc q d = [d] := by simp only [esc, hd]; rfl
        rw [e1, e2] at h
        simp only [List.cons_append, List.cons.injEq] at h
        rw [← h.1] at hd; simp at hd
    · by_cases hd : (d == q || d == 92) = true
      · exfalso
        have e1 : esc q d = [92, d] := by simp only [esc, hd, if_true]
        have e2 : esc q c = [c] := by simp only [esc, hc]; rfl
        rw [e1, e2] at h
        simp only [List.cons_append, List.cons.injEq] at h
        rw [h.1] at hc; simp at hc
      · have e1 : esc q d = [d] := by simp only [esc, hd]; rfl
        have e2 : esc q c = [c] := by simp only [esc, hc]; rfl
        rw [e1, e2] at h
        simp only [List.cons_append, List.nil_append, List.append_assoc, List.cons.injEq] at h
        obtain ⟨a, b⟩ := esc_inj hq (l := l) (l' := l') h.2
        exact ⟨by rw [h.1, a], b⟩
theorem str_ext {x y : Str} (h : x.cps.toList = y.cps.toList) : x = y := by
  cases x; cases y; simp only [Str.mk.injEq] at h ⊢; exact Array.ext' h
theorem rep_inj {x y : Str} (hx : pcs x) (hy : pcs y) {r r' : List Nat} (h : (reprText x).cps.toList ++ r = (reprText y).cps.toList ++ r') : x = y ∧ r = r' := by
  rw [rep_list hx, rep_list hy] at h
  simp only [List.cons_append, List.append_assoc, List.nil_append, List.cons.injEq] at h
  obtain ⟨e, h⟩ := h
  rw [← e] at h
  obtain ⟨a, b⟩ := esc_inj (quote_ne x) h
  exact ⟨str_ext a, b⟩
theorem app_list (x y : Str) : (x ++ y).cps.toList = x.cps.toList ++ y.cps.toList := by
  show (Str.append x y).cps.toList = _
  simp [Str.append]
def J (ts : List Str) : List Nat := ts.flatMap fun t => 44 :: 32 :: t.cps.toList
theorem textFrom_list : ∀ (ts : List Str) (k : Nat) (acc : Str), (textFrom (k + 1) acc ts).cps.toList = acc.cps.toList ++ J ts
  | [], k, acc => by simp [textFrom, J]
  | t :: r, k, acc => by
    rw [textFrom, textFrom_list r, app_list, app_list, if_pos (Nat.succ_pos k)]
    rw [show (Str.ofString ", ").cps.toList = [44, 32] from by decide]
    simp [J]
theorem listText_list (t : Str) (ts : List Str) : (listText (t :: ts)).cps.toList = 91 :: (t.cps.toList ++ (J ts ++ [93])) := by
  unfold listText
  rw [app_list, textFrom, textFrom_list, app_list, app_list]
  rw [show (Str.ofString "[").cps.toList = [91] from by decide, show (Str.ofString "]").cps.toList = [93] from by decide]
  rw [if_neg (Nat.lt_irrefl 0), show (Str.ofString "").cps.toList = [] from by decide]
  simp
theorem J_inj : ∀ {xs ys : List Str}, (∀ x ∈ xs, pcs x) → (∀ y ∈ ys, pcs y) → J (xs.map reprText) ++ [93] = J (ys.map reprText) ++ [93] → xs = ys
  | [], [], _, _, _ => rfl
  | [], y :: ys, _, _, h => by simp [J] at h
  | x :: xs, [], _, _, h => by simp [J] at h
  | x :: xs, y :: ys, hx, hy, h => by
    simp only [J, List.map_cons, List.flatMap_cons, List.cons_append, List.append_assoc, List.cons.injEq, true_and] at h
    obtain ⟨a, b⟩ := rep_inj (hx x (List.mem_cons_self ..)) (hy y (List.mem_cons_self ..)) h
    rw [a, J_inj (fun z hz => hx z (List.mem_cons_of_mem _ hz)) (fun z hz => hy z (List.mem_cons_of_mem _ hz)) b]
theorem listText_inj {x y : Str} {xs ys : List Str} (hx : ∀ z ∈ x :: xs, pcs z) (hy : ∀ z ∈ y :: ys, pcs z) (h : listText ((x :: xs).map reprText) = listText ((y :: ys).map reprText)) : x = y ∧ xs = ys := by
  have h := congrArg (fun s : Str => s.cps.toList) h
  simp only [List.map_cons] at h
  rw [listText_list, listText_list] at h
  simp only [List.cons.injEq, true_and] at h
  obtain ⟨a, b⟩ := rep_inj (hx x (List.mem_cons_self ..)) (hy y (List.mem_cons_self ..)) h
  exact ⟨a, J_inj (fun z hz => hx z (List.mem_cons_of_mem _ hz)) (fun z hz => hy z (List.mem_cons_of_mem _ hz)) b⟩
theorem rep_pcs {x : Str} (h : pcs x) : ∀ c ∈ (reprText x).cps.toList, pc c = true := by
  intro c hc
  rw [rep_list h] at hc
  rcases List.mem_cons.mp hc with rfl | hc
  · exact quote_pc x
  · rcases List.mem_append.mp hc with hc | hc
    · obtain ⟨d, hd, hc⟩ := List.mem_flatMap.mp hc
      unfold esc at hc
      split at hc
      · rcases List.mem_cons.mp hc with rfl | hc
        · decide
        · rw [List.mem_singleton.mp hc]; exact h d hd
      · rw [List.mem_singleton.mp hc]; exact h d hd
    · rw [List.mem_singleton.mp hc]; exact quote_pc x
theorem listText_pcs {x : Str} {xs : List Str} (hx : ∀ z ∈ x :: xs, pcs z) : pcs (listText ((x :: xs).map reprText)) := by
  intro c hc
  rw [List.map_cons, listText_list] at hc
  rcases List.mem_cons.mp hc with rfl | hc
  · decide
  · rcases List.mem_append.mp hc with hc | hc
    · exact rep_pcs (hx x (List.mem_cons_self ..)) c hc
    · rcases List.mem_append.mp hc with hc | hc
      · obtain ⟨t, ht, hc⟩ := List.mem_flatMap.mp hc
        obtain ⟨z, hz, rfl⟩ := List.mem_map.mp ht
        rcases List.mem_cons.mp hc with rfl | hc
        · decide
        · rcases List.mem_cons.mp hc with rfl | hc
          · decide
          · exact rep_pcs (hx z (List.mem_cons_of_mem _ hz)) c hc
      · rw [List.mem_singleton.mp hc]; decide
theorem esc_len (q : Nat) : ∀ l : List Nat, (l.flatMap (esc q)).length ≤ 2 * l.length
  | [] => by simp
  | c :: r => by
    have h := esc_len q r
    rw [List.flatMap_cons, List.length_append, List.length_cons]
    have : (esc q c).length ≤ 2 := by unfold esc; split <;> simp
    omega
theorem rep_len {x : Str} (h : pcs x) : (reprText x).length ≤ 2 * x.length + 2 := by
  have h1 := congrArg List.length (rep_list h)
  have h2 := esc_len (reprQuote x) x.cps.toList
  simp only [List.length_cons, List.length_append, List.length_nil, Array.length_toList] at h1 h2
  show (reprText x).cps.size ≤ 2 * x.cps.size + 2
  omega
def lsum (xs : List Str) : Nat := (xs.map fun x => 2 * x.length + 4).sum
theorem J_len : ∀ {xs : List Str}, (∀ z ∈ xs, pcs z) → (J (xs.map reprText)).length ≤ lsum xs
  | [], _ => by simp [J, lsum]
  | x :: r, h => by
    have a := rep_len (h x (List.mem_cons_self ..))
    have b := J_len (xs := r) fun z hz => h z (List.mem_cons_of_mem _ hz)
    have a' : (reprText x).cps.toList.length ≤ 2 * x.length + 2 := by rw [Array.length_toList]; exact a
    simp only [J, lsum, List.map_cons, List.flatMap_cons, List.length_append, List.length_cons, List.sum_cons] at b ⊢
    omega
theorem listText_len {x : Str} {xs : List Str} (hx : ∀ z ∈ x :: xs, pcs z) : (listText ((x :: xs).map reprText)).length ≤ 2 * x.length + 4 + lsum xs := by
  have h1 := congrArg List.length (listText_list (reprText x) (xs.map reprText))
  have a := rep_len (hx x (List.mem_cons_self ..))
  have b := J_len (xs := xs) fun z hz => hx z (List.mem_cons_of_mem _ hz)
  rw [List.map_cons]
  have a' : (reprText x).cps.toList.length ≤ 2 * x.length + 2 := by rw [Array.length_toList]; exact a
  rw [List.length_cons, List.length_append, List.length_append, Array.length_toList] at h1
  show (listText _).cps.size ≤ _
  simp only [List.length_cons, List.length_nil] at h1
  omega
theorem lt_anti : ∀ {a b : List Nat}, ltCps a b = false → ltCps b a = false → a = b
  | [], [], _, _ => rfl
  | [], _ :: _, h, _ => by simp [ltCps] at h
  | _ :: _, [], _, h => by simp [ltCps] at h
  | x :: a, y :: b, h, k => by
    simp only [ltCps, Bool.or_eq_false_iff, Bool.and_eq_false_iff, decide_eq_false_iff_not, beq_eq_false_iff_ne] at h k
    have e : x = y := by omega
    subst e
    rw [lt_anti (a := a) (b := b) (h.2.resolve_left fun h => h rfl) (k.2.resolve_left fun h => h rfl)]
theorem lt_tr : ∀ {a b c : List Nat}, ltCps b a = false → ltCps c b = false → ltCps c a = false
  | [], _, [], _, _ => rfl
  | [], _, _ :: _, _, _ => by simp [ltCps]
  | _ :: _, [], _, h, _ => by simp [ltCps] at h
  | _ :: _, _ :: _, [], _, h => by simp [ltCps] at h
  | x :: a, y :: b, z :: c, h, k => by
    simp only [ltCps, Bool.or_eq_false_iff, Bool.and_eq_false_iff, decide_eq_false_iff_not, beq_eq_false_iff_ne] at h k ⊢
    refine ⟨by omega, ?_⟩
    by_cases e : z = x
    · have e1 : y = x := by omega
      subst e1; subst e
      exact Or.inr (lt_tr (h.2.resolve_left fun h => h rfl) (k.2.resolve_left fun h => h rfl))
    · exact Or.inl e
theorem rising_all : ∀ {ss : List Str} {p : Str}, risingS p ss = true → ∀ z ∈ ss, ltCps z.cps.toList p.cps.toList = false
  | [], _, _, _, h => nomatch h
  | x :: r, p, h, z, hz => by
    simp only [risingS, Bool.and_eq_true, Bool.not_eq_true'] at h
    rcases List.mem_cons.mp hz with rfl | hz
    · exact h.1
    · exact lt_tr h.1 (rising_all h.2 z hz)
theorem rising_sorted : ∀ {ss : List Str} {p : Str}, risingS p ss = true → sortedS ss = true
  | [], _, _ => rfl
  | x :: r, p, h => by
    simp only [risingS, Bool.and_eq_true] at h
    exact h.2
/-- two sorted lists of the same members are the same -/
theorem sorted_uniq : ∀ {a b : List Str}, a.Perm b → sortedS a = true → sortedS b = true → a = b
  | [], b, h, _, _ => (List.nil_perm.mp h).symm
  | x :: a, [], h, _, _ => by exact absurd h.length_eq (by simp)
  | x :: a, y :: b, h, ha, hb => by
    have e : x = y := by
      have h1 : x ∈ y :: b := h.subset (List.mem_cons_self ..)
      have h2 : y ∈ x :: a := h.symm.subset (List.mem_cons_self ..)
      rcases List.mem_cons.mp h1 with e | h1
      · exact e
      · rcases List.mem_cons.mp h2 with e | h2
        · exact e.symm
        · exact str_ext (lt_anti (rising_all hb x h1) (rising_all ha y h2))
    subst e
    rw [sorted_uniq ((List.perm_cons x).mp h) (rising_sorted ha) (rising_sorted hb)]
end Mine
namespace Mine
def isU : Tree → Bool
  | .node .union _ => true
  | _ => false
mutual
def nrm : Tree → Prop
  | .leaf _ => True
  | .node g ps => nrms ps ∧ (g = .union → 2 ≤ ps.length ∧ (∀ p ∈ ps, isU p = false ∧ p ≠ .leaf .nev ∧ p ≠ .leaf .obj) ∧ ps.Pairwise fun a b => teq a b = false)
def nrms : List Tree → Prop
  | [] => True
  | p :: r => nrm p ∧ nrms r
end
theorem nrms_mem {ts : List Tree} : nrms ts ↔ ∀ p ∈ ts, nrm p := by
  induction ts with
  | nil => simp [nrms]
  | cons p r ih => simp [nrms, ih]
mutual
def KyOf : Tree → Str → Prop
  | .leaf a, k => k = a.nm
  | .node g ps, k => ∃ ks ss, KysOf ps ks ∧ (g ≠ .union → ss = ks) ∧ (g = .union → ss.Perm ks ∧ sortedS ss = true) ∧ k = listText ((g.nm :: ss).map reprText)
def KysOf : List Tree → List Str → Prop
  | [], ks => ks = []
  | p :: r, ks => ∃ k us, ks = k :: us ∧ KyOf p k ∧ KysOf r us
end
theorem KysOf.len : ∀ {ts : List Tree} {ks : List Str}, KysOf ts ks → ks.length = ts.length
  | [], _, h => by simp only [KysOf] at h; subst h; rfl
  | _ :: _, _, h => by
    simp only [KysOf] at h
    obtain ⟨k, us, rfl, _, h2⟩ := h
    rw [List.length_cons, List.length_cons, h2.len]
theorem KysOf.mem : ∀ {ts : List Tree} {ks : List Str}, KysOf ts ks → (∀ z ∈ ks, ∃ p ∈ ts, KyOf p z) ∧ ∀ p ∈ ts, ∃ z ∈ ks, KyOf p z
  | [], _, h => by simp only [KysOf] at h; subst h; simp
  | t :: r, _, h => by
    simp only [KysOf] at h
    obtain ⟨k, us, rfl, h1, h2⟩ := h
    obtain ⟨a, b⟩ := h2.mem
    constructor
    · intro z hz
      rcases List.mem_cons.mp hz with rfl | hz
      · exact ⟨t, List.mem_cons_self .., h1⟩
      · obtain ⟨p, hp, e⟩ := a z hz; exact ⟨p, List.mem_cons_of_mem _ hp, e⟩
    · intro p hp
      rcases List.mem_cons.mp hp with rfl | hp
      · exact ⟨k, List.mem_cons_self .., h1⟩
      · obtain ⟨z, hz, e⟩ := b p hp; exact ⟨z, List.mem_cons_of_mem _ hz, e⟩
theorem atom_pcs (a : Atom) : pcs a.nm := by
  intro c hc
  have h : ∀ a : Atom, ∀ c ∈ a.nm.cps.toList, pc c = true := by intro a; cases a <;> decide
  exact h a c hc
theorem tag_pcs (a : Tag) : pcs a.nm := by
  intro c hc
  have h : ∀ a : Tag, ∀ c ∈ a.nm.cps.toList, pc c = true := by intro a; cases a <;> decide
  exact h a c hc
theorem atom_inj {a b : Atom} (h : a.nm = b.nm) : a = b := by
  have k : ∀ a b : Atom, a.nm = b.nm → a = b := by intro a b; cases a <;> cases b <;> first | (intro _; rfl) | (intro h; exact absurd h (by decide))
  exact k a b h
theorem tag_inj {a b : Tag} (h : a.nm = b.nm) : a = b := by
  have k : ∀ a b : Tag, a.nm = b.nm → a = b := by intro a b; cases a <;> cases b <;> first | (intro _; rfl) | (intro h; exact absurd h (by decide))
  exact k a b h
theorem atom_head (a : Atom) : a.nm.cps.toList.head? ≠ some 91 := by cases a <;> decide
mutual
theorem ky_pcs : ∀ {t : Tree} {k : Str}, KyOf t k → pcs k
  | .leaf a, k, h => by simp only [KyOf] at h; rw [h]; exact atom_pcs a
  | .node g ps, k, h => by
    simp only [KyOf] at h
    obtain ⟨ks, ss, h1, h2, h3, rfl⟩ := h
    have hk : ∀ z ∈ ks, pcs z := kys_pcs h1
    refine listText_pcs fun z hz => ?_
    rcases List.mem_cons.mp hz with rfl | hz
    · exact tag_pcs g
    · by_cases hg : g = .union
      · exact hk z ((h3 hg).1.subset hz)
      · rw [h2 hg] at hz; exact hk z hz
theorem kys_pcs : ∀ {ts : List Tree} {ks : List Str}, KysOf ts ks → ∀ z ∈ ks, pcs z
  | [], _, h => by simp only [KysOf] at h; subst h; simp
  | t :: r, _, h => by
    simp only [KysOf] at h
    obtain ⟨k, us, rfl, h1, h2⟩ := h
    intro z hz
    rcases List.mem_cons.mp hz with rfl | hz
    · exact ky_pcs h1
    · exact kys_pcs h2 z hz
end
theorem perm_of_nodup : ∀ {a b : List Str}, a.Nodup → b.Nodup → (∀ z, z ∈ a ↔ z ∈ b) → a.Perm b
  | [], b, _, _, h => by
    have : b = [] := List.eq_nil_iff_forall_not_mem.mpr fun z hz => nomatch (h z).mpr hz
    rw [this]
  | x :: a, b, ha, hb, h => by
    have hx : x ∈ b := (h x).mp (List.mem_cons_self ..)
    have p := List.perm_cons_erase hx
    refine List.Perm.trans (List.Perm.cons x ?_) p.symm
    have ha' := List.nodup_cons.mp ha
    refine perm_of_nodup ha'.2 (hb.sublist (List.erase_sublist ..)) fun z => ?_
    rw [hb.mem_erase_iff]
    constructor
    · intro hz
      exact ⟨fun e => ha'.1 (e ▸ hz), (h z).mp (List.mem_cons_of_mem _ hz)⟩
    · intro ⟨hn, hz⟩
      rcases List.mem_cons.mp ((h z).mpr hz) with e | hz
      · exact absurd e hn
      · exact hz
theorem teqs_of {E : Tree → Tree → Prop} : ∀ {ps qs : List Tree} {ks us : List Str}, (∀ p ∈ ps, ∀ q ∈ qs, ∀ k u, KyOf p k → KyOf q u → (k = u ↔ teq p q = true)) → KysOf ps ks → KysOf qs us → (ks = us ↔ teqs ps qs = true)
  | [], [], _, _, _, h, k => by simp only [KysOf] at h k; subst h; subst k; simp [teqs]
  | [], q :: qs, _, _, _, h, k => by
    simp only [KysOf] at h k; subst h
    obtain ⟨_, _, rfl, _⟩ := k
    simp [teqs]
  | p :: ps, [], _, _, _, h, k => by
    simp only [KysOf] at h k; subst k
    obtain ⟨_, _, rfl, _⟩ := h
    simp [teqs]
  | p :: ps, q :: qs, _, _, he, h, k => by
    simp only [KysOf] at h k
    obtain ⟨a, as, rfl, h1, h2⟩ := h
    obtain ⟨b, bs, rfl, k1, k2⟩ := k
    rw [List.cons.injEq, teqs, Bool.and_eq_true, he p (List.mem_cons_self ..) q (List.mem_cons_self ..) a b h1 k1, teqs_of (E := E) (fun p' hp q' hq => he p' (List.mem_cons_of_mem _ hp) q' (List.mem_cons_of_mem _ hq)) h2 k2]
theorem kys_nodup : ∀ {ps : List Tree} {ks : List Str}, (∀ p ∈ ps, ∀ q ∈ ps, ∀ k u, KyOf p k → KyOf q u → (k = u ↔ teq p q = true)) → ps.Pairwise (fun a b => teq a b = false) → KysOf ps ks → ks.Nodup
  | [], _, _, _, h => by simp only [KysOf] at h; subst h; exact List.nodup_nil
  | p :: r, _, he, hw, h => by
    simp only [KysOf] at h
    obtain ⟨k, us, rfl, h1, h2⟩ := h
    rw [List.pairwise_cons] at hw
    rw [List.nodup_cons]
    refine ⟨fun hk => ?_, kys_nodup (fun a ha b hb => he a (List.mem_cons_of_mem _ ha) b (List.mem_cons_of_mem _ hb)) hw.2 h2⟩
    obtain ⟨q, hq, e⟩ := h2.mem.1 k hk
    have := (he p (List.mem_cons_self ..) q (List.mem_cons_of_mem _ hq) k k h1 e).mp rfl
    rw [hw.1 q hq] at this; cases this
theorem ky_teq : ∀ (n : Nat) (a b : Tree) (ka kb : Str), a.ht < n → b.ht < n → nrm a → nrm b → KyOf a ka → KyOf b kb → (ka = kb ↔ teq a b = true) := by
  intro n
  induction n with
  | zero => intro a b ka kb h; exact absurd h (Nat.not_lt_zero _)
  | succ n ih =>
  intro a b ka kb ha hb na nb hka hkb
  cases a with
  | leaf x => cases b with
    | leaf y =>
      simp only [KyOf] at hka hkb
      rw [hka, hkb]
      simp only [teq, beq_iff_eq]
      exact ⟨atom_inj, fun e => by rw [e]⟩
    | node g ps =>
      simp only [KyOf] at hka hkb
      obtain ⟨ks, ss, h1, h2, h3, rfl⟩ := hkb
      rw [hka]
      simp only [teq, Bool.false_eq_true, iff_false]
      intro e
      have := congrArg (fun s : Str => s.cps.toList.head?) e
      simp only [List.map_cons, listText_list, List.head?_cons] at this
      exact atom_head x this
  | node g ps => cases b with
    | leaf y =>
      simp only [KyOf] at hka hkb
      obtain ⟨ks, ss, h1, h2, h3, rfl⟩ := hka
      rw [hkb]
      simp only [teq, Bool.false_eq_true, iff_false]
      intro e
      have := congrArg (fun s : Str => s.cps.toList.head?) e
      simp only [List.map_cons, listText_list, List.head?_cons] at this
      exact atom_head y this.symm
    | node g' qs =>
      simp only [KyOf] at hka hkb
      obtain ⟨ks, ss, h1, h2, h3, rfl⟩ := hka
      obtain ⟨us, tt, k1, k2, k3, rfl⟩ := hkb
      simp only [nrm] at na nb
      simp only [Tree.ht] at ha hb
      have np := nrms_mem.mp na.1
      have nq := nrms_mem.mp nb.1
      have hp : ∀ p ∈ ps, p.ht < n := fun p hp => by have := hts_le hp; omega
      have hq : ∀ p ∈ qs, p.ht < n := fun p hp => by have := hts_le hp; omega
      have pks := kys_pcs h1
      have pus := kys_pcs k1
      have pss : ∀ z ∈ g.nm :: ss, pcs z := fun z hz => by
        rcases List.mem_cons.mp hz with rfl | hz
        · exact tag_pcs g
        · by_cases hg : g = .union
          · exact pks z ((h3 hg).1.subset hz)
          · rw [h2 hg] at hz; exact pks z hz
      have ptt : ∀ z ∈ g'.nm :: tt, pcs z := fun z hz => by
        rcases List.mem_cons.mp hz with rfl | hz
        · exact tag_pcs g'
        · by_cases hg : g' = .union
          · exact pus z ((k3 hg).1.subset hz)
          · rw [k2 hg] at hz; exact pus z hz
      have key : listText ((g.nm :: ss).map reprText) = listText ((g'.nm :: tt).map reprText) ↔ g = g' ∧ ss = tt :=
        ⟨fun e => by obtain ⟨a, b⟩ := listText_inj pss ptt e; exact ⟨tag_inj a, b⟩, fun ⟨a, b⟩ => by rw [a, b]⟩
      rw [key]
      by_cases hgg : g = g'
      · subst hgg
        by_cases hg : g = .union
        · subst hg
          rw [teq_union, Bool.and_eq_true]
          simp only [List.all_eq_true, List.any_eq_true, true_and]
          obtain ⟨p1, s1⟩ := h3 rfl
          obtain ⟨p2, s2⟩ := k3 rfl
          have n1 := kys_nodup (fun p hp' q hq' k u => ih p q k u (hp p hp') (hp q hq') (np p hp') (np q hq')) (na.2 rfl).2.2 h1
          have n2 := kys_nodup (fun p hp' q hq' k u => ih p q k u (hq p hp') (hq q hq') (nq p hp') (nq q hq')) (nb.2 rfl).2.2 k1
          constructor
          · intro e
            subst e
            have pm := p1.symm.trans p2
            constructor
            · intro q hq'
              obtain ⟨z, hz, e⟩ := k1.mem.2 q hq'
              obtain ⟨p, hp', e2⟩ := h1.mem.1 z (pm.symm.subset hz)
              exact ⟨p, hp', (ih p q z z (hp p hp') (hq q hq') (np p hp') (nq q hq') e2 e).mp rfl⟩
            · intro p hp'
              obtain ⟨z, hz, e⟩ := h1.mem.2 p hp'
              obtain ⟨q, hq', e2⟩ := k1.mem.1 z (pm.subset hz)
              exact ⟨q, hq', (ih p q z z (hp p hp') (hq q hq') (np p hp') (nq q hq') e e2).mp rfl⟩
          · intro ⟨e1, e2⟩
            refine sorted_uniq (p1.trans (List.Perm.trans (perm_of_nodup n1 n2 fun z => ?_) p2.symm)) s1 s2
            constructor
            · intro hz
              obtain ⟨p, hp', e⟩ := h1.mem.1 z hz
              obtain ⟨q, hq', t⟩ := e2 p hp'
              obtain ⟨u, hu, e'⟩ := k1.mem.2 q hq'
              rw [(ih p q z u (hp p hp') (hq q hq') (np p hp') (nq q hq') e e').mpr t]; exact hu
            · intro hz
              obtain ⟨q, hq', e⟩ := k1.mem.1 z hz
              obtain ⟨p, hp', t⟩ := e1 q hq'
              obtain ⟨u, hu, e'⟩ := h1.mem.2 p hp'
              rw [← (ih p q u z (hp p hp') (hq q hq') (np p hp') (nq q hq') e' e).mpr t]; exact hu
        · rw [h2 hg, k2 hg]
          simp only [teq, beq_self_eq_true, Bool.true_and, if_neg hg, true_and]
          exact teqs_of (E := fun _ _ => True) (fun p hp' q hq' k u => ih p q k u (hp p hp') (hq q hq') (np p hp') (nq q hq')) h1 k1
      · have a1 : (g == g') = false := beq_false_of_ne hgg
        simp [teq, a1, hgg]
mutual
/-- leaves of a tree (a node without parts counts as one) -/
def lw : Tree → Nat
  | .leaf _ => 1
  | .node _ ps => max 1 (lws ps)
def lws : List Tree → Nat
  | [] => 0
  | p :: r => lw p + lws r
end
theorem lw_pos (t : Tree) : 1 ≤ lw t := by cases t <;> simp only [lw] <;> omega
theorem len_lws : ∀ ts : List Tree, ts.length ≤ lws ts
  | [] => by simp [lws]
  | t :: r => by have := len_lws r; have := lw_pos t; simp only [lws, List.length_cons]; omega
theorem lsum_perm {a b : List Str} (h : a.Perm b) : lsum a = lsum b := by
  unfold lsum
  exact (h.map _).sum_nat
mutual
theorem ky_len : ∀ {t : Tree} {k : Str}, KyOf t k → ∀ h, t.ht ≤ h → k.length + 20 * lw t ≤ 30 * 2 ^ h * lw t
  | .leaf a, k, hk, h, _ => by
    simp only [KyOf] at hk
    rw [hk]
    simp only [lw]
    have h1 : a.nm.length ≤ 6 := by cases a <;> decide
    have h2 : 1 ≤ 2 ^ h := Nat.one_le_two_pow
    omega
  | .node g ps, k, hk, h, hh => by
    have hk0 := hk
    simp only [KyOf] at hk
    obtain ⟨ks, ss, h1, h2, h3, rfl⟩ := hk
    simp only [Tree.ht] at hh
    obtain ⟨h, rfl⟩ : ∃ j, h = j + 1 := ⟨h - 1, by omega⟩
    have a := kys_len h1 h (by omega)
    have pks := kys_pcs h1
    have pss : ∀ z ∈ g.nm :: ss, pcs z := fun z hz => by
      rcases List.mem_cons.mp hz with rfl | hz
      · exact tag_pcs g
      · by_cases hg : g = .union
        · exact pks z ((h3 hg).1.subset hz)
        · rw [h2 hg] at hz; exact pks z hz
    have b := listText_len pss
    have e : lsum ss = lsum ks := by
      by_cases hg : g = .union
      · exact lsum_perm (h3 hg).1
      · rw [h2 hg]
    have c : g.nm.length ≤ 5 := by cases g <;> decide
    have f : 30 * 2 ^ (h + 1) * lw (.node g ps) = 2 * (30 * 2 ^ h * lw (.node g ps)) := by rw [Nat.pow_succ]; ac_rfl
    rw [f]
    by_cases h0 : lws ps = 0
    · have e1 : lw (.node g ps) = 1 := by simp only [lw, h0]; omega
      have h9 : 1 ≤ 2 ^ h := Nat.one_le_two_pow
      rw [e1]; rw [h0] at a; omega
    · have e1 : lw (.node g ps) = lws ps := by simp only [lw]; omega
      rw [e1]; omega
theorem kys_len : ∀ {ts : List Tree} {ks : List Str}, KysOf ts ks → ∀ h, hts ts ≤ h → lsum ks + 36 * lws ts ≤ 2 * (30 * 2 ^ h * lws ts)
  | [], _, h, _, _ => by simp only [KysOf] at h; subst h; simp [lsum, lws]
  | t :: r, _, hk, h, hh => by
    simp only [KysOf] at hk
    obtain ⟨k, us, rfl, h1, h2⟩ := hk
    simp only [hts] at hh
    have a := ky_len h1 h (by omega)
    have b := kys_len h2 h (by omega)
    have c := lw_pos t
    have e : lsum (k :: us) = 2 * k.length + 4 + lsum us := by simp [lsum]
    rw [e]; simp only [lws]
    have f : 30 * 2 ^ h * (lw t + lws r) = 30 * 2 ^ h * lw t + 30 * 2 ^ h * lws r := by rw [Nat.mul_add]
    rw [f]
    omega
end
end Mine
namespace Mine
theorem obj_iff {t : Tree} : isObj t = true ↔ t = .leaf .obj := by
  cases t with
  | leaf a => cases a <;> simp [isObj]
  | node g ps => simp [isObj]
theorem nev_iff {t : Tree} : cls t = 258 ↔ t = .leaf .nev := by
  cases t with
  | leaf a => cases a <;> simp [cls]
  | node g ps => cases g <;> simp [cls]
mutual
theorem teq_trans : ∀ t u v : Tree, teq t u = true → teq u v = true → teq t v = true
  | .leaf a, .leaf b, v, h, k => by simp only [teq, beq_iff_eq] at h; rw [h]; exact k
  | .leaf _, .node _ _, _, h, _ => by simp [teq] at h
  | .node _ _, .leaf _, _, h, _ => by simp [teq] at h
  | .node _ _, .node _ _, .leaf _, _, k => by simp [teq] at k
  | .node g ps, .node g' qs, .node g'' rs, h, k => by
    have h1 : ∀ p ∈ ps, ∀ q r, teq p q = true → teq q r = true → teq p r = true := fun p hp q r => teqs_trans ps p hp q r
    have h2 : ∀ (l : List Tree), (∀ p ∈ l, ∀ q r, teq p q = true → teq q r = true → teq p r = true) → ∀ m n, teqs l m = true → teqs m n = true → teqs l n = true := by
      intro l; induction l with
      | nil => intro _ m n a b; cases m <;> cases n <;> simp [teqs] at a b ⊢
      | cons p r ih => intro h m n a b; cases m with
        | nil => simp [teqs] at a
        | cons q s => cases n with
          | nil => simp [teqs] at b
          | cons x y =>
            simp only [teqs, Bool.and_eq_true] at a b ⊢
            exact ⟨h p (List.mem_cons_self ..) q x a.1 b.1, ih (fun q hq => h q (List.mem_cons_of_mem _ hq)) s y a.2 b.2⟩
    simp only [teq, Bool.and_eq_true, beq_iff_eq] at h k
    obtain ⟨rfl, h⟩ := h
    obtain ⟨rfl, k⟩ := k
    simp only [teq, beq_self_eq_true, Bool.true_and]
    by_cases hg : g = .union
    · rw [if_pos hg] at h k ⊢
      simp only [allp_eq, anyq_eq, Bool.and_eq_true, List.all_eq_true, List.any_eq_true] at h k ⊢
      constructor
      · intro r hr
        obtain ⟨q, hq, e⟩ := k.1 r hr
        obtain ⟨p, hp, e2⟩ := h.1 q hq
        exact ⟨p, hp, h1 p hp q r e2 e⟩
      · intro p hp
        obtain ⟨q, hq, e⟩ := h.2 p hp
        obtain ⟨r, hr, e2⟩ := k.2 q hq
        exact ⟨r, hr, h1 p hp q r e e2⟩
    · rw [if_neg hg] at h k ⊢
      exact h2 ps h1 qs rs h k
theorem teqs_trans : ∀ (ts : List Tree), ∀ p ∈ ts, ∀ q r, teq p q = true → teq q r = true → teq p r = true
  | [], _, h, _, _ => nomatch h
  | t :: r, p, h, q, s => by
    rcases List.mem_cons.mp h with e | h
    · exact e ▸ teq_trans t q s
    · exact teqs_trans r p h q s
end
theorem teq_sym {a b : Tree} (h : teq a b = true) : teq b a = true := by rw [teq_symm]; exact h
theorem teq_cls' {a b : Tree} (h : teq a b = true) : cls a = cls b := by
  by_cases e : cls a = cls b
  · exact e
  · rw [teq_cls e] at h; cases h
theorem teq_obj {a b : Tree} (h : teq a b = true) : isObj a = isObj b := by
  cases a with
  | leaf x => cases b with
    | leaf y => simp only [teq, beq_iff_eq] at h; rw [h]
    | node g ps => simp [teq] at h
  | node g ps => cases b with
    | leaf y => simp [teq] at h
    | node g' qs => rfl
/-- the loop of remove_trivial without the root's way -/
def dd (acc : List Tree) : List Tree → List Tree
  | [] => acc
  | t :: r => if cls t = 258 then dd acc r else if acc.any (fun e => teq e t) then dd acc r else dd (acc ++ [t]) r
theorem rt_obj : ∀ {ts acc : List Tree}, ts.any isObj = true → rt acc ts = [.leaf .obj]
  | [], _, h => by simp at h
  | t :: r, acc, h => by
    rw [List.any_cons, Bool.or_eq_true] at h
    unfold rt
    by_cases h1 : cls t = 258
    · rw [if_pos h1]
      rcases h with h | h
      · rw [obj_iff.mp h] at h1; exact absurd h1 (by decide)
      · exact rt_obj h
    · rw [if_neg h1]
      by_cases h2 : isObj t = true
      · rw [if_pos h2, obj_iff.mp h2]
      · rw [if_neg h2]
        have h3 := h.resolve_left h2
        split
        · exact rt_obj h3
        · exact rt_obj h3
theorem rt_dd : ∀ {ts acc : List Tree}, ts.any isObj = false → rt acc ts = if dd acc ts = [] then [.leaf .nev] else dd acc ts
  | [], acc, _ => by cases acc <;> simp [rt, dd]
  | t :: r, acc, h => by
    rw [List.any_cons, Bool.or_eq_false_iff] at h
    unfold rt dd
    by_cases h1 : cls t = 258
    · rw [if_pos h1, if_pos h1]; exact rt_dd h.2
    · rw [if_neg h1, if_neg h1, if_neg (by rw [h.1]; exact Bool.false_ne_true)]
      split
      · exact rt_dd h.2
      · exact rt_dd h.2
theorem dd_app : ∀ (a b acc : List Tree), dd acc (a ++ b) = dd (dd acc a) b
  | [], b, acc => rfl
  | t :: r, b, acc => by
    rw [List.cons_append, dd, dd]
    split
    · exact dd_app r b acc
    · split
      · exact dd_app r b acc
      · exact dd_app r b _
theorem dd_acc : ∀ (ts acc : List Tree), ∀ x ∈ acc, x ∈ dd acc ts
  | [], _, _, h => h
  | t :: r, acc, x, h => by
    rw [dd]
    split
    · exact dd_acc r acc x h
    · split
      · exact dd_acc r acc x h
      · exact dd_acc r _ x (List.mem_append_left _ h)
theorem dd_mem : ∀ (ts acc : List Tree), ∀ x ∈ dd acc ts, x ∈ acc ∨ (x ∈ ts ∧ cls x ≠ 258)
  | [], _, _, h => Or.inl h
  | t :: r, acc, x, h => by
    rw [dd] at h
    split at h
    · exact (dd_mem r acc x h).imp id fun ⟨a, b⟩ => ⟨List.mem_cons_of_mem _ a, b⟩
    · rename_i hc
      split at h
      · exact (dd_mem r acc x h).imp id fun ⟨a, b⟩ => ⟨List.mem_cons_of_mem _ a, b⟩
      · rcases dd_mem r _ x h with h | ⟨a, b⟩
        · rcases List.mem_append.mp h with h | h
          · exact Or.inl h
          · rw [List.mem_singleton.mp h]; exact Or.inr ⟨List.mem_cons_self .., hc⟩
        · exact Or.inr ⟨List.mem_cons_of_mem _ a, b⟩
theorem dd_cover : ∀ (ts acc : List Tree), ∀ x ∈ ts, cls x ≠ 258 → ∃ y ∈ dd acc ts, teq y x = true
  | [], _, _, h, _ => nomatch h
  | t :: r, acc, x, h, hc => by
    rcases List.mem_cons.mp h with rfl | h
    · rw [dd, if_neg hc]
      split
      · rename_i ha
        obtain ⟨y, hy, e⟩ := List.any_eq_true.mp ha
        exact ⟨y, dd_acc r acc y hy, e⟩
      · exact ⟨x, dd_acc r _ x (List.mem_append_right _ (List.mem_cons_self ..)), teq_refl x⟩
    · rw [dd]
      split
      · exact dd_cover r acc x h hc
      · split
        · exact dd_cover r acc x h hc
        · exact dd_cover r _ x h hc
theorem dd_pair : ∀ (ts acc : List Tree), acc.Pairwise (fun a b => teq a b = false) → (dd acc ts).Pairwise fun a b => teq a b = false
  | [], _, h => h
  | t :: r, acc, h => by
    rw [dd]
    split
    · exact dd_pair r acc h
    · split
      · exact dd_pair r acc h
      · rename_i ha
        refine dd_pair r _ (List.pairwise_append.mpr ⟨h, List.pairwise_singleton .., fun a ha' b hb => ?_⟩)
        rw [List.mem_singleton.mp hb]
        cases hq : teq a t with
        | false => rfl
        | true => exact absurd (List.any_eq_true.mpr ⟨a, ha', hq⟩) ha
theorem dd_len : ∀ (ts acc : List Tree), acc.length ≤ (dd acc ts).length
  | [], _ => Nat.le_refl _
  | t :: r, acc => by
    rw [dd]
    split
    · exact dd_len r acc
    · split
      · exact dd_len r acc
      · have := dd_len r (acc ++ [t])
        rw [List.length_append] at this
        exact Nat.le_trans (Nat.le_add_right _ _) this
/-- what stands in the keeping list already, modulo teq -/
theorem dd_dd : ∀ (ts acc acc0 : List Tree), (∀ x ∈ acc0, cls x ≠ 258) → dd acc (dd acc0 ts) = dd (dd acc acc0) ts
  | [], acc, acc0, _ => rfl
  | t :: r, acc, acc0, h0 => by
    rw [dd, dd.eq_2 (dd acc acc0)]
    by_cases hc : cls t = 258
    · rw [if_pos hc, if_pos hc]; exact dd_dd r acc acc0 h0
    · rw [if_neg hc, if_neg hc]
      by_cases ha : acc0.any (fun e => teq e t) = true
      · rw [if_pos ha]
        have hb : (dd acc acc0).any (fun e => teq e t) = true := by
          obtain ⟨y, hy, e⟩ := List.any_eq_true.mp ha
          obtain ⟨z, hz, e2⟩ := dd_cover acc0 acc y hy (h0 y hy)
          exact List.any_eq_true.mpr ⟨z, hz, teq_trans z y t e2 e⟩
        rw [if_pos hb]; exact dd_dd r acc acc0 h0
      · rw [if_neg ha, dd_dd r acc (acc0 ++ [t]) (fun x hx => by
          rcases List.mem_append.mp hx with h | h
          · exact h0 x h
          · rw [List.mem_singleton.mp h]; exact hc), dd_app]
        rw [dd, if_neg hc]
        split
        · rfl
        · rfl
mutual
theorem flat1_nu : ∀ t : Tree, ∀ x ∈ flat1 t, isU x = false
  | .leaf a, x, h => by simp only [flat1, List.mem_singleton] at h; rw [h]; rfl
  | .node .union ps, x, h => by simp only [flat1] at h; exact flats_nu ps x h
  | .node .box ps, x, h => by simp only [flat1, List.mem_singleton] at h; rw [h]; rfl
  | .node .pair ps, x, h => by simp only [flat1, List.mem_singleton] at h; rw [h]; rfl
theorem flats_nu : ∀ ts : List Tree, ∀ x ∈ flats ts, isU x = false
  | [], x, h => by simp [flats] at h
  | t :: r, x, h => by
    simp only [flats] at h
    rcases List.mem_append.mp h with h | h
    · exact flat1_nu t x h
    · exact flats_nu r x h
end
theorem flat1_one {t : Tree} (h : isU t = false) : flat1 t = [t] := by
  cases t with
  | leaf a => simp [flat1]
  | node g ps => cases g <;> simp [flat1, isU] at h ⊢
theorem flats_id : ∀ {ts : List Tree}, (∀ x ∈ ts, isU x = false) → flats ts = ts
  | [], _ => by simp [flats]
  | t :: r, h => by rw [flats, flat1_one (h t (List.mem_cons_self ..)), flats_id fun x hx => h x (List.mem_cons_of_mem _ hx)]; rfl
theorem rt_nu {L : List Tree} (h : ∀ x ∈ L, isU x = false) : ∀ x ∈ rt [] L, isU x = false := by
  intro x hx
  cases ho : L.any isObj with
  | true => rw [rt_obj ho] at hx; rw [List.mem_singleton.mp hx]; rfl
  | false =>
    rw [rt_dd ho] at hx
    split at hx
    · rw [List.mem_singleton.mp hx]; rfl
    · rcases dd_mem L [] x hx with h1 | h1
      · exact nomatch h1
      · exact h x h1.1
theorem rt_ne (L acc : List Tree) : rt acc L ≠ [] := by
  cases ho : L.any isObj with
  | true => rw [rt_obj ho]; simp
  | false => rw [rt_dd ho]; split <;> simp [*]
theorem mkU_two (a b : Tree) (r : List Tree) : mkU (a :: b :: r) = .node .union (flats (a :: b :: r)) := rfl
theorem flat1_mkU {K : List Tree} (h : ∀ x ∈ K, isU x = false) (hn : K ≠ []) : flat1 (mkU K) = K := by
  cases K with
  | nil => exact absurd rfl hn
  | cons a r => cases r with
    | nil => rw [mkU, flat1_one (h a (List.mem_cons_self ..))]
    | cons b r => rw [mkU_two, flat1, flats_id h, flats_id h]
/-- the union of a list of plain items -/
def U (L : List Tree) : Tree := mkU (rt [] L)
theorem flat1_U {L : List Tree} (h : ∀ x ∈ L, isU x = false) : flat1 (U L) = rt [] L := flat1_mkU (rt_nu h) (rt_ne L [])
theorem rt_any {L : List Tree} : (rt [] L).any isObj = L.any isObj := by
  cases ho : L.any isObj with
  | true => rw [rt_obj ho]; rfl
  | false =>
    rw [rt_dd ho]
    split
    · rfl
    · rw [List.any_eq_false]
      intro x hx
      rcases dd_mem L [] x hx with h1 | h1
      · exact nomatch h1
      · exact List.any_eq_false.mp ho x h1.1
theorem dd_rt (acc L : List Tree) (ho : L.any isObj = false) : dd acc (rt [] L) = dd acc L := by
  have e : dd acc (dd [] L) = dd acc L := by rw [dd_dd L acc [] (fun _ h => nomatch h)]; rfl
  rw [rt_dd ho]
  split
  · rename_i h0
    rw [h0] at e
    rw [← e]; rfl
  · exact e
theorem exp_union (σ : List (Atom × Tree)) (ps : List Tree) : exp σ (.node .union ps) = U (flats (exps σ ps)) := by simp only [exp, if_true, U]
theorem exp_node (σ : List (Atom × Tree)) (g : Tag) (ps : List Tree) (h : g ≠ .union) : exp σ (.node g ps) = .node g (exps σ ps) := by simp only [exp, if_neg h]
theorem exps_app (σ : List (Atom × Tree)) (a b : List Tree) : exps σ (a ++ b) = exps σ a ++ exps σ b := by rw [exps_map, exps_map, exps_map, List.map_append]
/-- one list for another, piece by piece -/
theorem rt_pieces {α : Type} (f g : α → List Tree) : ∀ (l : List α), (∀ a ∈ l, f a = g a ∨ f a = rt [] (g a)) → (l.flatMap f).any isObj = (l.flatMap g).any isObj ∧ ((l.flatMap g).any isObj = false → ∀ acc, dd acc (l.flatMap f) = dd acc (l.flatMap g))
  | [], _ => ⟨rfl, fun _ _ => rfl⟩
  | a :: r, h => by
    obtain ⟨i1, i2⟩ := rt_pieces f g r fun b hb => h b (List.mem_cons_of_mem _ hb)
    have e : (f a).any isObj = (g a).any isObj := by
      rcases h a (List.mem_cons_self ..) with e | e
      · rw [e]
      · rw [e, rt_any]
    rw [List.flatMap_cons, List.flatMap_cons, List.any_append, List.any_append, e, i1]
    refine ⟨rfl, fun ho acc => ?_⟩
    rw [Bool.or_eq_false_iff] at ho
    rw [dd_app, dd_app, i2 ho.2]
    congr 1
    rcases h a (List.mem_cons_self ..) with e | e
    · rw [e]
    · rw [e, dd_rt acc (g a) ho.1]
theorem rt_of_pieces {α : Type} (f g : α → List Tree) (l : List α) (h : ∀ a ∈ l, f a = g a ∨ f a = rt [] (g a)) : rt [] (l.flatMap f) = rt [] (l.flatMap g) := by
  obtain ⟨h1, h2⟩ := rt_pieces f g l h
  cases ho : (l.flatMap g).any isObj with
  | true => rw [rt_obj ho, rt_obj (h1.trans ho)]
  | false => rw [rt_dd ho, rt_dd (h1.trans ho), h2 ho]
theorem flats_flatMap (ts : List Tree) : flats ts = ts.flatMap flat1 := by
  induction ts with
  | nil => simp [flats]
  | cons t r ih => rw [flats, ih, List.flatMap_cons]
theorem mks_map (ts : List Tree) : mks ts = ts.map mk := by
  induction ts with
  | nil => simp [mks]
  | cons t r ih => simp [mks, ih]
mutual
/-- the made tree is replaced as the tree itself -/
theorem exp_mk (σ : List (Atom × Tree)) : ∀ t : Tree, exp σ (mk t) = exp σ t
  | .leaf a => by simp [mk]
  | .node g ps => by
    have h1 : ∀ p ∈ ps, exp σ (mk p) = exp σ p := fun p hp => exps_mk σ ps p hp
    by_cases hg : g = .union
    · subst hg
      rw [mk, if_pos rfl, exp_union, exp_union, U, U]
      congr 1
      have e1 : flats (exps σ (flats (mks ps))) = ps.flatMap fun p => flats (exps σ (flat1 (mk p))) := by
        rw [mks_map, flats_flatMap (ps.map mk), List.flatMap_map]
        clear h1
        induction ps with
        | nil => simp [exps, flats]
        | cons p r ih => rw [List.flatMap_cons, List.flatMap_cons, exps_app, flats_app, ih]
      have e2 : flats (exps σ ps) = ps.flatMap fun p => flat1 (exp σ (mk p)) := by
        rw [exps_map, flats_flatMap, List.flatMap_map]
        refine congrArg List.flatten (List.map_congr_left fun p hp => ?_)
        rw [h1 p hp]
      rw [e1, e2]
      refine (rt_of_pieces _ _ ps fun p hp => ?_).symm
      cases hu : isU (mk p) with
      | false => left; rw [flat1_one hu]; simp [exps, flats]
      | true =>
        right
        cases p with
        | leaf a => simp [mk, isU] at hu
        | node g' qs =>
          have hg' : g' = .union := by
            cases g' <;> simp [mk, isU] at hu ⊢
          subst hg'
          rw [mk, if_pos rfl, exp_union, flat1_U (flats_nu _), flat1, flats_id (flats_nu (mks qs))]
    · rw [mk, if_neg hg, exp_node σ g _ hg, exp_node σ g _ hg, mks_map, exps_map, exps_map, List.map_map]
      congr 1
      exact List.map_congr_left h1
theorem exps_mk (σ : List (Atom × Tree)) : ∀ (ts : List Tree), ∀ p ∈ ts, exp σ (mk p) = exp σ p
  | [], _, h => nomatch h
  | t :: r, p, h => by
    rcases List.mem_cons.mp h with e | h
    · exact e ▸ exp_mk σ t
    · exact exps_mk σ r p h
end
/-- alike lists of plain items -/
def sim (A B : List Tree) : Prop := A.any isObj = B.any isObj ∧ (A.any isObj = false → ∀ x, cls x ≠ 258 → A.any (fun y => teq y x) = B.any fun y => teq y x)
theorem sim.refl (A : List Tree) : sim A A := ⟨rfl, fun _ _ _ => rfl⟩
theorem sim.symm {A B : List Tree} (h : sim A B) : sim B A := ⟨h.1.symm, fun k x hx => (h.2 (h.1.trans k) x hx).symm⟩
theorem sim.trans {A B C : List Tree} (h : sim A B) (k : sim B C) : sim A C := ⟨h.1.trans k.1, fun l x hx => (h.2 l x hx).trans (k.2 (h.1.symm.trans l) x hx)⟩
theorem sim.app {A B C D : List Tree} (h : sim A B) (k : sim C D) : sim (A ++ C) (B ++ D) := by
  refine ⟨by rw [List.any_append, List.any_append, h.1, k.1], fun l x hx => ?_⟩
  rw [List.any_append, Bool.or_eq_false_iff] at l
  rw [List.any_append, List.any_append, h.2 l.1 x hx, k.2 l.2 x hx]
theorem sim_flats {A B : List Tree} (h : ∀ p ∈ A, ∃ q ∈ B, sim (flat1 p) (flat1 q)) (k : ∀ q ∈ B, ∃ p ∈ A, sim (flat1 p) (flat1 q)) : sim (flats A) (flats B) := by
  rw [flats_flatMap, flats_flatMap]
  have e1 : (A.flatMap flat1).any isObj = (B.flatMap flat1).any isObj := by
    rw [Bool.eq_iff_iff, List.any_flatMap, List.any_flatMap, List.any_eq_true, List.any_eq_true]
    constructor
    · intro ⟨p, hp, e⟩
      obtain ⟨q, hq, s⟩ := h p hp
      exact ⟨q, hq, by rw [← s.1]; exact e⟩
    · intro ⟨q, hq, e⟩
      obtain ⟨p, hp, s⟩ := k q hq
      exact ⟨p, hp, by rw [s.1]; exact e⟩
  refine ⟨e1, fun ho x hx => ?_⟩
  have hA : ∀ p ∈ A, (flat1 p).any isObj = false := by
    rw [List.any_flatMap, List.any_eq_false] at ho
    intro p hp
    exact Bool.eq_false_iff.mpr (ho p hp)
  rw [Bool.eq_iff_iff, List.any_flatMap, List.any_flatMap, List.any_eq_true, List.any_eq_true]
  constructor
  · intro ⟨p, hp, e⟩
    obtain ⟨q, hq, s⟩ := h p hp
    exact ⟨q, hq, by rw [← s.2 (hA p hp) x hx]; exact e⟩
  · intro ⟨q, hq, e⟩
    obtain ⟨p, hp, s⟩ := k q hq
    exact ⟨p, hp, by rw [s.2 (hA p hp) x hx]; exact e⟩
theorem sim_one {p q : Tree} (h : teq p q = true) : sim [p] [q] := by
  refine ⟨by simp [teq_obj h], fun _ x _ => ?_⟩
  simp only [List.any_cons, List.any_nil, Bool.or_false]
  rw [Bool.eq_iff_iff]
  exact ⟨fun e => teq_trans q p x (teq_sym h) e, fun e => teq_trans p q x h e⟩
mutual
theorem sim_flat1 : ∀ p q : Tree, teq p q = true → sim (flat1 p) (flat1 q)
  | .leaf a, .leaf b, h => by rw [flat1_one rfl, flat1_one rfl]; exact sim_one h
  | .leaf _, .node _ _, h => by simp [teq] at h
  | .node _ _, .leaf _, h => by simp [teq] at h
  | .node g ps, .node g' qs, h => by
    have h1 : ∀ p ∈ ps, ∀ q, teq p q = true → sim (flat1 p) (flat1 q) := fun p hp q => sims_flat1 ps p hp q
    have h0 := h
    simp only [teq, Bool.and_eq_true, beq_iff_eq] at h
    obtain ⟨rfl, h⟩ := h
    by_cases hg : g = .union
    · subst hg
      rw [if_pos rfl] at h
      simp only [allp_eq, anyq_eq, Bool.and_eq_true, List.all_eq_true, List.any_eq_true] at h
      rw [flat1, flat1]
      refine sim_flats (fun p hp => ?_) fun q hq => ?_
      · obtain ⟨q, hq, e⟩ := h.2 p hp; exact ⟨q, hq, h1 p hp q e⟩
      · obtain ⟨p, hp, e⟩ := h.1 q hq; exact ⟨p, hp, h1 p hp q e⟩
    · have hu : ∀ l, isU (.node g l) = false := by intro l; cases g <;> first | rfl | exact absurd rfl hg
      rw [flat1_one (hu ps), flat1_one (hu qs)]; exact sim_one h0
theorem sims_flat1 : ∀ (ts : List Tree), ∀ p ∈ ts, ∀ q, teq p q = true → sim (flat1 p) (flat1 q)
  | [], _, h, _ => nomatch h
  | t :: r, p, h, q => by
    rcases List.mem_cons.mp h with e | h
    · exact e ▸ sim_flat1 t q
    · exact sims_flat1 r p h q
end
theorem sim_rt {B : List Tree} : sim (rt [] B) B := by
  refine ⟨rt_any, fun ho x hx => ?_⟩
  rw [rt_any] at ho
  rw [rt_dd ho, Bool.eq_iff_iff, List.any_eq_true, List.any_eq_true]
  split
  · rename_i h0
    constructor
    · intro ⟨y, hy, e⟩
      rw [List.mem_singleton.mp hy] at e
      exact absurd (teq_cls' e).symm hx
    · intro ⟨y, hy, e⟩
      obtain ⟨z, hz, _⟩ := dd_cover B [] y hy (by rw [teq_cls' e]; exact hx)
      rw [h0] at hz; exact nomatch hz
  · constructor
    · intro ⟨y, hy, e⟩
      rcases dd_mem B [] y hy with h | h
      · exact nomatch h
      · exact ⟨y, h.1, e⟩
    · intro ⟨y, hy, e⟩
      obtain ⟨z, hz, e2⟩ := dd_cover B [] y hy (by rw [teq_cls' e]; exact hx)
      exact ⟨z, hz, teq_trans z y x e2 e⟩
theorem pw_one {k : Tree} : ∀ {l : List Tree}, l.Pairwise (fun a b => teq a b = false) → (∀ x ∈ l, teq k x = true) → l ≠ [] → ∃ x, l = [x]
  | [], _, _, h => absurd rfl h
  | [x], _, _, _ => ⟨x, rfl⟩
  | x :: y :: r, hp, h, _ => by
    have e := teq_trans x k y (teq_sym (h x (List.mem_cons_self ..))) (h y (List.mem_cons_of_mem _ (List.mem_cons_self ..)))
    rw [(List.pairwise_cons.mp hp).1 y (List.mem_cons_self ..)] at e; cases e
theorem sim_U {A B : List Tree} (hA : ∀ x ∈ A, isU x = false) (hB : ∀ x ∈ B, isU x = false) (h : sim A B) : teq (U A) (U B) = true := by
  cases ho : A.any isObj with
  | true => rw [U, U, rt_obj ho, rt_obj (h.1.symm.trans ho)]; exact teq_refl _
  | false =>
    have ho' := h.1.symm.trans ho
    have a1 := dd_mem A []
    have a2 := dd_cover A []
    have a3 := dd_pair A [] List.Pairwise.nil
    have b1 := dd_mem B []
    have b2 := dd_cover B []
    have b3 := dd_pair B [] List.Pairwise.nil
    have nA := rt_nu hA
    have nB := rt_nu hB
    rw [U, U]
    rw [rt_dd ho] at nA ⊢
    rw [rt_dd ho'] at nB ⊢
    have c1 : ∀ x ∈ dd [] A, ∃ y ∈ dd [] B, teq y x = true := by
      intro x hx
      obtain ⟨m, c⟩ := (a1 x hx).resolve_left (fun h => nomatch h)
      have : A.any (fun y => teq y x) = true := List.any_eq_true.mpr ⟨x, m, teq_refl x⟩
      rw [h.2 ho x c] at this
      obtain ⟨y, hy, e⟩ := List.any_eq_true.mp this
      obtain ⟨z, hz, e2⟩ := b2 y hy (by rw [teq_cls' e]; exact c)
      exact ⟨z, hz, teq_trans z y x e2 e⟩
    have c2 : ∀ x ∈ dd [] B, ∃ y ∈ dd [] A, teq y x = true := by
      intro x hx
      obtain ⟨m, c⟩ := (b1 x hx).resolve_left (fun h => nomatch h)
      have : B.any (fun y => teq y x) = true := List.any_eq_true.mpr ⟨x, m, teq_refl x⟩
      rw [← h.2 ho x c] at this
      obtain ⟨y, hy, e⟩ := List.any_eq_true.mp this
      obtain ⟨z, hz, e2⟩ := a2 y hy (by rw [teq_cls' e]; exact c)
      exact ⟨z, hz, teq_trans z y x e2 e⟩
    generalize dd [] A = K at *
    generalize dd [] B = M at *
    cases K with
    | nil =>
      cases M with
      | nil => exact teq_refl _
      | cons m M => obtain ⟨y, hy, _⟩ := c2 m (List.mem_cons_self ..); exact nomatch hy
    | cons k K =>
      cases M with
      | nil => obtain ⟨y, hy, _⟩ := c1 k (List.mem_cons_self ..); exact nomatch hy
      | cons m M =>
        rw [if_neg (by simp)] at nA nB
        rw [if_neg (by simp), if_neg (by simp)]
        cases K with
        | nil =>
          obtain ⟨x, e⟩ := pw_one (k := k) b3 (fun x hx => by obtain ⟨y, hy, e⟩ := c2 x hx; rw [List.mem_singleton.mp hy] at e; exact e) (by simp)
          cases e
          obtain ⟨y, hy, e⟩ := c2 m (List.mem_cons_self ..)
          rw [List.mem_singleton.mp hy] at e
          exact e
        | cons k2 K =>
          cases M with
          | nil =>
            obtain ⟨x, e⟩ := pw_one (k := m) a3 (fun x hx => by obtain ⟨y, hy, e⟩ := c1 x hx; rw [List.mem_singleton.mp hy] at e; exact e) (by simp)
            cases e
          | cons m2 M =>
            rw [mkU_two, mkU_two, flats_id nA, flats_id nB, teq_union, Bool.and_eq_true, List.all_eq_true, List.all_eq_true]
            exact ⟨fun q hq => List.any_eq_true.mpr (c2 q hq), fun p hp => by obtain ⟨y, hy, e⟩ := c1 p hp; exact List.any_eq_true.mpr ⟨y, hy, teq_sym e⟩⟩
theorem sim_U1 {B : List Tree} (h : ∀ x ∈ B, isU x = false) : sim (flat1 (U B)) B := by rw [flat1_U h]; exact sim_rt
mutual
/-- alike types are alike after the replacing -/
theorem exp_congr (τ : List (Atom × Tree)) : ∀ u v : Tree, teq u v = true → teq (exp τ u) (exp τ v) = true
  | .leaf a, .leaf b, h => by simp only [teq, beq_iff_eq] at h; rw [h]; exact teq_refl _
  | .leaf _, .node _ _, h => by simp [teq] at h
  | .node _ _, .leaf _, h => by simp [teq] at h
  | .node g ps, .node g' qs, h => by
    have h1 : ∀ p ∈ ps, ∀ q, teq p q = true → teq (exp τ p) (exp τ q) = true := fun p hp q => exps_congr τ ps p hp q
    simp only [teq, Bool.and_eq_true, beq_iff_eq] at h
    obtain ⟨rfl, h⟩ := h
    by_cases hg : g = .union
    · subst hg
      rw [if_pos rfl] at h
      simp only [allp_eq, anyq_eq, Bool.and_eq_true, List.all_eq_true, List.any_eq_true] at h
      rw [exp_union, exp_union]
      refine sim_U (flats_nu _) (flats_nu _) (sim_flats (fun p hp => ?_) fun q hq => ?_)
      · rw [exps_map] at hp
        obtain ⟨p', hp', rfl⟩ := List.mem_map.mp hp
        obtain ⟨q, hq, e⟩ := h.2 p' hp'
        exact ⟨exp τ q, by rw [exps_map]; exact List.mem_map_of_mem hq, sim_flat1 _ _ (h1 p' hp' q e)⟩
      · rw [exps_map] at hq
        obtain ⟨q', hq', rfl⟩ := List.mem_map.mp hq
        obtain ⟨p, hp, e⟩ := h.1 q' hq'
        exact ⟨exp τ p, by rw [exps_map]; exact List.mem_map_of_mem hp, sim_flat1 _ _ (h1 p hp q' e)⟩
    · rw [if_neg hg] at h
      rw [exp_node τ g ps hg, exp_node τ g qs hg]
      simp only [teq, beq_self_eq_true, Bool.true_and, if_neg hg]
      clear hg
      induction ps generalizing qs with
      | nil => cases qs <;> simp [teqs, exps] at h ⊢
      | cons p r ih => cases qs with
        | nil => simp [teqs] at h
        | cons q s =>
          simp only [teqs, exps, Bool.and_eq_true] at h ⊢
          exact ⟨h1 p (List.mem_cons_self ..) q h.1, ih s (fun p hp q => h1 p (List.mem_cons_of_mem _ hp) q) h.2⟩
theorem exps_congr (τ : List (Atom × Tree)) : ∀ (ts : List Tree), ∀ p ∈ ts, ∀ q, teq p q = true → teq (exp τ p) (exp τ q) = true
  | [], _, h, _ => nomatch h
  | t :: r, p, h, q => by
    rcases List.mem_cons.mp h with e | h
    · exact e ▸ exp_congr τ t q
    · exact exps_congr τ r p h q
end
end Mine
namespace Mine
theorem flats_nrm_mem {x : Tree} : ∀ {ts : List Tree}, (∀ t ∈ ts, ∀ y ∈ flat1 t, nrm y) → x ∈ flats ts → nrm x
  | [], _, h => by simp [flats] at h
  | t :: r, hh, h => by
    rw [flats] at h
    rcases List.mem_append.mp h with h | h
    · exact hh t (List.mem_cons_self ..) x h
    · exact flats_nrm_mem (fun u hu => hh u (List.mem_cons_of_mem _ hu)) h
theorem flat1_nrm {t : Tree} (h : nrm t) : ∀ y ∈ flat1 t, nrm y := by
  intro y hy
  cases hu : isU t with
  | false => rw [flat1_one hu, List.mem_singleton] at hy; rw [hy]; exact h
  | true =>
    cases t with
    | leaf a => simp [isU] at hu
    | node g ps =>
      have hg : g = .union := by cases g <;> simp [isU] at hu ⊢
      subst hg
      simp only [nrm] at h
      rw [flat1, flats_id fun x hx => ((h.2 trivial).2.1 x hx).1] at hy
      exact nrms_mem.mp h.1 y hy
theorem nrm_U {L : List Tree} (h : ∀ x ∈ L, isU x = false) (hn : ∀ x ∈ L, nrm x) : nrm (U L) := by
  have h1 := rt_nu h
  have h2 : ∀ x ∈ rt [] L, nrm x := by
    intro x hx
    cases ho : L.any isObj with
    | true => rw [rt_obj ho] at hx; rw [List.mem_singleton.mp hx]; simp [nrm]
    | false =>
      rw [rt_dd ho] at hx
      split at hx
      · rw [List.mem_singleton.mp hx]; simp [nrm]
      · rcases dd_mem L [] x hx with h | h
        · exact nomatch h
        · exact hn x h.1
  rw [U]
  cases ho : L.any isObj with
  | true => rw [rt_obj ho]; simp [mkU, nrm]
  | false =>
    rw [rt_dd ho] at h1 h2 ⊢
    split
    · simp [mkU, nrm]
    · rename_i h0
      rw [if_neg h0] at h1 h2
      have h3 := dd_pair L [] List.Pairwise.nil
      have h4 := dd_mem L []
      generalize dd [] L = K at *
      cases K with
      | nil => exact absurd rfl h0
      | cons a r => cases r with
        | nil => rw [mkU]; exact h2 a (List.mem_cons_self ..)
        | cons b r =>
          rw [mkU_two, flats_id h1]
          simp only [nrm]
          refine ⟨nrms_mem.mpr h2, fun _ => ⟨by simp, fun p hp => ⟨h1 p hp, ?_, ?_⟩, h3⟩⟩
          · obtain ⟨m, c⟩ := (h4 p hp).resolve_left (fun h => nomatch h)
            intro e; exact c (nev_iff.mpr e)
          · obtain ⟨m, c⟩ := (h4 p hp).resolve_left (fun h => nomatch h)
            intro e
            exact List.any_eq_false.mp ho p m (obj_iff.mpr e)
mutual
theorem nrm_exp {σ : List (Atom × Tree)} (hσ : ∀ a t, σ.lookup a = some t → nrm t) : ∀ t : Tree, nrm (exp σ t)
  | .leaf a => by
    simp only [exp, app]
    cases hl : σ.lookup a with
    | none => simp [nrm]
    | some t => exact hσ a t hl
  | .node g ps => by
    have h1 : ∀ p ∈ ps, nrm (exp σ p) := fun p hp => nrms_exp hσ ps p hp
    by_cases hg : g = .union
    · subst hg
      rw [exp_union]
      refine nrm_U (flats_nu _) fun x hx => flats_nrm_mem (fun t ht => ?_) hx
      rw [exps_map] at ht
      obtain ⟨p, hp, rfl⟩ := List.mem_map.mp ht
      exact flat1_nrm (h1 p hp)
    · rw [exp_node σ g ps hg]
      simp only [nrm]
      refine ⟨nrms_mem.mpr fun p hp => ?_, fun e => absurd e hg⟩
      rw [exps_map] at hp
      obtain ⟨q, hq, rfl⟩ := List.mem_map.mp hp
      exact h1 q hq
theorem nrms_exp {σ : List (Atom × Tree)} (hσ : ∀ a t, σ.lookup a = some t → nrm t) : ∀ (ts : List Tree), ∀ p ∈ ts, nrm (exp σ p)
  | [], _, h => nomatch h
  | t :: r, p, h => by
    rcases List.mem_cons.mp h with e | h
    · exact e ▸ nrm_exp hσ t
    · exact nrms_exp hσ r p h
end
theorem dd_self : ∀ (vs acc : List Tree), (∀ v ∈ vs, cls v ≠ 258) → (acc ++ vs).Pairwise (fun a b => teq a b = false) → dd acc vs = acc ++ vs
  | [], acc, _, _ => by simp [dd]
  | v :: r, acc, h, hp => by
    rw [dd, if_neg (h v (List.mem_cons_self ..))]
    have hn : ¬ (acc.any (fun e => teq e v) = true) := by
      intro ha
      obtain ⟨e, he, hq⟩ := List.any_eq_true.mp ha
      rw [(List.pairwise_append.mp hp).2.2 e he v (List.mem_cons_self ..)] at hq; cases hq
    rw [if_neg hn, dd_self r (acc ++ [v]) (fun x hx => h x (List.mem_cons_of_mem _ hx)) (by rw [List.append_assoc]; exact hp), List.append_assoc]; rfl
theorem U_flat1 {v : Tree} (h : nrm v) : U (flat1 v) = v := by
  cases hu : isU v with
  | false =>
    rw [flat1_one hu, U]
    unfold rt
    by_cases h1 : cls v = 258
    · rw [if_pos h1, nev_iff.mp h1]; simp [rt, mkU]
    · rw [if_neg h1]
      split
      · rfl
      · simp [rt, mkU]
  | true =>
    cases v with
    | leaf a => simp [isU] at hu
    | node g vs =>
      have hg : g = .union := by cases g <;> simp [isU] at hu ⊢
      subst hg
      simp only [nrm] at h
      obtain ⟨h0, h⟩ := h
      obtain ⟨h1, h2, h3⟩ := h trivial
      rw [flat1, flats_id fun x hx => (h2 x hx).1, U]
      have ho : vs.any isObj = false := by
        rw [List.any_eq_false]
        intro x hx e
        exact (h2 x hx).2.2 (obj_iff.mp e)
      have hd : dd [] vs = vs := dd_self vs [] (fun v hv e => (h2 v hv).2.1 (nev_iff.mp e)) (by simpa using h3)
      rw [rt_dd ho, hd]
      cases vs with
      | nil => simp at h1
      | cons a r => cases r with
        | nil => simp at h1
        | cons b r => rw [if_neg (by simp), mkU_two, flats_id fun x hx => (h2 x hx).1]
mutual
theorem mk_nrm : ∀ {v : Tree}, nrm v → mk v = v
  | .leaf a, _ => by simp [mk]
  | .node g ps, h => by
    simp only [nrm] at h
    have h1 : mks ps = ps := mks_nrm h.1
    rw [mk, h1]
    by_cases hg : g = .union
    · rw [if_pos hg, flats_id fun x hx => ((h.2 hg).2.1 x hx).1]
    · rw [if_neg hg]
theorem mks_nrm : ∀ {ts : List Tree}, nrms ts → mks ts = ts
  | [], _ => by simp [mks]
  | t :: r, h => by
    simp only [nrms] at h
    rw [mks, mk_nrm h.1, mks_nrm h.2]
end
theorem sim_flats' {A B : List Tree} (h : ∀ p ∈ A, sim (flat1 p) [] ∨ ∃ q ∈ B, sim (flat1 p) (flat1 q)) (k : ∀ q ∈ B, sim (flat1 q) [] ∨ ∃ p ∈ A, sim (flat1 p) (flat1 q)) : sim (flats A) (flats B) := by
  rw [flats_flatMap, flats_flatMap]
  have e1 : (A.flatMap flat1).any isObj = (B.flatMap flat1).any isObj := by
    rw [Bool.eq_iff_iff, List.any_flatMap, List.any_flatMap, List.any_eq_true, List.any_eq_true]
    constructor
    · intro ⟨p, hp, e⟩
      rcases h p hp with s | ⟨q, hq, s⟩
      · rw [s.1] at e; simp at e
      · exact ⟨q, hq, by rw [← s.1]; exact e⟩
    · intro ⟨q, hq, e⟩
      rcases k q hq with s | ⟨p, hp, s⟩
      · rw [s.1] at e; simp at e
      · exact ⟨p, hp, by rw [s.1]; exact e⟩
  refine ⟨e1, fun ho x hx => ?_⟩
  have hA : ∀ p ∈ A, (flat1 p).any isObj = false := by
    rw [List.any_flatMap, List.any_eq_false] at ho
    intro p hp
    exact Bool.eq_false_iff.mpr (ho p hp)
  have hB : ∀ p ∈ B, (flat1 p).any isObj = false := by
    rw [e1, List.any_flatMap, List.any_eq_false] at ho
    intro p hp
    exact Bool.eq_false_iff.mpr (ho p hp)
  rw [Bool.eq_iff_iff, List.any_flatMap, List.any_flatMap, List.any_eq_true, List.any_eq_true]
  constructor
  · intro ⟨p, hp, e⟩
    rcases h p hp with s | ⟨q, hq, s⟩
    · rw [s.2 (hA p hp) x hx] at e; simp at e
    · exact ⟨q, hq, by rw [← s.2 (hA p hp) x hx]; exact e⟩
  · intro ⟨q, hq, e⟩
    rcases k q hq with s | ⟨p, hp, s⟩
    · rw [s.2 (hB q hq) x hx] at e; simp at e
    · exact ⟨p, hp, by rw [s.2 (hA p hp) x hx]; exact e⟩
theorem sim_nev : sim [.leaf .nev] [] := by
  refine ⟨rfl, fun _ x hx => ?_⟩
  simp only [List.any_cons, List.any_nil, Bool.or_false]
  cases e : teq (.leaf .nev) x with
  | false => rfl
  | true => exact absurd (teq_cls' e).symm hx
theorem exp_U {τ : List (Atom × Tree)} (hτ : ∀ a t, τ.lookup a = some t → nrm t) {L : List Tree} (hL : ∀ x ∈ L, isU x = false) : exp τ (U L) = U (flats (exps τ (rt [] L))) := by
  have h1 := rt_nu hL
  have h2 := rt_ne L []
  rw [U]
  generalize rt [] L = K at *
  cases K with
  | nil => exact absurd rfl h2
  | cons a r => cases r with
    | nil => rw [mkU, exps, exps, flats, flats, List.append_nil, U_flat1 (nrm_exp hτ a)]
    | cons b r => rw [mkU_two, exp_union, flats_id h1]
theorem sim_exps {τ : List (Atom × Tree)} (h1 : app τ .obj = .leaf .obj) (h2 : app τ .nev = .leaf .nev) {L : List Tree} : sim (flats (exps τ (rt [] L))) (flats (exps τ L)) := by
  cases ho : L.any isObj with
  | true =>
    rw [rt_obj ho]
    have e1 : (flats (exps τ [.leaf .obj])).any isObj = true := by simp [exps, exp, h1, flats, flat1, isObj]
    have e2 : (flats (exps τ L)).any isObj = true := by
      obtain ⟨x, hx, e⟩ := List.any_eq_true.mp ho
      rw [obj_iff] at e
      subst e
      rw [flats_flatMap, List.any_flatMap, List.any_eq_true]
      exact ⟨.leaf .obj, by rw [exps_map, ← h1]; exact List.mem_map_of_mem (f := exp τ) hx, rfl⟩
    exact ⟨e1.trans e2.symm, fun h => by rw [e1] at h; cases h⟩
  | false =>
    refine sim_flats' (fun p hp => ?_) fun q hq => ?_
    · rw [exps_map] at hp
      obtain ⟨p', hp', rfl⟩ := List.mem_map.mp hp
      rw [rt_dd ho] at hp'
      split at hp'
      · rw [List.mem_singleton.mp hp', exp, h2]; left; rw [flat1_one rfl]; exact sim_nev
      · obtain ⟨m, c⟩ := (dd_mem L [] p' hp').resolve_left (fun h => nomatch h)
        right
        exact ⟨exp τ p', by rw [exps_map]; exact List.mem_map_of_mem m, sim.refl _⟩
    · rw [exps_map] at hq
      obtain ⟨q', hq', rfl⟩ := List.mem_map.mp hq
      by_cases hc : cls q' = 258
      · left; rw [nev_iff.mp hc, exp, h2, flat1_one rfl]; exact sim_nev
      · right
        obtain ⟨y, hy, e⟩ := dd_cover L [] q' hq' hc
        refine ⟨exp τ y, ?_, sim_flat1 _ _ (exp_congr τ y q' e)⟩
        rw [exps_map, rt_dd ho]
        split
        · rename_i h0; rw [h0] at hy; exact nomatch hy
        · exact List.mem_map_of_mem hy
theorem sim_lift {τ : List (Atom × Tree)} {q : Tree} (h : nrm q) : sim (flats (exps τ (flat1 q))) (flat1 (exp τ q)) := by
  cases hu : isU q with
  | false => rw [flat1_one hu, exps, exps, flats, flats, List.append_nil]; exact sim.refl _
  | true =>
    cases q with
    | leaf a => simp [isU] at hu
    | node g qs =>
      have hg : g = .union := by cases g <;> simp [isU] at hu ⊢
      subst hg
      simp only [nrm] at h
      rw [flat1, flats_id fun x hx => ((h.2 trivial).2.1 x hx).1, exp_union]
      exact (sim_U1 (flats_nu _)).symm
mutual
/-- one replacing behind the other -/
theorem exp_exp {σ τ ρ : List (Atom × Tree)} (hσ : ∀ a t, σ.lookup a = some t → nrm t) (hτ : ∀ a t, τ.lookup a = some t → nrm t) (h1 : app τ .obj = .leaf .obj) (h2 : app τ .nev = .leaf .nev) (hρ : ∀ a, teq (exp τ (app σ a)) (app ρ a) = true) : ∀ t : Tree, teq (exp τ (exp σ t)) (exp ρ t) = true
  | .leaf a => by rw [exp, exp]; exact hρ a
  | .node g ps => by
    have ih : ∀ p ∈ ps, teq (exp τ (exp σ p)) (exp ρ p) = true := fun p hp => exps_exp hσ hτ h1 h2 hρ ps p hp
    by_cases hg : g = .union
    · subst hg
      rw [exp_union, exp_union, exp_U hτ (flats_nu _)]
      refine sim_U (flats_nu _) (flats_nu _) ((sim_exps h1 h2).trans ?_)
      induction ps with
      | nil => exact sim.refl _
      | cons p r ihr =>
        rw [exps, exps, flats, flats, exps_app, flats_app]
        exact ((sim_lift (nrm_exp hσ p)).trans (sim_flat1 _ _ (ih p (List.mem_cons_self ..)))).app (ihr fun q hq => ih q (List.mem_cons_of_mem _ hq))
    · rw [exp_node σ g ps hg, exp_node τ g _ hg, exp_node ρ g ps hg]
      simp only [teq, beq_self_eq_true, Bool.true_and, if_neg hg]
      clear hg
      induction ps with
      | nil => simp [teqs, exps]
      | cons p r ihr =>
        simp only [teqs, exps, Bool.and_eq_true]
        exact ⟨ih p (List.mem_cons_self ..), ihr fun q hq => ih q (List.mem_cons_of_mem _ hq)⟩
theorem exps_exp {σ τ ρ : List (Atom × Tree)} (hσ : ∀ a t, σ.lookup a = some t → nrm t) (hτ : ∀ a t, τ.lookup a = some t → nrm t) (h1 : app τ .obj = .leaf .obj) (h2 : app τ .nev = .leaf .nev) (hρ : ∀ a, teq (exp τ (app σ a)) (app ρ a) = true) : ∀ (ts : List Tree), ∀ p ∈ ts, teq (exp τ (exp σ p)) (exp ρ p) = true
  | [], _, h => nomatch h
  | t :: r, p, h => by
    rcases List.mem_cons.mp h with e | h
    · exact e ▸ exp_exp hσ hτ h1 h2 hρ t
    · exact exps_exp hσ hτ h1 h2 hρ r p h
end
theorem tvarss_app (a b : List Tree) : tvarss (a ++ b) = tvarss a ++ tvarss b := by
  induction a with
  | nil => simp [tvarss]
  | cons t r ih => rw [List.cons_append, tvarss, tvarss, ih, List.append_assoc]
mutual
theorem tv_flat1 : ∀ t : Tree, tvarss (flat1 t) = tvars t
  | .leaf a => by simp [flat1, tvarss]
  | .node .union ps => by rw [flat1, tv_flats ps, tvars]
  | .node .box ps => by simp [flat1, tvarss]
  | .node .pair ps => by simp [flat1, tvarss]
theorem tv_flats : ∀ ts : List Tree, tvarss (flats ts) = tvarss ts
  | [] => by simp [flats]
  | t :: r => by rw [flats, tvarss_app, tv_flat1 t, tv_flats r, tvarss]
end
mutual
theorem tv_mk : ∀ t : Tree, tvars (mk t) = tvars t
  | .leaf a => by simp [mk]
  | .node g ps => by
    rw [mk, tvars, tvars]
    split
    · rw [tv_flats, tv_mks ps]
    · exact tv_mks ps
theorem tv_mks : ∀ ts : List Tree, tvarss (mks ts) = tvarss ts
  | [] => by simp [mks]
  | t :: r => by rw [mks, tvarss, tvarss, tv_mk t, tv_mks r]
end
end Mine
namespace Mine
theorem lws_app (a b : List Tree) : lws (a ++ b) = lws a + lws b := by
  induction a with
  | nil => simp [lws]
  | cons t r ih => simp only [List.cons_append, lws, ih]; omega
theorem lws_mem {t : Tree} : ∀ {ts : List Tree}, t ∈ ts → lw t ≤ lws ts
  | u :: r, h => by
    simp only [lws]
    rcases List.mem_cons.mp h with rfl | h
    · omega
    · have := lws_mem h; omega
mutual
theorem lws_flat1 : ∀ t : Tree, lws (flat1 t) ≤ lw t
  | .leaf a => by simp [flat1, lws, lw]
  | .node .union ps => by have := lws_flats ps; simp only [flat1, lw]; omega
  | .node .box ps => by simp [flat1, lws]
  | .node .pair ps => by simp [flat1, lws]
theorem lws_flats : ∀ ts : List Tree, lws (flats ts) ≤ lws ts
  | [] => by simp [flats]
  | t :: r => by have := lws_flat1 t; have := lws_flats r; simp only [flats, lws_app, lws]; omega
end
theorem lw_nev : lw (.leaf .nev) = 1 := by simp [lw]
theorem rt_lw : ∀ (ts acc : List Tree), lws (rt acc ts) ≤ max 1 (lws acc + lws ts)
  | [], acc => by
    unfold rt
    split
    · simp only [lws, lw]; omega
    · simp only [lws]; omega
  | t :: r, acc => by
    unfold rt
    simp only [lws]
    have h0 := lw_pos t
    split
    · have := rt_lw r acc; omega
    · split
      · simp only [lws]; omega
      · split
        · have := rt_lw r acc; omega
        · have := rt_lw r (acc ++ [t]); rw [lws_app] at this; simp only [lws] at this; omega
theorem lw_mkU (K : List Tree) : lw (mkU K) ≤ max 1 (lws K) := by
  cases K with
  | nil => simp only [mkU, lw]; omega
  | cons a r => cases r with
    | nil => simp only [mkU, lws]; omega
    | cons b r => rw [mkU_two, lw]; have := lws_flats (a :: b :: r); omega
section
variable {σ : List (Atom × Tree)} {lb : Nat} (h1 : 1 ≤ lb) (hσ : ∀ a t, σ.lookup a = some t → lw t ≤ lb)
include h1 hσ
mutual
theorem lw_exp : ∀ t : Tree, lw (exp σ t) ≤ lw t * lb
  | .leaf a => by
    simp only [exp, app, lw, Nat.one_mul]
    cases hl : σ.lookup a with
    | none => simp only [Option.getD_none, lw]; omega
    | some t => exact hσ a t hl
  | .node g ps => by
    have h := lws_exps ps
    have hp : 1 * lb ≤ max 1 (lws ps) * lb := Nat.mul_le_mul_right lb (by omega)
    have hq : lws ps * lb ≤ max 1 (lws ps) * lb := Nat.mul_le_mul_right lb (by omega)
    by_cases hg : g = .union
    · subst hg
      rw [exp_union, U]
      have a := lw_mkU (rt [] (flats (exps σ ps)))
      have b := rt_lw (flats (exps σ ps)) []
      have c := lws_flats (exps σ ps)
      simp only [lws, lw] at b ⊢
      omega
    · rw [exp_node σ g ps hg]
      simp only [lw]
      omega
theorem lws_exps : ∀ ts : List Tree, lws (exps σ ts) ≤ lws ts * lb
  | [] => by simp [exps, lws]
  | t :: r => by
    have a := lw_exp t
    have b := lws_exps r
    simp only [exps, lws]
    rw [Nat.add_mul]; omega
end
end
mutual
/-- the parts of each union are at most c wide -/
def cb (c : Nat) : Tree → Prop
  | .leaf _ => True
  | .node g ps => cbs c ps ∧ (g = .union → ∀ p ∈ ps, lw p ≤ c)
def cbs (c : Nat) : List Tree → Prop
  | [] => True
  | p :: r => cb c p ∧ cbs c r
end
theorem cbs_mem {c : Nat} {ts : List Tree} : cbs c ts ↔ ∀ p ∈ ts, cb c p := by
  induction ts with
  | nil => simp [cbs]
  | cons p r ih => simp [cbs, ih]
theorem oks_all {ts : List Tree} : oks ts ↔ ∀ p ∈ ts, p.ok := by
  induction ts with
  | nil => simp [oks]
  | cons p r ih => simp [oks, ih]
theorem mem_flats {x : Tree} {ts : List Tree} (h : x ∈ flats ts) : ∃ t ∈ ts, x ∈ flat1 t := by
  rw [flats_flatMap] at h; exact List.mem_flatMap.mp h
mutual
theorem cb_flat1 {c : Nat} : ∀ t : Tree, cb c t → ∀ x ∈ flat1 t, cb c x
  | .leaf a, h, x, hx => by rw [flat1_one rfl, List.mem_singleton] at hx; rw [hx]; exact h
  | .node .union ps, h, x, hx => by simp only [cb] at h; rw [flat1] at hx; exact cb_flats ps h.1 x hx
  | .node .box ps, h, x, hx => by rw [flat1_one rfl, List.mem_singleton] at hx; rw [hx]; exact h
  | .node .pair ps, h, x, hx => by rw [flat1_one rfl, List.mem_singleton] at hx; rw [hx]; exact h
theorem cb_flats {c : Nat} : ∀ ts : List Tree, cbs c ts → ∀ x ∈ flats ts, cb c x
  | [], _, x, hx => by simp [flats] at hx
  | t :: r, h, x, hx => by
    simp only [cbs] at h
    rw [flats] at hx
    rcases List.mem_append.mp hx with hx | hx
    · exact cb_flat1 t h.1 x hx
    · exact cb_flats r h.2 x hx
end
mutual
theorem ok_flat1 : ∀ t : Tree, t.ok → ∀ x ∈ flat1 t, x.ok
  | .leaf a, h, x, hx => by rw [flat1_one rfl, List.mem_singleton] at hx; rw [hx]; exact h
  | .node .union ps, h, x, hx => by rw [flat1] at hx; exact ok_flats ps h.2 x hx
  | .node .box ps, h, x, hx => by rw [flat1_one rfl, List.mem_singleton] at hx; rw [hx]; exact h
  | .node .pair ps, h, x, hx => by rw [flat1_one rfl, List.mem_singleton] at hx; rw [hx]; exact h
theorem ok_flats : ∀ ts : List Tree, oks ts → ∀ x ∈ flats ts, x.ok
  | [], _, x, hx => by simp [flats] at hx
  | t :: r, h, x, hx => by
    rw [flats] at hx
    rcases List.mem_append.mp hx with hx | hx
    · exact ok_flat1 t h.1 x hx
    · exact ok_flats r h.2 x hx
end
theorem rt_mem {L : List Tree} {x : Tree} (h : x ∈ rt [] L) : x ∈ L ∨ x = .leaf .nev ∨ x = .leaf .obj := by
  cases ho : L.any isObj with
  | true => rw [rt_obj ho] at h; exact Or.inr (Or.inr (List.mem_singleton.mp h))
  | false =>
    rw [rt_dd ho] at h
    split at h
    · exact Or.inr (Or.inl (List.mem_singleton.mp h))
    · rcases dd_mem L [] x h with h | h
      · exact nomatch h
      · exact Or.inl h.1
/-- what holds of the items of a union and of the two names holds of the union -/
theorem U_ind {P : Tree → Prop} {L : List Tree} (hL : ∀ x ∈ L, isU x = false) (h0 : P (.leaf .nev)) (h1 : P (.leaf .obj)) (h2 : ∀ x ∈ L, P x) (h3 : ∀ K : List Tree, (∀ x ∈ K, P x) → (∀ x ∈ K, x ∈ L ∨ x = .leaf .nev ∨ x = .leaf .obj) → P (.node .union K)) : P (U L) := by
  have h4 : ∀ x ∈ rt [] L, P x := fun x hx => by
    rcases rt_mem hx with h | rfl | rfl
    · exact h2 x h
    · exact h0
    · exact h1
  have h5 : ∀ x ∈ rt [] L, x ∈ L ∨ x = .leaf .nev ∨ x = .leaf .obj := fun x hx => rt_mem hx
  have h6 := rt_nu hL
  rw [U]
  generalize rt [] L = K at *
  cases K with
  | nil => exact h0
  | cons a r => cases r with
    | nil => exact h4 a (List.mem_cons_self ..)
    | cons b r => rw [mkU_two, flats_id h6]; exact h3 _ h4 h5
theorem item_lw {σ : List (Atom × Tree)} {lb c : Nat} (h1 : 1 ≤ lb) (hσ : ∀ a t, σ.lookup a = some t → lw t ≤ lb) {ps : List Tree} (hc : ∀ p ∈ ps, lw p ≤ c) : ∀ x ∈ flats (exps σ ps), lw x ≤ c * lb := by
  intro x hx
  obtain ⟨t, ht, hx⟩ := mem_flats hx
  rw [exps_map] at ht
  obtain ⟨p, hp, rfl⟩ := List.mem_map.mp ht
  exact Nat.le_trans (lws_mem hx) (Nat.le_trans (lws_flat1 _) (Nat.le_trans (lw_exp h1 hσ p) (Nat.mul_le_mul_right lb (hc p hp))))
mutual
theorem cb_exp {σ : List (Atom × Tree)} {lb c : Nat} (h1 : 1 ≤ lb) (h2 : 1 ≤ c) (hσ : ∀ a t, σ.lookup a = some t → lw t ≤ lb) (hk : ∀ a t, σ.lookup a = some t → cb (c * lb) t) : ∀ t : Tree, cb c t → cb (c * lb) (exp σ t)
  | .leaf a, _ => by
    simp only [exp, app]
    cases hl : σ.lookup a with
    | none => simp [cb]
    | some t => exact hk a t hl
  | .node g ps, h => by
    simp only [cb] at h
    have ih : ∀ p ∈ ps, cb (c * lb) (exp σ p) := fun p hp => cbs_exp h1 h2 hσ hk ps h.1 p hp
    have hcl : 1 ≤ c * lb := Nat.mul_le_mul h2 h1
    by_cases hg : g = .union
    · subst hg
      rw [exp_union]
      have hI := item_lw h1 hσ (h.2 rfl)
      refine U_ind (P := cb (c * lb)) (flats_nu _) (by simp [cb]) (by simp [cb]) (fun x hx => ?_) fun K k1 k2 => ?_
      · obtain ⟨t, ht, hx⟩ := mem_flats hx
        rw [exps_map] at ht
        obtain ⟨p, hp, rfl⟩ := List.mem_map.mp ht
        exact cb_flat1 _ (ih p hp) x hx
      · simp only [cb]
        refine ⟨cbs_mem.mpr k1, fun _ x hx => ?_⟩
        rcases k2 x hx with h | rfl | rfl
        · exact hI x h
        · rw [lw]; exact hcl
        · rw [lw]; exact hcl
    · rw [exp_node σ g ps hg]
      simp only [cb]
      refine ⟨cbs_mem.mpr fun p hp => ?_, fun e => absurd e hg⟩
      rw [exps_map] at hp
      obtain ⟨q, hq, rfl⟩ := List.mem_map.mp hp
      exact ih q hq
theorem cbs_exp {σ : List (Atom × Tree)} {lb c : Nat} (h1 : 1 ≤ lb) (h2 : 1 ≤ c) (hσ : ∀ a t, σ.lookup a = some t → lw t ≤ lb) (hk : ∀ a t, σ.lookup a = some t → cb (c * lb) t) : ∀ (ts : List Tree), cbs c ts → ∀ p ∈ ts, cb (c * lb) (exp σ p)
  | [], _, _, h => nomatch h
  | t :: r, hc, p, h => by
    simp only [cbs] at hc
    rcases List.mem_cons.mp h with e | h
    · exact e ▸ cb_exp h1 h2 hσ hk t hc.1
    · exact cbs_exp h1 h2 hσ hk r hc.2 p h
end
mutual
theorem ok_exp {σ : List (Atom × Tree)} (hσ : ∀ a t, σ.lookup a = some t → t.ok) : ∀ t : Tree, t.ok → (exp σ t).ok
  | .leaf a, _ => by
    simp only [exp, app]
    cases hl : σ.lookup a with
    | none => simp [Tree.ok]
    | some t => exact hσ a t hl
  | .node g ps, h => by
    simp only [Tree.ok] at h
    have ih : ∀ p ∈ ps, (exp σ p).ok := fun p hp => oks_exp hσ ps h.2 p hp
    by_cases hg : g = .union
    · subst hg
      rw [exp_union]
      refine U_ind (P := Tree.ok) (flats_nu _) (by simp [Tree.ok]) (by simp [Tree.ok]) (fun x hx => ?_) fun K k1 k2 => ?_
      · obtain ⟨t, ht, hx⟩ := mem_flats hx
        rw [exps_map] at ht
        obtain ⟨p, hp, rfl⟩ := List.mem_map.mp ht
        exact ok_flat1 _ (ih p hp) x hx
      · simp only [Tree.ok]
        exact ⟨fun e => absurd rfl e, oks_all.mpr k1⟩
    · rw [exp_node σ g ps hg]
      simp only [Tree.ok]
      refine ⟨fun _ e => h.1 hg ?_, oks_all.mpr fun p hp => ?_⟩
      · rw [exps_map] at e; exact List.map_eq_nil_iff.mp e
      · rw [exps_map] at hp
        obtain ⟨q, hq, rfl⟩ := List.mem_map.mp hp
        exact ih q hq
theorem oks_exp {σ : List (Atom × Tree)} (hσ : ∀ a t, σ.lookup a = some t → t.ok) : ∀ (ts : List Tree), oks ts → ∀ p ∈ ts, (exp σ p).ok
  | [], _, _, h => nomatch h
  | t :: r, hc, p, h => by
    simp only [oks] at hc
    rcases List.mem_cons.mp h with e | h
    · exact e ▸ ok_exp hσ t hc.1
    · exact oks_exp hσ r hc.2 p h
end
/-- the law's loop over the items -/
theorem dd_snoc {ts : List Tree} {i : Nat} {t : Tree} (h : ts[i]? = some t) : dd [] (ts.take (i + 1)) = if cls t = 258 then dd [] (ts.take i) else if (dd [] (ts.take i)).any (fun e => teq e t) then dd [] (ts.take i) else dd [] (ts.take i) ++ [t] := by
  rw [List.take_add_one, h, Option.toList_some, dd_app, dd]
  rfl
/-- the union of what is kept -/
theorem U_kept (L : List Tree) (hL : ∀ x ∈ L, isU x = false) : U L = if (dd [] L).any isObj then .leaf .obj else match dd [] L with
    | [] => .leaf .nev
    | [t] => t
    | ts => .node .union ts := by
  cases ho : L.any isObj with
  | true =>
    have h : (dd [] L).any isObj = true := by
      obtain ⟨x, hx, e⟩ := List.any_eq_true.mp ho
      obtain ⟨y, hy, e2⟩ := dd_cover L [] x hx (by rw [obj_iff.mp e]; decide)
      exact List.any_eq_true.mpr ⟨y, hy, by rw [teq_obj e2]; exact e⟩
    rw [h, if_pos rfl, U, rt_obj ho]; rfl
  | false =>
    have h : (dd [] L).any isObj = false := by
      rw [List.any_eq_false]
      intro x hx
      rcases dd_mem L [] x hx with h | h
      · exact nomatch h
      · exact List.any_eq_false.mp ho x h.1
    have h6 := rt_nu hL
    rw [h, if_neg Bool.false_ne_true, U]
    rw [rt_dd ho] at h6 ⊢
    generalize dd [] L = K at *
    cases K with
    | nil => rfl
    | cons a r => cases r with
      | nil => rfl
      | cons b r => rw [if_neg (by simp)] at h6 ⊢; rw [mkU_two, flats_id h6]
end Mine
namespace Mine
local macro_rules | `(tactic| walk_at "idle") => `(tactic| fail "idle")
local macro_rules | `(tactic| walk_at "idle") => `(tactic| fail "idle")
local macro_rules | `(tactic| walk_at "idle") => `(tactic| fail "idle")
local macro_rules | `(tactic| walk_at "idle") => `(tactic| fail "idle")
local macro_rules | `(tactic| walk_at "idle") => `(tactic| fail "idle")
local macro_rules | `(tactic| walk_at "idle") => `(tactic| fail "idle")
local macro_rules | `(tactic| walk_at "idle") => `(tactic| fail "idle")
local macro_rules | `(tactic| walk_at "idle") => `(tactic| fail "idle")
local macro_rules | `(tactic| walk_at "idle") => `(tactic| fail "idle")
local macro_rules | `(tactic| walk_at "idle") => `(tactic| fail "idle")
local macro_rules | `(tactic| walk_at "idle") => `(tactic| fail "idle")
local macro_rules | `(tactic| walk_at "idle") => `(tactic| fail "idle")
local macro_rules | `(tactic| walk_at "idle") => `(tactic| fail "idle")
local macro_rules | `(tactic| walk_at "idle") => `(tactic| fail "idle")
local macro_rules | `(tactic| walk_at "idle") => `(tactic| fail "idle")
local macro_rules | `(tactic| walk_at "idle") => `(tactic| fail "idle")
local macro_rules | `(tactic| walk_at "idle") => `(tactic| fail "idle")
local macro_rules | `(tactic| walk_at "idle") => `(tactic| fail "idle")
theorem fresh45 : True := by
  w_top off
  trivial
local macro_rules | `(tactic| k_mem) => `(tactic| first | with_reducible assumption | with_reducible exact List.mem_cons_self .. | (with_reducible refine List.mem_cons_of_mem _ ?_; k_mem) | (with_reducible refine List.mem_append_left _ ?_; k_mem) | (with_reducible refine List.mem_append_right _ ?_; k_mem))
local macro_rules | `(tactic| k_room) => `(tactic| ((try simp only [depth_under_make, depth_under_kw, depth_in1, depth_deeper, depth_caller]); omega))
local macro_rules | `(tactic| k_units) => `(tactic| ((try simp only [units_under_make, units_in1, units_deeper, Around.mark_units, units_caller]); omega))
local macro_rules | `(tactic| k_all) => `(tactic| first | assumption | (refine List.forall_mem_append.mpr ⟨?_, ?_⟩ <;> k_all))
local macro_rules | `(tactic| k_enter) => `(tactic| (refine' code_def ?k1 ?k2 ?k3 ?k4 ?k5 ?kA ?kF ?kK ?k6 ?k7 ?k8 ?k9 ?kB ?_ ?c2 ?c3 ?c4 ?c5; (case kA => first | exact Around.frames_deeper (Below.stack (by assumption)) | assumption); (case kF => exact rfl); (case kK => exact rfl); (case k1 => k_asm); (case k2 => k_asm); (case k3 => k_asm); (case k4 => k_asm); (case k5 => k_asm); (case k6 => k_is); (case k7 => k_is); (case k8 => k_room); (case k9 => first | exact BindsTo.of_eq rfl | exact binds_K (by k_in) rfl (by k_is) rfl rfl rfl); (case c5 => decide); (case kB => exact locs rfl); (case c2 => exact rfl); (case c3 => exact rfl); (case c4 => exact rfl); k_whole; intro g' L' h' FG' F' N' B' X' T'; (try dsimp only); (try k_fold)))
local macro_rules | `(tactic| walk_at "call ref") => `(tactic| (k_here; (with_reducible show wpAny _ _ (call (Value.ref 603) _ _) _ _ _); refine wpAny_call ?_))
local macro_rules | `(tactic| walk_at "eval ListComp") => `(tactic| (k_here; refine hold ?_))
local macro_rules | `(tactic| walk_at "pyIter ref") => `(tactic| (k_here; refine hold ?_))
local macro_rules | `(tactic| walk_at "compareOp In str ref") => `(tactic| (k_here; refine hold ?_))
local macro_rules | `(tactic| walk_at "eval Name") => `(tactic| (k_here; first | (refine nameC_L (by assumption) (by assumption) ?_ (by rfl) (by rfl) (by decide)) | (k_dflt (refine' nameC_C ?k1 ?k2 ?k3 ?k4 ?_ (by rfl) (by rfl) (by decide); (case k1 => k_asm); (case k2 => exact rfl); (case k3 => k_mem); (case k4 => assumption)))))
/-- names of atoms -/
def NamesIn : List Atom → List Value → Prop
  | [], vs => vs = []
  | a :: r, vs => ∃ tk us, vs = .str a.nm tk :: us ∧ NamesIn r us
theorem NamesIn.app : ∀ {as bs : List Atom} {vs us : List Value}, NamesIn as vs → NamesIn bs us → NamesIn (as ++ bs) (vs ++ us)
  | [], _, _, _, h, k => by simp only [NamesIn] at h; subst h; exact k
  | a :: r, _, _, _, h, k => by
    simp only [NamesIn, List.cons_append] at h ⊢
    obtain ⟨tk, us, rfl, h2⟩ := h
    exact ⟨tk, _, rfl, NamesIn.app h2 k⟩
theorem NamesIn.len : ∀ {as : List Atom} {vs : List Value}, NamesIn as vs → vs.length = as.length
  | [], _, h => by simp only [NamesIn] at h; subst h; rfl
  | a :: r, _, h => by
    simp only [NamesIn] at h
    obtain ⟨tk, us, rfl, h2⟩ := h
    rw [List.length_cons, List.length_cons, h2.len]
theorem allLt_get {d : Nat} {l : List (Addr × Obj)} (h : AllLt d l) : ∀ q ∈ l, q.1 < d := by
  induction l with
  | nil => intro q hq; exact nomatch hq
  | cons p r ih =>
    intro q hq
    rcases List.mem_cons.mp hq with e | hq
    · rw [e]; exact h.1
    · exact ih h.2 q hq
theorem any_var (a : Atom) : ([Str.ofString "S", Str.ofString "T", Str.ofString "U"].any fun x => x == a.nm) = isVar a := by cases a <;> decide
theorem names_flat : ∀ {ts : List Tree} {pss : List (List Value)}, pss.length = ts.length → (∀ (j : Nat) (p : List Value), pss[j]? = some p → ∃ t, ts[j]? = some t ∧ NamesIn (tvars t) p) → NamesIn (tvarss ts) pss.flatten
  | [], pss, h, _ => by rw [List.length_eq_zero_iff.mp h]; simp [tvarss, NamesIn]
  | t :: r, [], h, _ => by simp at h
  | t :: r, p :: q, h, hj => by
    rw [tvarss, List.flatten_cons]
    obtain ⟨t', e1, e2⟩ := hj 0 p rfl
    simp at e1; subst e1
    exact e2.app (names_flat (by simpa using h) fun j p' hp => by
      obtain ⟨u, e3, e4⟩ := hj (j + 1) p' (by simpa using hp)
      exact ⟨u, by simpa using e3, e4⟩)
theorem found_con (w : World) (mean : ExcName → Option Value) (mg mb : Str → Option Value) : ∀ (n : Nat) (t : Tree), t.ht < n → t.sz ≤ 1000 → Con w mean mg mb 603 (n * 8) (n * 40)
    (fun news args => ∃ x, args = [x] ∧ TreeIn news t x)
    (fun news _ r => ∃ l vs k, r = .ref l ∧ (l, PySem.W.listOf vs.toArray k) ∈ news ∧ NamesIn (tvars t) vs) := by
  intro n
  induction n with
  | zero => intro t h; exact absurd h (Nat.not_lt_zero _)
  | succ n IH =>
  intro t ht hz
  unfold Con
  k_fill
  intro A A₀ env outer base h₀ L m news vis s args R B F X N T hA hf hk hh hg hd hu hvis hp hR
  obtain ⟨x, rfl, hx⟩ := hp
  cases t with
  | leaf a =>
    simp only [TreeIn] at hx
    obtain ⟨tk0, rfl⟩ := hx
    k_dflt (refine' code_def (K := Mine.hd.heap_39 w.params) (binds := [(Str.ofString "tree", .str a.nm tk0)]) B F X N T hA hf hk ?k6 ?k7 ?k8 ?k9 ?kB ?_ ?c2 ?c3 ?c4 ?c5; (case k6 => k_is); (case k7 => k_is); (case k9 => exact BindsTo.of_eq rfl); (case kB => exact locs rfl); (case c2 => exact rfl); (case c3 => exact rfl); (case c4 => exact rfl); (case c5 => decide); (case k8 => omega))
    intro g' L' h' FG' F' N' B' X' T'
    clear F N B X T
    try dsimp only
    k_fold
    k_steps
    rename News _ _ _ _ => N5
    refine in_tuple_strs (ys := [Str.ofString "S", Str.ofString "T", Str.ofString "U"]) (News.isTup N5 (List.mem_cons_self ..)) (by repeat constructor) ?_
    rw [any_var a]
    cases hv : isVar a with
    | true =>
      k_steps
      show LeaveK _ _ _ _ _ _ _
      rename_i D5 h5 F2 N2 l5
      refine con_leave hR F2 N2 [(D5, PySem.W.listOf #[Value.str a.nm tk0] 0)] (fun p hp => ?_) (Ord.cons (fun q hq => allLt_get l5.2 q (by k_mem)) Ord.nil) ⟨_, [.str a.nm tk0], 0, rfl, List.mem_append_right _ (List.mem_cons_self ..), ?_⟩
      · rcases List.mem_append.mp hp with h | h
        · k_mem
        · rw [List.mem_singleton.mp h]; exact List.mem_cons_self ..
      · rw [tvars, hv]; exact ⟨_, _, rfl, rfl⟩
    | false =>
      k_steps
      show LeaveK _ _ _ _ _ _ _
      rename_i D5 h5 F2 N2 l5
      refine con_leave hR F2 N2 [(D5, PySem.W.listOf #[] 0)] (fun p hp => ?_) (Ord.cons (fun q hq => allLt_get l5.2 q (by k_mem)) Ord.nil) ⟨_, [], 0, rfl, List.mem_append_right _ (List.mem_cons_self ..), ?_⟩
      · rcases List.mem_append.mp hp with h | h
        · k_mem
        · rw [List.mem_singleton.mp h]; exact List.mem_cons_self ..
      · rw [tvars, hv]; rfl
  | node g ps =>
    simp only [TreeIn] at hx
    obtain ⟨l, tk0, vs, k0, rfl, hl, hvs⟩ := hx
    have hl' := hvis _ hl
    have hbl := big_line
    have hlen := hvs.len
    have hls := len_szs ps
    simp only [Tree.ht, Tree.sz] at ht hz
    k_dflt (refine' code_def (K := Mine.hd.heap_39 w.params) (binds := [(Str.ofString "tree", .ref l)]) B F X N T hA hf hk ?k6 ?k7 ?k8 ?k9 ?kB ?_ ?c2 ?c3 ?c4 ?c5; (case k6 => k_is); (case k7 => k_is); (case k9 => exact BindsTo.of_eq rfl); (case kB => exact locs rfl); (case c2 => exact rfl); (case c3 => exact rfl); (case c4 => exact rfl); (case c5 => decide); (case k8 => omega))
    intro g' L' h' FG' F' N' B' X' T'
    clear F N B X T
    try dsimp only
    k_fold
    k_steps
    refine ListComp_led2 (hclos := by rfl) rfl (by decide) ?_
    k_steps
    k_dflt (refine' kms_slice_lit (its := ((Value.str g.nm tk0) :: vs).toArray) (zs := vs) (lo := some 1) (hi := none) ?zzF ?zzN ?zzl ?zzp ?zzq ?zze ?_ ?zzs ?zzt ?zzz; (case zzF => k_asm); (case zzN => k_asm); (case zzl => exact News.isList (by k_asm) hl'); (case zzp => kmk_part); (case zzq => kmk_part); (case zze => exact tail_pick _ _); (case zzs => with_unfolding_all rfl); (case zzt => kmk_pure); (case zzz => (rw [List.size_toArray, List.length_cons]; omega)))
    intro D6 h6 F6 N6 l6
    have hsl : vs.length * 1000 ≤ sizeLine := Nat.le_trans (Nat.mul_le_mul_right 1000 (show vs.length ≤ 1000 by omega)) (by rw [sizeLine_eq]; decide)
    refine comp_none2 (B := 1000) hh F6 N6 (SeqOf.src SeqOf.list N6 (List.mem_cons_self ..)) (fun _ i _ p => ∃ t, ps[i]? = some t ∧ NamesIn (tvars t) p ∧ p.length ≤ 1000) (fun _ _ _ _ _ _ h => h) (fun _ _ _ p h => let ⟨_, _, _, q⟩ := h; q) hsl rfl (by decide) (by intro _ _; rfl) (by decide) rfl rfl ?elt ?_
    case elt =>
      intro i v1 C1 mC tl own h tkx E' hv F N O hn hm hC
      obtain ⟨t, ht', htv⟩ := hvs.get hv
      have b1 := hts_get ht'
      have b2 := szs_get ht'
      k_steps
      k_dflt (refine' con_use (IH t (by omega) (by omega)) (vis) ?k1 ?k2 ?k3 ?k4 ?k5 ?kA ?kF ?kK ?kh ?kg ?kd ?ku ?kv ?pre ?_; (case k1 => k_asm); (case k2 => k_asm); (case k3 => k_asm); (case k4 => k_asm); (case k5 => k_asm); (case kA => first | exact Around.frames_deeper (Below.stack (by assumption)) | assumption); (case kF => exact rfl); (case kK => exact rfl); (case kh => first | exact hh | exact rfl | assumption); (case kg => first | exact hg | exact rfl | assumption); (case kd => ((try simp only [depth_under_make, depth_under_kw, depth_in1, depth_deeper, depth_caller]); omega)); (case ku => ((try simp only [units_under_make, units_in1, units_deeper, Around.mark_units, units_caller]); omega)))
      case kv => exact fun p hp => List.mem_append_right own (List.mem_append_left tl (List.mem_cons_of_mem _ (hvis _ hp)))
      case pre => exact ⟨_, rfl, htv⟩
      intro r tl9 h9 tk9 F9 N9 O9 P9
      obtain ⟨l2, us2, k2, rfl, hl2, hn2⟩ := P9
      have b3 := hn2.len
      have b4 := tvars_len t
      refine ⟨l2, us2, k2, tl9, h9, tk9, rfl, rfl, F9, N9, O9, ?_, t, ht', hn2, by omega⟩
      rcases List.mem_append.mp hl2 with h | h
      · exact List.mem_append_left _ (List.mem_append_left _ (List.mem_cons_of_mem _ (hvis _ h)))
      · exact List.mem_append_right _ h
    intro D nD h5 tk5 pss tl5 CD
    obtain ⟨F5, N5, O5, off5, P5, lv5, ly5, G5⟩ := CD
    k_steps
    show LeaveK _ _ _ _ _ _ _
    refine con_leave hR F5 N5 [(D, PySem.W.listOf pss.flatten.toArray nD)] (fun p hp => ?_) (Ord.cons (fun q hq => O5 q (List.mem_cons_of_mem _ hq) _ (List.mem_cons_self ..)) Ord.nil) ⟨D, pss.flatten, nD, rfl, List.mem_append_right _ (List.mem_cons_self ..), ?_⟩
    · rcases List.mem_append.mp hp with h | h
      · k_mem
      · rw [List.mem_singleton.mp h]; exact List.mem_cons_self ..
    · rw [tvars]
      refine names_flat (by rw [ly5, hlen]) fun j p hj => ?_
      have hjv : j < vs.length := by rw [← ly5]; exact (List.getElem?_eq_some_iff.mp hj).1
      obtain ⟨p', e1, t, e2, e3, _⟩ := G5 j _ (List.getElem?_eq_getElem hjv)
      rw [hj] at e1; cases e1
      exact ⟨t, e2, e3⟩
end Mine
namespace Mine
local macro_rules | `(tactic| walk_at "idle") => `(tactic| fail "idle")
local macro_rules | `(tactic| walk_at "idle") => `(tactic| fail "idle")
local macro_rules | `(tactic| walk_at "idle") => `(tactic| fail "idle")
local macro_rules | `(tactic| walk_at "idle") => `(tactic| fail "idle")
local macro_rules | `(tactic| walk_at "idle") => `(tactic| fail "idle")
local macro_rules | `(tactic| walk_at "idle") => `(tactic| fail "idle")
local macro_rules | `(tactic| walk_at "idle") => `(tactic| fail "idle")
local macro_rules | `(tactic| walk_at "idle") => `(tactic| fail "idle")
local macro_rules | `(tactic| walk_at "idle") => `(tactic| fail "idle")
local macro_rules | `(tactic| walk_at "idle") => `(tactic| fail "idle")
local macro_rules | `(tactic| walk_at "idle") => `(tactic| fail "idle")
local macro_rules | `(tactic| walk_at "idle") => `(tactic| fail "idle")
local macro_rules | `(tactic| walk_at "idle") => `(tactic| fail "idle")
local macro_rules | `(tactic| walk_at "idle") => `(tactic| fail "idle")
local macro_rules | `(tactic| walk_at "idle") => `(tactic| fail "idle")
local macro_rules | `(tactic| walk_at "idle") => `(tactic| fail "idle")
local macro_rules | `(tactic| walk_at "idle") => `(tactic| fail "idle")
local macro_rules | `(tactic| walk_at "idle") => `(tactic| fail "idle")
local macro_rules | `(tactic| walk_at "idle") => `(tactic| fail "idle")
theorem fresh46 : True := by
  w_top off
  trivial
local macro_rules | `(tactic| k_mem) => `(tactic| first | with_reducible assumption | with_reducible exact List.mem_cons_self .. | (with_reducible refine List.mem_cons_of_mem _ ?_; k_mem) | (with_reducible refine List.mem_append_left _ ?_; k_mem) | (with_reducible refine List.mem_append_right _ ?_; k_mem))
local macro_rules | `(tactic| k_room) => `(tactic| ((try simp only [depth_under_make, depth_under_kw, depth_in1, depth_deeper, depth_caller]); omega))
local macro_rules | `(tactic| k_units) => `(tactic| ((try simp only [units_under_make, units_in1, units_deeper, Around.mark_units, units_caller]); omega))
local macro_rules | `(tactic| k_all) => `(tactic| first | assumption | (refine List.forall_mem_append.mpr ⟨?_, ?_⟩ <;> k_all))
local macro_rules | `(tactic| k_enter) => `(tactic| (refine' code_def ?k1 ?k2 ?k3 ?k4 ?k5 ?kA ?kF ?kK ?k6 ?k7 ?k8 ?k9 ?kB ?_ ?c2 ?c3 ?c4 ?c5; (case kA => first | exact Around.frames_deeper (Below.stack (by assumption)) | assumption); (case kF => exact rfl); (case kK => exact rfl); (case k1 => k_asm); (case k2 => k_asm); (case k3 => k_asm); (case k4 => k_asm); (case k5 => k_asm); (case k6 => k_is); (case k7 => k_is); (case k8 => k_room); (case k9 => first | exact BindsTo.of_eq rfl | exact binds_K (by k_in) rfl (by k_is) rfl rfl rfl); (case c5 => decide); (case kB => exact locs rfl); (case c2 => exact rfl); (case c3 => exact rfl); (case c4 => exact rfl); k_whole; intro g' L' h' FG' F' N' B' X' T'; (try dsimp only); (try k_fold)))
local macro_rules | `(tactic| walk_at "call ref") => `(tactic| (k_here; (with_reducible show wpAny _ _ (call (Value.ref 578) _ _) _ _ _); refine wpAny_call ?_))
local macro_rules | `(tactic| walk_at "eval ListComp") => `(tactic| (k_here; refine hold ?_))
local macro_rules | `(tactic| walk_at "pyIter ref") => `(tactic| (k_here; refine hold ?_))
local macro_rules | `(tactic| walk_at "compareOp Eq str str") => `(tactic| (k_here; refine hold ?_))
local macro_rules | `(tactic| walk_at "eval Name") => `(tactic| (k_here; first | (refine nameC_L (by assumption) (by assumption) ?_ (by rfl) (by rfl) (by decide)) | (k_dflt (refine' nameC_C ?k1 ?k2 ?k3 ?k4 ?_ (by rfl) (by rfl) (by decide); (case k1 => k_asm); (case k2 => exact rfl); (case k3 => k_mem); (case k4 => assumption)))))
theorem trees_flat {news : Led} : ∀ {ts : List Tree} {pss : List (List Value)}, pss.length = ts.length → (∀ (j : Nat) (p : List Value), pss[j]? = some p → ∃ t, ts[j]? = some t ∧ TreesIn news (flat1 t) p) → TreesIn news (flats ts) pss.flatten
  | [], pss, h, _ => by rw [List.length_eq_zero_iff.mp h]; simp [flats, TreesIn]
  | t :: r, [], h, _ => by simp at h
  | t :: r, p :: q, h, hj => by
    rw [flats, List.flatten_cons]
    obtain ⟨t', e1, e2⟩ := hj 0 p rfl
    simp at e1; subst e1
    exact e2.app (trees_flat (by simpa using h) fun j p' hp => by
      obtain ⟨u, e3, e4⟩ := hj (j + 1) p' (by simpa using hp)
      exact ⟨u, by simpa using e3, e4⟩)
theorem holdPost {M : Model} {A : Around} {α : Type} {op : Sem α} {Q : α → Shared → Prop} {E : Value → Shared → Prop} {s : Shared} (h : wpAny M A op (fun r s => Hold (Q r s)) E s) : wpAny M A op Q E s := h
theorem unhold {p : Prop} (h : p) : Hold p := h
theorem flat_con (w : World) (mean : ExcName → Option Value) (mg mb : Str → Option Value) : ∀ (n : Nat) (ts : List Tree), hts ts < n → szs ts ≤ 1000 → Con w mean mg mb 578 (n * 8) (n * 40)
    (fun news args => ∃ l vs k, args = [.ref l] ∧ (l, PySem.W.listOf vs.toArray k) ∈ news ∧ TreesIn news ts vs)
    (fun news _ r => ∃ l vs k, r = .ref l ∧ (l, PySem.W.listOf vs.toArray k) ∈ news ∧ TreesIn news (flats ts) vs) := by
  intro n
  induction n with
  | zero => intro t h; exact absurd h (Nat.not_lt_zero _)
  | succ n IH =>
  intro ts ht hz
  unfold Con
  k_fill
  intro A A₀ env outer base h₀ L m news vis s args R B F X N T hA hf hk hh hg hd hu hvis hp hR
  obtain ⟨l, vs, k, rfl, hl, hvs⟩ := hp
  have hl' := hvis _ hl
  have hbl := big_line
  have hlen := hvs.len
  have hls := len_szs ts
  k_dflt (refine' code_def (K := Mine.hd.heap_39 w.params) (binds := [(Str.ofString "items", .ref l)]) B F X N T hA hf hk ?k6 ?k7 ?k8 ?k9 ?kB ?_ ?c2 ?c3 ?c4 ?c5; (case k6 => k_is); (case k7 => k_is); (case k9 => exact BindsTo.of_eq rfl); (case kB => exact locs rfl); (case c2 => exact rfl); (case c3 => exact rfl); (case c4 => exact rfl); (case c5 => decide); (case k8 => omega))
  intro g' L' h' FG' F' N' B' X' T'
  clear F N B X T
  try dsimp only
  k_fold
  k_steps
  refine ListComp_led2 (hclos := by rfl) rfl (by decide) ?_
  k_steps
  have hsl : vs.length * 1000 ≤ sizeLine := Nat.le_trans (Nat.mul_le_mul_right 1000 (show vs.length ≤ 1000 by omega)) (by rw [sizeLine_eq]; decide)
  refine comp_none2 (B := 1000) hh F' N' (SeqOf.src SeqOf.list N' hl') (fun led i _ p => ∃ t l2, ts[i]? = some t ∧ p.length ≤ 1000 ∧ TreesIn (vis ++ l2) (flat1 t) p ∧ ∀ q ∈ l2, q ∈ led ∧ ∀ r ∈ news, r.1 < q.1) (fun l l' i _ y hs h => ?_) (fun _ _ _ p h => let ⟨_, _, _, q, _⟩ := h; q) hsl rfl (by decide) (by intro _ _; rfl) (by decide) rfl rfl ?elt ?_
  · obtain ⟨t, l2, h1, h0, h2, h3⟩ := h; exact ⟨t, l2, h1, h0, h2, fun p hp => ⟨hs _ (h3 p hp).1, (h3 p hp).2⟩⟩
  case elt =>
    intro i v1 C1 mC tl own h tkx E' hv F N O hn hm hC
    obtain ⟨t, ht', htv⟩ := hvs.get hv
    have b1 := hts_get ht'
    have b2 := szs_get ht'
    refine holdPost ?_
    cases t with
    | leaf a =>
      simp only [TreeIn] at htv
      obtain ⟨tk0, rfl⟩ := htv
      k_steps
      rename_i D5 h5 F2 N2 l5
      refine unhold ⟨D5, [.str a.nm tk0], 0, [(D5, PySem.W.listOf #[Value.str a.nm tk0] 0)], h5, _, rfl, rfl, F2, fun p hp => N2 p ?_, Ord.cons l5 Ord.nil, List.mem_append_right _ (List.mem_cons_self ..), _, [], ht', by simp, ?_, fun q hq => nomatch hq⟩
      · rcases List.mem_append.mp hp with h | h
        · exact List.mem_cons_of_mem _ h
        · rw [List.mem_singleton.mp h]; exact List.mem_cons_self ..
      · rw [show flat1 (.leaf a) = [.leaf a] by simp [flat1], List.append_nil]; exact TreesIn.one (by simp only [TreeIn]; exact ⟨_, rfl⟩)
    | node g ps =>
      simp only [TreeIn] at htv
      obtain ⟨l1, tk0, vs1, k0, rfl, hl1, hvs1⟩ := htv
      have hl1' := hvis _ hl1
      have hlen1 := hvs1.len
      have hls1 := len_szs ps
      simp only [Tree.ht, Tree.sz] at b1 b2
      k_steps
      refine PyProof.Rows.item_list (items := (Value.str g.nm tk0 :: vs1).toArray) (x := .str g.nm tk0) (News.isList N (List.mem_append_right own (List.mem_append_left tl hl1'))) (by decide) (by decide) (by simp) ?_
      k_steps
      refine eq_str ?_
      rw [eq_union g]
      by_cases hg : g = .union
      · rw [decide_eq_true hg]
        k_steps
        k_dflt (refine' kms_slice_lit (its := ((Value.str g.nm tk0) :: vs1).toArray) (zs := vs1) (lo := some 1) (hi := none) ?zzF ?zzN ?zzl ?zzp ?zzq ?zze ?_ ?zzs ?zzt ?zzz; (case zzF => k_asm); (case zzN => k_asm); (case zzl => exact News.isList (by k_asm) (List.mem_append_right own (List.mem_append_left tl hl1'))); (case zzp => kmk_part); (case zzq => kmk_part); (case zze => exact tail_pick _ _); (case zzs => with_unfolding_all rfl); (case zzt => kmk_pure); (case zzz => (rw [List.size_toArray, List.length_cons]; omega)))
        intro D6 h6 F6 N6 l6
        k_steps
        subst hg
        k_dflt (refine' con_use (IH ps (by omega) (by omega)) (vis ++ [(D6, PySem.W.listOf vs1.toArray 0)]) ?k1 ?k2 ?k3 ?k4 ?k5 ?kA ?kF ?kK ?kh ?kg ?kd ?ku ?kv ?pre ?_; (case k1 => k_asm); (case k2 => k_asm); (case k3 => k_asm); (case k4 => k_asm); (case k5 => k_asm); (case kA => first | exact Around.frames_deeper (Below.stack (by assumption)) | assumption); (case kF => exact rfl); (case kK => exact rfl); (case kh => first | exact hh | exact rfl | assumption); (case kg => first | exact hg | exact rfl | assumption); (case kd => ((try simp only [depth_under_make, depth_under_kw, depth_in1, depth_deeper, depth_caller]); omega)); (case ku => ((try simp only [units_under_make, units_in1, units_deeper, Around.mark_units, units_caller]); omega)))
        case kv =>
          intro p hp
          rcases List.mem_append.mp hp with h | h
          · exact List.mem_cons_of_mem _ (List.mem_append_right own (List.mem_append_left tl (hvis _ h)))
          · rw [List.mem_singleton.mp h]; exact List.mem_cons_self ..
        case pre => exact ⟨D6, vs1, 0, rfl, List.mem_append_right _ (List.mem_cons_self ..), hvs1.mono fun p hp => List.mem_append_left _ hp⟩
        intro r tl9 h9 tk9 F9 N9 O9 P9
        obtain ⟨l2, us2, k2, rfl, hl2, hn2⟩ := P9
        have b3 := hn2.len
        have b4 := flats_len ps
        refine unhold ⟨l2, us2, k2, (D6, PySem.W.listOf vs1.toArray 0) :: tl9, h9, tk9, rfl, rfl, F9, fun p hp => N9 p ?_, Ord.cons l6 (O9.sub fun q hq => List.mem_cons_of_mem _ hq), ?_, _, (D6, PySem.W.listOf vs1.toArray 0) :: tl9, ht', by omega, ?_, fun q hq => ⟨List.mem_append_right _ hq, ?_⟩⟩
        · simp only [List.mem_append, List.mem_cons] at hp ⊢
          rcases hp with h | h | h <;> simp [h]
        · simp only [List.mem_append, List.mem_cons, List.not_mem_nil, or_false] at hl2 ⊢
          rcases hl2 with (h | h) | h
          · exact Or.inl (Or.inl (hvis _ h))
          · exact Or.inr (Or.inl h)
          · exact Or.inr (Or.inr h)
        · rw [flat1]; exact hn2.mono fun p hp => by
            simp only [List.mem_append, List.mem_cons, List.not_mem_nil, or_false] at hp ⊢
            rcases hp with (h | h) | h <;> simp [h]
        · intro r hr
          rcases List.mem_cons.mp hq with rfl | hq
          · exact l6 r (List.mem_append_right _ (List.mem_append_left _ hr))
          · exact O9 r (List.mem_cons_of_mem _ (List.mem_append_right _ (List.mem_append_left _ hr))) q hq
      · rw [decide_eq_false hg]
        k_steps
        rename_i D5 h5 F2 N2 l5
        refine unhold ⟨D5, [.ref l1], 0, [(D5, PySem.W.listOf #[Value.ref l1] 0)], h5, _, rfl, rfl, F2, fun p hp => N2 p ?_, Ord.cons l5 Ord.nil, List.mem_append_right _ (List.mem_cons_self ..), _, [], ht', by simp, ?_, fun q hq => nomatch hq⟩
        · rcases List.mem_append.mp hp with h | h
          · exact List.mem_cons_of_mem _ h
          · rw [List.mem_singleton.mp h]; exact List.mem_cons_self ..
        · have e : flat1 (.node g ps) = [.node g ps] := by cases g <;> first | exact absurd rfl hg | simp [flat1]
          rw [e, List.append_nil]; exact TreesIn.one (by simp only [TreeIn]; exact ⟨_, _, _, _, rfl, hl1, hvs1⟩)
  intro D nD h5 tk5 pss tl5 CD
  obtain ⟨F5, N5, O5, off5, P5, lv5, ly5, G5⟩ := CD
  k_steps
  show LeaveK _ _ _ _ _ _ _
  refine con_leave hR F5 N5 ((D, PySem.W.listOf pss.flatten.toArray nD) :: tl5) (fun p hp => ?_) O5 ⟨D, pss.flatten, nD, rfl, List.mem_append_right _ (List.mem_cons_self ..), ?_⟩
  · rcases List.mem_append.mp hp with h | h
    · exact List.mem_cons_of_mem _ (List.mem_append_left _ h)
    · rcases List.mem_cons.mp h with h | h
      · rw [h]; exact List.mem_cons_self ..
      · exact List.mem_cons_of_mem _ (List.mem_append_right _ h)
  · refine trees_flat (by rw [ly5, hlen]) fun j p hj => ?_
    have hjv : j < vs.length := by rw [← ly5]; exact (List.getElem?_eq_some_iff.mp hj).1
    obtain ⟨p', e1, t, l2, e2, e3, e4, e5⟩ := G5 j _ (List.getElem?_eq_getElem hjv)
    rw [hj] at e1; cases e1
    refine ⟨t, e2, e4.mono fun q hq => ?_⟩
    rcases List.mem_append.mp hq with h | h
    · exact List.mem_append_left _ h
    · obtain ⟨h1, h2⟩ := e5 q h
      rcases List.mem_append.mp h1 with h3 | h3
      · exact absurd (h2 q h3) (Nat.lt_irrefl _)
      · exact List.mem_append_right _ (List.mem_cons_of_mem _ h3)
end Mine
namespace Mine
local macro_rules | `(tactic| walk_at "idle") => `(tactic| fail "idle")
local macro_rules | `(tactic| walk_at "idle") => `(tactic| fail "idle")
local macro_rules | `(tactic| walk_at "idle") => `(tactic| fail "idle")
local macro_rules | `(tactic| walk_at "idle") => `(tactic| fail "idle")
local macro_rules | `(tactic| walk_at "idle") => `(tactic| fail "idle")
local macro_rules | `(tactic| walk_at "idle") => `(tactic| fail "idle")
local macro_rules | `(tactic| walk_at "idle") => `(tactic| fail "idle")
local macro_rules | `(tactic| walk_at "idle") => `(tactic| fail "idle")
local macro_rules | `(tactic| walk_at "idle") => `(tactic| fail "idle")
local macro_rules | `(tactic| walk_at "idle") => `(tactic| fail "idle")
local macro_rules | `(tactic| walk_at "idle") => `(tactic| fail "idle")
local macro_rules | `(tactic| walk_at "idle") => `(tactic| fail "idle")
local macro_rules | `(tactic| walk_at "idle") => `(tactic| fail "idle")
local macro_rules | `(tactic| walk_at "idle") => `(tactic| fail "idle")
local macro_rules | `(tactic| walk_at "idle") => `(tactic| fail "idle")
local macro_rules | `(tactic| walk_at "idle") => `(tactic| fail "idle")
local macro_rules | `(tactic| walk_at "idle") => `(tactic| fail "idle")
local macro_rules | `(tactic| walk_at "idle") => `(tactic| fail "idle")
theorem fresh47 : True := by
  w_top off
  trivial
local macro_rules | `(tactic| k_mem) => `(tactic| first | with_reducible assumption | with_reducible exact List.mem_cons_self .. | (with_reducible refine List.mem_cons_of_mem _ ?_; k_mem) | (with_reducible refine List.mem_append_left _ ?_; k_mem) | (with_reducible refine List.mem_append_right _ ?_; k_mem))
local macro_rules | `(tactic| k_room) => `(tactic| ((try simp only [depth_under_make, depth_under_kw, depth_in1, depth_deeper, depth_caller]); omega))
local macro_rules | `(tactic| k_units) => `(tactic| ((try simp only [units_under_make, units_in1, units_deeper, Around.mark_units, units_caller]); omega))
local macro_rules | `(tactic| k_all) => `(tactic| first | assumption | (refine List.forall_mem_append.mpr ⟨?_, ?_⟩ <;> k_all))
local macro_rules | `(tactic| k_enter) => `(tactic| (refine' code_def ?k1 ?k2 ?k3 ?k4 ?k5 ?kA ?kF ?kK ?k6 ?k7 ?k8 ?k9 ?kB ?_ ?c2 ?c3 ?c4 ?c5; (case kA => first | exact Around.frames_deeper (Below.stack (by assumption)) | assumption); (case kF => exact rfl); (case kK => exact rfl); (case k1 => k_asm); (case k2 => k_asm); (case k3 => k_asm); (case k4 => k_asm); (case k5 => k_asm); (case k6 => k_is); (case k7 => k_is); (case k8 => k_room); (case k9 => first | exact BindsTo.of_eq rfl | exact binds_K (by k_in) rfl (by k_is) rfl rfl rfl); (case c5 => decide); (case kB => exact locs rfl); (case c2 => exact rfl); (case c3 => exact rfl); (case c4 => exact rfl); k_whole; intro g' L' h' FG' F' N' B' X' T'; (try dsimp only); (try k_fold)))
local macro_rules | `(tactic| walk_at "call ref") => `(tactic| (k_here; (with_reducible show wpAny _ _ (call (Value.ref 583) _ _) _ _ _); refine wpAny_call ?_))
local macro_rules | `(tactic| walk_at "eval ListComp") => `(tactic| (k_here; refine hold ?_))
local macro_rules | `(tactic| walk_at "exec Assign cons ListComp") => `(tactic| (k_here; refine hold ?_))
local macro_rules | `(tactic| walk_at "pyIter ref") => `(tactic| (k_here; refine hold ?_))
local macro_rules | `(tactic| walk_at "compareOp Eq str str") => `(tactic| (k_here; refine hold ?_))
local macro_rules | `(tactic| walk_at "binaryOp Add ref ref") => `(tactic| (k_here; refine hold ?_))
local macro_rules | `(tactic| walk_at "eval Name") => `(tactic| (k_here; first | (refine nameC_L (by assumption) (by assumption) ?_ (by rfl) (by rfl) (by decide)) | (k_dflt (refine' nameC_C ?k1 ?k2 ?k3 ?k4 ?_ (by rfl) (by rfl) (by decide); (case k1 => k_asm); (case k2 => exact rfl); (case k3 => k_mem); (case k4 => assumption)))))
theorem lws_get {ts : List Tree} {i : Nat} {t : Tree} (h : ts[i]? = some t) : lw t ≤ lws ts := by
  induction ts generalizing i with
  | nil => simp at h
  | cons u r ih =>
    simp only [lws]
    cases i with
    | zero => simp at h; subst h; omega
    | succ i => have := ih (i := i) (by simpa using h); omega
theorem keys_of : ∀ {ps : List Tree} {ys : List Value}, ys.length = ps.length → (∀ (j : Nat) (y : Value), ys[j]? = some y → ∃ t k tk, ps[j]? = some t ∧ y = .str k tk ∧ KyOf t k) → ∃ ks, KysOf ps ks ∧ StrsAre ys ks
  | [], ys, h, _ => by rw [List.length_eq_zero_iff.mp h]; exact ⟨[], by simp only [KysOf], .nil⟩
  | t :: r, [], h, _ => by simp at h
  | t :: r, y :: ys, h, hj => by
    obtain ⟨t', k, tk, e1, e2, e3⟩ := hj 0 y rfl
    simp at e1; subst e1; subst e2
    obtain ⟨ks, a, b⟩ := keys_of (ps := r) (ys := ys) (by simpa using h) fun j y hy => hj (j + 1) y (by simpa using hy)
    exact ⟨k :: ks, by simp only [KysOf]; exact ⟨k, ks, rfl, e3, a⟩, .cons k tk b⟩
theorem shown_strs : ∀ ss : List Str, PyData.shownAll (ss.map .str) = ss.map reprText
  | [] => rfl
  | s :: r => by rw [List.map_cons, List.map_cons, PyData.shownAll, shown_strs r]; rfl
theorem showable_strs : ∀ ss : List Str, PyData.showableAll (ss.map .str) = true
  | [] => rfl
  | s :: r => by rw [List.map_cons, PyData.showableAll, showable_strs r]; rfl
theorem reads_strs {h : Heap} : ∀ {vs : List Value} {ss : List Str}, StrsAre vs ss → ReadsAll h vs (ss.map .str) []
  | _, _, .nil => .nil
  | _, _, .cons x t r => ReadsAll.cons (as := []) (bs := []) (.str x t) (reads_strs r)
theorem depth_strs : ∀ ss : List Str, PyData.depthAll (ss.map .str) ≤ 1
  | [] => by decide
  | s :: r => by
    have := depth_strs r
    simp only [List.map_cons, PyData.depthAll, PyData.depth]; omega
theorem hasDict_strs : ∀ ss : List Str, PyData.hasDictAll (ss.map .str) = false
  | [] => rfl
  | s :: r => by rw [List.map_cons, PyData.hasDictAll, hasDict_strs r]; rfl
theorem str_list {prog : Program} {w : World} {A : Around} {E : Value → Shared → Prop} {s : Shared} {h₀ : Heap} {L a : Addr} {m : Str → Option Value} {news : List (Addr × Obj)} {vs : List Value} {ss : List Str} {k : Nat} {Q : Value → Shared → Prop} (F : Fr h₀ L s.heap m) (N : News h₀ L s.heap news) (ha : (a, PySem.W.listOf vs.toArray k) ∈ news) (hS : StrsAre vs ss)
    (hg : A.guards = some []) (hu : A.units + 20 < cLine) (hz : (listText (ss.map reprText)).length ≤ sizeLine)
    (h : ∀ h' u tk, Fr h₀ L h' m → News h₀ L h' news → Q (.str (listText (ss.map reprText)) u) { s with heap := h', toks := tk }) : wpAny (model prog w) A (call (.type "str") [.ref a]) Q E s := by
  have e : PyData.shown (.list (ss.map .str)) = listText (ss.map reprText) := by rw [PyData.shown, shown_strs]
  refine str_HN F N (d := .list (ss.map .str)) (Reads.list (N _ ha).1 rfl rfl (by simpa using reads_strs hS)) ?_ ?_ hg ?_ (fun h' u tk F' N' => by rw [e]; exact h h' u tk F' N') (by rw [e]; exact hz)
  · rw [PyData.hasDict, hasDict_strs]
  · rw [PyData.showable, showable_strs]
  · rw [PyData.depth]; have := depth_strs ss; omega
theorem strs_same : ∀ {ys zs : List Value} {ks : List Str}, StrsAre ys ks → zs.length = ys.length → (∀ (j : Nat) (v : Value), ys[j]? = some v → ∃ y, zs[j]? = some y ∧ ∃ k tk tk', v = .str k tk ∧ y = .str k tk') → StrsAre zs ks
  | _, zs, _, .nil, h, _ => by rw [List.length_eq_zero_iff.mp h]; exact .nil
  | _, [], _, .cons _ _ _, h, _ => by simp at h
  | _, z :: zs, _, .cons x t r, h, hj => by
    obtain ⟨y, e1, k, tk, tk', e2, e3⟩ := hj 0 _ rfl
    simp at e1; subst e1; cases e2; subst e3
    exact .cons _ _ (strs_same r (by simpa using h) fun j v hv => hj (j + 1) v (by simpa using hv))
theorem key_con (w : World) (mean : ExcName → Option Value) (mg mb : Str → Option Value) : ∀ (n : Nat) (t : Tree), t.ht < n → t.ht ≤ 10 → lw t ≤ 63 → Con w mean mg mb 583 (n * 8) (n * 40)
    (fun news args => ∃ x, args = [x] ∧ TreeIn news t x)
    (fun news _ r => ∃ k tk, r = .str k tk ∧ KyOf t k) := by
  intro n
  induction n with
  | zero => intro t h; exact absurd h (Nat.not_lt_zero _)
  | succ n IH =>
  intro t ht h10 hz
  unfold Con
  k_fill
  intro A A₀ env outer base h₀ L m news vis s args R B F X N T hA hf hk hh hg hd hu hvis hp hR
  obtain ⟨x, rfl, hx⟩ := hp
  cases t with
  | leaf a =>
    simp only [TreeIn] at hx
    obtain ⟨tk0, rfl⟩ := hx
    k_dflt (refine' code_def (K := Mine.hd.heap_39 w.params) (binds := [(Str.ofString "tree", .str a.nm tk0)]) B F X N T hA hf hk ?k6 ?k7 ?k8 ?k9 ?kB ?_ ?c2 ?c3 ?c4 ?c5; (case k6 => k_is); (case k7 => k_is); (case k9 => exact BindsTo.of_eq rfl); (case kB => exact locs rfl); (case c2 => exact rfl); (case c3 => exact rfl); (case c4 => exact rfl); (case c5 => decide); (case k8 => omega))
    intro g' L' h' FG' F' N' B' X' T'
    clear F N B X T
    try dsimp only
    k_fold
    k_steps
    show LeaveK _ _ _ _ _ _ _
    refine con_leave hR F' N' [] (fun p hp => by rw [List.append_nil] at hp; exact hp) Ord.nil ⟨_, _, rfl, ?_⟩
    simp only [KyOf]
  | node g ps =>
    simp only [TreeIn] at hx
    obtain ⟨l, tk0, vs, k0, rfl, hl, hvs⟩ := hx
    have hl' := hvis _ hl
    have hbl := big_line
    have hlen := hvs.len
    have hls := len_lws ps
    have hlw : lws ps ≤ 63 := by simp only [lw] at hz; omega
    simp only [Tree.ht] at ht h10
    k_dflt (refine' code_def (K := Mine.hd.heap_39 w.params) (binds := [(Str.ofString "tree", .ref l)]) B F X N T hA hf hk ?k6 ?k7 ?k8 ?k9 ?kB ?_ ?c2 ?c3 ?c4 ?c5; (case k6 => k_is); (case k7 => k_is); (case k9 => exact BindsTo.of_eq rfl); (case kB => exact locs rfl); (case c2 => exact rfl); (case c3 => exact rfl); (case c4 => exact rfl); (case c5 => decide); (case k8 => omega))
    intro g' L' h' FG' F' N' B' X' T'
    clear F N B X T
    try dsimp only
    k_fold
    k_steps
    refine AssignComp_led (hsw := by with_unfolding_all rfl) (hclos := by rfl) rfl (by decide) ?_
    k_steps
    k_dflt (refine' kms_slice_lit (its := ((Value.str g.nm tk0) :: vs).toArray) (zs := vs) (lo := some 1) (hi := none) ?zzF ?zzN ?zzl ?zzp ?zzq ?zze ?_ ?zzs ?zzt ?zzz; (case zzF => k_asm); (case zzN => k_asm); (case zzl => exact News.isList (by k_asm) hl'); (case zzp => kmk_part); (case zzq => kmk_part); (case zze => exact tail_pick _ _); (case zzs => with_unfolding_all rfl); (case zzt => kmk_pure); (case zzz => (rw [List.size_toArray, List.length_cons]; omega)))
    intro D6 h6 F6 N6 l6
    refine comp_some hh F6 N6 (SeqOf.src SeqOf.list N6 (List.mem_cons_self ..)) (fun led i _ y => ∃ t k tk, ps[i]? = some t ∧ y = .str k tk ∧ KyOf t k) (fun l l' i _ y hs h => h) (by omega) (by decide) rfl rfl rfl rfl ?elt ?_
    case elt =>
      intro i v1 C1 mC tl own h tkx E' hv F N O hn hm hC
      obtain ⟨t, ht', htv⟩ := hvs.get hv
      have b1 := hts_get ht'
      have b2 := lws_get ht'
      k_steps
      k_dflt (refine' con_use (IH t (by omega) (by omega) (by omega)) (vis) ?k1 ?k2 ?k3 ?k4 ?k5 ?kA ?kF ?kK ?kh ?kg ?kd ?ku ?kv ?pre ?_; (case k1 => k_asm); (case k2 => k_asm); (case k3 => k_asm); (case k4 => k_asm); (case k5 => k_asm); (case kA => first | exact Around.frames_deeper (Below.stack (by assumption)) | assumption); (case kF => exact rfl); (case kK => exact rfl); (case kh => first | exact hh | exact rfl | assumption); (case kg => first | exact hg | exact rfl | assumption); (case kd => ((try simp only [depth_under_make, depth_under_kw, depth_in1, depth_deeper, depth_caller]); omega)); (case ku => ((try simp only [units_under_make, units_in1, units_deeper, Around.mark_units, units_caller]); omega)))
      case kv => exact fun p hp => List.mem_append_right own (List.mem_append_left tl (List.mem_cons_of_mem _ (hvis _ hp)))
      case pre => exact ⟨_, rfl, htv⟩
      intro r tl9 h9 tk9 F9 N9 O9 P9
      obtain ⟨k2, tk2, rfl, P9⟩ := P9
      exact ⟨tl9, h9, tk9, rfl, F9, N9, O9, t, k2, tk2, ht', rfl, P9⟩
    intro D nD h5 tk5 ys tl5 CD
    obtain ⟨F5, N5, O5, off5, P5, lv5, ly5, G5⟩ := CD
    obtain ⟨ks, hk1, hk2⟩ := keys_of (ps := ps) (ys := ys) (by rw [ly5, hlen]) fun j y hj => by
      have hjv : j < vs.length := by rw [← ly5]; exact (List.getElem?_eq_some_iff.mp hj).1
      obtain ⟨y', e1, t, k2, tk2, e2, e3, e4⟩ := G5 j _ (List.getElem?_eq_getElem hjv)
      rw [hj] at e1; cases e1
      exact ⟨t, k2, tk2, e2, e3, e4⟩
    clear F' N' F6 N6
    have hl5 : (l, PySem.W.listOf (Value.str g.nm tk0 :: vs).toArray k0) ∈ (D, PySem.W.listOf ys.toArray nD) :: ((D6, PySem.W.listOf vs.toArray 0) :: news ++ tl5) := by k_mem
    k_steps
    refine PyProof.Rows.item_list (items := (Value.str g.nm tk0 :: vs).toArray) (x := .str g.nm tk0) (News.isList N5 hl5) (by decide) (by decide) (by simp) ?_
    k_steps
    rename_i D7 h7 F7 N7 l7
    refine PyProof.Rows.item_list (items := (Value.str g.nm tk0 :: vs).toArray) (x := .str g.nm tk0) (News.isList N7 (List.mem_cons_of_mem _ hl5)) (by decide) (by decide) (by simp) ?_
    k_steps
    refine eq_str ?_
    rw [eq_union g]
    by_cases hgu : g = .union
    · rw [decide_eq_true hgu]
      k_steps
      have hyl := hk1.len
      have hyl2 : ys.length = ps.length := by rw [ly5, hlen]
      refine ListComp_led (hclos := by rfl) rfl (by decide) ?_
      k_steps
      refine comp_none hh F7 N7 (SeqOf.src SeqOf.list N7 (by k_mem)) (fun led i v y => ∃ k tk tk', v = .str k tk ∧ y = .str k tk') (fun l l' i _ y hs h => h) (by omega) (by decide) rfl rfl ?elt2 ?_
      case elt2 =>
        intro i v1 C1 mC tl own h tkx E' hv F N O hn hm hC
        obtain ⟨x1, t1, rfl⟩ := hk2.all v1 (List.mem_of_getElem? hv)
        refine holdPost ?_
        k_steps
        exact unhold ⟨[], h, tkx, rfl, F, by rw [List.append_nil]; exact N, Ord.nil, x1, t1, t1, rfl, rfl⟩
      intro D8 nD8 h8 tk8 zs tl8 CD8
      obtain ⟨F8, N8, O8, off8, P8, lv8, ly8, G8⟩ := CD8
      have hzs : StrsAre zs ks := strs_same hk2 ly8 fun j v hj => G8 j v hj
      k_steps
      refine sorted_N_str F8 N8 (News.isList N8 (List.mem_cons_self ..)) hzs (by omega) ?_
      intro h10 vs' ss' e F10 N10 hS' hpm hst
      k_steps
      refine add_list F10 N10 (vs := [Value.str g.nm tk0]) (us := vs') (k := 0) (k2 := e) (by k_mem) (List.mem_cons_self ..) (by have := hS'.strs; have h3 := congrArg List.length this; have h4 := hpm.length_eq; have h5 := hzs.strs; have h6 := congrArg List.length h5; simp only [List.length_map] at h3 h6; simp only [List.length_cons, List.length_nil]; omega) ?_
      intro D9 h9 F9 N9 l9
      k_steps
      have hK : KyOf (.node g ps) (listText ((g.nm :: ss').map reprText)) := by
        simp only [KyOf]; exact ⟨ks, ss', hk1, fun e => absurd hgu e, fun _ => ⟨hpm, hst⟩, rfl⟩
      have hzz := Nat.le_trans (Nat.le_add_right _ _) (ky_len hK 11 (by simp only [Tree.ht]; omega))
      refine str_list (vs := Value.str g.nm tk0 :: vs') (ss := g.nm :: ss') F9 N9 (List.mem_cons_self ..) (.cons _ _ hS') hg (by ((try simp only [units_under_make, units_in1, units_deeper, Around.mark_units, units_caller]); omega)) (Nat.le_trans hzz (by rw [sizeLine_eq]; omega)) ?_
      intro h8 u8 tk8 F8 N8
      show LeaveK _ _ _ _ _ _ _
      refine con_leave hR F8 N8 [] (fun p hp => by rw [List.append_nil] at hp; k_mem) Ord.nil ⟨_, _, rfl, hK⟩
    · rw [decide_eq_false hgu]
      k_steps
      have hyl := hk1.len
      have hyl2 : ys.length = ps.length := by rw [ly5, hlen]
      refine add_list F7 N7 (vs := [Value.str g.nm tk0]) (us := ys) (k := 0) (k2 := nD) (by k_mem) (by k_mem) (by simp only [List.length_cons, List.length_nil]; omega) ?_
      intro D9 h9 F9 N9 l9
      k_steps
      have hK : KyOf (.node g ps) (listText ((g.nm :: ks).map reprText)) := by
        simp only [KyOf]; exact ⟨ks, ks, hk1, fun _ => rfl, fun e => absurd e hgu, rfl⟩
      have hzz := Nat.le_trans (Nat.le_add_right _ _) (ky_len hK 11 (by simp only [Tree.ht]; omega))
      refine str_list (vs := Value.str g.nm tk0 :: ys) (ss := g.nm :: ks) F9 N9 (List.mem_cons_self ..) (.cons _ _ hk2) hg (by ((try simp only [units_under_make, units_in1, units_deeper, Around.mark_units, units_caller]); omega)) (Nat.le_trans hzz (by rw [sizeLine_eq]; omega)) ?_
      intro h8 u8 tk8 F8 N8
      show LeaveK _ _ _ _ _ _ _
      refine con_leave hR F8 N8 [] (fun p hp => by rw [List.append_nil] at hp; k_mem) Ord.nil ⟨_, _, rfl, hK⟩
end Mine
namespace Mine
local macro_rules | `(tactic| k_mem) => `(tactic| first | with_reducible assumption | with_reducible exact List.mem_cons_self .. | (with_reducible refine List.mem_cons_of_mem _ ?_; k_mem) | (with_reducible refine List.mem_append_left _ ?_; k_mem) | (with_reducible refine List.mem_append_right _ ?_; k_mem))
local macro_rules | `(tactic| k_room) => `(tactic| ((try simp only [depth_under_make, depth_under_kw, depth_in1, depth_deeper, depth_caller]); omega))
local macro_rules | `(tactic| k_units) => `(tactic| ((try simp only [units_under_make, units_in1, units_deeper, Around.mark_units, units_caller]); omega))
local macro_rules | `(tactic| k_all) => `(tactic| first | assumption | (refine List.forall_mem_append.mpr ⟨?_, ?_⟩ <;> k_all))
local macro_rules | `(tactic| k_enter) => `(tactic| (refine' code_def ?k1 ?k2 ?k3 ?k4 ?k5 ?kA ?kF ?kK ?k6 ?k7 ?k8 ?k9 ?kB ?_ ?c2 ?c3 ?c4 ?c5; (case kA => first | exact Around.frames_deeper (Below.stack (by assumption)) | assumption); (case kF => exact rfl); (case kK => exact rfl); (case k1 => k_asm); (case k2 => k_asm); (case k3 => k_asm); (case k4 => k_asm); (case k5 => k_asm); (case k6 => k_is); (case k7 => k_is); (case k8 => k_room); (case k9 => first | exact BindsTo.of_eq rfl | exact binds_K (by k_in) rfl (by k_is) rfl rfl rfl); (case c5 => decide); (case kB => exact locs rfl); (case c2 => exact rfl); (case c3 => exact rfl); (case c4 => exact rfl); k_whole; intro g' L' h' FG' F' N' B' X' T'; (try dsimp only); (try k_fold)))
local macro_rules | `(tactic| walk_at "call ref") => `(tactic| (k_here; (with_reducible show wpAny _ _ (call (Value.ref 588) _ _) _ _ _); refine wpAny_call ?_))
local macro_rules | `(tactic| walk_at "call ref") => `(tactic| (k_here; (with_reducible show wpAny _ _ (call (Value.ref 583) _ _) _ _ _); refine wpAny_call ?_))
local macro_rules | `(tactic| walk_at "call ref") => `(tactic| (k_here; (with_reducible show wpAny _ _ (call (Value.ref 578) _ _) _ _ _); refine wpAny_call ?_))
local macro_rules | `(tactic| walk_at "eval ListComp") => `(tactic| (k_here; refine hold ?_))
local macro_rules | `(tactic| walk_at "exec Assign cons ListComp") => `(tactic| (k_here; refine hold ?_))
local macro_rules | `(tactic| walk_at "pyIter ref") => `(tactic| (k_here; refine hold ?_))
local macro_rules | `(tactic| walk_at "compareOp Eq str str") => `(tactic| (k_here; refine hold ?_))
local macro_rules | `(tactic| walk_at "compareOp NotEq str str") => `(tactic| (k_here; refine hold ?_))
local macro_rules | `(tactic| walk_at "compareOp NotEq ref ref") => `(tactic| (k_here; refine hold ?_))
local macro_rules | `(tactic| walk_at "compareOp NotEq ref str") => `(tactic| (k_here; refine hold ?_))
local macro_rules | `(tactic| walk_at "compareOp In str ref") => `(tactic| (k_here; refine hold ?_))
local macro_rules | `(tactic| walk_at "compareOp NotIn str ref") => `(tactic| (k_here; refine hold ?_))
local macro_rules | `(tactic| walk_at "binaryOp Add ref ref") => `(tactic| (k_here; refine hold ?_))
local macro_rules | `(tactic| walk_at "eval Name") => `(tactic| (k_here; first | (refine nameC_L (by assumption) (by assumption) ?_ (by rfl) (by rfl) (by decide)) | (k_dflt (refine' nameC_C ?k1 ?k2 ?k3 ?k4 ?_ (by rfl) (by rfl) (by decide); (case k1 => k_asm); (case k2 => exact rfl); (case k3 => k_mem); (case k4 => assumption)))))
/-- a table of the law: names to trees -/
def TblIn (w : World) (news : Led) (σ : List (Atom × Tree)) (td : Addr) : Prop :=
  ∃ o kvs, (td, o) ∈ news ∧ o.IsDictOf (PySem.strKind PySem.Challenge.rw_ft0017_01.row.prog w) kvs ∧ (td == sysModules) = false ∧
    ∀ a : Atom, match σ.lookup a with
      | some t => ∃ v, valueAt kvs a.nm = some v ∧ TreeIn news t v
      | none => valueAt kvs a.nm = none
theorem TblIn.mono {w : World} {news news' : Led} {σ : List (Atom × Tree)} {td : Addr} (hs : ∀ p ∈ news, p ∈ news') (h : TblIn w news σ td) : TblIn w news' σ td := by
  obtain ⟨o, kvs, a, b, c, d⟩ := h
  refine ⟨o, kvs, hs _ a, b, c, fun a => ?_⟩
  have := d a
  cases hl : σ.lookup a with
  | none => rw [hl] at this; exact this
  | some t => rw [hl] at this; obtain ⟨v, h1, h2⟩ := this; exact ⟨v, h1, h2.mono hs⟩
mutual
/-- a tree as data -/
def dat : Tree → PyData
  | .leaf a => .str a.nm
  | .node g ps => .list (.str g.nm :: dats ps)
def dats : List Tree → List PyData
  | [] => []
  | p :: r => dat p :: dats r
end
mutual
theorem reads_tree {news : Led} {h : Heap} (hn : ∀ p ∈ news, h.get? p.1 = some p.2) : ∀ {t : Tree} {v : Value}, TreeIn news t v → ∃ as, Reads h v (dat t) as
  | .leaf a, v, ht => by simp only [TreeIn] at ht; obtain ⟨tk, rfl⟩ := ht; exact ⟨_, .str _ _⟩
  | .node g ps, v, ht => by
    simp only [TreeIn] at ht
    obtain ⟨l, tk, vs, n, rfl, hl, hvs⟩ := ht
    obtain ⟨as, ha⟩ := reads_trees hn hvs
    rw [dat]
    exact ⟨_, .list (hn _ hl) rfl rfl (by simpa using ReadsAll.cons (.str g.nm tk) ha)⟩
theorem reads_trees {news : Led} {h : Heap} (hn : ∀ p ∈ news, h.get? p.1 = some p.2) : ∀ {ts : List Tree} {vs : List Value}, TreesIn news ts vs → ∃ as, ReadsAll h vs (dats ts) as
  | [], v, ht => by simp only [TreesIn] at ht; subst ht; exact ⟨_, .nil⟩
  | t :: r, v, ht => by
    simp only [TreesIn] at ht
    obtain ⟨v, us, rfl, h1, h2⟩ := ht
    obtain ⟨as, ha⟩ := reads_tree hn h1
    obtain ⟨bs, hb⟩ := reads_trees hn h2
    exact ⟨_, .cons ha hb⟩
end
mutual
theorem dat_lay : ∀ t : Tree, (dat t).canLay0 = true ∧ (dat t).depth ≤ t.ht
  | .leaf a => by
    have h : ∀ a : Atom, PyData.strOk a.nm = true := by intro a; cases a <;> decide +kernel
    simp [dat, PyData.canLay0, PyData.depth, h a]
  | .node g ps => by
    obtain ⟨a, b⟩ := dats_lay ps
    have h : PyData.strOk g.nm = true := by cases g <;> decide +kernel
    simp only [dat, PyData.canLay0, PyData.canLayAll0, PyData.depth, PyData.depthAll, Tree.ht, a, h, Bool.and_self, true_and]
    omega
theorem dats_lay : ∀ ts : List Tree, PyData.canLayAll0 (dats ts) = true ∧ PyData.depthAll (dats ts) ≤ hts ts
  | [] => by simp [dats, PyData.canLayAll0, PyData.depthAll]
  | t :: r => by
    obtain ⟨a, b⟩ := dat_lay t
    obtain ⟨c, d⟩ := dats_lay r
    simp only [dats, PyData.canLayAll0, PyData.depthAll, a, c, Bool.and_self, hts, true_and]
    omega
end
theorem dat_shaped {t : Tree} (h : t.ht ≤ 64) : SeqAt.shaped (dat t) = true := by
  obtain ⟨a, b⟩ := dat_lay t
  simp only [SeqAt.shaped, a, Bool.true_and, decide_eq_true_eq]; omega
def isA (a : Atom) : Tree → Bool
  | .leaf b => b == a
  | .node _ _ => false
theorem isA_iff {a : Atom} {t : Tree} : isA a t = true ↔ t = .leaf a := by
  cases t with
  | leaf b => simp [isA]
  | node g ps => simp [isA]
theorem isA_obj : isA .obj = isObj := by
  funext t
  cases t with
  | leaf b => cases b <;> rfl
  | node g ps => rfl
theorem eqv_name (t : Tree) (a : Atom) : PyData.eqv (dat t) (.str a.nm) = isA a t := by
  cases t with
  | leaf b =>
    rw [dat, PyData.eqv]
    rw [Bool.eq_iff_iff, beq_iff_eq, isA, beq_iff_eq]
    exact ⟨fun h => atom_inj h, fun h => by rw [h]⟩
  | node g ps => rw [dat, PyData.eqv]; rfl
theorem str_shaped (a : Atom) : SeqAt.shaped (.str a.nm) = true := dat_shaped (t := .leaf a) (by simp [Tree.ht])
/-- a tree beside a name: != -/
theorem ne_name {prog : Program} {w : World} {A : Around} {E : Value → Shared → Prop} {s : Shared} {news : Led} {Q : Value → Shared → Prop} {t : Tree} {v : Value} (a : Atom) (tk : Tok) (hn : ∀ p ∈ news, s.heap.get? p.1 = some p.2) (ht : TreeIn news t v) (hz : t.ht ≤ 64) (hu : A.units + 64 < cLine) (h : Q (.bool (!isA a t)) s) :
    wpAny (model prog w) A (compareOp .NotEq v (.str a.nm tk)) Q E s := by
  obtain ⟨as, ra⟩ := reads_tree hn ht
  exact ne_dataH ra (.str a.nm tk) (dat_shaped hz) (str_shaped a) hu (by rw [eqv_name]; exact h)
theorem any_keys {n : Nat} {k : Str} {t : Tree} (hn : nrm t) (hh : t.ht < n) (hk : KyOf t k) : ∀ {acc : List Tree} {ks : List Str}, (∀ p ∈ acc, nrm p ∧ p.ht < n) → KysOf acc ks → (ks.any fun x => x == k) = acc.any fun e => teq e t
  | [], _, _, h => by simp only [KysOf] at h; subst h; rfl
  | p :: r, _, hp, h => by
    simp only [KysOf] at h
    obtain ⟨u, us, rfl, h1, h2⟩ := h
    rw [List.any_cons, List.any_cons, any_keys hn hh hk (fun q hq => hp q (List.mem_cons_of_mem _ hq)) h2]
    congr 1
    have h3 := hp p (List.mem_cons_self ..)
    rw [Bool.eq_iff_iff, beq_iff_eq]
    exact ky_teq n p t u k h3.2 hh h3.1 hn h1 hk
theorem kys_app : ∀ {a b : List Tree} {k u : List Str}, KysOf a k → KysOf b u → KysOf (a ++ b) (k ++ u)
  | [], _, _, _, h, h' => by simp only [KysOf] at h; subst h; exact h'
  | p :: r, _, _, _, h, h' => by
    simp only [KysOf, List.cons_append] at h ⊢
    obtain ⟨x, xs, rfl, h1, h2⟩ := h
    exact ⟨x, _, rfl, h1, kys_app h2 h'⟩
theorem strs_app : ∀ {a b : List Value} {k u : List Str}, StrsAre a k → StrsAre b u → StrsAre (a ++ b) (k ++ u)
  | _, _, _, _, .nil, h => h
  | _, _, _, _, .cons x t h, h' => .cons x t (strs_app h h')
/-- 'object' in a list of trees -/
theorem in_trees {prog : Program} {w : World} {A : Around} {E : Value → Shared → Prop} {s : Shared} {news : Led} {Q : Value → Shared → Prop} {ts : List Tree} {vs : List Value} {l : Addr} {k : Nat} (a : Atom) (tk : Tok) (hn : ∀ p ∈ news, s.heap.get? p.1 = some p.2) (hl : s.heap.get? l = some (PySem.W.listOf vs.toArray k)) (ht : TreesIn news ts vs) (hz : hts ts ≤ 64) (hu : A.units + 80 < cLine) (h : Q (.bool (ts.any fun t => isA a t)) s) :
    wpAny (model prog w) A (compareOp .In (.str a.nm tk) (.ref l)) Q E s := by
  refine inL (SP := fun s' => s' = s) (vs := vs) (k := k) (e := fun j => (ts[j]?).any fun t => isA a t) rfl (fun s' e => by rw [e]; exact hl) ?_ ?_
  · intro j y hy
    obtain ⟨q, hq, hqy⟩ := ht.get hy
    rw [hq, Option.any_some]
    intro s' E Q e hQ
    subst e
    obtain ⟨as, ra⟩ := reads_tree hn hqy
    have hqh := hts_get hq
    have a1 := dat_lay q
    refine SeqAt.eqBoolOverData _ _ _ _ _ _ _ (dat q) (.str a.nm) _ _ _ ra (.str a.nm tk) a1.1 (dat_lay (.leaf a)).1 ?_ ?_
    · have : (A.in1).units = A.units + 1 := rfl
      rw [this]; omega
    · rw [eqv_name]; exact hQ _ rfl
  · rintro s' rfl
    rw [ht.len, any_at]; exact h
end Mine
namespace Mine
local macro_rules | `(tactic| walk_at "idle") => `(tactic| fail "idle")
local macro_rules | `(tactic| walk_at "idle") => `(tactic| fail "idle")
local macro_rules | `(tactic| walk_at "idle") => `(tactic| fail "idle")
local macro_rules | `(tactic| walk_at "idle") => `(tactic| fail "idle")
local macro_rules | `(tactic| walk_at "idle") => `(tactic| fail "idle")
local macro_rules | `(tactic| walk_at "idle") => `(tactic| fail "idle")
local macro_rules | `(tactic| walk_at "idle") => `(tactic| fail "idle")
local macro_rules | `(tactic| walk_at "idle") => `(tactic| fail "idle")
local macro_rules | `(tactic| walk_at "idle") => `(tactic| fail "idle")
theorem fresh49 : True := by
  w_top off
  trivial
local macro_rules | `(tactic| k_mem) => `(tactic| first | with_reducible assumption | with_reducible exact List.mem_cons_self .. | (with_reducible refine List.mem_cons_of_mem _ ?_; k_mem) | (with_reducible refine List.mem_append_left _ ?_; k_mem) | (with_reducible refine List.mem_append_right _ ?_; k_mem))
local macro_rules | `(tactic| k_room) => `(tactic| ((try simp only [depth_under_make, depth_under_kw, depth_in1, depth_deeper, depth_caller]); omega))
local macro_rules | `(tactic| k_units) => `(tactic| ((try simp only [units_under_make, units_in1, units_deeper, Around.mark_units, units_caller]); omega))
local macro_rules | `(tactic| k_all) => `(tactic| first | assumption | (refine List.forall_mem_append.mpr ⟨?_, ?_⟩ <;> k_all))
local macro_rules | `(tactic| k_enter) => `(tactic| (refine' code_def ?k1 ?k2 ?k3 ?k4 ?k5 ?kA ?kF ?kK ?k6 ?k7 ?k8 ?k9 ?kB ?_ ?c2 ?c3 ?c4 ?c5; (case kA => first | exact Around.frames_deeper (Below.stack (by assumption)) | assumption); (case kF => exact rfl); (case kK => exact rfl); (case k1 => k_asm); (case k2 => k_asm); (case k3 => k_asm); (case k4 => k_asm); (case k5 => k_asm); (case k6 => k_is); (case k7 => k_is); (case k8 => k_room); (case k9 => first | exact BindsTo.of_eq rfl | exact binds_K (by k_in) rfl (by k_is) rfl rfl rfl); (case c5 => decide); (case kB => exact locs rfl); (case c2 => exact rfl); (case c3 => exact rfl); (case c4 => exact rfl); k_whole; intro g' L' h' FG' F' N' B' X' T'; (try dsimp only); (try k_fold)))
local macro_rules | `(tactic| walk_at "call ref") => `(tactic| (k_here; (with_reducible show wpAny _ _ (call (Value.ref 588) _ _) _ _ _); refine wpAny_call ?_))
local macro_rules | `(tactic| walk_at "call ref") => `(tactic| (k_here; (with_reducible show wpAny _ _ (call (Value.ref 583) _ _) _ _ _); refine wpAny_call ?_))
local macro_rules | `(tactic| walk_at "call ref") => `(tactic| (k_here; (with_reducible show wpAny _ _ (call (Value.ref 578) _ _) _ _ _); refine wpAny_call ?_))
local macro_rules | `(tactic| walk_at "eval ListComp") => `(tactic| (k_here; refine hold ?_))
local macro_rules | `(tactic| walk_at "exec Assign cons ListComp") => `(tactic| (k_here; refine hold ?_))
local macro_rules | `(tactic| walk_at "pyIter ref") => `(tactic| (k_here; refine hold ?_))
local macro_rules | `(tactic| walk_at "compareOp Eq str str") => `(tactic| (k_here; refine hold ?_))
local macro_rules | `(tactic| walk_at "compareOp NotEq str str") => `(tactic| (k_here; refine hold ?_))
local macro_rules | `(tactic| walk_at "compareOp NotEq ref ref") => `(tactic| (k_here; refine hold ?_))
local macro_rules | `(tactic| walk_at "compareOp NotEq ref str") => `(tactic| (k_here; refine hold ?_))
local macro_rules | `(tactic| walk_at "compareOp In str ref") => `(tactic| (k_here; refine hold ?_))
local macro_rules | `(tactic| walk_at "compareOp NotIn str ref") => `(tactic| (k_here; refine hold ?_))
local macro_rules | `(tactic| walk_at "binaryOp Add ref ref") => `(tactic| (k_here; refine hold ?_))
local macro_rules | `(tactic| walk_at "eval Name") => `(tactic| (k_here; first | (refine nameC_L (by assumption) (by assumption) ?_ (by rfl) (by rfl) (by decide)) | (k_dflt (refine' nameC_C ?k1 ?k2 ?k3 ?k4 ?_ (by rfl) (by rfl) (by decide); (case k1 => k_asm); (case k2 => exact rfl); (case k3 => k_mem); (case k4 => assumption)))))
local macro_rules | `(tactic| walk_at "compareOp Gt int int") => `(tactic| (k_here; refine hold ?_))
local macro_rules | `(tactic| walk_at "exec For Name Call cons nil") => `(tactic| (k_here; refine hold ?_))
local macro_rules | `(tactic| walk_at "unpackItems ref") => `(tactic| (k_here; k_dflt (refine' unpackItemsN_ ?k1 ?k2 ?k3 ?k4 ?k5 ?_; (case k1 => k_asm); (case k2 => k_asm); (case k3 => exact News.isTup (by k_asm) (by k_mem)); (case k4 => assumption); (case k5 => exact rfl); k_whole); intro h' F' N'; (try k_sweep)))
theorem ne_union (g : Tag) : (g.nm != Str.ofString "union") = !decide (g = .union) := by rw [bne, eq_union]
theorem dd_short (ts : List Tree) (i : Nat) : (dd [] (ts.take i)).length ≤ ts.length := by
  have h : ∀ (l acc : List Tree), (dd acc l).length ≤ acc.length + l.length := by
    intro l; induction l with
    | nil => intro acc; simp [dd]
    | cons t r ih =>
      intro acc
      rw [dd]
      split
      · have := ih acc; simp only [List.length_cons]; omega
      · split
        · have := ih acc; simp only [List.length_cons]; omega
        · have := ih (acc ++ [t]); simp only [List.length_append, List.length_cons, List.length_nil] at this ⊢; omega
  have := h (ts.take i) []
  rw [List.length_take] at this
  simp only [List.length_nil] at this
  omega
theorem hts_all {n : Nat} : ∀ {ts : List Tree}, (∀ t ∈ ts, t.ht ≤ n) → hts ts ≤ n
  | [], _ => by simp [hts]
  | t :: r, h => by
    have a := h t (List.mem_cons_self ..)
    have b := hts_all (ts := r) fun u hu => h u (List.mem_cons_of_mem _ hu)
    simp only [hts]; omega
theorem list_shaped {ts : List Tree} (h : hts ts ≤ 60) : SeqAt.shaped (.list (dats ts)) = true := by
  obtain ⟨a, b⟩ := dats_lay ts
  have e : (PyData.list (dats ts)).depth = PyData.depthAll (dats ts) + 1 := by rw [PyData.depth]
  rw [SeqAt.shaped, e, PyData.canLay0, a, Bool.true_and, decide_eq_true_eq]; omega
theorem repl_con (w : World) (mean : ExcName → Option Value) (mg mb : Str → Option Value) (σ : List (Atom × Tree)) (hb sb lb c : Nat) (h1 : 1 ≤ sb) (h2 : 1 ≤ lb) (hc : c * lb ≤ 63)
    (hσ : ∀ a t, σ.lookup a = some t → nrm t ∧ t.ht ≤ hb ∧ t.sz ≤ sb ∧ lw t ≤ lb) : ∀ (n : Nat) (t : Tree), t.ht < n → n + hb ≤ 9 → t.sz * sb ≤ 1000 → cb c t → Con w mean mg mb 588 (n * 8 + 100) (n * 40 + 600)
    (fun news args => ∃ x td, args = [x, .ref td] ∧ TreeIn news t x ∧ TblIn w news σ td)
    (fun news _ r => TreeIn news (exp σ t) r) := by
  intro n
  induction n with
  | zero => intro t h; exact absurd h (Nat.not_lt_zero _)
  | succ n IH =>
  intro t ht hH hz hcb
  unfold Con
  k_fill
  intro A A₀ env outer base h₀ L m news vis s args R B F X N T hA hf hk hh hg hd hu hvis hp hR
  obtain ⟨x, td, rfl, hx, hD⟩ := hp
  have hD0 := hD
  obtain ⟨o, kvs, d1, d2, d3, d4⟩ := hD
  have d1' := hvis _ d1
  cases t with
  | leaf a =>
    simp only [TreeIn] at hx
    obtain ⟨tk0, rfl⟩ := hx
    k_dflt (refine' code_defC (K := Mine.hd.heap_39 w.params) (binds := [(Str.ofString "tree", .str a.nm tk0), (Str.ofString "table", .ref td)]) B F X N T hA hf hk ?k6 ?k7 ?k8 ?k9 ?kB ?kD ?_ ?c2 ?c3 ?c4; (case k6 => k_is); (case k7 => k_is); (case k9 => exact BindsTo.of_eq rfl); (case kB => exact rfl); (case kD => decide +kernel); (case c2 => exact rfl); (case c3 => exact rfl); (case c4 => exact rfl); (case k8 => omega))
    intro g' L' h' tk' cells' FG' F' N' Y' B' X' T' lc
    obtain ⟨c1, hE, dc1⟩ := CellsAre.one Y'
    subst hE
    simp only [List.cons_append, List.nil_append] at N'
    clear F N B X T Y'
    try dsimp only
    k_fold
    k_steps
    refine kdg_method (knd := PySem.strKind PySem.Challenge.rw_ft0017_01.row.prog w) N' (List.mem_cons_of_mem _ d1') d2 ?_
    k_steps
    have d4a := d4 a
    refine kdg_get2 (knd := PySem.strKind PySem.Challenge.rw_ft0017_01.row.prog w) (k := a.nm) N' (List.mem_cons_of_mem _ d1') d2 d3 (by simp [PySem.strKind, Value.isStrOf]) (valueAt kvs a.nm) rfl ?_
    show LeaveK _ _ _ _ _ _ _
    refine con_leave hR F' N' [] (fun p hp => by rw [List.append_nil] at hp; exact List.mem_cons_of_mem _ hp) Ord.nil ?_
    rw [List.append_nil, exp, app]
    cases hlk : σ.lookup a with
    | none => rw [hlk] at d4a; rw [d4a]; simp only [Option.getD_none, TreeIn]; exact ⟨_, rfl⟩
    | some t => rw [hlk] at d4a; obtain ⟨v, e1, e2⟩ := d4a; rw [e1]; exact e2
  | node g ps =>
    simp only [TreeIn] at hx
    obtain ⟨l, tk0, vs, k0, rfl, hl, hvs⟩ := hx
    have hl' := hvis _ hl
    have hbl := big_line
    have hlen := hvs.len
    have hls := len_szs ps
    have hcb0 := hcb
    simp only [cb] at hcb
    simp only [Tree.ht, Tree.sz] at ht hz
    have hz1 : szs ps * sb + sb ≤ 1000 := by rw [Nat.add_mul, Nat.one_mul] at hz; exact hz
    have hz2 : szs ps ≤ szs ps * sb := Nat.le_mul_of_pos_right _ h1
    k_dflt (refine' code_defC (K := Mine.hd.heap_39 w.params) (binds := [(Str.ofString "tree", .ref l), (Str.ofString "table", .ref td)]) B F X N T hA hf hk ?k6 ?k7 ?k8 ?k9 ?kB ?kD ?_ ?c2 ?c3 ?c4; (case k6 => k_is); (case k7 => k_is); (case k9 => exact BindsTo.of_eq rfl); (case kB => exact rfl); (case kD => decide +kernel); (case c2 => exact rfl); (case c3 => exact rfl); (case c4 => exact rfl); (case k8 => omega))
    intro g' L' h' tk' cells' FG' F' N' Y' B' X' T' lc
    obtain ⟨c1, hE, dc1⟩ := CellsAre.one Y'
    subst hE
    simp only [List.cons_append, List.nil_append] at N'
    clear F N B X T Y'
    try dsimp only
    k_fold
    k_steps
    refine AssignComp_led (hsw := by with_unfolding_all rfl) (hclos := by rfl) rfl (by decide) ?_
    k_steps
    k_dflt (refine' kms_slice_lit (its := ((Value.str g.nm tk0) :: vs).toArray) (zs := vs) (lo := some 1) (hi := none) ?zzF ?zzN ?zzl ?zzp ?zzq ?zze ?_ ?zzs ?zzt ?zzz; (case zzF => k_asm); (case zzN => k_asm); (case zzl => exact News.isList (by k_asm) (List.mem_cons_of_mem _ hl')); (case zzp => kmk_part); (case zzq => kmk_part); (case zze => exact tail_pick _ _); (case zzs => with_unfolding_all rfl); (case zzt => kmk_pure); (case zzz => (rw [List.size_toArray, List.length_cons]; omega)))
    intro D6 h6 F6 N6 l6
    refine comp_some hh F6 N6 (SeqOf.src SeqOf.list N6 (List.mem_cons_self ..)) (fun led i _ y => ∃ t l2, ps[i]? = some t ∧ TreeIn (vis ++ l2) (exp σ t) y ∧ ∀ p ∈ l2, p ∈ led ∧ ∀ q ∈ (D6, PySem.W.listOf vs.toArray 0) :: (L' + 1, c1) :: news, q.1 < p.1) (fun l l' i _ y hs h => ?_) (by omega) (by decide) rfl rfl rfl rfl ?elt ?_
    · obtain ⟨t, l2, h1, h2, h3⟩ := h; exact ⟨t, l2, h1, h2, fun p hp => ⟨hs _ (h3 p hp).1, (h3 p hp).2⟩⟩
    case elt =>
      intro i v1 C1 mC tl own h tk E' hv F N O hn hm hC
      obtain ⟨t, ht', htv⟩ := hvs.get hv
      have b1 := hts_get ht'
      have b2 := szs_get ht'
      have b3 : t.sz * sb ≤ szs ps * sb := Nat.mul_le_mul_right _ b2
      have hv2 : ∀ p ∈ vis, p ∈ own ++ ((D6, PySem.W.listOf vs.toArray 0) :: (L' + 1, c1) :: news ++ tl) := fun p hp => List.mem_append_right own (List.mem_append_left tl (List.mem_cons_of_mem _ (List.mem_cons_of_mem _ (hvis _ hp))))
      k_steps
      k_dflt (refine' con_use (IH t (by omega) (by omega) (by omega) (cbs_mem.mp hcb.1 t (List.mem_of_getElem? ht'))) (vis) ?k1 ?k2 ?k3 ?k4 ?k5 ?kA ?kF ?kK ?kh ?kg ?kd ?ku ?kv ?pre ?_; (case k1 => k_asm); (case k2 => k_asm); (case k3 => k_asm); (case k4 => k_asm); (case k5 => k_asm); (case kA => first | exact Around.frames_deeper (Below.stack (by assumption)) | assumption); (case kF => exact rfl); (case kK => exact rfl); (case kh => first | exact hh | exact rfl | assumption); (case kg => first | exact hg | exact rfl | assumption); (case kd => ((try simp only [depth_under_make, depth_under_kw, depth_in1, depth_deeper, depth_caller]); omega)); (case ku => ((try simp only [units_under_make, units_in1, units_deeper, Around.mark_units, units_caller]); omega)))
      case kv => exact hv2
      case pre => exact ⟨_, _, rfl, htv, hD0⟩
      intro r tl9 h9 tk9 F9 N9 O9 P9
      exact ⟨tl9, h9, tk9, rfl, F9, N9, O9, t, tl9, ht', P9, fun p hp => ⟨List.mem_append_right _ hp, fun q hq => O9 q (List.mem_append_right _ (List.mem_append_left _ hq)) p hp⟩⟩
    intro D nD h5 tk5 ys tl5 CD
    obtain ⟨F5, N5, O5, off5, P5, lv5, ly5, G5⟩ := CD
    have hys : TreesIn (vis ++ tl5) (exps σ ps) ys := by
      refine TreesIn.of (by rw [ly5, exps_map, List.length_map, hvs.len]) fun i y t' hy ht' => ?_
      have hi : i < vs.length := by rw [← ly5]; exact (List.getElem?_eq_some_iff.mp hy).1
      obtain ⟨y', e1, t, l2, e2, e3, e4⟩ := G5 i _ (List.getElem?_eq_getElem hi)
      rw [hy] at e1; cases e1
      rw [exps_get e2] at ht'; cases ht'
      refine e3.mono fun p hp => ?_
      rcases List.mem_append.mp hp with h | h
      · exact List.mem_append_left _ h
      · obtain ⟨h1, h2⟩ := e4 p h
        rcases List.mem_append.mp h1 with h3 | h3
        · exact absurd (h2 p h3) (Nat.lt_irrefl _)
        · exact List.mem_append_right _ h3
    clear F' N' F6 N6
    have hl5 : (l, PySem.W.listOf (Value.str g.nm tk0 :: vs).toArray k0) ∈ (D, PySem.W.listOf ys.toArray nD) :: ((D6, PySem.W.listOf vs.toArray 0) :: (L' + 1, c1) :: news ++ tl5) := by k_mem
    k_steps
    refine PyProof.Rows.item_list (items := (Value.str g.nm tk0 :: vs).toArray) (x := .str g.nm tk0) (News.isList N5 hl5) (by decide) (by decide) (by simp) ?_
    k_steps
    refine ne_str ?_
    rw [ne_union g]
    have hd5 : (td, o) ∈ (D, PySem.W.listOf ys.toArray nD) :: ((D6, PySem.W.listOf vs.toArray 0) :: (L' + 1, c1) :: news ++ tl5) := by k_mem
    have hv5 : ∀ p ∈ vis ++ (D, PySem.W.listOf ys.toArray nD) :: tl5, p ∈ (D, PySem.W.listOf ys.toArray nD) :: ((D6, PySem.W.listOf vs.toArray 0) :: (L' + 1, c1) :: news ++ tl5) := fun p hp => by
      rcases List.mem_append.mp hp with h | h
      · have := hvis p h; k_mem
      · rcases List.mem_cons.mp h with h | h
        · rw [h]; k_mem
        · k_mem
    have hys5 : TreesIn (vis ++ (D, PySem.W.listOf ys.toArray nD) :: tl5) (exps σ ps) ys := hys.mono fun p hp => by
      rcases List.mem_append.mp hp with h | h
      · exact List.mem_append_left _ h
      · exact List.mem_append_right _ (List.mem_cons_of_mem _ h)
    have O5' : Ord news ((D, PySem.W.listOf ys.toArray nD) :: tl5) := O5.sub fun q hq => List.mem_cons_of_mem _ (List.mem_cons_of_mem _ hq)
    have hyl := hys.len
    have hel : (exps σ ps).length = ps.length := by rw [exps_map, List.length_map]
    have hbd := exps_bound σ hb sb h1 (fun a t hl => ⟨(hσ a t hl).2.1, (hσ a t hl).2.2.1⟩) ps
    by_cases hgu : g = .union
    · rw [decide_eq_true hgu]
      subst hgu
      k_steps
      rename_i tk9 Dk hk1 lk Dq hq1 lq Dt ht1 lt ha Fa Na hb1 hc1 Fb Nb
      k_dflt (refine' For_invV g' ?x1 ?x2 ?_; (case x1 => exact rfl); (case x2 => exact rfl))
      k_steps
      have hsz : szs (exps σ ps) ≤ 1000 := by omega
      k_dflt (refine' con_use (flat_con w mean mg mb 10 (exps σ ps) (by omega) hsz) (vis ++ (D, PySem.W.listOf ys.toArray nD) :: tl5) ?k1 ?k2 ?k3 ?k4 ?k5 ?kA ?kF ?kK ?kh ?kg ?kd ?ku ?kv ?pre ?_; (case k1 => k_asm); (case k2 => k_asm); (case k3 => k_asm); (case k4 => k_asm); (case k5 => k_asm); (case kA => first | exact Around.frames_deeper (Below.stack (by assumption)) | assumption); (case kF => exact rfl); (case kK => exact rfl); (case kh => first | exact hh | exact rfl | assumption); (case kg => first | exact hg | exact rfl | assumption); (case kd => ((try simp only [depth_under_make, depth_under_kw, depth_in1, depth_deeper, depth_caller]); omega)); (case ku => ((try simp only [units_under_make, units_in1, units_deeper, Around.mark_units, units_caller]); omega)))
      case kv => 
        intro p hp
        have := hv5 p hp
        k_mem
      case pre => exact ⟨D, ys, nD, rfl, List.mem_append_right _ (List.mem_cons_self ..), hys5⟩
      intro r tl9 h9 tk9 F9 N9 O9 P9
      obtain ⟨lf, fs, kf, rfl, hlf, hfs⟩ := P9
      dsimp only
      obtain ⟨base, hbase⟩ : ∃ b : Led, b = (Dt, ({ cls := Value.type "tuple", data := Data.seq #[Value.ref Dk, Value.ref Dq] } : Obj)) :: (D, PySem.W.listOf ys.toArray nD) :: ((D6, PySem.W.listOf vs.toArray 0) :: (L' + 1, c1) :: news ++ tl5) ++ tl9 := ⟨_, rfl⟩
      have NB : News g' L' h9 ((Dq, PySem.W.listOf ([] : List Value).toArray 0) :: (Dk, PySem.W.listOf ([] : List Value).toArray 0) :: base) := fun p hp => N9 p (by
        rw [hbase] at hp
        simp only [List.mem_cons, List.mem_append, List.cons_append] at hp ⊢
        rcases hp with h | h | h | h | h | h | h | h <;> simp [h])
      have hkq : Dk < Dq := lq.1
      have hb1 : ∀ p ∈ base, p.1 ≠ Dq := fun p hp => by
        rw [hbase] at hp
        rcases List.mem_append.mp hp with h | h
        · rcases List.mem_cons.mp h with h | h
          · rw [h]; exact Nat.ne_of_gt lt.1
          · rcases List.mem_cons.mp h with h | h
            · rw [h]; exact Nat.ne_of_lt lq.2.1
            · exact Nat.ne_of_lt (allLt_get lq.2.2 p h)
        · exact Nat.ne_of_gt (O9 (Dq, PySem.W.listOf #[] 0) (by k_mem) p h)
      have hb2 : ∀ p ∈ base, p.1 ≠ Dk := fun p hp => by
        rw [hbase] at hp
        rcases List.mem_append.mp hp with h | h
        · rcases List.mem_cons.mp h with h | h
          · rw [h]; exact Nat.ne_of_gt lt.2.1
          · rcases List.mem_cons.mp h with h | h
            · rw [h]; exact Nat.ne_of_lt lk.1
            · exact Nat.ne_of_lt (allLt_get lk.2 p h)
        · exact Nat.ne_of_gt (O9 (Dk, PySem.W.listOf #[] 0) (by k_mem) p h)
      have hvb : ∀ p ∈ vis, p ∈ base := fun p hp => by
        rw [hbase]; have := hvis p hp; k_mem
      have hvb2 : ∀ p ∈ vis ++ (D, PySem.W.listOf ys.toArray nD) :: tl5 ++ tl9, p ∈ base := fun p hp => by
        rcases List.mem_append.mp hp with h | h
        · have := hv5 p h
          rw [hbase]
          simp only [List.mem_cons, List.mem_append, List.cons_append] at this ⊢
          rcases this with h | h | h | h | h <;> simp [h]
        · rw [hbase]; exact List.mem_append_right _ h
      obtain ⟨V, hVe⟩ : ∃ b : Led, b = vis ++ (D, PySem.W.listOf ys.toArray nD) :: tl5 ++ tl9 := ⟨_, rfl⟩
      rw [← hVe] at hvb2 hlf hfs
      replace hlf := hvb2 _ hlf
      have hOA : Ord news (((D, PySem.W.listOf ys.toArray nD) :: tl5) ++ tl9) := O5'.app (O9.sub fun q hq => by
        simp only [List.mem_append, List.mem_cons] at hq ⊢
        rcases hq with h | h | h <;> simp [h])
      have hsA : ∀ p ∈ news ++ (((D, PySem.W.listOf ys.toArray nD) :: tl5) ++ tl9), p ∈ base := fun p hp => by
        rw [hbase]
        simp only [List.mem_append, List.mem_cons] at hp ⊢
        rcases hp with h | (h | h) | h <;> simp [h]
      rw [List.append_assoc] at hVe
      have hTS : ∀ t ∈ flats (exps σ ps), nrm t ∧ t.ht < 10 ∧ lw t ≤ 63 := fun t ht2 => by
        refine ⟨flats_nrm_mem (fun u hu y hy => ?_) ht2, ?_, Nat.le_trans (item_lw h2 (fun a t hl => (hσ a t hl).2.2.2) (hcb.2 rfl) t ht2) hc⟩
        · rw [exps_map] at hu
          obtain ⟨q, hq, rfl⟩ := List.mem_map.mp hu
          exact flat1_nrm (nrm_exp (fun a t hl => (hσ a t hl).1) q) y hy
        · have := hts_le ht2; have := flats_ht (exps σ ps); omega
      have hfl := flats_len (exps σ ps)
      generalize hts0 : flats (exps σ ps) = ts at hfs hTS hfl
      refine for_one (fun i nx => ∃ ys us ks k1 k2, nx = (Dq, PySem.W.listOf us.toArray k2) :: (Dk, PySem.W.listOf ys.toArray k1) :: base ∧ TreesIn V (dd [] (ts.take i)) ys ∧ KysOf (dd [] (ts.take i)) ks ∧ StrsAre us ks) hh (List.mem_cons_of_mem _ (List.mem_cons_of_mem _ hlf)) SeqOf.list F9 NB ?_ ?_ ?_
      · exact ⟨[], [], [], 0, 0, rfl, by simp [dd, TreesIn], by simp [dd, KysOf], .nil⟩
      · intro i v nx h tk own hv hoff hlm hJ F N
        obtain ⟨kv, uv, ks, k1, k2, rfl, hT, hK, hS⟩ := hJ
        obtain ⟨t, ht', htv⟩ := hfs.get hv
        obtain ⟨n1, n2, n3⟩ := hTS t (List.mem_of_getElem? ht')
        have hacc : ∀ p ∈ dd [] (ts.take i), nrm p ∧ p.ht < 10 := fun p hp => by
          rcases dd_mem _ [] p hp with h | h
          · exact nomatch h
          · have := hTS p (List.mem_of_mem_take h.1); exact ⟨this.1, this.2.1⟩
        try k_fold
        k_steps
        have hnb : ∀ p ∈ V, h.get? p.1 = some p.2 := fun p hp => (N p (List.mem_append_left _ (List.mem_cons_of_mem _ (List.mem_cons_of_mem _ (hvb2 p hp))))).1
        have hsn := dd_snoc ht'
        have hs9 : ∀ (p : Addr × Obj), p ∈ (Dq, PySem.W.listOf uv.toArray k2) :: (Dk, PySem.W.listOf kv.toArray k1) :: base ++ own → p ∈ (Dq, PySem.W.listOf uv.toArray k2) :: (Dk, PySem.W.listOf kv.toArray k1) :: base ++ own := fun _ h => h
        refine ne_name .nev _ hnb htv (by omega) (by ((try simp only [units_under_make, units_in1, units_deeper, Around.mark_units, units_caller]); omega)) ?_
        cases hne : isA .nev t with
        | true =>
          rw [show (!true) = false from rfl]
          k_steps
          rw [if_pos (nev_iff.mpr (isA_iff.mp hne))] at hsn
          refine OnePost.next ((Dq, PySem.W.listOf uv.toArray k2) :: (Dk, PySem.W.listOf kv.toArray k1) :: base) (.inl rfl) F N (fun p hp => hp) hlm hoff ⟨kv, uv, ks, k1, k2, rfl, ?_, ?_, hS⟩
          · rw [hsn]; exact hT
          · rw [hsn]; exact hK
        | false =>
          rw [show (!false) = true from rfl]
          rw [if_neg (fun e => by rw [isA_iff.mpr (nev_iff.mp e)] at hne; cases hne)] at hsn
          k_steps
          k_dflt (refine' con_use (key_con w mean mg mb 10 t n2 (by omega) n3) (V) ?k1 ?k2 ?k3 ?k4 ?k5 ?kA ?kF ?kK ?kh ?kg ?kd ?ku ?kv ?pre ?_; (case k1 => k_asm); (case k2 => k_asm); (case k3 => k_asm); (case k4 => k_asm); (case k5 => k_asm); (case kA => first | exact Around.frames_deeper (Below.stack (by assumption)) | assumption); (case kF => exact rfl); (case kK => exact rfl); (case kh => first | exact hh | exact rfl | assumption); (case kg => first | exact hg | exact rfl | assumption); (case kd => ((try simp only [depth_under_make, depth_under_kw, depth_in1, depth_deeper, depth_caller]); omega)); (case ku => ((try simp only [units_under_make, units_in1, units_deeper, Around.mark_units, units_caller]); omega)))
          case kv => exact fun p hp => List.mem_append_left _ (List.mem_cons_of_mem _ (List.mem_cons_of_mem _ (hvb2 p hp)))
          case pre => exact ⟨v, rfl, htv⟩
          intro r tl1 h1' tk1 F1 N1 O1 P1
          obtain ⟨kk, tkk, rfl, hkk⟩ := P1
          dsimp only
          k_steps
          refine notin_list_strs (News.isList N1 (by k_mem)) hS ?_
          rw [any_keys n1 n2 hkk hacc hK]
          cases hA2 : (dd [] (ts.take i)).any fun e => teq e t with
          | true =>
            rw [hA2] at hsn
            simp only [if_true] at hsn
            rw [show (!true) = false from rfl]
            k_steps
            refine OnePost.next ((Dq, PySem.W.listOf uv.toArray k2) :: (Dk, PySem.W.listOf kv.toArray k1) :: base) (.inl rfl) F1 N1 (fun p hp => List.mem_append_left _ hp) hlm hoff ⟨kv, uv, ks, k1, k2, rfl, ?_, ?_, hS⟩
            · rw [hsn]; exact hT
            · rw [hsn]; exact hK
          | false =>
            rw [hA2] at hsn
            simp only [Bool.false_eq_true, if_false] at hsn
            rw [show (!false) = true from rfl]
            k_steps
            have N2 : News g' L' h1' ((Dq, PySem.W.listOf uv.toArray k2) :: (Dk, PySem.W.listOf kv.toArray k1) :: (base ++ own)) := fun p hp => N1 p (List.mem_append_left _ hp)
            have hlen := hT.len
            have hlen2 : (dd [] (ts.take i)).length ≤ ts.length := dd_short ts i
            have hslen : uv.length = kv.length := by rw [hT.len, ← hK.len, ← hS.strs, List.length_map]
            have ho1 : ∀ p ∈ base ++ own, p.1 ≠ Dk := fun p hp => by
              rcases List.mem_append.mp hp with h | h
              · exact hb2 p h
              · exact hoff p h Dk (by simp)
            have ho2 : ∀ p ∈ base ++ own, p.1 ≠ Dq := fun p hp => by
              rcases List.mem_append.mp hp with h | h
              · exact hb1 p h
              · exact hoff p h Dq (by simp)
            refine append_second (rest := base ++ own) F1 N2 (Nat.ne_of_gt hkq) ho1 ?_ (by rw [List.size_toArray]; omega)
            intro h2' F2 N2'
            rw [List.push_toArray] at N2'
            k_steps
            k_dflt (refine' con_use (key_con w mean mg mb 10 t n2 (by omega) n3) (V) ?k1 ?k2 ?k3 ?k4 ?k5 ?kA ?kF ?kK ?kh ?kg ?kd ?ku ?kv ?pre ?_; (case k1 => k_asm); (case k2 => k_asm); (case k3 => k_asm); (case k4 => k_asm); (case k5 => k_asm); (case kA => first | exact Around.frames_deeper (Below.stack (by assumption)) | assumption); (case kF => exact rfl); (case kK => exact rfl); (case kh => first | exact hh | exact rfl | assumption); (case kg => first | exact hg | exact rfl | assumption); (case kd => ((try simp only [depth_under_make, depth_under_kw, depth_in1, depth_deeper, depth_caller]); omega)); (case ku => ((try simp only [units_under_make, units_in1, units_deeper, Around.mark_units, units_caller]); omega)))
            case kv => exact fun p hp => List.mem_cons_of_mem _ (List.mem_cons_of_mem _ (List.mem_append_left _ (hvb2 p hp)))
            case pre => exact ⟨v, rfl, htv⟩
            intro r tl3 h3' tk3 F3 N3 O3 P3
            obtain ⟨kk2, tkk2, rfl, hkk2⟩ := P3
            dsimp only
            k_steps
            have N4 : News g' L' h3' ((Dq, PySem.W.listOf uv.toArray k2) :: (Dk, PySem.W.listOf (kv ++ [v]).toArray (k1 + 1)) :: (base ++ own)) := fun p hp => N3 p (List.mem_append_left _ hp)
            refine append_head (rest := (Dk, PySem.W.listOf (kv ++ [v]).toArray (k1 + 1)) :: (base ++ own)) F3 N4 (fun p hp => ?_) ?_ (by rw [List.size_toArray]; omega)
            · rcases List.mem_cons.mp hp with h | h
              · rw [h]; exact Nat.ne_of_lt hkq
              · exact ho2 p h
            intro h5' F5' N5'
            rw [List.push_toArray] at N5'
            k_steps
            refine OnePost.next ((Dq, PySem.W.listOf (uv ++ [Value.str kk2 tkk2]).toArray (k2 + 1)) :: (Dk, PySem.W.listOf (kv ++ [v]).toArray (k1 + 1)) :: base) (.inl rfl) F5' N5' (fun p hp => hp) ?_ (by simpa using hoff) ⟨kv ++ [v], uv ++ [Value.str kk2 tkk2], ks ++ [kk2], k1 + 1, k2 + 1, rfl, ?_, ?_, ?_⟩
            · exact List.mem_cons_of_mem _ (List.mem_cons_of_mem _ hlf)
            · rw [hsn]; exact hT.app (TreesIn.one htv)
            · rw [hsn]; exact kys_app hK (by simp only [KysOf]; exact ⟨kk2, [], rfl, hkk2, rfl⟩)
            · exact strs_app hS (.cons _ _ .nil)
      · rintro u nx h tk ⟨kv, uv, ks, k1, k2, rfl, hT, hK, hS⟩ F N
        rw [hfs.len, List.take_length] at hT hK
        show wpAny _ _ _ _ _ _
        k_steps
        have hnV : ∀ p ∈ V, h.get? p.1 = some p.2 := fun p hp => (N p (List.mem_cons_of_mem _ (List.mem_cons_of_mem _ (hvb2 p hp)))).1
        have hKh : hts (dd [] ts) ≤ 60 := hts_all fun p hp => by
          rcases dd_mem _ [] p hp with h | h
          · exact nomatch h
          · have := hTS p h.1; omega
        have hKl : (dd [] ts).length ≤ ts.length := by have := dd_short ts ts.length; rw [List.take_length] at this; exact this
        have hEX : exp σ (.node .union ps) = _ := (exp_union σ ps).trans ((congrArg U hts0).trans (U_kept ts (by rw [← hts0]; exact flats_nu _)))
        have hTl := hT.len
        refine in_trees .obj _ hnV (N (Dk, PySem.W.listOf kv.toArray k1) (by k_mem)).1 hT (Nat.le_trans hKh (by decide)) (by ((try simp only [units_under_make, units_in1, units_deeper, Around.mark_units, units_caller]); omega)) ?_
        rw [isA_obj]
        cases hob : (dd [] ts).any isObj with
        | true =>
          rw [hob, if_pos rfl] at hEX
          k_steps
          show LeaveK _ _ _ _ _ _ _
          refine con_leave hR F N [] (fun p hp => by rw [List.append_nil] at hp; exact List.mem_cons_of_mem _ (List.mem_cons_of_mem _ (hsA p (List.mem_append_left _ hp)))) Ord.nil ?_
          rw [hEX]; simp only [TreeIn]; exact ⟨_, rfl⟩
        | false =>
          rw [hob, if_neg Bool.false_ne_true] at hEX
          k_steps
          refine call_len_list (News.isList N (by k_mem)) (by rw [List.size_toArray]; have := sizeLine_eq; omega) ?_
          k_steps
          refine gt_int ?_
          rw [List.size_toArray]
          have hTl2 : kv.length ≤ 1000 := by omega
          clear hK hS hob hTl hKl
          revert hEX hKh
          generalize dd [] ts = K at hT
          intro hKh hEX
          have hmA : ∀ p ∈ vis ++ (((D, PySem.W.listOf ys.toArray nD) :: tl5) ++ tl9), p ∈ base := fun p hp => hvb2 p (by rw [hVe]; exact hp)
          cases K with
          | nil =>
            simp only [TreesIn] at hT; subst hT
            rw [show decide (((([] : List Value).length : Nat) : Int) > 1) = false from rfl]
            k_steps
            rename_i De he Fe Ne le
            refine ne_dataH (da := .list (dats [])) (db := .list (dats [])) (.list (Ne (Dk, _) (List.mem_cons_of_mem _ (List.mem_cons_of_mem _ (List.mem_cons_self ..)))).1 rfl rfl .nil) (.list (Ne (De, _) (List.mem_cons_self ..)).1 rfl rfl .nil) (list_shaped hKh) (list_shaped hKh) (by ((try simp only [units_under_make, units_in1, units_deeper, Around.mark_units, units_caller]); omega)) ?_
            rw [show (!PyData.eqv (.list (dats [])) (.list (dats []))) = false by simp [dats, PyData.eqv, PyData.eqvAll]]
            k_steps
            show LeaveK _ _ _ _ _ _ _
            refine con_leave hR Fe Ne [] (fun p hp => by rw [List.append_nil] at hp; exact List.mem_cons_of_mem _ (List.mem_cons_of_mem _ (List.mem_cons_of_mem _ (hsA p (List.mem_append_left _ hp))))) Ord.nil ?_
            rw [hEX]; simp only [TreeIn]; exact ⟨_, rfl⟩
          | cons a r => cases r with
            | nil =>
              simp only [TreesIn] at hT
              obtain ⟨v, _, rfl, hv1, rfl⟩ := hT
              rw [show decide ((([v].length : Nat) : Int) > 1) = false from rfl]
              k_steps
              rename_i De he Fe Ne le
              obtain ⟨as1, ra⟩ := reads_tree (h := he) (fun p hp => (Ne p (List.mem_cons_of_mem _ (List.mem_cons_of_mem _ (List.mem_cons_of_mem _ (hvb2 p hp))))).1) hv1
              refine ne_dataH (da := .list (dats [a])) (db := .list (dats [])) (.list (Ne (Dk, _) (List.mem_cons_of_mem _ (List.mem_cons_of_mem _ (List.mem_cons_self ..)))).1 rfl rfl (.cons ra .nil)) (.list (Ne (De, _) (List.mem_cons_self ..)).1 rfl rfl .nil) (list_shaped hKh) (list_shaped (by simp [hts])) (by ((try simp only [units_under_make, units_in1, units_deeper, Around.mark_units, units_caller]); omega)) ?_
              rw [show (!PyData.eqv (.list (dats [a])) (.list (dats []))) = true by simp [dats, PyData.eqv, PyData.eqvAll]]
              k_steps
              show LeaveK _ _ _ _ _ _ _
              refine con_leave hR Fe Ne (((D, PySem.W.listOf ys.toArray nD) :: tl5) ++ tl9) (fun p hp => List.mem_cons_of_mem _ (List.mem_cons_of_mem _ (List.mem_cons_of_mem _ (hsA p hp)))) hOA ?_
              rw [hEX]; rw [hVe] at hv1; exact hv1
            | cons b r =>
              have hT0 := hT.len
              rw [show decide ((kv.length : Int) > 1) = true from decide_eq_true (by simp only [List.length_cons] at hT0; omega)]
              k_steps
              rename_i De he Fe Ne le
              have hsl := sizeLine_eq
              refine add_list Fe Ne (vs := [Value.str (Str.ofString "union") (tk + 1 + 1 + 1)]) (us := kv) (k := 0) (k2 := k1) (by k_mem) (by k_mem) (by simp only [List.length_cons, List.length_nil]; omega) ?_
              intro D9 h9 F9 N9 l9
              k_steps
              show LeaveK _ _ _ _ _ _ _
              refine con_leave hR F9 N9 ((((D, PySem.W.listOf ys.toArray nD) :: tl5) ++ tl9) ++ [(D9, PySem.W.listOf ([Value.str (Str.ofString "union") (tk + 1 + 1 + 1)] ++ kv).toArray 0)]) (fun p hp => ?_) (hOA.app fun q hq p hp => ?_) ?_
              · rw [← List.append_assoc] at hp
                rcases List.mem_append.mp hp with h | h
                · exact List.mem_cons_of_mem _ (List.mem_cons_of_mem _ (List.mem_cons_of_mem _ (List.mem_cons_of_mem _ (hsA p h))))
                · rw [List.mem_singleton.mp h]; exact List.mem_cons_self ..
              · rw [List.mem_singleton.mp hp]
                exact l9 q (List.mem_cons_of_mem _ (List.mem_cons_of_mem _ (List.mem_cons_of_mem _ (hsA q hq))))
              · rw [hEX]
                simp only [TreeIn]
                refine ⟨D9, (tk + 1 + 1 + 1), kv, 0, rfl, List.mem_append_right _ (List.mem_append_right _ (List.mem_cons_self ..)), ?_⟩
                rw [← List.append_assoc, ← hVe]
                exact hT.mono fun p hp => List.mem_append_left _ hp
    · rw [decide_eq_false hgu]
      k_steps
      refine PyProof.Rows.item_list (items := (Value.str g.nm tk0 :: vs).toArray) (x := .str g.nm tk0) (News.isList N5 hl5) (by decide) (by decide) (by simp) ?_
      k_steps
      rename_i D7 h7 F7 N7 l7
      refine add_list F7 N7 (vs := [Value.str g.nm tk0]) (us := ys) (k := 0) (k2 := nD) (by k_mem) (by k_mem) (by simp only [List.length_cons, List.length_nil]; omega) ?_
      intro D9 h9 F9 N9 l9
      k_steps
      show LeaveK _ _ _ _ _ _ _
      refine con_leave hR F9 N9 (((D, PySem.W.listOf ys.toArray nD) :: tl5) ++ [(D9, PySem.W.listOf ([Value.str g.nm tk0] ++ ys).toArray 0)]) (fun p hp => ?_) (O5'.app fun q hq p hp => ?_) ?_
      · simp only [List.mem_append, List.mem_cons, List.not_mem_nil, or_false] at hp ⊢
        rcases hp with h | (h | h) | h <;> simp [h]
      · rw [List.mem_singleton.mp hp]
        exact l9 q (by simp only [List.mem_append, List.mem_cons] at hq ⊢; rcases hq with h | h | h <;> simp [h])
      · rw [exp_node σ g ps hgu]
        simp only [TreeIn]
        exact ⟨D9, tk0, ys, 0, rfl, by simp, hys5.mono fun p hp => by
          simp only [List.mem_append, List.mem_cons, List.not_mem_nil, or_false] at hp ⊢
          rcases hp with h | h | h <;> simp [h]⟩
end Mine
namespace Mine
local macro_rules | `(tactic| walk_at "idle") => `(tactic| fail "idle")
local macro_rules | `(tactic| walk_at "idle") => `(tactic| fail "idle")
local macro_rules | `(tactic| walk_at "idle") => `(tactic| fail "idle")
local macro_rules | `(tactic| walk_at "idle") => `(tactic| fail "idle")
local macro_rules | `(tactic| walk_at "idle") => `(tactic| fail "idle")
local macro_rules | `(tactic| walk_at "idle") => `(tactic| fail "idle")
local macro_rules | `(tactic| walk_at "idle") => `(tactic| fail "idle")
local macro_rules | `(tactic| walk_at "idle") => `(tactic| fail "idle")
local macro_rules | `(tactic| walk_at "idle") => `(tactic| fail "idle")
local macro_rules | `(tactic| walk_at "idle") => `(tactic| fail "idle")
local macro_rules | `(tactic| walk_at "idle") => `(tactic| fail "idle")
local macro_rules | `(tactic| walk_at "idle") => `(tactic| fail "idle")
local macro_rules | `(tactic| walk_at "idle") => `(tactic| fail "idle")
local macro_rules | `(tactic| walk_at "idle") => `(tactic| fail "idle")
local macro_rules | `(tactic| walk_at "idle") => `(tactic| fail "idle")
local macro_rules | `(tactic| walk_at "idle") => `(tactic| fail "idle")
local macro_rules | `(tactic| walk_at "idle") => `(tactic| fail "idle")
local macro_rules | `(tactic| walk_at "idle") => `(tactic| fail "idle")
local macro_rules | `(tactic| walk_at "idle") => `(tactic| fail "idle")
local macro_rules | `(tactic| walk_at "idle") => `(tactic| fail "idle")
local macro_rules | `(tactic| walk_at "idle") => `(tactic| fail "idle")
theorem fresh50 : True := by
  w_top off
  trivial
local macro_rules | `(tactic| k_mem) => `(tactic| first | with_reducible assumption | with_reducible exact List.mem_cons_self .. | (with_reducible refine List.mem_cons_of_mem _ ?_; k_mem) | (with_reducible refine List.mem_append_left _ ?_; k_mem) | (with_reducible refine List.mem_append_right _ ?_; k_mem))
local macro_rules | `(tactic| k_room) => `(tactic| ((try simp only [depth_under_make, depth_under_kw, depth_in1, depth_deeper, depth_caller]); omega))
local macro_rules | `(tactic| k_units) => `(tactic| ((try simp only [units_under_make, units_in1, units_deeper, Around.mark_units, units_caller]); omega))
local macro_rules | `(tactic| k_all) => `(tactic| first | assumption | (refine List.forall_mem_append.mpr ⟨?_, ?_⟩ <;> k_all))
local macro_rules | `(tactic| k_enter) => `(tactic| (refine' code_def ?k1 ?k2 ?k3 ?k4 ?k5 ?kA ?kF ?kK ?k6 ?k7 ?k8 ?k9 ?kB ?_ ?c2 ?c3 ?c4 ?c5; (case kA => first | exact Around.frames_deeper (Below.stack (by assumption)) | assumption); (case kF => exact rfl); (case kK => exact rfl); (case k1 => k_asm); (case k2 => k_asm); (case k3 => k_asm); (case k4 => k_asm); (case k5 => k_asm); (case k6 => k_is); (case k7 => k_is); (case k8 => k_room); (case k9 => first | exact BindsTo.of_eq rfl | exact binds_K (by k_in) rfl (by k_is) rfl rfl rfl); (case c5 => decide); (case kB => exact locs rfl); (case c2 => exact rfl); (case c3 => exact rfl); (case c4 => exact rfl); k_whole; intro g' L' h' FG' F' N' B' X' T'; (try dsimp only); (try k_fold)))
local macro_rules | `(tactic| walk_at "call ref") => `(tactic| (k_here; (with_reducible show wpAny _ _ (call (Value.ref 573) _ _) _ _ _); refine wpAny_call ?_))
local macro_rules | `(tactic| walk_at "compareOp NotEq ref ref") => `(tactic| (k_here; refine hold ?_))
local macro_rules | `(tactic| walk_at "compareOp Lt int int") => `(tactic| (k_here; refine hold ?_))
local macro_rules | `(tactic| walk_at "compareOp Eq int int") => `(tactic| (k_here; refine hold ?_))
local macro_rules | `(tactic| walk_at "unpackItems ref") => `(tactic| (k_here; k_dflt (refine' unpackItemsN_ ?k1 ?k2 ?k3 ?k4 ?k5 ?_; (case k1 => k_asm); (case k2 => k_asm); (case k3 => exact News.isTup (by k_asm) (by k_mem)); (case k4 => assumption); (case k5 => exact rfl); k_whole); intro h' F' N'; (try k_sweep)))
local macro_rules | `(tactic| walk_at "ite") => `(tactic| first | rw [if_pos rfl] | rw [if_neg Bool.false_ne_true])
theorem reads_ints {h : Heap} : ∀ {vs : List Value} {ns : List Int}, IntsAre vs ns → ReadsAll h vs (ns.map .int) []
  | _, _, .nil => .nil
  | _, _, .cons x t r => ReadsAll.cons (as := []) (bs := []) (.int x t) (reads_ints r)
theorem ints_shaped (ns : List Int) : SeqAt.shaped (.list (ns.map .int)) = true := by
  have h : ∀ ns : List Int, PyData.canLayAll0 (ns.map .int) = true ∧ PyData.depthAll (ns.map .int) = 0 := by
    intro ns; induction ns with
    | nil => exact ⟨rfl, rfl⟩
    | cons i r ih =>
      rw [List.map_cons, PyData.canLayAll0, PyData.depthAll, ih.1, ih.2, PyData.canLay0, PyData.depth]
      exact ⟨rfl, rfl⟩
  have e : (PyData.list (ns.map .int)).depth = PyData.depthAll (ns.map .int) + 1 := by rw [PyData.depth]
  rw [SeqAt.shaped, e, PyData.canLay0, (h ns).1, (h ns).2]; rfl
theorem ne_ints {prog : Program} {w : World} {A : Around} {E : Value → Shared → Prop} {s : Shared} {Q : Value → Shared → Prop} {l e : Addr} {vs : List Value} {ns : List Int} {k k2 : Nat} (hl : s.heap.get? l = some (PySem.W.listOf vs.toArray k)) (he : s.heap.get? e = some (PySem.W.listOf #[] k2)) (hi : IntsAre vs ns) (hu : A.units + 64 < cLine) (h : Q (.bool (!vs.isEmpty)) s) :
    wpAny (model prog w) A (compareOp .NotEq (.ref l) (.ref e)) Q E s := by
  refine ne_dataH (da := .list (ns.map .int)) (db := .list ([].map .int)) (.list hl rfl rfl (by simpa using reads_ints hi)) (.list he rfl rfl .nil) (ints_shaped ns) (ints_shaped []) hu ?_
  cases hi with
  | nil => rw [show (!PyData.eqv (.list (([] : List Int).map .int)) (.list (([] : List Int).map .int))) = false by simp [PyData.eqv, PyData.eqvAll]]; exact h
  | cons x t r => rw [show (!PyData.eqv (.list ((x :: _).map .int)) (.list (([] : List Int).map .int))) = true by simp [PyData.eqv, PyData.eqvAll]]; exact h
/-- a tree that the law draws -/
def gtr (n : Nat) (t : Tree) : Prop := t.ht ≤ n ∧ t.ok ∧ lw t ≤ 3 ^ n ∧ t.sz ≤ 4 ^ n ∧ cb (3 ^ (n - 1)) t
theorem name12 : ∀ kn : Nat, kn < 12 → ∃ a : Atom, [Str.ofString "S", Str.ofString "T", Str.ofString "U", Str.ofString "A", Str.ofString "B", Str.ofString "C", Str.ofString "object", Str.ofString "none", Str.ofString "never", Str.ofString "any", Str.ofString "S", Str.ofString "A"].getD ((kn : Int)).toNat Str.empty = a.nm
  | 0, _ => ⟨.S, rfl⟩
  | 1, _ => ⟨.T, rfl⟩
  | 2, _ => ⟨.U, rfl⟩
  | 3, _ => ⟨.A, rfl⟩
  | 4, _ => ⟨.B, rfl⟩
  | 5, _ => ⟨.C, rfl⟩
  | 6, _ => ⟨.obj, rfl⟩
  | 7, _ => ⟨.non, rfl⟩
  | 8, _ => ⟨.nev, rfl⟩
  | 9, _ => ⟨.any, rfl⟩
  | 10, _ => ⟨.S, rfl⟩
  | 11, _ => ⟨.A, rfl⟩
  | n + 12, h => absurd h (by omega)
theorem gtr_leaf (n : Nat) (a : Atom) : gtr n (.leaf a) := by
  refine ⟨by simp [Tree.ht], by simp [Tree.ok], ?_, ?_, by simp [cb]⟩
  · simp only [lw]; exact Nat.one_le_pow _ _ (by decide)
  · simp only [Tree.sz]; exact Nat.one_le_pow _ _ (by decide)
mutual
theorem cb_mono {c d : Nat} (h : c ≤ d) : ∀ t : Tree, cb c t → cb d t
  | .leaf _, _ => by simp [cb]
  | .node g ps, hc => by
    simp only [cb] at hc ⊢
    exact ⟨cbs_mono h ps hc.1, fun e p hp => Nat.le_trans (hc.2 e p hp) h⟩
theorem cbs_mono {c d : Nat} (h : c ≤ d) : ∀ ts : List Tree, cbs c ts → cbs d ts
  | [], _ => by simp [cbs]
  | t :: r, hc => by
    simp only [cbs] at hc ⊢
    exact ⟨cb_mono h t hc.1, cbs_mono h r hc.2⟩
end
theorem lws_all {n : Nat} : ∀ {ts : List Tree}, (∀ t ∈ ts, lw t ≤ n) → lws ts ≤ ts.length * n
  | [], _ => by simp [lws]
  | t :: r, h => by
    have a := h t (List.mem_cons_self ..)
    have b := lws_all (ts := r) fun u hu => h u (List.mem_cons_of_mem _ hu)
    simp only [lws, List.length_cons]; rw [Nat.add_mul]; omega
theorem szs_all {n : Nat} : ∀ {ts : List Tree}, (∀ t ∈ ts, t.sz ≤ n) → szs ts ≤ ts.length * n
  | [], _ => by simp [szs]
  | t :: r, h => by
    have a := h t (List.mem_cons_self ..)
    have b := szs_all (ts := r) fun u hu => h u (List.mem_cons_of_mem _ hu)
    simp only [szs, List.length_cons]; rw [Nat.add_mul]; omega
theorem gtr_node {n : Nat} (g : Tag) {ts : List Tree} (h1 : 1 ≤ ts.length) (h3 : ts.length ≤ 3) (h : ∀ t ∈ ts, gtr n t) : gtr (n + 1) (.node g ts) := by
  have p3 : 1 ≤ 3 ^ n := Nat.one_le_pow _ _ (by decide)
  have p4 : 1 ≤ 4 ^ n := Nat.one_le_pow _ _ (by decide)
  refine ⟨?_, ?_, ?_, ?_, ?_⟩
  · have := hts_all (n := n) fun t ht => (h t ht).1
    simp only [Tree.ht]; omega
  · simp only [Tree.ok]
    exact ⟨fun _ e => by rw [e] at h1; simp at h1, oks_all.mpr fun t ht => (h t ht).2.1⟩
  · have a := lws_all fun t ht => (h t ht).2.2.1
    have b : ts.length * 3 ^ n ≤ 3 * 3 ^ n := Nat.mul_le_mul_right _ h3
    simp only [lw]; rw [Nat.pow_succ]; omega
  · have a := szs_all fun t ht => (h t ht).2.2.2.1
    have b : ts.length * 4 ^ n ≤ 3 * 4 ^ n := Nat.mul_le_mul_right _ h3
    simp only [Tree.sz]; rw [Nat.pow_succ]; omega
  · simp only [cb]
    have e : n + 1 - 1 = n := rfl
    rw [e]
    exact ⟨cbs_mem.mpr fun t ht => cb_mono (Nat.pow_le_pow_right (by decide) (Nat.sub_le n 1)) t (h t ht).2.2.2.2, fun _ t ht => (h t ht).2.2.1⟩
def PreTr (n : Nat) (news : Led) (args : List Value) : Prop := ∃ l vs ns k tk, args = [.ref l, .int (n : Int) tk] ∧ (l, PySem.W.listOf vs.toArray k) ∈ news ∧ IntsAre vs ns ∧ vs.length ≤ 63
def PostTr (n : Nat) (news : Led) (r : Value) : Prop := ∃ D x l vs ns k k2 t, r = .ref D ∧ (D, tupOf [x, .ref l] k2) ∈ news ∧ (l, PySem.W.listOf vs.toArray k) ∈ news ∧ IntsAre vs ns ∧ vs.length ≤ 63 ∧ TreeIn news t x ∧ gtr n t
theorem tree_step (w : World) (mean : ExcName → Option Value) (mg mb : Str → Option Value) (n : Nat) (IH : ∀ m, n = m + 1 → Con w mean mg mb 573 (m * 8 + 8) (m * 40 + 120) (PreTr m) (fun news _ r => PostTr m news r)) : Con w mean mg mb 573 (n * 8 + 8) (n * 40 + 120) (PreTr n) (fun news _ r => PostTr n news r) := by
  unfold Con
  k_fill
  intro A A₀ env outer base h₀ L m news vis s args R B F X N T hA hf hk hh hg hd hu hvis hp hR
  obtain ⟨l, vs, ns, k, tkd, rfl, hl, hi, hlen⟩ := hp
  have hl' := hvis _ hl
  k_dflt (refine' code_def (K := Mine.hd.heap_39 w.params) (binds := [(Str.ofString "numbers", .ref l), (Str.ofString "deep", .int (n : Int) tkd)]) B F X N T hA hf hk ?k6 ?k7 ?k8 ?k9 ?kB ?_ ?c2 ?c3 ?c4 ?c5; (case k6 => k_is); (case k7 => k_is); (case k9 => exact BindsTo.of_eq rfl); (case kB => exact locs rfl); (case c2 => exact rfl); (case c3 => exact rfl); (case c4 => exact rfl); (case c5 => decide); (case k8 => omega))
  intro g' L' h' FG' F' N' B' X' T'
  clear F N B X T
  try dsimp only
  k_fold
  k_steps
  rename_i De he Fe Ne le
  refine ne_ints (Ne _ (List.mem_cons_of_mem _ hl')).1 (Ne _ (List.mem_cons_self ..)).1 hi (by ((try simp only [units_under_make, units_in1, units_deeper, Around.mark_units, units_caller]); omega)) ?_
  cases hi with
  | nil =>
    rw [show (!([] : List Value).isEmpty) = false from rfl]
    k_steps
    rename Fr _ _ _ _ => F1
    rename News _ _ _ _ => N1
    rename_i hA5 tkx Dr hA4 lr Dt hA3 lt hA2 hA1 hA0
    rw [show Int.fmod 0 12 = ((0 : Nat) : Int) from rfl] at N1 F1 ⊢
    refine lt_int ?_
    rw [show decide (((0 : Nat) : Int) < 7) = true from rfl]
    k_steps
    rename_i l2 hq2 lq2 D5 h5 F5 N5 l5
    show LeaveK _ _ _ _ _ _ _
    refine con_leave hR F5 N5 [(Dr, PySem.W.listOf ([] : List Value).toArray 0), (D5, tupOf [.str (Atom.nm .S) tk, .ref Dr] 0)] (fun p hp => ?_) (Ord.cons (allLt_get lr.2) (Ord.cons (allLt_get l5.2.2.2.2) Ord.nil)) ⟨D5, .str (Atom.nm .S) tk, Dr, [], [], 0, 0, .leaf .S, rfl, List.mem_append_right _ (List.mem_cons_of_mem _ (List.mem_cons_self ..)), List.mem_append_right _ (List.mem_cons_self ..), .nil, by simp, ?_, gtr_leaf n .S⟩
    · rcases List.mem_append.mp hp with h | h
      · k_mem
      · rcases List.mem_cons.mp h with h | h
        · rw [h]; k_mem
        · rw [List.mem_singleton.mp h]; k_mem
    · simp only [TreeIn]; exact ⟨_, rfl⟩
  | cons i ti hi =>
    rename_i vs ns
    rw [show (!(Value.int i ti :: vs).isEmpty) = true from rfl]
    k_steps
    refine PyProof.Rows.item_list (items := (Value.int i ti :: vs).toArray) (x := .int i ti) (News.isList Ne (List.mem_cons_of_mem _ hl')) (by decide) (by decide) (by simp) ?_
    k_steps
    rename Fr _ _ _ _ => F1
    rename News _ _ _ _ => N1
    have hvl : vs.length ≤ 62 := by simp only [List.length_cons] at hlen; omega
    have hsl := sizeLine_eq
    rename_i hA5 tkx Dr ws hA4 hIr hCr hLr lr Dt hA3 lt hA2 hA1 hA0
    obtain ⟨kn, hkn, hk12⟩ : ∃ kn : Nat, (i.fmod 1000).fmod 12 = (kn : Int) ∧ kn < 12 := by
      have a := Int.fmod_nonneg_of_pos (i.fmod 1000) (b := 12) (by decide)
      have b := Int.fmod_lt_of_pos (i.fmod 1000) (b := 12) (by decide)
      exact ⟨((i.fmod 1000).fmod 12).toNat, by omega, by omega⟩
    rw [hkn] at F1 N1 ⊢
    have hwl : ws.length ≤ 63 := by
      have := hIr.nums
      have h3 := congrArg List.length this
      simp only [List.length_map, List.length_drop, List.length_cons] at h3
      have h4 := hi.nums
      have h5 := congrArg List.length h4
      simp only [List.length_map] at h5
      simp only [List.length_cons] at hlen
      omega
    refine lt_int ?_
    by_cases h7 : kn < 7
    · rw [show decide ((kn : Int) < 7) = true from decide_eq_true (by omega)]
      k_steps
      rename_i tq ktq D5 h5 F5 N5 l5
      show LeaveK _ _ _ _ _ _ _
      obtain ⟨a, ha⟩ := name12 kn hk12
      rw [ha] at N5
      refine con_leave hR F5 N5 [(Dr, PySem.W.listOf ws.toArray 0), (D5, tupOf [.str a.nm tq, .ref Dr] 0)] (fun p hp => ?_) (Ord.cons (allLt_get lr.2) (Ord.cons (allLt_get l5.2.2.2.2) Ord.nil)) ⟨D5, .str a.nm tq, Dr, ws, _, 0, 0, .leaf a, rfl, List.mem_append_right _ (List.mem_cons_of_mem _ (List.mem_cons_self ..)), List.mem_append_right _ (List.mem_cons_self ..), hIr, hwl, ?_, gtr_leaf n a⟩
      · rcases List.mem_append.mp hp with h | h
        · k_mem
        · rcases List.mem_cons.mp h with h | h
          · rw [h]; k_mem
          · rw [List.mem_singleton.mp h]; k_mem
      · simp only [TreeIn]; exact ⟨_, rfl⟩
    · rw [show decide ((kn : Int) < 7) = false from decide_eq_false (by omega)]
      k_steps
      refine wpAny_eq_int ?_
      by_cases hn : n = 0
      · rw [show ((n : Int) == 0) = true from by rw [hn]; rfl]
        k_steps
        rename_i tq ktq D5 h5 F5 N5 l5
        show LeaveK _ _ _ _ _ _ _
        obtain ⟨a, ha⟩ := name12 kn hk12
        rw [ha] at N5
        refine con_leave hR F5 N5 [(Dr, PySem.W.listOf ws.toArray 0), (D5, tupOf [.str a.nm tq, .ref Dr] 0)] (fun p hp => ?_) (Ord.cons (allLt_get lr.2) (Ord.cons (allLt_get l5.2.2.2.2) Ord.nil)) ⟨D5, .str a.nm tq, Dr, ws, _, 0, 0, .leaf a, rfl, List.mem_append_right _ (List.mem_cons_of_mem _ (List.mem_cons_self ..)), List.mem_append_right _ (List.mem_cons_self ..), hIr, hwl, ?_, gtr_leaf n a⟩
        · rcases List.mem_append.mp hp with h | h
          · k_mem
          · rcases List.mem_cons.mp h with h | h
            · rw [h]; k_mem
            · rw [List.mem_singleton.mp h]; k_mem
        · simp only [TreeIn]; exact ⟨_, rfl⟩
      · rw [show ((n : Int) == 0) = false from beq_false_of_ne (by omega)]
        obtain ⟨n', rfl⟩ : ∃ j, n = j + 1 := ⟨n - 1, by omega⟩
        have IH' := IH n' rfl
        have c5 : kn = 7 ∨ kn = 8 ∨ 9 ≤ kn := by omega
        rcases c5 with rfl | rfl | h9
        · rw [show (((7 : Nat) : Int)) = 7 from rfl] at N1 F1
          k_steps
          refine wpAny_eq_int ?_
          rw [show ((7 : Int) == 7) = true from rfl]
          k_steps
          rename_i D5 h5 F5 N5 l5
          show LeaveK _ _ _ _ _ _ _
          refine con_leave hR F5 N5 [(Dr, PySem.W.listOf ws.toArray 0), (D5, tupOf [.str (Atom.nm .non) tk, .ref Dr] 0)] (fun p hp => ?_) (Ord.cons (allLt_get lr.2) (Ord.cons (allLt_get l5.2.2.2.2) Ord.nil)) ⟨D5, .str (Atom.nm .non) tk, Dr, ws, _, 0, 0, .leaf .non, rfl, List.mem_append_right _ (List.mem_cons_of_mem _ (List.mem_cons_self ..)), List.mem_append_right _ (List.mem_cons_self ..), hIr, hwl, by simp only [TreeIn]; exact ⟨_, rfl⟩, gtr_leaf _ _⟩
          rcases List.mem_append.mp hp with h | h
          · k_mem
          · rcases List.mem_cons.mp h with h | h
            · rw [h]; k_mem
            · rw [List.mem_singleton.mp h]; k_mem
        · rw [show (((8 : Nat) : Int)) = 8 from rfl] at N1 F1
          k_steps
          refine wpAny_eq_int ?_
          rw [show ((8 : Int) == 7) = false from rfl]
          k_steps
          refine wpAny_eq_int ?_
          rw [show ((8 : Int) == 8) = true from rfl]
          k_steps
          rename_i D5 h5 F5 N5 l5
          show LeaveK _ _ _ _ _ _ _
          refine con_leave hR F5 N5 [(Dr, PySem.W.listOf ws.toArray 0), (D5, tupOf [.str (Atom.nm .nev) (tk + 1), .ref Dr] 0)] (fun p hp => ?_) (Ord.cons (allLt_get lr.2) (Ord.cons (allLt_get l5.2.2.2.2) Ord.nil)) ⟨D5, .str (Atom.nm .nev) (tk + 1), Dr, ws, _, 0, 0, .leaf .nev, rfl, List.mem_append_right _ (List.mem_cons_of_mem _ (List.mem_cons_self ..)), List.mem_append_right _ (List.mem_cons_self ..), hIr, hwl, by simp only [TreeIn]; exact ⟨_, rfl⟩, gtr_leaf _ _⟩
          rcases List.mem_append.mp hp with h | h
          · k_mem
          · rcases List.mem_cons.mp h with h | h
            · rw [h]; k_mem
            · rw [List.mem_singleton.mp h]; k_mem
        · k_steps
          refine wpAny_eq_int ?_
          rw [show ((kn : Int) == 7) = false from beq_false_of_ne (by omega)]
          k_steps
          refine wpAny_eq_int ?_
          rw [show ((kn : Int) == 8) = false from beq_false_of_ne (by omega)]
          k_steps
          rename_i lp hp1 llp tkp l3 hx Fx Nx ll3 tx hy tky t1 u1 v1 hrg Fg Ng keepg
          clear Fx Nx
          have N0 : News g' L' hy ((lp, PySem.W.listOf ([] : List Value).toArray 0) :: ((Dr, PySem.W.listOf ws.toArray 0) :: news)) := fun p hp => Ng p (by
            simp only [List.mem_cons] at hp ⊢
            rcases hp with h | h | h <;> simp [h])
          obtain ⟨c, hc1, hc2⟩ : ∃ c : Nat, [(1 : Int), 2, 3].getD ((kn : Int) - 9).toNat 0 = (c : Int) ∧ 1 ≤ c ∧ c ≤ 3 := by
            have : kn = 9 ∨ kn = 10 ∨ kn = 11 := by omega
            rcases this with rfl | rfl | rfl
            · exact ⟨1, rfl, by decide, by decide⟩
            · exact ⟨2, rfl, by decide, by decide⟩
            · exact ⟨3, rfl, by decide, by decide⟩
          rw [hc1] at hrg
          have hcc : c = 1 ∨ c = 2 ∨ c = 3 := by omega
          have hsm : Builtin.Range.small 0 (c : Int) 1 = true := by rcases hcc with rfl | rfl | rfl <;> decide +kernel
          have hrs : Builtin.Range.rangeSize 0 (c : Int) 1 = ((c : Nat) : Int) := by rcases hcc with rfl | rfl | rfl <;> decide +kernel
          refine for_rangeM (l := l) (n := c) (fun m₀ i m nx => ∃ ur lr0 up uk wr nr kr ys k1 tl ts, m = (fun y => if y = Str.ofString "rest" then ur else if y = Str.ofString "part" then up else if y = Str.ofString "k" then uk else m₀ y) ∧ ur = some (.ref lr0) ∧ nx = (lp, PySem.W.listOf ys.toArray k1) :: (((Dr, PySem.W.listOf ws.toArray 0) :: news) ++ tl) ∧ (lr0, PySem.W.listOf wr.toArray kr) ∈ vis ++ ((Dr, PySem.W.listOf ws.toArray 0) :: tl) ∧ IntsAre wr nr ∧ wr.length ≤ 63 ∧ TreesIn (vis ++ ((Dr, PySem.W.listOf ws.toArray 0) :: tl)) ts ys ∧ ts.length = i ∧ (∀ t ∈ ts, gtr n' t) ∧ Ord ((Dr, PySem.W.listOf ws.toArray 0) :: news) ((lp, PySem.W.listOf ys.toArray k1) :: tl) ∧ ∀ p ∈ tl, lp < p.1) hh hrg hsm hrs (List.mem_cons_of_mem _ (List.mem_cons_of_mem _ hl')) Fg N0 ?_ ?_ ?_
          · exact ⟨_, Dr, _, _, ws, _, 0, [], 0, [], [], env3_start _ _ _ _, rfl, by simp, List.mem_append_right _ (List.mem_cons_self ..), hIr, hwl, TreesIn.nil, rfl, (fun _ h => nomatch h), Ord.cons (fun q hq => by
              rcases List.mem_cons.mp hq with h | h
              · rw [h]; exact llp.2.1
              · exact allLt_get llp.2.2.2 q h) Ord.nil, (fun _ h => nomatch h)⟩
          · intro j tj m₁ nx h tk own hjc hoff hlm hJ F N
            clear hsm hrs hrg Fg Ng N0 keepg
            obtain ⟨ur, lr0, up, uk, wr, nr, kr, ys, k1, tl, ts, rfl, rfl, rfl, hlr, hIw, hwr, hT, hTl, hTg, hO, hlt⟩ := hJ
            try k_fold
            k_steps
            k_dflt (refine' con_use (IH') (vis ++ ((Dr, PySem.W.listOf ws.toArray 0) :: tl)) ?k1 ?k2 ?k3 ?k4 ?k5 ?kA ?kF ?kK ?kh ?kg ?kd ?ku ?kv ?pre ?_; (case k1 => k_asm); (case k2 => k_asm); (case k3 => k_asm); (case k4 => k_asm); (case k5 => k_asm); (case kA => first | exact Around.frames_deeper (Below.stack (by assumption)) | assumption); (case kF => exact rfl); (case kK => exact rfl); (case kh => first | exact hh | exact rfl | assumption); (case kg => first | exact hg | exact rfl | assumption); (case kd => ((try simp only [depth_under_make, depth_under_kw, depth_in1, depth_deeper, depth_caller]); omega)); (case ku => ((try simp only [units_under_make, units_in1, units_deeper, Around.mark_units, units_caller]); omega)))
            case kv =>
              intro p hp
              rcases List.mem_append.mp hp with h | h
              · have := hvis p h; k_mem
              · rcases List.mem_cons.mp h with h | h
                · rw [h]; k_mem
                · k_mem
            case pre => exact ⟨lr0, wr, nr, kr, _, by rw [show (((n' + 1 : Nat) : Int) - 1) = (n' : Int) by omega], hlr, hIw, hwr⟩
            intro r tl9 h9' tk9 F9 N9 O9 P9
            obtain ⟨D2, x2, l2, vs2, ns2, k2, k3, t2, rfl, q1, q2, q3, q4, q5, q6⟩ := P9
            have hs9 : ∀ p ∈ vis ++ ((Dr, PySem.W.listOf ws.toArray 0) :: tl) ++ tl9, p ∈ (lp, PySem.W.listOf ys.toArray k1) :: (((Dr, PySem.W.listOf ws.toArray 0) :: news) ++ tl) ++ own ++ tl9 := fun p hp => by
              rcases List.mem_append.mp hp with h | h
              · rcases List.mem_append.mp h with h | h
                · have := hvis p h; k_mem
                · rcases List.mem_cons.mp h with h | h
                  · rw [h]; k_mem
                  · k_mem
              · k_mem
            have q1' := hs9 _ q1
            have q2' := hs9 _ q2
            dsimp only
            refine unpackN_ (items := #[x2, .ref l2]) F9 N9 (News.isTup N9 q1') hh rfl rfl ?_
            intro ha F10 N10
            k_steps
            have hap := ap_off (news := (Dr, PySem.W.listOf ws.toArray 0) :: news) (fun q hq => hO q hq _ (List.mem_cons_self ..)) hlt hoff
            have hap9 := ap_more hap O9 (List.mem_append_left _ (List.mem_cons_self ..))
            have hysl := hT.len
            rename Fr _ _ _ _ => F11
            rename News _ _ _ _ => N11
            refine append_head (rest := ((Dr, PySem.W.listOf ws.toArray 0) :: news) ++ tl ++ own ++ tl9) F11 N11 hap9 ?_ (by rw [List.size_toArray]; omega)
            intro h12 F12 N12
            rw [List.push_toArray] at N12
            k_steps
            refine GenPost.next ((lp, PySem.W.listOf (ys ++ [x2]).toArray (k1 + 1)) :: (((Dr, PySem.W.listOf ws.toArray 0) :: news) ++ (tl ++ tl9))) (.inl rfl) F12 N12 ?_ ?_ ?_ ?_
            · intro p hp
              simp only [List.cons_append, List.mem_cons, List.mem_append] at hp ⊢
              rcases hp with h | h | (h | h | h) | h <;> simp [h]
            · k_mem
            · rw [← List.append_assoc]; exact off_tl hoff (O9.sub fun q hq => List.mem_append_right _ hq)
            · refine ⟨_, l2, _, _, vs2, ns2, k2, ys ++ [x2], k1 + 1, tl ++ tl9, ts ++ [t2], env3_turn _ _ _ _ _ _ _, rfl, rfl, ?_, q3, q4, ?_, by simp [hTl], ?_, ord_grow hO O9 fun q hq => by k_mem, lt_grow hlt O9 (by k_mem)⟩
              · rw [List.append_assoc] at q2; exact q2
              · have hT2 := (hT.mono fun p (hp : p ∈ vis ++ ((Dr, PySem.W.listOf ws.toArray 0) :: tl)) => List.mem_append_left tl9 hp).app (TreesIn.one q5)
                rw [List.append_assoc] at hT2; exact hT2
              · intro t ht
                rcases List.mem_append.mp ht with h | h
                · exact hTg t h
                · rw [List.mem_singleton.mp h]; exact q6
          · rintro m₁ nx h tk ⟨ur, lr0, up, uk, wr, nr, kr, ys, k1, tl, ts, rfl, rfl, rfl, hlr, hIw, hwr, hT, hTl, hTg, hO, hlt⟩ F N
            clear hsm hrs hrg Fg Ng N0 keepg
            show wpAny _ _ _ _ _ _
            k_steps
            rename Fr _ _ _ _ => F2
            rename News _ _ _ _ => N2
            obtain ⟨g, tkg, hg8⟩ : ∃ (g : Tag) (tkg : Tok), (#[Value.str (Str.ofString "box") tk, Value.str (Str.ofString "pair") (tk + 1), Value.str (Str.ofString "union") (tk + 1 + 1)] : Array Value)[((kn : Int) - 9).toNat]? = some (.str g.nm tkg) := by
              have : kn = 9 ∨ kn = 10 ∨ kn = 11 := by omega
              rcases this with rfl | rfl | rfl
              · exact ⟨.box, _, rfl⟩
              · exact ⟨.pair, _, rfl⟩
              · exact ⟨.union, _, rfl⟩
            refine PyProof.Rows.item_list (x := .str g.nm tkg) (News.isList N2 (List.mem_cons_self ..)) (by omega) (by omega) hg8 ?_
            k_steps
            have hysl := hT.len
            have hsl := sizeLine_eq
            rename_i D7 h7 F7 N7 l7
            refine add_list F7 N7 (vs := [Value.str g.nm tkg]) (us := ys) (k := 0) (k2 := k1) (by k_mem) (by k_mem) (by simp only [List.length_cons, List.length_nil]; omega) ?_
            intro D9 h9' F9 N9 l9
            k_steps
            rename_i D10 h10 F10 N10 l10
            show LeaveK _ _ _ _ _ _ _
            have hOA : Ord news ((Dr, PySem.W.listOf ws.toArray 0) :: tl) := Ord.cons (allLt_get lr.2) fun q hq p hp => hO q (List.mem_cons_of_mem _ hq) p (List.mem_cons_of_mem _ hp)
            have l10' : D9 < D10 := l10.1
            have hlt9 : ∀ q ∈ news ++ ((Dr, PySem.W.listOf ws.toArray 0) :: tl), q.1 < D9 := fun q hq => l9 q (by
              simp only [List.mem_append, List.mem_cons] at hq ⊢
              rcases hq with h | h | h <;> simp [h])
            refine con_leave hR F10 N10 (((Dr, PySem.W.listOf ws.toArray 0) :: tl) ++ [(D9, PySem.W.listOf ([Value.str g.nm tkg] ++ ys).toArray 0), (D10, tupOf [.ref D9, .ref lr0] 0)]) (fun p hp => ?_) (hOA.app fun q hq p hp => ?_) ⟨D10, .ref D9, lr0, wr, nr, kr, 0, .node g ts, rfl, ?_, ?_, hIw, hwr, ?_, gtr_node g (by omega) (by omega) hTg⟩
            · rw [← List.append_assoc] at hp
              rcases List.mem_append.mp hp with h | h
              · simp only [List.mem_append, List.mem_cons] at h ⊢
                rcases h with h | h | h <;> simp [h]
              · rcases List.mem_cons.mp h with h | h
                · rw [h]; k_mem
                · rw [List.mem_singleton.mp h]; k_mem
            · rcases List.mem_cons.mp hp with h | h
              · rw [h]; exact hlt9 q hq
              · rw [List.mem_singleton.mp h]; exact Nat.lt_trans (hlt9 q hq) l10'
            · rw [← List.append_assoc]; exact List.mem_append_right _ (List.mem_cons_of_mem _ (List.mem_cons_self ..))
            · rw [← List.append_assoc]; exact List.mem_append_left _ hlr
            · simp only [TreeIn]
              refine ⟨D9, tkg, ys, 0, rfl, ?_, ?_⟩
              · rw [← List.append_assoc]; exact List.mem_append_right _ (List.mem_cons_self ..)
              · rw [← List.append_assoc]; exact hT.mono fun p hp => List.mem_append_left _ hp
theorem tree_con (w : World) (mean : ExcName → Option Value) (mg mb : Str → Option Value) : ∀ n : Nat, Con w mean mg mb 573 (n * 8 + 8) (n * 40 + 120) (PreTr n) (fun news _ r => PostTr n news r)
  | 0 => tree_step w mean mg mb 0 fun m h => absurd h (by omega)
  | n + 1 => tree_step w mean mg mb (n + 1) fun m h => by
    have e : n = m := by omega
    subst e; exact tree_con w mean mg mb n
end Mine
namespace Mine
local macro_rules | `(tactic| walk_at "idle") => `(tactic| fail "idle")
local macro_rules | `(tactic| walk_at "idle") => `(tactic| fail "idle")
local macro_rules | `(tactic| walk_at "idle") => `(tactic| fail "idle")
local macro_rules | `(tactic| walk_at "idle") => `(tactic| fail "idle")
local macro_rules | `(tactic| walk_at "idle") => `(tactic| fail "idle")
local macro_rules | `(tactic| walk_at "idle") => `(tactic| fail "idle")
local macro_rules | `(tactic| walk_at "idle") => `(tactic| fail "idle")
local macro_rules | `(tactic| walk_at "idle") => `(tactic| fail "idle")
local macro_rules | `(tactic| walk_at "idle") => `(tactic| fail "idle")
local macro_rules | `(tactic| walk_at "idle") => `(tactic| fail "idle")
local macro_rules | `(tactic| walk_at "idle") => `(tactic| fail "idle")
local macro_rules | `(tactic| walk_at "idle") => `(tactic| fail "idle")
local macro_rules | `(tactic| walk_at "idle") => `(tactic| fail "idle")
local macro_rules | `(tactic| walk_at "idle") => `(tactic| fail "idle")
local macro_rules | `(tactic| walk_at "idle") => `(tactic| fail "idle")
local macro_rules | `(tactic| walk_at "idle") => `(tactic| fail "idle")
local macro_rules | `(tactic| walk_at "idle") => `(tactic| fail "idle")
local macro_rules | `(tactic| walk_at "idle") => `(tactic| fail "idle")
local macro_rules | `(tactic| walk_at "idle") => `(tactic| fail "idle")
local macro_rules | `(tactic| walk_at "idle") => `(tactic| fail "idle")
theorem fresh51 : True := by
  w_top off
  trivial
local macro_rules | `(tactic| k_mem) => `(tactic| first | with_reducible assumption | with_reducible exact List.mem_cons_self .. | (with_reducible refine List.mem_cons_of_mem _ ?_; k_mem) | (with_reducible refine List.mem_append_left _ ?_; k_mem) | (with_reducible refine List.mem_append_right _ ?_; k_mem))
local macro_rules | `(tactic| k_room) => `(tactic| ((try simp only [depth_under_make, depth_under_kw, depth_in1, depth_deeper, depth_caller]); omega))
local macro_rules | `(tactic| k_units) => `(tactic| ((try simp only [units_under_make, units_in1, units_deeper, Around.mark_units, units_caller]); omega))
local macro_rules | `(tactic| k_all) => `(tactic| first | assumption | (refine List.forall_mem_append.mpr ⟨?_, ?_⟩ <;> k_all))
local macro_rules | `(tactic| k_enter) => `(tactic| (refine' code_def ?k1 ?k2 ?k3 ?k4 ?k5 ?kA ?kF ?kK ?k6 ?k7 ?k8 ?k9 ?kB ?_ ?c2 ?c3 ?c4 ?c5; (case kA => first | exact Around.frames_deeper (Below.stack (by assumption)) | assumption); (case kF => exact rfl); (case kK => exact rfl); (case k1 => k_asm); (case k2 => k_asm); (case k3 => k_asm); (case k4 => k_asm); (case k5 => k_asm); (case k6 => k_is); (case k7 => k_is); (case k8 => k_room); (case k9 => first | exact BindsTo.of_eq rfl | exact binds_K (by k_in) rfl (by k_is) rfl rfl rfl); (case c5 => decide); (case kB => exact locs rfl); (case c2 => exact rfl); (case c3 => exact rfl); (case c4 => exact rfl); k_whole; intro g' L' h' FG' F' N' B' X' T'; (try dsimp only); (try k_fold)))
local macro_rules | `(tactic| walk_at "eval ListComp") => `(tactic| (k_here; refine hold ?_))
local macro_rules | `(tactic| walk_at "pyIter ref") => `(tactic| (k_here; refine hold ?_))
local macro_rules | `(tactic| walk_at "exec For Name Attribute cons nil") => `(tactic| (k_here; refine hold ?_))
local macro_rules | `(tactic| walk_at "exec For Name Name cons nil") => `(tactic| (k_here; refine hold ?_))
local macro_rules | `(tactic| walk_at "compareOp Is ref ref") => `(tactic| (k_here; refine hold ?_))
local macro_rules | `(tactic| walk_at "binaryOp Add ref ref") => `(tactic| (k_here; refine hold ?_))
local macro_rules | `(tactic| walk_at "eval Name") => `(tactic| (k_here; first | (refine nameC_L (by assumption) (by assumption) ?_ (by rfl) (by rfl) (by decide)) | (k_dflt (refine' nameC_C ?k1 ?k2 ?k3 ?k4 ?_ (by rfl) (by rfl) (by decide); (case k1 => k_asm); (case k2 => exact rfl); (case k3 => k_mem); (case k4 => assumption)))))
local macro_rules | `(tactic| walk_at "ite") => `(tactic| first | rw [if_pos rfl] | rw [if_neg Bool.false_ne_true])
/-- a class without bases -/
def RootIn (news : Led) (i : Addr) : Prop :=
  ∃ d h1 h2 h3 h4 h5 t1 t1' t2 t3 t4 t5 v2 v3 lb lm n k1 k2, (i, instObj 64 d) ∈ news ∧ (d, dictOf [⟨h1, .str "fullname" t1, .str "builtins.object" t1'⟩, ⟨h2, .str "defn" t2, v2⟩, ⟨h3, .str "type_vars" t3, v3⟩, ⟨h4, .str "bases" t4, .ref lb⟩, ⟨h5, .str "mro" t5, .ref lm⟩] n) ∈ news ∧
    (lb, PySem.W.listOf #[] k1) ∈ news ∧ (lm, PySem.W.listOf #[.ref i] k2) ∈ news
theorem News.cut {h₀ h : Heap} {L : Addr} {a : Addr × Obj} {l r : Led} (N : News h₀ L h (a :: (l ++ r))) : News h₀ L h (a :: l) := fun p hp => N p (by
  rcases List.mem_cons.mp hp with h | h
  · rw [h]; exact List.mem_cons_self ..
  · exact List.mem_cons_of_mem _ (List.mem_append_left _ h))
theorem root_con (w : World) (mean : ExcName → Option Value) (mg mb : Str → Option Value) : Con w mean mg mb 64 20 100
    (fun news args => ∃ tk l1 l2 k1 k2, args = [.str "builtins.object" tk, .ref l1, .ref l2] ∧ (l1, PySem.W.listOf #[] k1) ∈ news ∧ (l2, PySem.W.listOf #[] k2) ∈ news)
    (fun news _ r => ∃ i, r = .ref i ∧ RootIn news i) := by
  unfold Con
  k_fill
  intro A A₀ env outer base h₀ L m news vis s args R B F X N T hA hf hk hh hg hd hu hvis hp hR
  obtain ⟨tk0, l1, l2, k1, k2, rfl, hl1, hl2⟩ := hp
  have hl1' := hvis _ hl1
  have hl2' := hvis _ hl2
  k_dflt (refine' make_K (K := Mine.hd.heap_39 w.params) F N (X.keeps F.keep) ?m4 ?m5 ?m6 ?_; (case m4 => k_is); (case m5 => k_is); (case m6 => k_is))
  intro x9 d9 h9 F9 N9 l9 l9'
  replace l9' := ltN l9'
  k_dflt (refine' code_defC (K := Mine.hd.heap_39 w.params) (binds := [(Str.ofString "self", .ref x9), (Str.ofString "fullname", .str "builtins.object" tk0), (Str.ofString "type_vars", .ref l1), (Str.ofString "bases", .ref l2)]) B F9 X N9 T ?kA hf hk ?k6 ?k7 ?k8 ?k9 ?kB ?kD ?_ ?c2 ?c3 ?c4; (case kA => exact hA); (case k6 => k_is); (case k7 => k_is); (case k9 => exact BindsTo.of_eq rfl); (case kB => exact rfl); (case kD => decide +kernel); (case c2 => exact rfl); (case c3 => exact rfl); (case c4 => exact rfl); (case k8 => ((try simp only [depth_under_make, depth_under_kw, depth_in1, depth_deeper, depth_caller]); omega)))
  intro g' L' h' tk' cells' FG' F' N' Y' B' X' T' lc
  obtain ⟨c1, hE, dc1⟩ := CellsAre.one Y'
  subst hE
  simp only [List.cons_append, List.nil_append] at N'
  clear F N B X T F9 N9 Y'
  try dsimp only
  k_fold
  change News g' L' h' ((L' + 1, c1) :: (x9, instObj _ d9) :: (d9, dictOf [] 0) :: news) at N'
  have a1 : ∀ p ∈ news, p.1 ≠ d9 := fun p hp => Nat.ne_of_lt (l9 p hp)
  have hx9 : x9 < L' := lc _ (List.mem_cons_self ..)
  have hd9 : d9 < L' := lc _ (List.mem_cons_of_mem _ (List.mem_cons_self ..))
  replace hx9 := ltN hx9
  replace hd9 := ltN hd9
  k_steps
  rename Fr _ _ _ _ => F2
  rename News _ _ _ _ => N2
  refine ListComp_led (hclos := by rfl) rfl (by decide) ?_
  k_steps
  refine comp_none (us := []) hh F2 N2 (SeqOf.src SeqOf.list N2 (by k_mem)) (fun led i _ y => True) (fun l l' i _ y hs h => trivial) (by simp) (by decide) rfl rfl ?elt ?_
  case elt =>
    intro i v1 C1 mC tl own h tkx E' hv
    exact absurd hv (by simp)
  intro D nD h5 tk5 ys tl5 CD
  obtain ⟨F5, N5, O5, off5, P5, lv5, ly5, G5⟩ := CD
  clear F2 N2
  replace N5 := News.cut N5
  have hDd : d9 < D := O5 _ (show (d9, _) ∈ _ by k_mem) _ (List.mem_cons_self ..)
  replace hDd := ltN hDd
  k_steps
  rename_i la ha lla hb Fb Nb
  k_dflt (refine' For_invV g' ?x1 ?x2 ?_; (case x1 => exact rfl); (case x2 => exact rfl))
  k_steps
  rename Fr _ _ _ _ => F6
  rename News _ _ _ _ => N6
  refine for_empty hh (show (l2, _) ∈ _ by k_mem) SeqOf.list F6 N6 ?_
  clear F6 N6
  intro h7 tk7 F7 N7
  show wpAny _ _ _ _ _ _
  k_steps
  rename_i ls hs lls
  rename Fr _ _ _ _ => F8
  rename News _ _ _ _ => N8
  refine ListComp_fil (hclos := by rfl) rfl (by decide) ?_
  k_steps
  refine comp_fil (us := []) hh F8 N8 (SeqOf.src SeqOf.list N8 (show (la, _) ∈ _ by k_mem)) (fun _ => true) (by simp) (by decide) rfl rfl (by decide) (fun i v C mC own h tk E' hv => absurd hv (by simp)) ?_
  intro D2 nD2 h9 tk9 F9 N9 l9D
  clear F8 N8
  simp only [List.zipIdx_nil, List.filter_nil, List.map_nil] at N9
  k_steps
  refine add_list F9 N9 (vs := [.ref x9]) (us := []) (k := 0) (k2 := nD2) (by k_mem) (by k_mem) (by have := sizeLine_eq; simp only [List.length_cons, List.length_nil]; omega) ?_
  intro D3 h10 F10 N10 l10
  clear F9 N9
  k_steps
  refine ListComp_fil (hclos := by rfl) rfl (by decide) ?_
  k_steps
  refine comp_fil (us := []) hh F10 N10 (SeqOf.src SeqOf.list N10 (show (la, _) ∈ _ by k_mem)) (fun _ => true) (by simp) (by decide) rfl rfl (by decide) (fun i v C mC own h tk E' hv => absurd hv (by simp)) ?_
  intro D4 nD4 h11 tk11 F11 N11 l11
  clear F10 N10
  simp only [List.zipIdx_nil, List.filter_nil, List.map_nil] at N11
  k_steps
  refine add_list F11 N11 (vs := [.ref x9]) (us := []) (k := 0) (k2 := nD4) (by k_mem) (by k_mem) (by have := sizeLine_eq; simp only [List.length_cons, List.length_nil]; omega) ?_
  intro D5 h12 F12 N12 l12
  clear F11 N11
  have q5 := ltN (l12 (d9, _) (by k_mem))
  have q4 := ltN (l11 (d9, _) (by k_mem))
  have q3 := ltN (l10 (d9, _) (by k_mem))
  have q2 := ltN (l9D (d9, _) (by k_mem))
  k_steps
  rename Fr _ _ _ _ => F13
  rename News _ _ _ _ => N13
  refine' con_leave_init hR F13 N13 [(x9, instObj 64 d9), (d9, dictOf ?es ?nn), (D5, PySem.W.listOf ([Value.ref x9] ++ []).toArray 0)] ?hm ?ho ?hp
  case hm =>
    intro p hp
    rcases List.mem_append.mp hp with h | h
    · k_mem
    · rcases List.mem_cons.mp h with h | h
      · rw [h]; k_mem
      · rcases List.mem_cons.mp h with h | h
        · rw [h]; k_mem
        · rw [List.mem_singleton.mp h]; k_mem
  case ho => exact Ord.cons (fun q hq => Nat.lt_trans (l9 q hq) l9') (Ord.cons l9 (Ord.cons (fun q hq => l12 q (by k_mem)) Ord.nil))
  case hp =>
    exact ⟨x9, rfl, d9, _, _, _, _, _, _, _, _, _, _, _, _, _, _, _, _, _, _, List.mem_append_right _ (List.mem_cons_self ..), List.mem_append_right _ (List.mem_cons_of_mem _ (List.mem_cons_self ..)), List.mem_append_left _ hl2, List.mem_append_right _ (List.mem_cons_of_mem _ (List.mem_cons_of_mem _ (List.mem_cons_self ..)))⟩
end Mine
namespace Mine
local macro_rules | `(tactic| walk_at "idle") => `(tactic| fail "idle")
local macro_rules | `(tactic| walk_at "idle") => `(tactic| fail "idle")
local macro_rules | `(tactic| walk_at "idle") => `(tactic| fail "idle")
local macro_rules | `(tactic| walk_at "idle") => `(tactic| fail "idle")
local macro_rules | `(tactic| walk_at "idle") => `(tactic| fail "idle")
local macro_rules | `(tactic| walk_at "idle") => `(tactic| fail "idle")
local macro_rules | `(tactic| walk_at "idle") => `(tactic| fail "idle")
local macro_rules | `(tactic| walk_at "idle") => `(tactic| fail "idle")
local macro_rules | `(tactic| walk_at "idle") => `(tactic| fail "idle")
local macro_rules | `(tactic| walk_at "idle") => `(tactic| fail "idle")
local macro_rules | `(tactic| walk_at "idle") => `(tactic| fail "idle")
local macro_rules | `(tactic| walk_at "idle") => `(tactic| fail "idle")
local macro_rules | `(tactic| walk_at "idle") => `(tactic| fail "idle")
local macro_rules | `(tactic| walk_at "idle") => `(tactic| fail "idle")
local macro_rules | `(tactic| walk_at "idle") => `(tactic| fail "idle")
local macro_rules | `(tactic| walk_at "idle") => `(tactic| fail "idle")
local macro_rules | `(tactic| walk_at "idle") => `(tactic| fail "idle")
local macro_rules | `(tactic| walk_at "idle") => `(tactic| fail "idle")
local macro_rules | `(tactic| walk_at "idle") => `(tactic| fail "idle")
local macro_rules | `(tactic| walk_at "idle") => `(tactic| fail "idle")
local macro_rules | `(tactic| walk_at "idle") => `(tactic| fail "idle")
theorem fresh52 : True := by
  w_top off
  trivial
local macro_rules | `(tactic| k_mem) => `(tactic| first | with_reducible assumption | with_reducible exact List.mem_cons_self .. | (with_reducible refine List.mem_cons_of_mem _ ?_; k_mem) | (with_reducible refine List.mem_append_left _ ?_; k_mem) | (with_reducible refine List.mem_append_right _ ?_; k_mem))
local macro_rules | `(tactic| k_room) => `(tactic| ((try simp only [depth_under_make, depth_under_kw, depth_in1, depth_deeper, depth_caller]); omega))
local macro_rules | `(tactic| k_units) => `(tactic| ((try simp only [units_under_make, units_in1, units_deeper, Around.mark_units, units_caller]); omega))
local macro_rules | `(tactic| k_all) => `(tactic| first | assumption | (refine List.forall_mem_append.mpr ⟨?_, ?_⟩ <;> k_all))
local macro_rules | `(tactic| k_enter) => `(tactic| (refine' code_def ?k1 ?k2 ?k3 ?k4 ?k5 ?kA ?kF ?kK ?k6 ?k7 ?k8 ?k9 ?kB ?_ ?c2 ?c3 ?c4 ?c5; (case kA => first | exact Around.frames_deeper (Below.stack (by assumption)) | assumption); (case kF => exact rfl); (case kK => exact rfl); (case k1 => k_asm); (case k2 => k_asm); (case k3 => k_asm); (case k4 => k_asm); (case k5 => k_asm); (case k6 => k_is); (case k7 => k_is); (case k8 => k_room); (case k9 => first | exact BindsTo.of_eq rfl | exact binds_K (by k_in) rfl (by k_is) rfl rfl rfl); (case c5 => decide); (case kB => exact locs rfl); (case c2 => exact rfl); (case c3 => exact rfl); (case c4 => exact rfl); k_whole; intro g' L' h' FG' F' N' B' X' T'; (try dsimp only); (try k_fold)))
local macro_rules | `(tactic| walk_at "eval ListComp") => `(tactic| (k_here; refine hold ?_))
local macro_rules | `(tactic| walk_at "pyIter ref") => `(tactic| (k_here; refine hold ?_))
local macro_rules | `(tactic| walk_at "exec For Name Attribute cons nil") => `(tactic| (k_here; refine hold ?_))
local macro_rules | `(tactic| walk_at "exec For Name Name cons nil") => `(tactic| (k_here; refine hold ?_))
local macro_rules | `(tactic| walk_at "compareOp Is ref ref") => `(tactic| (k_here; refine hold ?_))
local macro_rules | `(tactic| walk_at "binaryOp Add ref ref") => `(tactic| (k_here; refine hold ?_))
local macro_rules | `(tactic| walk_at "eval Name") => `(tactic| (k_here; first | (refine nameC_L (by assumption) (by assumption) ?_ (by rfl) (by rfl) (by decide)) | (k_dflt (refine' nameC_C ?k1 ?k2 ?k3 ?k4 ?_ (by rfl) (by rfl) (by decide); (case k1 => k_asm); (case k2 => exact rfl); (case k3 => k_mem); (case k4 => assumption)))))
local macro_rules | `(tactic| walk_at "ite") => `(tactic| first | rw [if_pos rfl] | rw [if_neg Bool.false_ne_true])
theorem led_split {h₀ h : Heap} {L : Addr} {pa p2 p3 p4 pc : Addr × Obj} {r : Led} (N : News h₀ L h (pa :: p2 :: p3 :: p4 :: pc :: r)) : ∃ R : Led, R = p2 :: p3 :: p4 :: r ∧ News h₀ L h (pc :: pa :: R) :=
  ⟨_, rfl, fun p hp => N p (by
    simp only [List.mem_cons] at hp ⊢
    rcases hp with h | h | h | h | h | h <;> simp [h])⟩
theorem info_con (w : World) (mean : ExcName → Option Value) (mg mb : Str → Option Value) (full : Str) : Con w mean mg mb 64 20 100
    (fun news args => ∃ tk l1 l2, ∃ tvs : List Value, ∃ k1 k2 top io, args = [.str full tk, .ref l1, .ref l2] ∧ (l1, PySem.W.listOf tvs.toArray k1) ∈ news ∧ tvs.length ≤ 2 ∧ (∀ v ∈ tvs, ∃ x nm k tp, v = .ref x ∧ VarIn news x nm k tp) ∧ (l2, PySem.W.listOf #[.ref top] k2) ∈ news ∧ InstIn news top io [] ∧ RootIn news io)
    (fun news _ r => ∃ i, r = .ref i ∧ InfoIn news i full) := by
  unfold Con
  k_fill
  intro A A₀ env outer base h₀ L m news vis s args R B F X N T hA hf hk hh hg hd hu hvis hp hR
  obtain ⟨tk0, l1, l2, tvs, k1, k2, top, io, rfl, hl1, htl, htv, hl2, hI, hR0⟩ := hp
  have hl1' := hvis _ hl1
  have hl2' := hvis _ hl2
  obtain ⟨d0, tu0, g1, g2, u1, u2, nI, kI, i1, i2, i3⟩ := hI
  have i1' := hvis _ i1
  have i2' := hvis _ i2
  obtain ⟨dr, r1, r2, r3, r4, r5, s1, s1', s2, s3, s4, s5, v2, v3, lb, lm, nr, kr1, kr2, j1, j2, j3, j4⟩ := hR0
  have j1' := hvis _ j1
  have j2' := hvis _ j2
  have j3' := hvis _ j3
  have j4' := hvis _ j4
  have hsl := sizeLine_eq
  k_dflt (refine' make_K (K := Mine.hd.heap_39 w.params) F N (X.keeps F.keep) ?m4 ?m5 ?m6 ?_; (case m4 => k_is); (case m5 => k_is); (case m6 => k_is))
  intro x9 d9 h9 F9 N9 l9 l9'
  replace l9' := ltN l9'
  k_dflt (refine' code_defC (K := Mine.hd.heap_39 w.params) (binds := [(Str.ofString "self", .ref x9), (Str.ofString "fullname", .str full tk0), (Str.ofString "type_vars", .ref l1), (Str.ofString "bases", .ref l2)]) B F9 X N9 T ?kA hf hk ?k6 ?k7 ?k8 ?k9 ?kB ?kD ?_ ?c2 ?c3 ?c4; (case kA => exact hA); (case k6 => k_is); (case k7 => k_is); (case k9 => exact BindsTo.of_eq rfl); (case kB => exact rfl); (case kD => decide +kernel); (case c2 => exact rfl); (case c3 => exact rfl); (case c4 => exact rfl); (case k8 => ((try simp only [depth_under_make, depth_under_kw, depth_in1, depth_deeper, depth_caller]); omega)))
  intro g' L' h' tk' cells' FG' F' N' Y' B' X' T' lc
  obtain ⟨c1, hE, dc1⟩ := CellsAre.one Y'
  subst hE
  simp only [List.cons_append, List.nil_append] at N'
  clear F N B X T F9 N9 Y'
  try dsimp only
  k_fold
  change News g' L' h' ((L' + 1, c1) :: (x9, instObj _ d9) :: (d9, dictOf [] 0) :: news) at N'
  have a1 : ∀ p ∈ news, p.1 ≠ d9 := fun p hp => Nat.ne_of_lt (l9 p hp)
  have hx9 : x9 < L' := lc _ (List.mem_cons_self ..)
  have hd9 : d9 < L' := lc _ (List.mem_cons_of_mem _ (List.mem_cons_self ..))
  replace hx9 := ltN hx9
  replace hd9 := ltN hd9
  k_steps
  rename Fr _ _ _ _ => F2
  rename News _ _ _ _ => N2
  refine ListComp_led (hclos := by rfl) rfl (by decide) ?_
  k_steps
  refine comp_none (us := tvs) hh F2 N2 (SeqOf.src SeqOf.list N2 (by k_mem)) (fun led i _ y => True) (fun l l' i _ y hs h => trivial) (by omega) (by decide) rfl rfl ?elt ?_
  case elt =>
    intro i v1 C1 mC tl own h tkx E' hv F N O hn hm hC
    obtain ⟨x, nm, kk, tp, rfl, d1, j, dj, l1x, h1, h2, h3, h4, h5, t1, t1', t2, t3, t4, t5, t5', h6, h7, t6, t6', t7, t7', n1, n2, n3, z1, z2, z3, z4, z5⟩ := htv v1 (List.mem_of_getElem? hv)
    have z1' := hvis _ z1
    have z2' := hvis _ z2
    refine holdPost ?_
    k_steps
    exact unhold ⟨[], h, _, rfl, F, by rw [List.append_nil]; exact N, Ord.nil, trivial⟩
  intro D nD h5 tk5 ys tl5 CD
  obtain ⟨F5, N5, O5, off5, P5, lv5, ly5, G5⟩ := CD
  clear F2 N2
  replace N5 := News.cut N5
  have hDd : d9 < D := O5 _ (show (d9, _) ∈ _ by k_mem) _ (List.mem_cons_self ..)
  replace hDd := ltN hDd
  have hLD := ltN (O5 (L' + 1, c1) (by k_mem) _ (List.mem_cons_self ..))
  k_steps
  rename_i la ha lla hb Fb Nb
  k_dflt (refine' For_invV g' ?x1 ?x2 ?_; (case x1 => exact rfl); (case x2 => exact rfl))
  k_steps
  rename Fr _ _ _ _ => F6
  rename News _ _ _ _ => N6
  obtain ⟨R0, hRe, N7⟩ := led_split N6
  clear N6
  have hnR : ∀ p ∈ news, p ∈ R0 := fun p hp => by rw [hRe]; k_mem
  have R1 : ∀ p ∈ R0, p.1 ≠ L' + 1 := fun p hp => by
    rw [hRe] at hp
    simp only [List.mem_cons] at hp
    rcases hp with h | h | h | h | h | h
    · rw [h]; exact Nat.ne_of_gt hLD
    · rw [h]; dsimp only; exact neN (by omega)
    · rw [h]; dsimp only; exact neN (by omega)
    · rw [h]; dsimp only; exact neN (by omega)
    · rw [h]; dsimp only; exact neN (by omega)
    · have h5 := ltN (l9 p h); exact neN (by omega)
  have Rla : ∀ p ∈ R0, p.1 ≠ la := fun p hp => by
    rw [hRe] at hp
    simp only [List.mem_cons] at hp
    rcases hp with h | h | h | h | h | h
    · rw [h]; dsimp only; exact neN (by omega)
    · rw [h]; dsimp only; exact neN (by omega)
    · rw [h]; dsimp only; exact neN (by omega)
    · rw [h]; dsimp only; exact neN (by omega)
    · rw [h]; dsimp only; exact neN (by omega)
    · have h5 := ltN (l9 p h); exact neN (by omega)
  have l2R := hnR _ hl2'
  have i1R := hnR _ i1'
  have i2R := hnR _ i2'
  have j1R := hnR _ j1'
  have j2R := hnR _ j2'
  have j4R := hnR _ j4'
  refine for_single' (fun nx => nx = (la, PySem.W.listOf #[.ref io] 1) :: R0) hh (show (l2, _) ∈ _ from List.mem_cons_of_mem _ (List.mem_cons_of_mem _ l2R)) SeqOf.list F6 N7 ?_ ?_
  · intro h8 tk8 own hoff F8 N8
    try k_fold
    k_steps
    k_dflt (refine' For_invT g' ?_ ?x2; (case x2 => intro _; rfl))
    k_steps
    refine for_cell_single' (fun nx => nx = (la, PySem.W.listOf #[.ref io] 1) :: (R0 ++ own)) hh (show (lm, _) ∈ _ from List.mem_append_left _ (List.mem_cons_of_mem _ (List.mem_cons_of_mem _ j4R))) SeqOf.list F8 N8 ?_ ?_
    · intro s9 own2 hoff2 F9 N9
      k_steps
      rename Fr _ _ _ _ => F10
      rename News _ _ _ _ => N10
      refine ListComp_fil (hclos := by rfl) rfl (by decide) ?_
      k_steps
      refine comp_fil (us := []) hh F10 N10 (SeqOf.src SeqOf.list N10 (show (la, _) ∈ _ by k_mem)) (fun _ => true) (by simp) (by decide) rfl rfl (by decide) (fun i v C mC own h tk E' hv => absurd hv (by simp)) ?_
      intro D2 nD2 h11 tk11 F11 N11 l11
      clear F10 N10
      simp only [List.zipIdx_nil, List.filter_nil, List.map_nil] at N11
      k_steps
      have N12 : News g' L' h11 ((la, PySem.W.listOf #[] 0) :: (R0 ++ own ++ own2)) := fun p hp => N11 p (by
        show p ∈ (D2, PySem.W.listOf #[] nD2) :: (L' + 1, _) :: (((la, PySem.W.listOf #[] 0) :: R0) ++ own ++ own2)
        simp only [List.mem_cons, List.mem_append] at hp ⊢
        rcases hp with h | (h | h) | h <;> simp [h])
      have hap : ∀ p ∈ R0 ++ own ++ own2, p.1 ≠ la := fun p hp => by
        rcases List.mem_append.mp hp with h | h
        · rcases List.mem_append.mp h with h | h
          · exact Rla p h
          · exact hoff p h la (by simp)
        · exact hoff2 p h la (by simp)
      refine append_head (rest := R0 ++ own ++ own2) F11 N12 hap ?_ (by have := sizeLine_eq; simp only [List.size_toArray, List.length_nil]; omega)
      intro h13 F13 N13
      k_steps
      exact ⟨h13, _, _, (la, PySem.W.listOf #[.ref io] 1) :: (R0 ++ own), rfl, F13, fun p hp => N13 p (by
        simp only [List.mem_cons, List.mem_append, List.cons_append] at hp ⊢
        rcases hp with h | (h | h) | h <;> simp [h]), List.mem_cons_of_mem _ (List.mem_append_left _ j4R), fun p hp b hb => hoff2 p hp b (by
        simp only [List.map_cons, List.map_append, List.mem_cons, List.mem_append, List.cons_append] at hb ⊢
        rcases hb with h | h | h <;> simp [h]), rfl, rfl⟩
    · intro nx h14 tk14 hnx F14 N14
      subst hnx
      show wpAny _ _ _ _ _ _
      k_steps
      refine GenPost.next ((la, PySem.W.listOf #[.ref io] 1) :: R0) (.inl rfl) F14 N14 (fun p hp => hp) (List.mem_cons_of_mem _ l2R) (fun p hp b hb => hoff p hp b (by
        simp only [List.map_cons, List.mem_cons] at hb ⊢
        rcases hb with h | h <;> simp [h])) ⟨rfl, rfl⟩
  · intro nx h15 tk15 hnx F15 N15
    subst hnx
    clear F6 N7
    subst hRe
    show wpAny _ _ _ _ _ _
    k_steps
    rename_i ls hs lls
    rename Fr _ _ _ _ => F8
    rename News _ _ _ _ => N8
    refine ListComp_fil (hclos := by rfl) rfl (by decide) ?_
    k_steps
    refine comp_fil (us := [.ref io]) hh F8 N8 (SeqOf.src SeqOf.list N8 (show (la, _) ∈ _ by k_mem)) (fun _ => false) (by simp; omega) (by decide) rfl rfl (by decide) ?tst ?_
    case tst =>
      intro i v C mC own h tk E' hv F N hn hm hC
      have hvi : v = .ref io := by
        cases i with
        | zero => simp at hv; exact hv.symm
        | succ i => simp at hv
      subst hvi
      refine holdPost ?_
      k_steps
      refine kgr_truthy (vs := []) N (show (lb, _) ∈ _ by k_mem) rfl rfl (by decide) ?_
      exact unhold ⟨rfl, h, _, rfl, F, N⟩
    intro D2 nD2 h9 tk9 F9 N9 l9D
    clear F8 N8
    rw [show ((([Value.ref io].zipIdx.filter fun p => false).map (·.1)) : List Value) = [] from rfl] at N9
    refine add_list F9 N9 (vs := [.ref x9]) (us := []) (k := 0) (k2 := nD2) (by k_mem) (by k_mem) (by have := sizeLine_eq; simp only [List.length_cons, List.length_nil]; omega) ?_
    intro D3 h10 F10 N10 l10
    clear F9 N9
    k_steps
    refine ListComp_fil (hclos := by rfl) rfl (by decide) ?_
    k_steps
    refine comp_fil (us := [.ref io]) hh F10 N10 (SeqOf.src SeqOf.list N10 (show (la, _) ∈ _ by k_mem)) (fun _ => true) (by simp; omega) (by decide) rfl rfl (by decide) ?tst ?_
    case tst =>
      intro i v C mC own h tk E' hv F N hn hm hC
      have hvi : v = .ref io := by
        cases i with
        | zero => simp at hv; exact hv.symm
        | succ i => simp at hv
      subst hvi
      refine holdPost ?_
      k_steps
      refine kgr_truthy (vs := []) N (show (lb, _) ∈ _ by k_mem) rfl rfl (by decide) ?_
      k_steps
      exact unhold ⟨rfl, h, _, rfl, F, N⟩
    intro D4 nD4 h11 tk11 F11 N11 l11
    clear F10 N10
    rw [show ((([Value.ref io].zipIdx.filter fun p => true).map (·.1)) : List Value) = [.ref io] from rfl] at N11
    k_steps
    refine add_list F11 N11 (vs := [.ref x9]) (us := [.ref io]) (k := 0) (k2 := nD4) (by k_mem) (by k_mem) (by have := sizeLine_eq; simp only [List.length_cons, List.length_nil]; omega) ?_
    intro D5 h12 F12 N12 l12
    clear F11 N11
    have q5 := ltN (l12 (d9, _) (by k_mem))
    have q4 := ltN (l11 (d9, _) (by k_mem))
    have q3 := ltN (l10 (d9, _) (by k_mem))
    have q2 := ltN (l9D (d9, _) (by k_mem))
    k_steps
    rename Fr _ _ _ _ => F13
    rename News _ _ _ _ => N13
    refine' con_leave_init hR F13 N13 [(x9, instObj 64 d9), (d9, dictOf ?es ?nn)] ?hm ?ho ?hp
    case hm =>
      intro p hp
      rcases List.mem_append.mp hp with h | h
      · k_mem
      · rcases List.mem_cons.mp h with h | h
        · rw [h]; k_mem
        · rw [List.mem_singleton.mp h]; k_mem
    case ho => exact Ord.cons (fun q hq => Nat.lt_trans (l9 q hq) l9') (Ord.cons l9 Ord.nil)
    case hp =>
      exact ⟨x9, rfl, d9, _, _, _, _, _, _, _, _, _, _, _, _, _, _, _, _, List.mem_append_right _ (List.mem_cons_self ..), List.mem_append_right _ (List.mem_cons_of_mem _ (List.mem_cons_self ..))⟩
end Mine
namespace Mine
local macro_rules | `(tactic| walk_at "idle") => `(tactic| fail "idle")
local macro_rules | `(tactic| walk_at "idle") => `(tactic| fail "idle")
local macro_rules | `(tactic| walk_at "idle") => `(tactic| fail "idle")
local macro_rules | `(tactic| walk_at "idle") => `(tactic| fail "idle")
local macro_rules | `(tactic| walk_at "idle") => `(tactic| fail "idle")
local macro_rules | `(tactic| walk_at "idle") => `(tactic| fail "idle")
local macro_rules | `(tactic| walk_at "idle") => `(tactic| fail "idle")
local macro_rules | `(tactic| walk_at "idle") => `(tactic| fail "idle")
local macro_rules | `(tactic| walk_at "idle") => `(tactic| fail "idle")
local macro_rules | `(tactic| walk_at "idle") => `(tactic| fail "idle")
local macro_rules | `(tactic| walk_at "idle") => `(tactic| fail "idle")
local macro_rules | `(tactic| walk_at "idle") => `(tactic| fail "idle")
local macro_rules | `(tactic| walk_at "idle") => `(tactic| fail "idle")
local macro_rules | `(tactic| walk_at "idle") => `(tactic| fail "idle")
local macro_rules | `(tactic| walk_at "idle") => `(tactic| fail "idle")
local macro_rules | `(tactic| walk_at "idle") => `(tactic| fail "idle")
local macro_rules | `(tactic| walk_at "idle") => `(tactic| fail "idle")
local macro_rules | `(tactic| walk_at "idle") => `(tactic| fail "idle")
local macro_rules | `(tactic| walk_at "idle") => `(tactic| fail "idle")
local macro_rules | `(tactic| walk_at "idle") => `(tactic| fail "idle")
local macro_rules | `(tactic| walk_at "idle") => `(tactic| fail "idle")
local macro_rules | `(tactic| walk_at "idle") => `(tactic| fail "idle")
local macro_rules | `(tactic| walk_at "idle") => `(tactic| fail "idle")
local macro_rules | `(tactic| walk_at "idle") => `(tactic| fail "idle")
local macro_rules | `(tactic| walk_at "idle") => `(tactic| fail "idle")
local macro_rules | `(tactic| walk_at "idle") => `(tactic| fail "idle")
local macro_rules | `(tactic| walk_at "idle") => `(tactic| fail "idle")
local macro_rules | `(tactic| walk_at "idle") => `(tactic| fail "idle")
local macro_rules | `(tactic| walk_at "idle") => `(tactic| fail "idle")
theorem fresh53 : True := by
  w_top off
  trivial
local macro_rules | `(tactic| k_mem) => `(tactic| first | with_reducible assumption | with_reducible exact List.mem_cons_self .. | (with_reducible refine List.mem_cons_of_mem _ ?_; k_mem) | (with_reducible refine List.mem_append_left _ ?_; k_mem) | (with_reducible refine List.mem_append_right _ ?_; k_mem))
local macro_rules | `(tactic| k_room) => `(tactic| ((try simp only [depth_under_make, depth_under_kw, depth_in1, depth_deeper, depth_caller]); omega))
local macro_rules | `(tactic| k_units) => `(tactic| ((try simp only [units_under_make, units_in1, units_deeper, Around.mark_units, units_caller]); omega))
local macro_rules | `(tactic| k_all) => `(tactic| first | assumption | (refine List.forall_mem_append.mpr ⟨?_, ?_⟩ <;> k_all))
local macro_rules | `(tactic| k_enter) => `(tactic| (refine' code_def ?k1 ?k2 ?k3 ?k4 ?k5 ?kA ?kF ?kK ?k6 ?k7 ?k8 ?k9 ?kB ?_ ?c2 ?c3 ?c4 ?c5; (case kA => first | exact Around.frames_deeper (Below.stack (by assumption)) | assumption); (case kF => exact rfl); (case kK => exact rfl); (case k1 => k_asm); (case k2 => k_asm); (case k3 => k_asm); (case k4 => k_asm); (case k5 => k_asm); (case k6 => k_is); (case k7 => k_is); (case k8 => k_room); (case k9 => first | exact BindsTo.of_eq rfl | exact binds_K (by k_in) rfl (by k_is) rfl rfl rfl); (case c5 => decide); (case kB => exact locs rfl); (case c2 => exact rfl); (case c3 => exact rfl); (case c4 => exact rfl); k_whole; intro g' L' h' FG' F' N' B' X' T'; (try dsimp only); (try k_fold)))
local macro_rules | `(tactic| walk_at "ite") => `(tactic| first | rw [if_pos rfl] | rw [if_neg Bool.false_ne_true])
theorem tvid_con (w : World) (mean : ExcName → Option Value) (mg mb : Str → Option Value) (k : Int) : Con w mean mg mb 147 4 20
    (fun news args => ∃ tk, args = [.int k tk])
    (fun news _ r => ∃ i, r = .ref i ∧ IdIn news i k) := by
  unfold Con
  k_fill
  intro A A₀ env outer base h₀ L m news vis s args R B F X N T hA hf hk hh hg hd hu hvis hp hR
  obtain ⟨tk0, rfl⟩ := hp
  k_dflt (refine' make_K (K := Mine.hd.heap_39 w.params) F N (X.keeps F.keep) ?m4 ?m5 ?m6 ?_; (case m4 => k_is); (case m5 => k_is); (case m6 => k_is))
  intro x9 d9 h9 F9 N9 l9 l9'
  replace l9' := ltN l9'
  k_dflt (refine' code_def (K := Mine.hd.heap_39 w.params) (binds := [(Str.ofString "self", .ref x9), (Str.ofString "raw_id", .int k tk0), (Str.ofString "meta_level", .int 0 324)]) B F9 X N9 T ?kA hf hk ?k6 ?k7 ?k8 ?k9 ?kB ?_ ?c2 ?c3 ?c4 ?c5; (case kA => exact hA); (case k6 => k_is); (case k7 => k_is); (case k9 => exact binds_K (X.keeps F9.keep) rfl (by k_is) rfl rfl rfl); (case kB => exact locs rfl); (case c2 => exact rfl); (case c3 => exact rfl); (case c4 => exact rfl); (case c5 => decide); (case k8 => ((try simp only [depth_under_make, depth_under_kw, depth_in1, depth_deeper, depth_caller]); omega)))
  intro g' L' h' FG' F' N' B' X' T'
  clear F N B X T F9 N9
  change News g' L' h' ((x9, instObj _ d9) :: (d9, dictOf [] 0) :: news) at N'
  try dsimp only
  k_fold
  have a1 : ∀ p ∈ news, p.1 ≠ d9 := fun p hp => Nat.ne_of_lt (l9 p hp)
  k_steps
  rename Fr _ _ _ _ => F2
  rename News _ _ _ _ => N2
  refine con_leave_init2 (tl := []) hR F2 (by rw [List.append_nil]; exact N2) (Ord.cons (fun q hq => Nat.lt_trans (l9 q hq) l9') (Ord.cons l9 Ord.nil)) ?_
  exact ⟨x9, rfl, d9, _, _, _, _, _, _, _, by k_mem, by k_mem⟩
theorem var_con (w : World) (mean : ExcName → Option Value) (mg mb : Str → Option Value) (nm : Str) (k : Int) : Con w mean mg mb 190 4 20
    (fun news args => ∃ tk i l n top, args = [.str nm tk, .ref i, .ref l, .ref top] ∧ IdIn news i k ∧ (l, PySem.W.listOf #[] n) ∈ news)
    (fun news args r => ∃ x tk i l top, args = [.str nm tk, .ref i, .ref l, .ref top] ∧ r = .ref x ∧ VarIn news x nm k top) := by
  unfold Con
  k_fill
  intro A A₀ env outer base h₀ L m news vis s args R B F X N T hA hf hk hh hg hd hu hvis hp hR
  obtain ⟨tk0, i, l, n, top, rfl, hi, hl⟩ := hp
  k_dflt (refine' make_K (K := Mine.hd.heap_39 w.params) F N (X.keeps F.keep) ?m4 ?m5 ?m6 ?_; (case m4 => k_is); (case m5 => k_is); (case m6 => k_is))
  intro x9 d9 h9 F9 N9 l9 l9'
  replace l9' := ltN l9'
  k_dflt (refine' code_def (K := Mine.hd.heap_39 w.params) (binds := [(Str.ofString "self", .ref x9), (Str.ofString "name", .str nm tk0), (Str.ofString "own", .ref i), (Str.ofString "values", .ref l), (Str.ofString "upper_bound", .ref top), (Str.ofString "variance", .int 0 196)]) B F9 X N9 T ?kA hf hk ?k6 ?k7 ?k8 ?k9 ?kB ?_ ?c2 ?c3 ?c4 ?c5; (case kA => exact hA); (case k6 => k_is); (case k7 => k_is); (case k9 => exact binds_K (X.keeps F9.keep) rfl (by k_is) rfl rfl rfl); (case kB => exact locs rfl); (case c2 => exact rfl); (case c3 => exact rfl); (case c4 => exact rfl); (case c5 => decide); (case k8 => ((try simp only [depth_under_make, depth_under_kw, depth_in1, depth_deeper, depth_caller]); omega)))
  intro g' L' h' FG' F' N' B' X' T'
  clear F N B X T F9 N9
  change News g' L' h' ((x9, instObj _ d9) :: (d9, dictOf [] 0) :: news) at N'
  try dsimp only
  k_fold
  have a1 : ∀ p ∈ news, p.1 ≠ d9 := fun p hp => Nat.ne_of_lt (l9 p hp)
  k_steps
  rename Fr _ _ _ _ => F2
  rename News _ _ _ _ => N2
  refine con_leave_init2 (tl := []) hR F2 (by rw [List.append_nil]; exact N2) (Ord.cons (fun q hq => Nat.lt_trans (l9 q hq) l9') (Ord.cons l9 Ord.nil)) ?_
  obtain ⟨di, h6, h7, t6, t6', t7, t7', n', z1, z2⟩ := hi
  exact ⟨x9, tk0, i, l, top, rfl, rfl, d9, i, di, l, _, _, _, _, _, _, _, _, _, _, _, _, h6, h7, t6, t6', t7, t7', _, n', n, by k_mem, by k_mem, by k_mem, by k_mem, by k_mem⟩
theorem none_con (w : World) (mean : ExcName → Option Value) (mg mb : Str → Option Value) : Con w mean mg mb 284 4 20
    (fun news args => args = [])
    (fun news _ r => ∃ x, r = .ref x ∧ ∃ d n, (x, instObj 284 d) ∈ news ∧ (d, dictOf [] n) ∈ news) := by
  unfold Con
  k_fill
  intro A A₀ env outer base h₀ L m news vis s args R B F X N T hA hf hk hh hg hd hu hvis hp hR
  subst hp
  k_dflt (refine' make_K0 (K := Mine.hd.heap_39 w.params) F N (X.keeps F.keep) ?m4 ?m5 ?_; (case m4 => k_is); (case m5 => k_is))
  intro x dx h' F' N' l1 l2
  have l2' := ltN l2
  refine hR _ [(x, instObj 284 dx), (dx, dictOf [] 0)] h' _ F' (fun p hp => N' p ?_) (Ord.cons (fun q hq => Nat.lt_trans (l1 q hq) l2') (Ord.cons l1 Ord.nil)) ⟨x, rfl, dx, 0, by k_mem, by k_mem⟩
  rcases List.mem_append.mp hp with h | h
  · k_mem
  · rcases List.mem_cons.mp h with h | h
    · rw [h]; exact List.mem_cons_self ..
    · rw [List.mem_singleton.mp h]; exact List.mem_cons_of_mem _ (List.mem_cons_self ..)
theorem any_con (w : World) (mean : ExcName → Option Value) (mg mb : Str → Option Value) : Con w mean mg mb 224 4 20
    (fun news args => ∃ tk, args = [.int 6 tk])
    (fun news _ r => ∃ x, r = .ref x ∧ ∃ d h1 h2 t1 t1' t2 n, (x, instObj 224 d) ∈ news ∧ (d, dictOf [⟨h1, .str "type_of_any" t1, .int 6 t1'⟩, ⟨h2, .str "source_any" t2, .none⟩] n) ∈ news) := by
  unfold Con
  k_fill
  intro A A₀ env outer base h₀ L m news vis s args R B F X N T hA hf hk hh hg hd hu hvis hp hR
  obtain ⟨tk0, rfl⟩ := hp
  k_dflt (refine' make_K (K := Mine.hd.heap_39 w.params) F N (X.keeps F.keep) ?m4 ?m5 ?m6 ?_; (case m4 => k_is); (case m5 => k_is); (case m6 => k_is))
  intro x9 d9 h9 F9 N9 l9 l9'
  replace l9' := ltN l9'
  k_dflt (refine' code_def (K := Mine.hd.heap_39 w.params) (binds := [(Str.ofString "self", .ref x9), (Str.ofString "type_of_any", .int 6 tk0), (Str.ofString "source_any", .none)]) B F9 X N9 T ?kA hf hk ?k6 ?k7 ?k8 ?k9 ?kB ?_ ?c2 ?c3 ?c4 ?c5; (case kA => exact hA); (case k6 => k_is); (case k7 => k_is); (case k9 => exact binds_K (X.keeps F9.keep) rfl (by k_is) rfl rfl rfl); (case kB => exact locs rfl); (case c2 => exact rfl); (case c3 => exact rfl); (case c4 => exact rfl); (case c5 => decide); (case k8 => ((try simp only [depth_under_make, depth_under_kw, depth_in1, depth_deeper, depth_caller]); omega)))
  intro g' L' h' FG' F' N' B' X' T'
  clear F N B X T F9 N9
  change News g' L' h' ((x9, instObj _ d9) :: (d9, dictOf [] 0) :: news) at N'
  try dsimp only
  k_fold
  have a1 : ∀ p ∈ news, p.1 ≠ d9 := fun p hp => Nat.ne_of_lt (l9 p hp)
  k_steps
  rename Fr _ _ _ _ => F2
  rename News _ _ _ _ => N2
  refine con_leave_init2 (tl := []) hR F2 (by rw [List.append_nil]; exact N2) (Ord.cons (fun q hq => Nat.lt_trans (l9 q hq) l9') (Ord.cons l9 Ord.nil)) ?_
  exact ⟨x9, rfl, d9, _, _, _, _, _, _, by k_mem, by k_mem⟩
end Mine
namespace Mine
theorem valueAt_stored {K : Type} [DecidableEq K] (kvs : List (K × Value)) (k k' : K) (v : Value) : valueAt (stored kvs k v) k' = if k' = k then some v else valueAt kvs k' := by
  have h1 : ∀ l : List (K × Value), ((l.map fun kv => if kv.1 = k then (kv.1, v) else kv).find? fun kv => decide (kv.1 = k')).map (·.2) = if k' = k then (if l.any (fun kv => decide (kv.1 = k)) then some v else none) else (l.find? fun kv => decide (kv.1 = k')).map (·.2) := by
    intro l
    induction l with
    | nil => simp
    | cons p r ih =>
      rw [List.map_cons, List.find?_cons, List.find?_cons, List.any_cons]
      by_cases hp : p.1 = k
      · by_cases hk : k' = k
        · subst hk; simp [hp]
        · have : ¬ k = k' := fun e => hk e.symm
          rw [if_neg hk] at ih ⊢
          simp only [hp, if_true, this, decide_false]
          exact ih
      · by_cases hk : k' = k
        · subst hk
          rw [if_pos rfl] at ih ⊢
          simp only [hp, if_false, decide_false, Bool.false_or]
          exact ih
        · rw [if_neg hk] at ih ⊢
          by_cases hp2 : p.1 = k'
          · simp only [hp, hp2, if_false, hk, decide_true]
          · simp only [hp, hp2, if_false, decide_false]
            exact ih
  unfold stored
  split
  · rename_i ha
    have := h1 kvs
    rw [ha, if_pos rfl] at this
    exact this
  · rename_i ha
    unfold valueAt
    rw [List.find?_append]
    by_cases hk : k' = k
    · subst hk
      rw [if_pos rfl]
      have : (kvs.find? fun kv => decide (kv.1 = k')) = none := by
        rw [List.find?_eq_none]
        intro x hx hxk
        exact ha (List.any_eq_true.mpr ⟨x, hx, hxk⟩)
      rw [this]; simp
    · rw [if_neg hk]
      have : ¬ k = k' := fun e => hk e.symm
      simp [this]
theorem RootIn.mono {news news' : Led} {i : Addr} (hs : ∀ p ∈ news, p ∈ news') (h : RootIn news i) : RootIn news' i := by
  obtain ⟨dr, r1, r2, r3, r4, r5, s1, s1', s2, s3, s4, s5, v2, v3, lb, lm, nr, kr1, kr2, j1, j2, j3, j4⟩ := h
  exact ⟨dr, r1, r2, r3, r4, r5, s1, s1', s2, s3, s4, s5, v2, v3, lb, lm, nr, kr1, kr2, hs _ j1, hs _ j2, hs _ j3, hs _ j4⟩
theorem RootIn.info {news : Led} {i : Addr} (h : RootIn news i) : InfoIn news i "builtins.object" := by
  obtain ⟨dr, r1, r2, r3, r4, r5, s1, s1', s2, s3, s4, s5, v2, v3, lb, lm, nr, kr1, kr2, j1, j2, j3, j4⟩ := h
  exact ⟨dr, r1, r2, r3, r4, r5, s1, s1', s2, s3, s4, s5, v2, v3, _, _, nr, j1, j2⟩
def NonIn (B : Led) (v : Value) : Prop := ∃ a, v = .ref a ∧ ∃ d n, (a, instObj 284 d) ∈ B ∧ (d, dictOf [] n) ∈ B
def NevIn (B : Led) (v : Value) : Prop := ∃ x d h1 t1 n, v = .ref x ∧ (x, instObj 258 d) ∈ B ∧ (d, dictOf [⟨h1, .str "ambiguous" t1, .bool false⟩] n) ∈ B
def AnyIn (B : Led) (v : Value) : Prop := ∃ a, v = .ref a ∧ ∃ d h1 h2 t1 t1' t2 n, (a, instObj 224 d) ∈ B ∧ (d, dictOf [⟨h1, .str "type_of_any" t1, .int 6 t1'⟩, ⟨h2, .str "source_any" t2, .none⟩] n) ∈ B
def PlainIn (B : Led) (full : Str) (v : Value) : Prop := ∃ a i, v = .ref a ∧ InstIn B a i [] ∧ InfoIn B i full
theorem NonIn.mono {B B' : Led} {v : Value} (hs : ∀ p ∈ B, p ∈ B') (h : NonIn B v) : NonIn B' v := by
  obtain ⟨a, e, d, n, h1, h2⟩ := h; exact ⟨a, e, d, n, hs _ h1, hs _ h2⟩
theorem NevIn.mono {B B' : Led} {v : Value} (hs : ∀ p ∈ B, p ∈ B') (h : NevIn B v) : NevIn B' v := by
  obtain ⟨x, d, h1, t1, n, e, a, b⟩ := h; exact ⟨x, d, h1, t1, n, e, hs _ a, hs _ b⟩
theorem AnyIn.mono {B B' : Led} {v : Value} (hs : ∀ p ∈ B, p ∈ B') (h : AnyIn B v) : AnyIn B' v := by
  obtain ⟨a, e, d, h1, h2, t1, t1', t2, n, x, y⟩ := h; exact ⟨a, e, d, h1, h2, t1, t1', t2, n, hs _ x, hs _ y⟩
theorem PlainIn.mono {B B' : Led} {full : Str} {v : Value} (hs : ∀ p ∈ B, p ∈ B') (h : PlainIn B full v) : PlainIn B' full v := by
  obtain ⟨a, i, e, x, y⟩ := h; exact ⟨a, i, e, x.mono hs, y.mono hs⟩
/-- the names of the world -/
inductive WKey where
  | obj | non | nev | any | S | T | U | K | V | A | B | C | box | pair
  deriving DecidableEq
def WKey.nm : WKey → Str
  | .obj => "object" | .non => "none" | .nev => "never" | .any => "any" | .S => "S" | .T => "T" | .U => "U" | .K => "K" | .V => "V" | .A => "A" | .B => "B" | .C => "C" | .box => "box" | .pair => "pair"
theorem WKey.inj {a b : WKey} (h : a.nm = b.nm) : a = b := by
  have k : ∀ a b : WKey, a.nm = b.nm → a = b := by intro a b; cases a <;> cases b <;> first | (intro _; rfl) | (intro h; exact absurd h (by decide))
  exact k a b h
/-- what stands at a name of the world -/
def KeyOk (B : Led) (top : Addr) : WKey → Value → Prop
  | .obj, v => v = .ref top
  | .non, v => NonIn B v
  | .nev, v => NevIn B v
  | .any, v => AnyIn B v
  | .S, v => ∃ a, v = .ref a ∧ VarIn B a "S" 1 top
  | .T, v => ∃ a, v = .ref a ∧ VarIn B a "T" 2 top
  | .U, v => ∃ a, v = .ref a ∧ VarIn B a "U" 3 top
  | .K, v => ∃ a, v = .ref a ∧ VarIn B a "K" 4 top
  | .V, v => ∃ a, v = .ref a ∧ VarIn B a "V" 5 top
  | .A, v => PlainIn B "m.A" v
  | .B, v => PlainIn B "m.B" v
  | .C, v => PlainIn B "m.C" v
  | .box, v => ∃ a, v = .ref a ∧ InfoIn B a "m.box"
  | .pair, v => ∃ a, v = .ref a ∧ InfoIn B a "m.pair"
theorem KeyOk.mono {B B' : Led} {top : Addr} (hs : ∀ p ∈ B, p ∈ B') : ∀ {x : WKey} {v : Value}, KeyOk B top x v → KeyOk B' top x v
  | .obj, _, h => h
  | .non, _, h => NonIn.mono hs h
  | .nev, _, h => NevIn.mono hs h
  | .any, _, h => AnyIn.mono hs h
  | .S, _, ⟨a, e, h⟩ => ⟨a, e, h.mono hs⟩
  | .T, _, ⟨a, e, h⟩ => ⟨a, e, h.mono hs⟩
  | .U, _, ⟨a, e, h⟩ => ⟨a, e, h.mono hs⟩
  | .K, _, ⟨a, e, h⟩ => ⟨a, e, h.mono hs⟩
  | .V, _, ⟨a, e, h⟩ => ⟨a, e, h.mono hs⟩
  | .A, _, h => PlainIn.mono hs h
  | .B, _, h => PlainIn.mono hs h
  | .C, _, h => PlainIn.mono hs h
  | .box, _, ⟨a, e, h⟩ => ⟨a, e, h.mono hs⟩
  | .pair, _, ⟨a, e, h⟩ => ⟨a, e, h.mono hs⟩
/-- the world's dict while it is filled -/
def WSt (w : World) (top : Addr) (ks : List WKey) (ow : Obj) (B : Led) : Prop :=
  ∃ kvs, ow.IsDictOf (PySem.strKind PySem.Challenge.rw_ft0017_01.row.prog w) kvs ∧ kvs.length ≤ 20 ∧ kvs.length ≤ ks.length ∧ (∀ x ∈ ks, ∃ v, valueAt kvs x.nm = some v ∧ KeyOk B top x v)
theorem WSt.mono {w : World} {top : Addr} {ks : List WKey} {ow : Obj} {B B' : Led} (hs : ∀ p ∈ B, p ∈ B') (h : WSt w top ks ow B) : WSt w top ks ow B' := by
  obtain ⟨kvs, a, b, c, d⟩ := h
  exact ⟨kvs, a, b, c, fun x hx => let ⟨v, e, f⟩ := d x hx; ⟨v, e, f.mono hs⟩⟩
theorem WSt.put {w : World} {top : Addr} {ks : List WKey} {ow' : Obj} {B : Led} {kvs : List (Str × Value)} {x : WKey} {v : Value}
    (h2 : kvs.length ≤ ks.length) (h3 : ∀ x ∈ ks, ∃ v, valueAt kvs x.nm = some v ∧ KeyOk B top x v) (hd : ow'.IsDictOf (PySem.strKind PySem.Challenge.rw_ft0017_01.row.prog w) (stored kvs x.nm v)) (hl : ks.length < 20) (hx : KeyOk B top x v) : WSt w top (ks ++ [x]) ow' B := by
  have e := stored_length_le kvs x.nm v
  refine ⟨_, hd, by omega, by rw [List.length_append, List.length_singleton]; omega, fun y hy => ?_⟩
  rw [valueAt_stored]
  by_cases hyx : y = x
  · subst hyx; rw [if_pos rfl]; exact ⟨v, rfl, hx⟩
  · rw [if_neg fun e => hyx (WKey.inj e)]
    rcases List.mem_append.mp hy with h | h
    · exact h3 y h
    · exact absurd (List.mem_singleton.mp h) hyx
end Mine
namespace Mine
local macro_rules | `(tactic| k_mem) => `(tactic| first | with_reducible assumption | with_reducible exact List.mem_cons_self .. | (with_reducible refine List.mem_cons_of_mem _ ?_; k_mem) | (with_reducible refine List.mem_append_left _ ?_; k_mem) | (with_reducible refine List.mem_append_right _ ?_; k_mem))
local macro_rules | `(tactic| k_room) => `(tactic| ((try simp only [depth_under_make, depth_under_kw, depth_in1, depth_deeper, depth_caller]); omega))
local macro_rules | `(tactic| k_units) => `(tactic| ((try simp only [units_under_make, units_in1, units_deeper, Around.mark_units, units_caller]); omega))
local macro_rules | `(tactic| k_all) => `(tactic| first | assumption | (refine List.forall_mem_append.mpr ⟨?_, ?_⟩ <;> k_all))
section
variable {prog : Program} {w : World} {A : Around} {E : Value → Shared → Prop} {s : Shared} {h₀ : Heap} {L : Addr} {m : Str → Option Value}
/-- a new key that is an own object -/
theorem dictSet_own {rest : Led} {D i : Addr} {v : Value} {es : List DictEntry} {ep : Nat} {k : Int} {Q : Unit → Shared → Prop} (F : Fr h₀ L s.heap m) (N : News h₀ L s.heap ((D, dictOf es ep) :: rest)) (hD : ∀ p ∈ rest, p.1 ≠ D)
    (hH : HashS prog w A (SpOf h₀ L m ((D, dictOf es ep) :: rest) s) i k) (hno : ∀ e ∈ es, e.hash ≠ k) (hne : ∀ e ∈ es, e.key ≠ .ref i) (hz : es.length ≤ sizeLine)
    (hQ : ∀ h' tk', Fr h₀ L h' m → News h₀ L h' ((D, dictOf (es ++ [⟨k, .ref i, v⟩]) (ep + 1)) :: rest) → Q () { s with heap := h', toks := tk' }) : wpAny (model prog w) A (dictSet D (.ref i) v) Q E s := by
  unfold dictSet
  try with_reducible refine wpAny_holding ?_
  refine wpAny_bind (hH s _ _ (sp_here F N) fun s' hS' => ?_)
  obtain ⟨h, tk, rfl, F', N'⟩ := hS'
  unfold dictSetHashed
  try with_reducible refine wpAny_holding ?_
  have hd := N' _ (List.mem_cons_self ..)
  refine wpAny_bind (find_none hd.1 rfl hno hne ?_)
  dsimp only
  refine wpAny_bind (wpAny_rule (wpAny_updateDictKeys hd.1 rfl ?_ (by simpa using hz)))
  have hs : Heap.SameBut D h (h.update D (Obj.mapDictKeys fun x => x.push ⟨k, .ref i, v⟩)) := Heap.SameBut.update ..
  have hk : ∀ b o, b ≠ D → h.get? b = some o → (h.update D (Obj.mapDictKeys fun x => x.push ⟨k, .ref i, v⟩)).get? b = some o := fun b o hb e => (hs.2 b hb).trans e
  have hg : (h.update D (Obj.mapDictKeys fun x => x.push ⟨k, .ref i, v⟩)).get? D = some (Obj.mapDictKeys (fun x => x.push ⟨k, .ref i, v⟩) (dictOf es ep)) := Heap.get?_update_self _ hd.1 rfl
  refine hQ _ _ (Fr.but F' hk (Ne.symm hd.2.1) hd.2.2) fun p hp => ?_
  rcases List.mem_cons.mp hp with rfl | hp
  · refine ⟨?_, hd.2.1, hd.2.2⟩
    rw [hg]
    simp [Obj.mapDictKeys, dictOf]
  · exact News.but (fun p hp => N' p (List.mem_cons_of_mem _ hp)) hk hD p hp
end
section
variable {w : World} {W : Wd} {iA iB iC io : Addr} {news news' : Led}
/-- the entries of a table in order -/
def KvIn (news : Led) : List (Atom × Tree) → List (Str × Value) → Prop
  | [], kvs => kvs = []
  | (a, t) :: r, kvs => ∃ v kvs', kvs = (a.nm, v) :: kvs' ∧ TreeIn news t v ∧ KvIn news r kvs'
theorem KvIn.mono (hs : ∀ p ∈ news, p ∈ news') : ∀ {σ : List (Atom × Tree)} {kvs : List (Str × Value)}, KvIn news σ kvs → KvIn news' σ kvs
  | [], _, h => h
  | (a, t) :: r, _, h => by
    simp only [KvIn] at h ⊢
    obtain ⟨v, kvs', e, h1, h2⟩ := h
    exact ⟨v, kvs', e, h1.mono hs, KvIn.mono hs h2⟩
theorem KvIn.len : ∀ {σ : List (Atom × Tree)} {kvs : List (Str × Value)}, KvIn news σ kvs → kvs.length = σ.length
  | [], _, h => by simp only [KvIn] at h; subst h; rfl
  | (a, t) :: r, _, h => by
    simp only [KvIn] at h
    obtain ⟨v, kvs', rfl, h1, h2⟩ := h
    rw [List.length_cons, List.length_cons, KvIn.len h2]
theorem KvIn.get : ∀ {σ : List (Atom × Tree)} {kvs : List (Str × Value)} {i : Nat} {k : Str} {x : Value}, KvIn news σ kvs → kvs[i]? = some (k, x) → ∃ a t, σ[i]? = some (a, t) ∧ k = a.nm ∧ TreeIn news t x
  | [], _, i, k, x, h, e => by simp only [KvIn] at h; subst h; simp at e
  | (a, t) :: r, _, 0, k, x, h, e => by
    simp only [KvIn] at h
    obtain ⟨v, kvs', rfl, h1, h2⟩ := h
    simp only [List.getElem?_cons_zero, Option.some.injEq, Prod.mk.injEq] at e
    obtain ⟨rfl, rfl⟩ := e
    exact ⟨a, t, rfl, rfl, h1⟩
  | (a, t) :: r, _, i + 1, k, x, h, e => by
    simp only [KvIn] at h
    obtain ⟨v, kvs', rfl, h1, h2⟩ := h
    rw [List.getElem?_cons_succ] at e
    rw [List.getElem?_cons_succ]
    exact KvIn.get h2 e
theorem KvIn.snoc {a : Atom} {t : Tree} {v : Value} : ∀ {σ : List (Atom × Tree)} {kvs : List (Str × Value)}, KvIn news σ kvs → TreeIn news t v → KvIn news (σ ++ [(a, t)]) (kvs ++ [(a.nm, v)])
  | [], _, h, ht => by simp only [KvIn] at h; subst h; simp only [List.nil_append, KvIn]; exact ⟨v, [], rfl, ht, rfl⟩
  | (b, u) :: r, _, h, ht => by
    simp only [KvIn] at h
    obtain ⟨x, kvs', rfl, h1, h2⟩ := h
    simp only [List.cons_append, KvIn]
    exact ⟨x, _, rfl, h1, KvIn.snoc h2 ht⟩
theorem KvIn.look : ∀ {σ : List (Atom × Tree)} {kvs : List (Str × Value)}, KvIn news σ kvs → ∀ a : Atom, match σ.lookup a with
      | some t => ∃ v, valueAt kvs a.nm = some v ∧ TreeIn news t v
      | none => valueAt kvs a.nm = none
  | [], _, h, a => by simp only [KvIn] at h; subst h; rfl
  | (b, u) :: r, _, h, a => by
    simp only [KvIn] at h
    obtain ⟨x, kvs', rfl, h1, h2⟩ := h
    rw [List.lookup_cons]
    by_cases e : a = b
    · subst e
      rw [beq_self_eq_true]
      exact ⟨x, by simp [valueAt], h1⟩
    · have e1 : (a == b) = false := beq_false_of_ne e
      have e2 : ¬ b.nm = a.nm := fun q => e (atom_inj q).symm
      rw [e1]
      have h3 : valueAt ((b.nm, x) :: kvs') a.nm = valueAt kvs' a.nm := by simp [valueAt, e2]
      rw [h3]
      exact KvIn.look h2 a
theorem KvIn.fresh {a : Atom} : ∀ {σ : List (Atom × Tree)} {kvs : List (Str × Value)}, KvIn news σ kvs → a ∉ σ.map (·.1) → ∀ v, stored kvs a.nm v = kvs ++ [(a.nm, v)] := by
  intro σ kvs h ha v
  have h1 : ¬ (kvs.any fun kv => decide (kv.1 = a.nm)) = true := by
    rw [List.any_eq_true]
    rintro ⟨⟨k, x⟩, hx, e⟩
    obtain ⟨i, hi, e1⟩ := List.getElem_of_mem hx
    obtain ⟨b, t, h3, h4, _⟩ := h.get (List.getElem?_eq_getElem hi ▸ congrArg some e1)
    have e2 : k = a.nm := of_decide_eq_true e
    rw [h4] at e2
    have e3 := atom_inj e2
    subst e3
    exact ha (List.mem_map.mpr ⟨_, List.mem_of_getElem? h3, rfl⟩)
  rw [stored, if_neg h1]
/-- a table of the law, its names in order -/
def TabIn (w : World) (news : Led) (σ : List (Atom × Tree)) (td : Addr) : Prop :=
  ∃ o kvs, (td, o) ∈ news ∧ o.IsDictOf (PySem.strKind PySem.Challenge.rw_ft0017_01.row.prog w) kvs ∧ (td == sysModules) = false ∧ KvIn news σ kvs
theorem TabIn.mono {σ : List (Atom × Tree)} {td : Addr} (hs : ∀ p ∈ news, p ∈ news') (h : TabIn w news σ td) : TabIn w news' σ td := by
  obtain ⟨o, kvs, a, b, c, d⟩ := h
  exact ⟨o, kvs, hs _ a, b, c, d.mono hs⟩
theorem TabIn.tbl {σ : List (Atom × Tree)} {td : Addr} (h : TabIn w news σ td) : TblIn w news σ td := by
  obtain ⟨o, kvs, a, b, c, d⟩ := h
  exact ⟨o, kvs, a, b, c, fun x => d.look x⟩
theorem EntIn.snoc {a : Atom} {t : Tree} {i : Addr} {v : Value} (ha : isVar a = true) (hi : IdAt W news a i) (ht : TypIn W news t v) : ∀ {σ : List (Atom × Tree)} {es : List DictEntry}, EntIn W news σ es → EntIn W news (σ ++ [(a, t)]) (es ++ [⟨idOf' (.leaf a), .ref i, v⟩])
  | [], _, h => by simp only [EntIn] at h; subst h; simp only [List.nil_append, EntIn]; exact ⟨i, v, [], rfl, ha, hi, ht, rfl⟩
  | (b, u) :: r, _, h => by
    simp only [EntIn] at h
    obtain ⟨j, x, es', rfl, h1, h2, h3, h4⟩ := h
    simp only [List.cons_append, EntIn]
    exact ⟨j, x, _, rfl, h1, h2, h3, EntIn.snoc ha hi ht h4⟩
theorem EntIn.mem : ∀ {σ : List (Atom × Tree)} {es : List DictEntry}, EntIn W news σ es → ∀ e ∈ es, ∃ a i, a ∈ σ.map (·.1) ∧ isVar a = true ∧ e.hash = idOf' (.leaf a) ∧ e.key = .ref i ∧ IdAt W news a i
  | [], _, h, e, he => by simp only [EntIn] at h; subst h; exact nomatch he
  | (b, u) :: r, _, h, e, he => by
    simp only [EntIn] at h
    obtain ⟨j, x, es', rfl, h1, h2, h3, h4⟩ := h
    rcases List.mem_cons.mp he with rfl | he
    · exact ⟨b, j, by simp, h1, rfl, rfl, h2⟩
    · obtain ⟨a, i, m1, m2, m3, m4, m5⟩ := EntIn.mem h4 e he
      exact ⟨a, i, by rw [List.map_cons]; exact List.mem_cons_of_mem _ m1, m2, m3, m4, m5⟩
theorem EntIn.len : ∀ {σ : List (Atom × Tree)} {es : List DictEntry}, EntIn W news σ es → es.length = σ.length
  | [], _, h => by simp only [EntIn] at h; subst h; rfl
  | (b, u) :: r, _, h => by
    simp only [EntIn] at h
    obtain ⟨j, x, es', rfl, h1, h2, h3, h4⟩ := h
    rw [List.length_cons, List.length_cons, EntIn.len h4]
theorem id_inj {a b : Atom} (ha : isVar a = true) (hb : isVar b = true) (h : idOf' (.leaf a) = idOf' (.leaf b)) : a = b := by
  cases a <;> simp only [isVar, Bool.false_eq_true] at ha <;> cases b <;> simp only [isVar, Bool.false_eq_true] at hb <;> first | rfl | exact absurd h (by decide)
theorem IdAt.id {a : Atom} {i : Addr} (h : IdAt W news a i) : IdIn news i (idOf' (.leaf a)) := by
  obtain ⟨d, h1, h2, h3, h4, h5, t1, t1', t2, t3, t4, t5, t5', l, n, a1, b1, c1⟩ := h
  exact c1
/-- a new variable's id is no key yet -/
theorem EntIn.fresh (S : Sv news) {a : Atom} {i : Addr} {σ : List (Atom × Tree)} {es : List DictEntry} (h : EntIn W news σ es) (ha : isVar a = true) (hi : IdAt W news a i) (hn : a ∉ σ.map (·.1)) :
    (∀ e ∈ es, e.hash ≠ idOf' (.leaf a)) ∧ ∀ e ∈ es, e.key ≠ .ref i := by
  refine ⟨fun e he q => ?_, fun e he q => ?_⟩
  · obtain ⟨b, j, m1, m2, m3, m4, m5⟩ := h.mem e he
    rw [m3] at q
    exact hn (id_inj m2 ha q ▸ m1)
  · obtain ⟨b, j, m1, m2, m3, m4, m5⟩ := h.mem e he
    rw [m4] at q
    cases q
    exact hn (id_inj m2 ha (IdIn.uniq S m5.id hi.id) ▸ m1)
end
end Mine
namespace Mine
theorem TypIn.at_ {W : Wd} {news : Led} : ∀ {a : Atom}, a ≠ .nev → TypIn W news (.leaf a) (.ref (W.at_ a)) := by
  intro a h
  cases a <;> first | exact absurd rfl h | (simp only [TypIn])
/-- the law's world is a world -/
theorem world_made {w : World} {top io wd : Addr} {ks : List WKey} {ow : Obj} {B : Led} (S : Sv B) (hroot : RootIn B io) (htop : InstIn B top io []) (hw : WSt w top ks ow B) (hk : ∀ x : WKey, x ∈ ks) (hs : (wd == sysModules) = false) :
    ∃ W iA iB iC, WIn W iA iB iC io B ∧ DWIn w W ((wd, ow) :: B) wd := by
  obtain ⟨kvs, q1, q2, q3, q4⟩ := hw
  obtain ⟨vo, eo, ko⟩ := q4 .obj (hk _)
  obtain ⟨vn, en, kn⟩ := q4 .non (hk _)
  obtain ⟨vv, ev, kv⟩ := q4 .nev (hk _)
  obtain ⟨va, ea, ka⟩ := q4 .any (hk _)
  obtain ⟨vS, eS, kS⟩ := q4 .S (hk _)
  obtain ⟨vT, eT, kT⟩ := q4 .T (hk _)
  obtain ⟨vU, eU, kU⟩ := q4 .U (hk _)
  obtain ⟨vA, eA, kA⟩ := q4 .A (hk _)
  obtain ⟨vB, eB, kB⟩ := q4 .B (hk _)
  obtain ⟨vC, eC, kC⟩ := q4 .C (hk _)
  obtain ⟨vb, eb, kb⟩ := q4 .box (hk _)
  obtain ⟨vp, ep, kp⟩ := q4 .pair (hk _)
  have ko' : vo = .ref top := ko
  subst ko'
  obtain ⟨an, rfl, hn⟩ := kn
  obtain ⟨aa, rfl, ha⟩ := ka
  obtain ⟨aS, rfl, hS⟩ := kS
  obtain ⟨aT, rfl, hT⟩ := kT
  obtain ⟨aU, rfl, hU⟩ := kU
  obtain ⟨aA, iA, rfl, hA, fA⟩ := kA
  obtain ⟨aB, iB, rfl, hB, fB⟩ := kB
  obtain ⟨aC, iC, rfl, hC, fC⟩ := kC
  obtain ⟨ab, rfl, hb⟩ := kb
  obtain ⟨ap, rfl, hp⟩ := kp
  let W : Wd := ⟨fun a => match a with | .S => aS | .T => aT | .U => aU | .A => aA | .B => aB | .C => aC | .obj => top | .non => an | .any => aa | .nev => 0, fun g => match g with | .box => ab | .pair => ap | .union => 0⟩
  have hne : ab ≠ ap := fun e => by
    subst e
    exact absurd (InfoIn.uniq S hb hp) (by decide)
  refine ⟨W, iA, iB, iC, ⟨hS, hT, hU, hA, hB, hC, htop, fA, fB, fC, hroot.info, hb, hp, hne, hn, ha⟩, ow, kvs, List.mem_cons_self .., q1, hs, ?_, ?_⟩
  · intro a
    cases a
    · exact ⟨_, eS, by simp only [TypIn]; rfl⟩
    · exact ⟨_, eT, by simp only [TypIn]; rfl⟩
    · exact ⟨_, eU, by simp only [TypIn]; rfl⟩
    · exact ⟨_, eA, by simp only [TypIn]; rfl⟩
    · exact ⟨_, eB, by simp only [TypIn]; rfl⟩
    · exact ⟨_, eC, by simp only [TypIn]; rfl⟩
    · exact ⟨_, eo, by simp only [TypIn]; rfl⟩
    · exact ⟨_, en, by simp only [TypIn]; rfl⟩
    · refine ⟨_, ev, ?_⟩
      obtain ⟨x, d, h1, t1, n, e, a, b⟩ := kv
      simp only [TypIn]
      exact ⟨x, d, h1, t1, n, e, List.mem_cons_of_mem _ a, List.mem_cons_of_mem _ b⟩
    · exact ⟨_, ea, by simp only [TypIn]; rfl⟩
  · intro g hg
    cases g
    · exact eb
    · exact ep
    · exact absurd rfl hg
end Mine
namespace Mine
theorem env5_of {a b c d e : Str} {m m₀ : Str → Option Value} (h : ∀ y, y ≠ a → y ≠ b → y ≠ c → y ≠ d → y ≠ e → m y = m₀ y) : m = fun y => if y = a then m a else if y = b then m b else if y = c then m c else if y = d then m d else if y = e then m e else m₀ y := by
  funext y
  by_cases h1 : y = a
  · rw [if_pos h1, h1]
  by_cases h2 : y = b
  · rw [if_neg h1, if_pos h2, h2]
  by_cases h3 : y = c
  · rw [if_neg h1, if_neg h2, if_pos h3, h3]
  by_cases h4 : y = d
  · rw [if_neg h1, if_neg h2, if_neg h3, if_pos h4, h4]
  by_cases h5 : y = e
  · rw [if_neg h1, if_neg h2, if_neg h3, if_neg h4, if_pos h5, h5]
  rw [if_neg h1, if_neg h2, if_neg h3, if_neg h4, if_neg h5]
  exact h y h1 h2 h3 h4 h5
theorem env3_of {a b c : Str} {m m₀ : Str → Option Value} (h : ∀ y, y ≠ a → y ≠ b → y ≠ c → m y = m₀ y) : m = fun y => if y = a then m a else if y = b then m b else if y = c then m c else m₀ y := by
  funext y
  by_cases h1 : y = a
  · rw [if_pos h1, h1]
  by_cases h2 : y = b
  · rw [if_neg h1, if_pos h2, h2]
  by_cases h3 : y = c
  · rw [if_neg h1, if_neg h2, if_pos h3, h3]
  rw [if_neg h1, if_neg h2, if_neg h3]
  exact h y h1 h2 h3
/-- the trees of a table: each is a replaced part -/
def TabOk (σ : List (Atom × Tree)) : Prop := ∀ p ∈ σ, ∃ t, gtr 1 t ∧ p.2 = exp [] t
theorem TabOk.nil : TabOk [] := fun _ h => nomatch h
theorem TabOk.snoc {σ : List (Atom × Tree)} {a : Atom} {t : Tree} (h : TabOk σ) (ht : gtr 1 t) : TabOk (σ ++ [(a, exp [] t)]) := fun p hp => by
  rcases List.mem_append.mp hp with q | q
  · exact h p q
  · rw [List.mem_singleton.mp q]; exact ⟨t, ht, rfl⟩
def TabsIn (w : World) (news : Led) : List (List Atom) → List Value → Prop
  | [], ys => ys = []
  | as :: r, ys => ∃ td σ us, ys = .ref td :: us ∧ TabIn w news σ td ∧ σ.map (·.1) = as ∧ TabOk σ ∧ TabsIn w news r us
theorem TabsIn.mono {w : World} {news news' : Led} (hs : ∀ p ∈ news, p ∈ news') : ∀ {as : List (List Atom)} {ys : List Value}, TabsIn w news as ys → TabsIn w news' as ys
  | [], _, h => h
  | as :: r, _, h => by
    simp only [TabsIn] at h ⊢
    obtain ⟨td, σ, us, e, h1, h2, h3, h4⟩ := h
    exact ⟨td, σ, us, e, h1.mono hs, h2, h3, TabsIn.mono hs h4⟩
theorem TabsIn.snoc {w : World} {news : Led} {td : Addr} {σ : List (Atom × Tree)} (h1 : TabIn w news σ td) (h3 : TabOk σ) : ∀ {as : List (List Atom)} {ys : List Value}, TabsIn w news as ys → TabsIn w news (as ++ [σ.map (·.1)]) (ys ++ [.ref td])
  | [], _, h => by simp only [TabsIn] at h; subst h; simp only [List.nil_append, TabsIn]; exact ⟨td, σ, [], rfl, h1, rfl, h3, rfl⟩
  | as :: r, _, h => by
    simp only [TabsIn] at h
    obtain ⟨td', σ', us, rfl, k1, k2, k3, k4⟩ := h
    simp only [List.cons_append, TabsIn]
    exact ⟨td', σ', _, rfl, k1, k2, k3, TabsIn.snoc h1 h3 k4⟩
theorem TabsIn.len {w : World} {news : Led} : ∀ {as : List (List Atom)} {ys : List Value}, TabsIn w news as ys → ys.length = as.length
  | [], _, h => by simp only [TabsIn] at h; subst h; rfl
  | as :: r, _, h => by
    simp only [TabsIn] at h
    obtain ⟨td', σ', us, rfl, k1, k2, k3, k4⟩ := h
    rw [List.length_cons, List.length_cons, TabsIn.len k4]
theorem tbl_nil {w : World} {news : Led} {d : Addr} {o : Obj} (hd : (d, o) ∈ news) (hs : (d == sysModules) = false) (ho : o.IsDictOf (PySem.strKind PySem.Challenge.rw_ft0017_01.row.prog w) []) : TblIn w news [] d :=
  ⟨o, [], hd, ho, hs, fun _ => rfl⟩
/-- names as texts -/
def AtomsAre : List Atom → List Value → Prop
  | [], vs => vs = []
  | a :: r, vs => ∃ tk us, vs = .str a.nm tk :: us ∧ AtomsAre r us
theorem AtomsAre.len : ∀ {as : List Atom} {vs : List Value}, AtomsAre as vs → vs.length = as.length
  | [], _, h => by simp only [AtomsAre] at h; subst h; rfl
  | a :: r, _, h => by
    simp only [AtomsAre] at h
    obtain ⟨tk, us, rfl, h2⟩ := h
    rw [List.length_cons, List.length_cons, AtomsAre.len h2]
theorem AtomsAre.get : ∀ {as : List Atom} {vs : List Value} {i : Nat} {v : Value}, AtomsAre as vs → vs[i]? = some v → ∃ a tk, as[i]? = some a ∧ v = .str a.nm tk
  | [], _, i, v, h, e => by simp only [AtomsAre] at h; subst h; simp at e
  | a :: r, _, 0, v, h, e => by
    simp only [AtomsAre] at h
    obtain ⟨tk, us, rfl, h2⟩ := h
    simp only [List.getElem?_cons_zero, Option.some.injEq] at e
    exact ⟨a, tk, rfl, e.symm⟩
  | a :: r, _, i + 1, v, h, e => by
    simp only [AtomsAre] at h
    obtain ⟨tk, us, rfl, h2⟩ := h
    rw [List.getElem?_cons_succ] at e ⊢
    exact AtomsAre.get h2 e
/-- a written tuple of names -/
def TupIn (B : Led) (as : List Atom) (v : Value) : Prop := ∃ D vs, v = .ref D ∧ (D, ({ cls := .type "tuple", data := .seq vs.toArray 0 } : Obj)) ∈ B ∧ AtomsAre as vs
theorem TupIn.mono {B B' : Led} {as : List Atom} {v : Value} (hs : ∀ p ∈ B, p ∈ B') (h : TupIn B as v) : TupIn B' as v := by
  obtain ⟨D, vs, e, a, b⟩ := h; exact ⟨D, vs, e, hs _ a, b⟩
end Mine
namespace Mine
/-- what the loops over the tables keep of the rest: none of it stands at the places av, the start lies in it, the rest's list lies in it -/
structure RestSt (B0 B : Led) (av : List Addr) (lr : Addr) : Prop where
  off : ∀ p ∈ B, ∀ a ∈ av, p.1 ≠ a
  sub : ∀ p ∈ B0, p ∈ B
  rest : ∃ vr nr kr, (lr, PySem.W.listOf vr.toArray kr) ∈ B ∧ IntsAre vr nr ∧ vr.length ≤ 63
theorem RestSt.app {B0 B tl news : Led} {av : List Addr} {lr l : Addr} (h : RestSt B0 B av lr) (O : Ord news tl) (hm : ∀ a ∈ av, ∃ o, (a, o) ∈ news) (hr : ∃ vr nr kr, (l, PySem.W.listOf vr.toArray kr) ∈ B ++ tl ∧ IntsAre vr nr ∧ vr.length ≤ 63) : RestSt B0 (B ++ tl) av l :=
  ⟨fun p hp a ha => by
    rcases List.mem_append.mp hp with q | q
    · exact h.off p q a ha
    · obtain ⟨o, ho⟩ := hm a ha
      exact Nat.ne_of_gt (O _ ho p q), fun p hp => List.mem_append_left _ (h.sub p hp), hr⟩
theorem RestSt.less {B0 B : Led} {av av' : List Addr} {lr : Addr} (h : RestSt B0 B av lr) (hs : ∀ a ∈ av', a ∈ av) : RestSt B0 B av' lr := ⟨fun p hp a ha => h.off p hp a (hs a ha), h.sub, h.rest⟩
theorem RestSt.more {B0 B : Led} {av av' : List Addr} {lr : Addr} (h : RestSt B0 B av lr) (hs : ∀ p ∈ B, ∀ a ∈ av', p.1 ≠ a) : RestSt B0 B (av' ++ av) lr := ⟨fun p hp a ha => (List.mem_append.mp ha).elim (fun q => hs p hp a q) (fun q => h.off p hp a q), h.sub, h.rest⟩
/-- a table while it is filled -/
structure TabSt (w : World) (B : Led) (σ : List (Atom × Tree)) (od : Obj) : Prop where
  ex : ∃ kvs, od.IsDictOf (PySem.strKind PySem.Challenge.rw_ft0017_01.row.prog w) kvs ∧ KvIn B σ kvs
theorem TabSt.mono {w : World} {B B' : Led} {σ : List (Atom × Tree)} {od : Obj} (hs : ∀ p ∈ B, p ∈ B') (h : TabSt w B σ od) : TabSt w B' σ od := by
  obtain ⟨kvs, a, b⟩ := h.ex; exact ⟨kvs, a, b.mono hs⟩
theorem TabSt.tab {w : World} {B : Led} {σ : List (Atom × Tree)} {od : Obj} {td : Addr} (h : TabSt w B σ od) (hm : (td, od) ∈ B) (hs : (td == sysModules) = false) : TabIn w B σ td := by
  obtain ⟨kvs, a, b⟩ := h.ex; exact ⟨od, kvs, hm, a, hs, b⟩
/-- the names of the two tables -/
def tabNames : List (List Atom) := [[.S, .T], [.U, .T, .S]]
theorem env3_to {a b c : Str} {m m₀ : Str → Option Value} {x : Option Value} (h : ∀ y, y ≠ a → y ≠ b → y ≠ c → m y = m₀ y) (hc : m c = x) : m = fun y => if y = a then m a else if y = b then m b else if y = c then x else m₀ y := by rw [← hc]; exact env3_of h
theorem env5_to {a b c d e : Str} {m m₀ : Str → Option Value} {x : Option Value} (h : ∀ y, y ≠ a → y ≠ b → y ≠ c → y ≠ d → y ≠ e → m y = m₀ y) (he : m e = x) : m = fun y => if y = a then m a else if y = b then m b else if y = c then m c else if y = d then m d else if y = e then x else m₀ y := by rw [← he]; exact env5_of h
theorem env3_at {a b c : Str} (m : Str → Option Value) {x : Option Value} (hc : m c = x) : m = fun y => if y = a then m a else if y = b then m b else if y = c then x else m y := env3_to (fun _ _ _ _ => rfl) hc
theorem env5_at {a b c d e : Str} (m : Str → Option Value) {x : Option Value} (he : m e = x) : m = fun y => if y = a then m a else if y = b then m b else if y = c then m c else if y = d then m d else if y = e then x else m y := env5_to (fun _ _ _ _ _ _ => rfl) he
theorem mem_its {its : Led} {a : Addr} (h : a ∈ its.map (·.1)) : ∃ o, (a, o) ∈ its := by
  obtain ⟨p, hp, rfl⟩ := List.mem_map.mp h; exact ⟨p.2, hp⟩
end Mine
namespace Mine
theorem lookup_of {σ : List (Atom × Tree)} {a : Atom} {t : Tree} (h : σ.lookup a = some t) : (a, t) ∈ σ := by
  induction σ with
  | nil => simp at h
  | cons p r ih =>
    obtain ⟨b, u⟩ := p
    rw [List.lookup_cons] at h
    by_cases e : a = b
    · subst e
      rw [beq_self_eq_true] at h
      simp only [Option.some.injEq] at h
      subst h; exact List.mem_cons_self ..
    · rw [beq_false_of_ne e] at h
      exact List.mem_cons_of_mem _ (ih h)
/-- the bounds of a table's tree -/
structure Part (t : Tree) : Prop where
  n : nrm t
  h : t.ht ≤ 1
  z : t.sz ≤ 4
  l : lw t ≤ 3
  o : t.ok
  c : cb 1 t
theorem nil_none {a : Atom} {t : Tree} : ([] : List (Atom × Tree)).lookup a = some t → False := fun h => by simp at h
theorem Part.of {p : Tree} (h : gtr 1 p) : Part (exp [] p) := by
  obtain ⟨h1, h2, h3, h4, h5⟩ := h
  have b := exp_bound [] 0 1 (Nat.le_refl _) (fun a t e => (nil_none e).elim) p
  have l := lw_exp (σ := []) (lb := 1) (Nat.le_refl _) (fun a t e => (nil_none e).elim) p
  have c := cb_exp (σ := []) (lb := 1) (c := 1) (Nat.le_refl _) (Nat.le_refl _) (fun a t e => (nil_none e).elim) (fun a t e => (nil_none e).elim) p (by simpa using h5)
  refine ⟨nrm_exp (fun a t e => (nil_none e).elim) p, ?_, ?_, ?_, ok_exp (fun a t e => (nil_none e).elim) p h2, by simpa using c⟩
  · omega
  · simp only [Nat.mul_one] at b; have : (4 : Nat) ^ 1 = 4 := rfl; omega
  · have : (3 : Nat) ^ 1 = 3 := rfl; omega
theorem TabOk.part {σ : List (Atom × Tree)} (h : TabOk σ) {a : Atom} {t : Tree} (e : σ.lookup a = some t) : Part t := by
  obtain ⟨p, h1, h2⟩ := h _ (lookup_of e)
  have : t = exp [] p := h2
  rw [this]; exact Part.of h1
/-- the tree that the law tells, replaced by a table -/
structure Told (t : Tree) : Prop where
  n : nrm t
  h : t.ht ≤ 3
  z : t.sz ≤ 64
  l : lw t ≤ 27
  o : t.ok
  c : cb 9 t
theorem Told.of {σ : List (Atom × Tree)} {t : Tree} (ht : gtr 2 t) (hσ : ∀ a u, σ.lookup a = some u → Part u) : Told (exp σ t) := by
  obtain ⟨h1, h2, h3, h4, h5⟩ := ht
  have b := exp_bound σ 1 4 (by decide) (fun a t e => ⟨(hσ a t e).h, (hσ a t e).z⟩) t
  have l := lw_exp (σ := σ) (lb := 3) (by decide) (fun a t e => (hσ a t e).l) t
  have c := cb_exp (σ := σ) (lb := 3) (c := 3) (by decide) (by decide) (fun a t e => (hσ a t e).l) (fun a t e => cb_mono (by decide) t (hσ a t e).c) t (by simpa using h5)
  refine ⟨nrm_exp (fun a t e => (hσ a t e).n) t, ?_, ?_, ?_, ok_exp (fun a t e => (hσ a t e).o) t h2, by simpa using c⟩
  · omega
  · have : (4 : Nat) ^ 2 = 16 := rfl; omega
  · have : (3 : Nat) ^ 2 = 9 := rfl; omega
/-- a joined table's tree -/
structure Part2 (t : Tree) : Prop where
  n : nrm t
  h : t.ht ≤ 2
  z : t.sz ≤ 16
  o : t.ok
theorem Part.two {t : Tree} (h : Part t) : Part2 t := ⟨h.n, Nat.le_succ_of_le h.h, Nat.le_trans h.z (by decide), h.o⟩
theorem Part2.of {σ : List (Atom × Tree)} {t : Tree} (ht : Part t) (hσ : ∀ a u, σ.lookup a = some u → Part u) : Part2 (exp σ t) := by
  have b := exp_bound σ 1 4 (by decide) (fun a t e => ⟨(hσ a t e).h, (hσ a t e).z⟩) t
  have h1 := ht.h
  have h2 := ht.z
  refine ⟨nrm_exp (fun a t e => (hσ a t e).n) t, ?_, ?_, ok_exp (fun a t e => (hσ a t e).o) t ht.o⟩
  · omega
  · omega
theorem part_one {a : Atom} {u : Tree} (h : Part u) : ∀ b t, [(a, u)].lookup b = some t → Part t := fun b t e => by
  have := lookup_of e
  rw [List.mem_singleton] at this
  cases this; exact h
theorem keys_two {σ : List (Atom × Tree)} {a b : Atom} (h : σ.map (·.1) = [a, b]) : ∃ t u, σ = [(a, t), (b, u)] := by
  match σ, h with
  | [(x, t), (y, u)], h => simp only [List.map_cons, List.map_nil, List.cons.injEq, and_true] at h; obtain ⟨rfl, rfl⟩ := h; exact ⟨t, u, rfl⟩
  | [], h => simp at h
  | [_], h => simp at h
  | _ :: _ :: _ :: _, h => simp at h
theorem keys_three {σ : List (Atom × Tree)} {a b c : Atom} (h : σ.map (·.1) = [a, b, c]) : ∃ t u v, σ = [(a, t), (b, u), (c, v)] := by
  match σ, h with
  | [(x, t), (y, u), (z, v)], h => simp only [List.map_cons, List.map_nil, List.cons.injEq, and_true] at h; obtain ⟨rfl, rfl, rfl⟩ := h; exact ⟨t, u, v, rfl⟩
  | [], h => simp at h
  | [_], h => simp at h
  | [_, _], h => simp at h
  | _ :: _ :: _ :: _ :: _, h => simp at h
/-- what the law asks of two tables one behind the other -/
theorem joined_eq {a b c : Tree} (ha : Part a) (hb : Part b) (hc : Part c) (t : Tree) : teq (exp [(.U, c)] (exp [(.S, a), (.T, b)] t)) (exp [(.S, exp [(.U, c)] a), (.T, exp [(.U, c)] b), (.U, c)] t) = true := by
  refine exp_exp ?_ (fun x u e => (part_one hc x u e).n) rfl rfl ?_ t
  · intro x u e
    have := lookup_of e
    simp only [List.mem_cons, Prod.mk.injEq, List.not_mem_nil, or_false] at this
    rcases this with ⟨_, rfl⟩ | ⟨_, rfl⟩
    · exact ha.n
    · exact hb.n
  · intro x
    cases x <;> exact teq_refl _
theorem id_at {W : Wd} {iA iB iC io : Addr} {B : Led} (h : WIn W iA iB iC io B) {a : Atom} (ha : isVar a = true) : ∃ i, IdAt W B a i := by
  cases a <;> simp only [isVar, Bool.false_eq_true] at ha
  · obtain ⟨d, i, di, l, h1, h2, h3, h4, h5, t1, t1', t2, t3, t4, t5, t5', h6, h7, t6, t6', t7, t7', n, n', n'', z1, z2, z3, z4, z5⟩ := h.vS
    exact ⟨i, d, _, _, _, _, _, _, _, _, _, _, _, _, l, n, z1, z2, di, _, _, _, _, _, _, _, z3, z4⟩
  · obtain ⟨d, i, di, l, h1, h2, h3, h4, h5, t1, t1', t2, t3, t4, t5, t5', h6, h7, t6, t6', t7, t7', n, n', n'', z1, z2, z3, z4, z5⟩ := h.vT
    exact ⟨i, d, _, _, _, _, _, _, _, _, _, _, _, _, l, n, z1, z2, di, _, _, _, _, _, _, _, z3, z4⟩
  · obtain ⟨d, i, di, l, h1, h2, h3, h4, h5, t1, t1', t2, t3, t4, t5, t5', h6, h7, t6, t6', t7, t7', n, n', n'', z1, z2, z3, z4, z5⟩ := h.vU
    exact ⟨i, d, _, _, _, _, _, _, _, _, _, _, _, _, l, n, z1, z2, di, _, _, _, _, _, _, _, z3, z4⟩
theorem look_at {σ : List (Atom × Tree)} (hn : (σ.map (·.1)).Nodup) {i : Nat} {a : Atom} {t : Tree} (h : σ[i]? = some (a, t)) : σ.lookup a = some t := by
  induction σ generalizing i with
  | nil => simp at h
  | cons p r ih =>
    obtain ⟨b, u⟩ := p
    rw [List.map_cons, List.nodup_cons] at hn
    cases i with
    | zero =>
      simp only [List.getElem?_cons_zero, Option.some.injEq, Prod.mk.injEq] at h
      obtain ⟨rfl, rfl⟩ := h
      simp [List.lookup_cons]
    | succ i =>
      rw [List.getElem?_cons_succ] at h
      have hm : a ∈ r.map (·.1) := List.mem_map.mpr ⟨_, List.mem_of_getElem? h, rfl⟩
      have hne : a ≠ b := fun e => hn.1 (e ▸ hm)
      rw [List.lookup_cons, beq_false_of_ne hne]
      exact ih hn.2 h
theorem take_fresh {σ : List (Atom × Tree)} (hn : (σ.map (·.1)).Nodup) {i : Nat} {a : Atom} {t : Tree} (h : σ[i]? = some (a, t)) : a ∉ (σ.take i).map (·.1) := by
  induction σ generalizing i with
  | nil => simp at h
  | cons p r ih =>
    obtain ⟨b, u⟩ := p
    rw [List.map_cons, List.nodup_cons] at hn
    cases i with
    | zero => simp
    | succ i =>
      rw [List.getElem?_cons_succ] at h
      have hm : a ∈ r.map (·.1) := List.mem_map.mpr ⟨_, List.mem_of_getElem? h, rfl⟩
      have hne : a ≠ b := fun e => hn.1 (e ▸ hm)
      rw [List.take_succ_cons, List.map_cons, List.mem_cons]
      rintro (e | e)
      · exact hne e
      · exact ih hn.2 h e
/-- a dict of types while a comprehension fills it -/
structure EntSt (W : Wd) (B base : Led) (σ : List (Atom × Tree)) (n : Nat) (led : Led) (oD : Obj) : Prop where
  ex : ∃ es ep l2, oD = dictOf es ep ∧ EntIn W (B ++ l2) (σ.take n) es ∧ ∀ p ∈ l2, p ∈ led ∧ ∀ q ∈ base, q.1 < p.1
theorem EntSt.nil {W : Wd} {B base : Led} {σ : List (Atom × Tree)} {led : Led} : EntSt W B base σ 0 led (dictOf [] 0) := ⟨[], 0, [], rfl, by rw [List.take_zero]; rfl, fun _ h => nomatch h⟩
theorem TabOk.nodup2 {a b : Tree} : (([(.S, a), (.T, b)] : List (Atom × Tree)).map (·.1)).Nodup := by simp
theorem mem_new {base tl l2 : Led} (h : ∀ p ∈ l2, p ∈ base ++ tl ∧ ∀ q ∈ base, q.1 < p.1) : ∀ p ∈ l2, p ∈ tl := fun p hp => by
  rcases List.mem_append.mp (h p hp).1 with q | q
  · exact absurd ((h p hp).2 p q) (Nat.lt_irrefl _)
  · exact q
end Mine
namespace Mine
mutual
theorem dat_eqv : ∀ t : Tree, PyData.eqv (dat t) (dat t) = true
  | .leaf a => by rw [dat, PyData.eqv]; simp
  | .node g ps => by
    rw [dat, PyData.eqv, PyData.eqvAll, dats_eqv ps, PyData.eqv]; simp
theorem dats_eqv : ∀ ts : List Tree, PyData.eqvAll (dats ts) (dats ts) = true
  | [] => by rw [dats, PyData.eqvAll]
  | t :: r => by rw [dats, PyData.eqvAll, dat_eqv t, dats_eqv r]; rfl
end
theorem ne_tree {prog : Program} {w : World} {A : Around} {E : Value → Shared → Prop} {s : Shared} {news : Led} {Q : Value → Shared → Prop} {t : Tree} {u v : Value} (hn : ∀ p ∈ news, s.heap.get? p.1 = some p.2) (h1 : TreeIn news t u) (h2 : TreeIn news t v) (hz : t.ht ≤ 64) (hu : A.units + 64 < cLine) (h : Q (.bool false) s) :
    wpAny (model prog w) A (compareOp .NotEq u v) Q E s := by
  obtain ⟨as, ra⟩ := reads_tree hn h1
  obtain ⟨bs, rb⟩ := reads_tree hn h2
  exact ne_dataH ra rb (dat_shaped hz) (dat_shaped hz) hu (by rw [dat_eqv]; exact h)
theorem ne_trees {prog : Program} {w : World} {A : Around} {E : Value → Shared → Prop} {s : Shared} {news : Led} {Q : Value → Shared → Prop} {ts : List Tree} {l1 l2 : Addr} {us vs : List Value} {k1 k2 : Nat} (hn : ∀ p ∈ news, s.heap.get? p.1 = some p.2) (m1 : (l1, PySem.W.listOf us.toArray k1) ∈ news) (m2 : (l2, PySem.W.listOf vs.toArray k2) ∈ news) (h1 : TreesIn news ts us) (h2 : TreesIn news ts vs) (hz : hts ts ≤ 60) (hu : A.units + 64 < cLine) (h : Q (.bool false) s) :
    wpAny (model prog w) A (compareOp .NotEq (.ref l1) (.ref l2)) Q E s := by
  obtain ⟨as, ra⟩ := reads_trees hn h1
  obtain ⟨bs, rb⟩ := reads_trees hn h2
  refine ne_dataH (da := .list (dats ts)) (db := .list (dats ts)) (.list (hn _ m1) rfl rfl (by simpa using ra)) (.list (hn _ m2) rfl rfl (by simpa using rb)) (list_shaped hz) (list_shaped hz) hu ?_
  rw [PyData.eqv, dats_eqv]; exact h
theorem eq_trees {prog : Program} {w : World} {A : Around} {E : Value → Shared → Prop} {s : Shared} {news : Led} {Q : Value → Shared → Prop} {ts : List Tree} {l1 l2 : Addr} {us vs : List Value} {k1 k2 : Nat} (hn : ∀ p ∈ news, s.heap.get? p.1 = some p.2) (m1 : (l1, PySem.W.listOf us.toArray k1) ∈ news) (m2 : (l2, PySem.W.listOf vs.toArray k2) ∈ news) (h1 : TreesIn news ts us) (h2 : TreesIn news ts vs) (hz : hts ts ≤ 60) (hu : A.units + 64 < cLine) (h : Q (.bool true) s) :
    wpAny (model prog w) A (compareOp .Eq (.ref l1) (.ref l2)) Q E s := by
  obtain ⟨as, ra⟩ := reads_trees hn h1
  obtain ⟨bs, rb⟩ := reads_trees hn h2
  refine eq_dataH (da := .list (dats ts)) (db := .list (dats ts)) (.list (hn _ m1) rfl rfl (by simpa using ra)) (.list (hn _ m2) rfl rfl (by simpa using rb)) (list_shaped hz) (list_shaped hz) hu ?_
  rw [PyData.eqv, dats_eqv]; exact h
theorem names_trees {news : Led} : ∀ {as : List Atom} {vs : List Value}, NamesIn as vs → TreesIn news (as.map .leaf) vs
  | [], _, h => by simp only [NamesIn] at h; subst h; simp [TreesIn]
  | a :: r, _, h => by
    simp only [NamesIn] at h
    obtain ⟨tk, us, rfl, h2⟩ := h
    simp only [List.map_cons, TreesIn]
    exact ⟨_, us, rfl, by simp only [TreeIn]; exact ⟨tk, rfl⟩, names_trees h2⟩
theorem leaves_ht : ∀ as : List Atom, hts (as.map .leaf) ≤ 60
  | [] => by simp [hts]
  | a :: r => by have := leaves_ht r; simp only [List.map_cons, hts, Tree.ht]; omega
theorem TreesIn.two {news : Led} {t u : Tree} {x y : Value} (h1 : TreeIn news t x) (h2 : TreeIn news u y) : TreesIn news [t, u] [x, y] := by
  simp only [TreesIn]
  exact ⟨x, [y], rfl, h1, y, [], rfl, h2, rfl⟩
theorem two_of {ys : List Value} (h : ys.length = 2) : ∃ a b, ys = [a, b] := by
  match ys, h with
  | [a, b], _ => exact ⟨a, b, rfl⟩
end Mine
namespace Mine
section
variable {prog : Program} {w : World} {A : Around} {E : Value → Shared → Prop} {s : Shared} {h₀ : Heap} {L : Addr} {m : Str → Option Value} {news : Led}
/-- a dict display with one pair, the key of any kind -/
theorem Dict_one {env : Env} {k v : PySem.Expr} {pos : Pos} {Q : Value → Shared → Prop} (F : Fr h₀ L s.heap m) (N : News h₀ L s.heap news) (hbig : sysModules < h₀.objs.size)
    (h : ∀ (d : Addr) (h' : Heap), Fr h₀ L h' m → News h₀ L h' ((d, dictOf [] 0) :: news) → (∀ p ∈ news, p.1 < d) → (d == sysModules) = false →
      wpAny (model prog w) A (eval k env) (fun kv s₁ => wpAny (model prog w) A (eval v env) (fun vv s₂ => wpAny (model prog w) A (dictSet d kv vv) (fun _ s₃ => Q (.ref d) s₃) E s₂) E s₁) E { s with heap := h' }) :
    wpAny (model prog w) A (eval (.Dict [some k] [v] pos) env) Q E s := by
  rw [arm_eval_Dict, zip_pairTrees [some k] [v] env pos rfl rfl, dictDisplay_pairs (pairTrees [some k] [v] env pos) (by simp [pairTrees]) (by simp [pairTrees])]
  refine wpAny_bind (wpAny_standAt (wpAny_bind ?_))
  unfold subDict
  refine wpAny_bind (wpAny_alloc ?_)
  refine wpAny_bind (wpAny_holding ?_)
  rw [if_pos (by simp [pairTrees])]
  refine wpAny_bind ?_
  have ho : (s.heap.push { cls := .type "dict", data := .dict #[] }).get? s.heap.objs.size = some (dictOf [] 0) := Heap.get?_push_size _ rfl
  have hN : News h₀ L (s.heap.push { cls := .type "dict", data := .dict #[] }) ((s.heap.objs.size, dictOf [] 0) :: news) := news_pushed F N (fun b x e => Heap.get?_push_of_some _ e) ho rfl
  have h1 := h s.heap.objs.size (s.heap.push { cls := .type "dict", data := .dict #[] }) (F.push _) hN (fun p hp => Heap.lt_size (N p hp).1) (F.notModules hbig)
  show wpAny _ _ (evalPairs [(eval k env, do let x ← eval v env; standAt pos; pure x)]) _ _ _
  refine evalPairs_cons ?_
  refine wpAny_mono h1 (fun kv s₁ h₁ => ?_) fun _ _ e => e
  refine wpAny_bind (wpAny_mono h₁ (fun vv s₂ h₂ => wpAny_bind (wpAny_standAt (wpAny_pure ?_))) fun _ _ e => e)
  refine evalPairs_nil ?_
  refine wpAny_holding ?_
  refine wpAny_bind ?_
  rw [List.forIn_cons]
  refine wpAny_bind (wpAny_bind (wpAny_mono h₂ (fun _ s₃ h₃ => wpAny_pure ?_) fun _ _ e => e))
  dsimp only
  rw [List.forIn_nil]
  exact wpAny_pure (wpAny_pure (wpAny_pure (wpAny_pure h₃)))
end
end Mine
namespace Mine
theorem dict_empty {prog : Program} {w : World} {K : Type} [DecidableEq K] {knd : KeyKind prog w K} : (dictOf [] 0).IsDictOf knd [] := ⟨#[], 0, ⟨rfl, rfl, rfl⟩, rfl, fun _ he => by simp at he, Pairs.nil, List.nodup_nil⟩
section
variable {prog : Program} {w : World} {A : Around} {E : Value → Shared → Prop} {s : Shared} {h₀ : Heap} {L : Addr} {m : Str → Option Value}
theorem dictSet_kv {K : Type} [DecidableEq K] {knd : KeyKind prog w K} {rest : Led} {D : Addr} {oD : Obj} {kvs : List (K × Value)} {k : K} {key v : Value} {Q : Unit → Shared → Prop} (F : Fr h₀ L s.heap m) (N : News h₀ L s.heap ((D, oD) :: rest)) (hD : ∀ p ∈ rest, p.1 ≠ D) (hd : oD.IsDictOf knd kvs) (hkey : knd.is k key = true) (hz : kvs.length ≤ sizeLine)
    (hQ : ∀ h' o', Fr h₀ L h' m → News h₀ L h' ((D, o') :: rest) → o'.IsDictOf knd (stored kvs k v) → Q () { s with heap := h', toks := s.toks + 1 }) : wpAny (model prog w) A (dictSet D key v) Q E s := by
  have hm := N (D, oD) (List.mem_cons_self ..)
  refine wpAny_dictSet_pairs (hsz := hz) hkey (Heap.dictOf_iff.mpr ⟨oD, hm.1, hd⟩) fun h' hmm hs => ?_
  obtain ⟨o', ho', hd'⟩ := Heap.dictOf_iff.mp hmm
  exact hQ h' o' (F.change hs hm.2.1 hm.2.2) (N.setHead hD hs ho') hd'
end
/-- a dict of trees while a comprehension fills it -/
structure JoinSt (w : World) (B base : Led) (σ : List (Atom × Tree)) (n : Nat) (led : Led) (oD : Obj) : Prop where
  ex : ∃ kvs l2, oD.IsDictOf (PySem.strKind PySem.Challenge.rw_ft0017_01.row.prog w) kvs ∧ KvIn (B ++ l2) (σ.take n) kvs ∧ ∀ p ∈ l2, p ∈ led ∧ ∀ q ∈ base, q.1 < p.1
theorem JoinSt.nil {w : World} {B base : Led} {σ : List (Atom × Tree)} {led : Led} : JoinSt w B base σ 0 led (dictOf [] 0) := ⟨[], [], dict_empty, by rw [List.take_zero]; rfl, fun _ h => nomatch h⟩
theorem map_get {σ : List (Atom × Tree)} {f : Tree → Tree} {i : Nat} {a : Atom} {t : Tree} (h : σ[i]? = some (a, t)) : (σ.map fun p => (p.1, f p.2))[i]? = some (a, f t) := by rw [List.getElem?_map, h]; rfl
end Mine
namespace Mine
theorem rc_use {w : World} {mean : ExcName → Option Value} {mg mb : Str → Option Value} {W : Wd} {iA iB iC io : Addr} {dep un : Nat} {t1 t2 : Tree} (C : RcCon w mean mg mb W iA iB iC io dep un t1 t2) (vis : Led)
    {A A₀ : Around} {env : Env} {outer : List Env} {base h₀ : Heap} {L : Addr} {m : Str → Option Value} {news : Led} {s : Shared} {x y : Value} {E Q : Value → Shared → Prop}
    (B : Below A₀ base outer h₀) (F : Fr h₀ L s.heap m) (X : (Mine.hd.heap_39 w.params).In h₀) (N : News h₀ L s.heap news) (T : Top Mine.hd.view_39 lo mean mg mb h₀)
    (hA : A.frames = some (env :: outer)) (hf : env.frame = some L) (hk : env.scope.kind = .function) (hh : A.handled = none) (hg : A.guards = some []) (hd : A.depth + dep < recursionLimit) (hu : A.units + un < cLine) (hv : ∀ p ∈ vis, p ∈ news)
    (WI : WIn W iA iB iC io vis) (h1 : TypIn W vis t1 x) (h2 : TypIn W vis t2 y)
    (hQ : ∀ h' tk', Fr h₀ L h' m → News h₀ L h' news → Q (.bool (teq t1 t2)) { s with heap := h', toks := tk' }) :
    wpAny (model PySem.Challenge.rw_ft0017_01.row.prog w) A (compareOp .Eq x y) Q E s :=
  cmp_ofEq (C A A₀ env outer base h₀ L m news vis s x y E Q B F X N T hA hf hk hh hg hd hu hv WI h1 h2 hQ)
mutual
theorem tvars_var : ∀ t : Tree, ∀ a ∈ tvars t, isVar a = true
  | .leaf b, a, h => by
    rw [tvars] at h
    cases hb : isVar b with
    | true => rw [hb] at h; simp at h; rw [h]; exact hb
    | false => rw [hb] at h; simp at h
  | .node g ps, a, h => by rw [tvars] at h; exact tvarss_var ps a h
theorem tvarss_var : ∀ ts : List Tree, ∀ a ∈ tvarss ts, isVar a = true
  | [], a, h => by simp [tvarss] at h
  | t :: r, a, h => by
    rw [tvarss] at h
    rcases List.mem_append.mp h with q | q
    · exact tvars_var t a q
    · exact tvarss_var r a q
end
theorem nm_var {a : Atom} (h : isVar a = true) : nmOf (.leaf a) = a.nm := by cases a <;> simp only [isVar, Bool.false_eq_true] at h <;> rfl
/-- the names, by what each turn gave -/
theorem names_of : ∀ {as : List Atom} {ys : List Value}, ys.length = as.length → (∀ (j : Nat) (a : Atom), as[j]? = some a → ∃ tk, ys[j]? = some (.str a.nm tk)) → NamesIn as ys
  | [], ys, h, _ => by rw [List.length_eq_zero_iff.mp h]; simp [NamesIn]
  | a :: r, [], h, _ => by simp at h
  | a :: r, y :: ys, h, hj => by
    obtain ⟨tk, e⟩ := hj 0 a rfl
    simp only [List.getElem?_cons_zero, Option.some.injEq] at e
    subst e
    simp only [NamesIn]
    exact ⟨tk, ys, rfl, names_of (by simpa using h) fun j b hb => by
      obtain ⟨tk', e'⟩ := hj (j + 1) b (by simpa using hb)
      exact ⟨tk', by simpa using e'⟩⟩
end Mine
namespace Mine
local macro_rules | `(tactic| walk_at "idle") => `(tactic| fail "idle")
theorem fresh64 : True := by
  w_top off
  trivial
local macro_rules | `(tactic| k_mem) => `(tactic| first | with_reducible assumption | with_reducible exact List.mem_cons_self .. | (with_reducible refine List.mem_cons_of_mem _ ?_; k_mem) | (with_reducible refine List.mem_append_left _ ?_; k_mem) | (with_reducible refine List.mem_append_right _ ?_; k_mem))
local macro_rules | `(tactic| k_room) => `(tactic| ((try simp only [depth_under_make, depth_under_kw, depth_in1, depth_deeper, depth_caller]); omega))
local macro_rules | `(tactic| k_units) => `(tactic| ((try simp only [units_under_make, units_in1, units_deeper, Around.mark_units, units_caller]); omega))
local macro_rules | `(tactic| k_all) => `(tactic| first | assumption | (refine List.forall_mem_append.mpr ⟨?_, ?_⟩ <;> k_all))
local macro_rules | `(tactic| walk_at "call ref") => `(tactic| (k_here; (with_reducible show wpAny _ _ (call (Value.ref 64) _ _) _ _ _); refine wpAny_call ?_))
local macro_rules | `(tactic| walk_at "call ref") => `(tactic| (k_here; (with_reducible show wpAny _ _ (call (Value.ref 137) _ _) _ _ _); refine wpAny_call ?_))
local macro_rules | `(tactic| walk_at "call ref") => `(tactic| (k_here; (with_reducible show wpAny _ _ (call (Value.ref 147) _ _) _ _ _); refine wpAny_call ?_))
local macro_rules | `(tactic| walk_at "call ref") => `(tactic| (k_here; (with_reducible show wpAny _ _ (call (Value.ref 190) _ _) _ _ _); refine wpAny_call ?_))
local macro_rules | `(tactic| walk_at "call ref") => `(tactic| (k_here; (with_reducible show wpAny _ _ (call (Value.ref 324) _ _) _ _ _); refine wpAny_call ?_))
local macro_rules | `(tactic| walk_at "call ref") => `(tactic| (k_here; (with_reducible show wpAny _ _ (call (Value.ref 284) _ _) _ _ _); refine wpAny_call ?_))
local macro_rules | `(tactic| walk_at "call ref") => `(tactic| (k_here; (with_reducible show wpAny _ _ (call (Value.ref 258) _ _) _ _ _); refine wpAny_call ?_))
local macro_rules | `(tactic| walk_at "call ref") => `(tactic| (k_here; (with_reducible show wpAny _ _ (call (Value.ref 224) _ _) _ _ _); refine wpAny_call ?_))
local macro_rules | `(tactic| walk_at "call ref") => `(tactic| (k_here; (with_reducible show wpAny _ _ (call (Value.ref 573) _ _) _ _ _); refine wpAny_call ?_))
local macro_rules | `(tactic| walk_at "call ref") => `(tactic| (k_here; (with_reducible show wpAny _ _ (call (Value.ref 588) _ _) _ _ _); refine wpAny_call ?_))
local macro_rules | `(tactic| walk_at "call ref") => `(tactic| (k_here; (with_reducible show wpAny _ _ (call (Value.ref 593) _ _) _ _ _); refine wpAny_call ?_))
local macro_rules | `(tactic| walk_at "call ref") => `(tactic| (k_here; (with_reducible show wpAny _ _ (call (Value.ref 598) _ _) _ _ _); refine wpAny_call ?_))
local macro_rules | `(tactic| walk_at "call ref") => `(tactic| (k_here; (with_reducible show wpAny _ _ (call (Value.ref 603) _ _) _ _ _); refine wpAny_call ?_))
local macro_rules | `(tactic| walk_at "call ref") => `(tactic| (k_here; (with_reducible show wpAny _ _ (call (Value.ref 512) _ _) _ _ _); refine wpAny_call ?_))
local macro_rules | `(tactic| walk_at "call ref") => `(tactic| (k_here; (with_reducible show wpAny _ _ (call (Value.ref 505) _ _) _ _ _); refine wpAny_call ?_))
local macro_rules | `(tactic| walk_at "exec For Tuple Call cons nil") => `(tactic| (k_here; refine hold ?_))
local macro_rules | `(tactic| walk_at "exec For Name Name cons nil") => `(tactic| (k_here; k_dflt (refine' For_turns ?kF ?_; (case kF => k_asm))))
local macro_rules | `(tactic| walk_at "execs cons") => `(tactic| (k_here; (with_reducible show wpAny _ _ (execs (Stmt.Assign _ (Expr.Dict [] [] _) _ :: Stmt.For _ _ _ _ _ :: _) _) _ _ _); (with_reducible refine wpAny_execs_cons ?_); (try dsimp only)))
local macro_rules | `(tactic| walk_at "call builtin:list.append cons nil") => `(tactic| (k_here; refine hold ?_))
local macro_rules | `(tactic| walk_at "call builtin:list.append") => `(tactic| (k_here; refine hold ?_))
local macro_rules | `(tactic| walk_at "dictSet ref") => `(tactic| (k_here; refine hold ?_))
local macro_rules | `(tactic| walk_at "dictSet str") => `(tactic| (k_here; refine hold ?_))
local macro_rules | `(tactic| walk_at "dictSet") => `(tactic| (k_here; refine hold ?_))
local macro_rules | `(tactic| walk_at "compareOp NotEq") => `(tactic| (k_here; refine hold ?_))
local macro_rules | `(tactic| walk_at "compareOp Eq") => `(tactic| (k_here; refine hold ?_))
local macro_rules | `(tactic| walk_at "compareOp NotEq ref ref") => `(tactic| (k_here; refine hold ?_))
local macro_rules | `(tactic| walk_at "compareOp Eq ref ref") => `(tactic| (k_here; refine hold ?_))
local macro_rules | `(tactic| walk_at "eval Dict") => `(tactic| (k_here; (with_reducible show wpAny _ _ (eval (Expr.Dict [some (Expr.Attribute _ _ _)] _ _) _) _ _ _); refine hold ?_))
local macro_rules | `(tactic| walk_at "pyIter ref") => `(tactic| (k_here; refine hold ?_))
local macro_rules | `(tactic| walk_at "call type:enumerate") => `(tactic| (k_here; refine hold ?_))
local macro_rules | `(tactic| walk_at "eval IfExp") => `(tactic| (k_here; refine hold ?_))
local macro_rules | `(tactic| walk_at "eval DictComp") => `(tactic| (k_here; refine hold ?_))
local macro_rules | `(tactic| walk_at "eval ListComp") => `(tactic| (k_here; refine hold ?_))
local macro_rules | `(tactic| walk_at "exec Assign cons ListComp") => `(tactic| (k_here; refine hold ?_))
local macro_rules | `(tactic| walk_at "setItem ref str") => `(tactic| (k_here; refine hold ?_))
local macro_rules | `(tactic| walk_at "subscriptTail Name Constant ref int") => `(tactic| (k_here; refine hold ?_))
local macro_rules | `(tactic| walk_at "subscriptTail Name Constant ref str") => `(tactic| (k_here; refine hold ?_))
local macro_rules | `(tactic| walk_at "subscriptTail Name Name ref str") => `(tactic| (k_here; refine hold ?_))
local macro_rules | `(tactic| walk_at "subscriptTail Subscript Constant ref str") => `(tactic| (k_here; refine hold ?_))
local macro_rules | `(tactic| walk_at "subscriptTail Subscript Name Constant Constant ref str") => `(tactic| (k_here; k_dflt (refine kba_turn (value' := PySem.Expr.Name (PySem.Str.ofString "_") ⟨0, 0, 0, 0⟩) (fun _ => rfl) ?_)))
local macro_rules | `(tactic| walk_at "eval Name") => `(tactic| (k_here; first | (refine nameC_L (by assumption) (by assumption) ?_ (by rfl) (by rfl) (by decide)) | (k_dflt (refine' nameC_C ?k1 ?k2 ?k3 ?k4 ?_ (by rfl) (by rfl) (by decide); (case k1 => k_asm); (case k2 => exact rfl); (case k3 => k_mem); (case k4 => assumption)))))
theorem env2_start (a b : Str) (m : Str → Option Value) : m = fun y => if y = a then m a else if y = b then m b else m y := by
  funext y
  by_cases h1 : y = a
  · rw [if_pos h1, h1]
  · by_cases h2 : y = b
    · rw [if_neg h1, if_pos h2, h2]
    · rw [if_neg h1, if_neg h2]
theorem env2_turn {a b : Str} (m : Str → Option Value) (ua ub va vb : Option Value) : (fun y => if y = a then va else if y = b then vb else if y = a then ua else if y = b then ub else m y) = fun y => if y = a then va else if y = b then vb else m y := by
  funext y
  by_cases h1 : y = a
  · simp [h1]
  · by_cases h2 : y = b
    · simp [h1, h2]
    · simp [h1, h2]
theorem kok_var {B : Led} {top a : Addr} : ∀ (i : Nat) (vk : WKey), [WKey.S, .T, .U, .K, .V][i]? = some vk → VarIn B a vk.nm ((i : Int) + 1) top → KeyOk B top vk (.ref a)
  | 0, vk, h, hv => by simp at h; subst h; exact ⟨a, rfl, hv⟩
  | 1, vk, h, hv => by simp at h; subst h; exact ⟨a, rfl, hv⟩
  | 2, vk, h, hv => by simp at h; subst h; exact ⟨a, rfl, hv⟩
  | 3, vk, h, hv => by simp at h; subst h; exact ⟨a, rfl, hv⟩
  | 4, vk, h, hv => by simp at h; subst h; exact ⟨a, rfl, hv⟩
  | i + 5, vk, h, hv => by simp at h
theorem kok_plain {B : Led} {top a : Addr} : ∀ (i : Nat) (vk : WKey), [WKey.A, .B, .C][i]? = some vk → PlainIn B (Str.ofString "m." ++ vk.nm) (.ref a) → KeyOk B top vk (.ref a)
  | 0, vk, h, hv => by simp at h; subst h; exact hv
  | 1, vk, h, hv => by simp at h; subst h; exact hv
  | 2, vk, h, hv => by simp at h; subst h; exact hv
  | i + 3, vk, h, hv => by simp at h
theorem env1_start (a : Str) (m : Str → Option Value) : m = fun y => if y = a then m a else m y := by
  funext y
  by_cases h1 : y = a
  · rw [if_pos h1, h1]
  · rw [if_neg h1]
theorem env1_turn {a : Str} (m : Str → Option Value) (ua va : Option Value) : (fun y => if y = a then va else if y = a then ua else m y) = fun y => if y = a then va else m y := by
  funext y
  by_cases h1 : y = a
  · simp [h1]
  · simp [h1]
/-- ways that meet again, what is told of the new objects -/
theorem wp_join2 {M : Model} {A : Around} {op : Sem Value} {Q : Value → Shared → Prop} {E : Value → Shared → Prop} {s : Shared} {h₀ : Heap} {L : Addr} {m : Str → Option Value} {news : Led} (F : Fr h₀ L s.heap m) (N : News h₀ L s.heap news) (G : Value → Led → Prop)
    (h : wpAny M A op (fun r s' => ∃ tl h' tk', s' = { s with heap := h', toks := tk' } ∧ Fr h₀ L h' m ∧ News h₀ L h' (news ++ tl) ∧ Ord news tl ∧ G r tl) E s)
    (hQ : ∀ r tl h' tk', Fr h₀ L h' m → News h₀ L h' (news ++ tl) → Ord news tl → G r tl → Q r { s with heap := h', toks := tk' }) : wpAny M A op Q E s := by
  refine wpAny_mono h (fun r s' hq => ?_) fun _ _ e => e
  obtain ⟨tl, h', tk', rfl, F', N', O', g⟩ := hq
  exact hQ r tl h' tk' F' N' O' g
theorem tups_of {h₀ h : Heap} {L D1 D2 D3 lt : Addr} {ol : Obj} {p5 p4 p3 p2 p1 : Addr × Obj} {B2 : Led} {t1 t2 t3 t4 t5 : Nat} (N : News h₀ L h ((D3, ({ cls := .type "tuple", data := .seq #[Value.ref D1, .ref D2] 0 } : Obj)) :: (D2, ({ cls := .type "tuple", data := .seq #[Value.str (Str.ofString "U") t1, .str (Str.ofString "T") t2, .str (Str.ofString "S") t3] 0 } : Obj)) :: (D1, ({ cls := .type "tuple", data := .seq #[Value.str (Str.ofString "S") t4, .str (Str.ofString "T") t5] 0 } : Obj)) :: (lt, ol) :: p5 :: p4 :: p3 :: p2 :: p1 :: B2)) :
    ∃ vs1 vs2, AtomsAre [.S, .T] vs1 ∧ AtomsAre [.U, .T, .S] vs2 ∧ News h₀ L h ((lt, ol) :: p5 :: p4 :: p3 :: p2 :: p1 :: ((D3, ({ cls := .type "tuple", data := .seq [Value.ref D1, .ref D2].toArray 0 } : Obj)) :: (D2, ({ cls := .type "tuple", data := .seq vs2.toArray 0 } : Obj)) :: (D1, ({ cls := .type "tuple", data := .seq vs1.toArray 0 } : Obj)) :: B2)) := by
  refine ⟨[.str (Str.ofString "S") t4, .str (Str.ofString "T") t5], [.str (Str.ofString "U") t1, .str (Str.ofString "T") t2, .str (Str.ofString "S") t3], ⟨_, _, rfl, _, _, rfl, rfl⟩, ⟨_, _, rfl, _, _, rfl, _, _, rfl, rfl⟩, fun p hp => N p ?_⟩
  simp only [List.mem_cons] at hp ⊢
  rcases hp with h | h | h | h | h | h | h | h | h | h <;> simp [h]
theorem tab_fresh {i j : Nat} {as : List Atom} {a : Atom} (h : tabNames[i]? = some as) (hj : as[j]? = some a) : a ∉ as.take j := by
  match i, h with
  | 0, h =>
    simp only [tabNames, List.getElem?_cons_zero, Option.some.injEq] at h
    subst h
    rcases j with _ | _ | j <;> simp at hj <;> subst hj <;> decide
  | 1, h =>
    simp only [tabNames, List.getElem?_cons_succ, List.getElem?_cons_zero, Option.some.injEq] at h
    subst h
    rcases j with _ | _ | _ | j <;> simp at hj <;> subst hj <;> decide
  | n + 2, h => simp [tabNames] at h
theorem law0 : PySem.Challenge.rw_ft0017_01.Holds := by
  refine hd (by
    w_strict (
      k_go0
      (all_goals try k_fold)
      rename_i w s0 s1 mg mb G Y fa o pm doc ho hgens KX MX V GL T B TE TW ma mo M wa wb hcd ns hs hlay0 hLay hr0 hl2 wc wd' sl svs was hSL ra w1 r0 hI hr hc63 hcT K0 hDf h1 tk1 F oc1 oc2 oc3 oc4 oc5 dc1 dc2 dc3 dc4 dc5 N0 X0
      have hrl : recursionLimit = 1000 := rfl
      have hcl : cLine = 9900 := rfl
      k_steps
      rename_i lb1 hb1 lt1 lb2 hb2 F1 N1 lt2
      k_dflt (refine' con_use (root_con _ _ _ _) ([(lb1, PySem.W.listOf #[] 0), (lb2, PySem.W.listOf #[] 0)]) ?k1 ?k2 ?k3 ?k4 ?k5 ?kA ?kF ?kK ?kh ?kg ?kd ?ku ?kv ?pre ?_; (case k1 => k_asm); (case k2 => k_asm); (case k3 => k_asm); (case k4 => k_asm); (case k5 => k_asm); (case kA => first | exact Around.frames_deeper (Below.stack (by assumption)) | assumption); (case kF => exact rfl); (case kK => exact rfl); (case kh => first | exact hh | exact rfl | assumption); (case kg => first | exact hg | exact rfl | assumption); (case kd => ((try simp only [depth_under_make, depth_under_kw, depth_in1, depth_deeper, depth_caller]); omega)); (case ku => ((try simp only [units_under_make, units_in1, units_deeper, Around.mark_units, units_caller]); omega)))
      case kv =>
        intro p hp
        rcases List.mem_cons.mp hp with h | h
        · rw [h]; k_mem
        · rw [List.mem_singleton.mp h]; k_mem
      case pre => exact ⟨_, lb1, lb2, 0, 0, rfl, List.mem_cons_self .., List.mem_cons_of_mem _ (List.mem_cons_self ..)⟩
      intro r tl1 h2 tk2 F2 N2 O2 P2
      obtain ⟨io, rfl, hRoot⟩ := P2
      dsimp only
      k_steps
      rename_i h3a l3 h3 F3 N3 lt3
      k_dflt (refine' con_use (inst_con _ _ _ _ io [] (by simp)) ([(l3, PySem.W.listOf #[] 0)]) ?k1 ?k2 ?k3 ?k4 ?k5 ?kA ?kF ?kK ?kh ?kg ?kd ?ku ?kv ?pre ?_; (case k1 => k_asm); (case k2 => k_asm); (case k3 => k_asm); (case k4 => k_asm); (case k5 => k_asm); (case kA => first | exact Around.frames_deeper (Below.stack (by assumption)) | assumption); (case kF => exact rfl); (case kK => exact rfl); (case kh => first | exact hh | exact rfl | assumption); (case kg => first | exact hg | exact rfl | assumption); (case kd => ((try simp only [depth_under_make, depth_under_kw, depth_in1, depth_deeper, depth_caller]); omega)); (case ku => ((try simp only [units_under_make, units_in1, units_deeper, Around.mark_units, units_caller]); omega)))
      case kv =>
        intro p hp
        rw [List.mem_singleton.mp hp]; k_mem
      case pre => exact ⟨l3, 0, rfl, List.mem_cons_self ..⟩
      intro r tl2 h4 tk4 F4 N4 O4 P4
      obtain ⟨top, rfl, hTop⟩ := P4
      dsimp only
      k_steps
      k_dflt (refine' con_use (none_con _ _ _ _) ([]) ?k1 ?k2 ?k3 ?k4 ?k5 ?kA ?kF ?kK ?kh ?kg ?kd ?ku ?kv ?pre ?_; (case k1 => k_asm); (case k2 => k_asm); (case k3 => k_asm); (case k4 => k_asm); (case k5 => k_asm); (case kA => first | exact Around.frames_deeper (Below.stack (by assumption)) | assumption); (case kF => exact rfl); (case kK => exact rfl); (case kh => first | exact hh | exact rfl | assumption); (case kg => first | exact hg | exact rfl | assumption); (case kd => ((try simp only [depth_under_make, depth_under_kw, depth_in1, depth_deeper, depth_caller]); omega)); (case ku => ((try simp only [units_under_make, units_in1, units_deeper, Around.mark_units, units_caller]); omega)))
      case kv => intro p hp; exact nomatch hp
      case pre => exact rfl
      intro r tl3 h5 tk5 F5 N5 O5 P5
      obtain ⟨xnon, rfl, hNon⟩ := P5
      dsimp only
      k_steps
      k_dflt (refine' con_use (nev_con _ _ _ _ ⟨fun _ => 0, fun _ => 0⟩) ([]) ?k1 ?k2 ?k3 ?k4 ?k5 ?kA ?kF ?kK ?kh ?kg ?kd ?ku ?kv ?pre ?_; (case k1 => k_asm); (case k2 => k_asm); (case k3 => k_asm); (case k4 => k_asm); (case k5 => k_asm); (case kA => first | exact Around.frames_deeper (Below.stack (by assumption)) | assumption); (case kF => exact rfl); (case kK => exact rfl); (case kh => first | exact hh | exact rfl | assumption); (case kg => first | exact hg | exact rfl | assumption); (case kd => ((try simp only [depth_under_make, depth_under_kw, depth_in1, depth_deeper, depth_caller]); omega)); (case ku => ((try simp only [units_under_make, units_in1, units_deeper, Around.mark_units, units_caller]); omega)))
      case kv => intro p hp; exact nomatch hp
      case pre => exact rfl
      intro r tl4 h6 tk6 F6 N6 O6 P6
      dsimp only
      k_steps
      k_dflt (refine' con_use (any_con _ _ _ _) ([]) ?k1 ?k2 ?k3 ?k4 ?k5 ?kA ?kF ?kK ?kh ?kg ?kd ?ku ?kv ?pre ?_; (case k1 => k_asm); (case k2 => k_asm); (case k3 => k_asm); (case k4 => k_asm); (case k5 => k_asm); (case kA => first | exact Around.frames_deeper (Below.stack (by assumption)) | assumption); (case kF => exact rfl); (case kK => exact rfl); (case kh => first | exact hh | exact rfl | assumption); (case kg => first | exact hg | exact rfl | assumption); (case kd => ((try simp only [depth_under_make, depth_under_kw, depth_in1, depth_deeper, depth_caller]); omega)); (case ku => ((try simp only [units_under_make, units_in1, units_deeper, Around.mark_units, units_caller]); omega)))
      case kv => intro p hp; exact nomatch hp
      case pre => exact ⟨_, rfl⟩
      intro r tl5 h7 tk7 F7 N7 O7 P7
      obtain ⟨xany, rfl, hAny⟩ := P7
      dsimp only
      k_steps
      rename_i h4a F4a N4a wd hwda o0 Fwd Nwd lwd low hd0
      obtain ⟨c, hc⟩ : ∃ c : Addr, c = s1.heap.objs.size := ⟨_, rfl⟩
      obtain ⟨B0, hB0⟩ : ∃ b : Led, b = (l3, PySem.W.listOf #[] 0) :: (lb2, PySem.W.listOf #[] 0) :: (lb1, PySem.W.listOf #[] 0) :: (tl1 ++ tl2 ++ tl3 ++ tl4 ++ tl5) := ⟨_, rfl⟩
      have NW : News T.heap s1.heap.objs.size h7 ((wd, o0) :: (s1.heap.objs.size + 1 + 1 + 1 + 1 + 1, oc1) :: (s1.heap.objs.size + 1 + 1 + 1 + 1, oc2) :: (s1.heap.objs.size + 1 + 1 + 1, oc3) :: (s1.heap.objs.size + 1 + 1, oc4) :: (s1.heap.objs.size + 1, oc5) :: B0) := fun p hp => N7 p (by
        rw [hB0] at hp
        simp only [List.mem_cons, List.mem_append, List.cons_append, List.nil_append, List.not_mem_nil, or_false, false_or] at hp ⊢
        rcases hp with h | h | h | h | h | h | h | h | h | ((((h | h) | h) | h) | h) <;> simp [h])
      have hBw : ∀ p ∈ B0, p.1 ≠ wd := fun p hp => by
        rw [hB0] at hp
        rcases List.mem_cons.mp hp with h | hp
        · rw [h]; exact Nat.ne_of_lt (lwd (l3, PySem.W.listOf #[] 0) (by k_mem))
        rcases List.mem_cons.mp hp with h | hp
        · rw [h]; exact Nat.ne_of_lt (lwd (lb2, PySem.W.listOf #[] 0) (by k_mem))
        rcases List.mem_cons.mp hp with h | hp
        · rw [h]; exact Nat.ne_of_lt (lwd (lb1, PySem.W.listOf #[] 0) (by k_mem))
        rcases List.mem_append.mp hp with h | h
        · rcases List.mem_append.mp h with h | h
          · rcases List.mem_append.mp h with h | h
            · rcases List.mem_append.mp h with h | h
              · exact Nat.ne_of_lt (lwd p (by k_mem))
              · exact Nat.ne_of_lt (lwd p (by k_mem))
            · exact Nat.ne_of_gt (O5 (wd, o0) (by k_mem) p h)
          · exact Nat.ne_of_gt (O6 (wd, o0) (by k_mem) p h)
        · exact Nat.ne_of_gt (O7 (wd, o0) (by k_mem) p h)
      have hBc : ∀ p ∈ B0, s1.heap.objs.size + 1 + 1 + 1 + 1 + 1 < p.1 := fun p hp => by
        rw [hB0] at hp
        rcases List.mem_cons.mp hp with h | hp
        · rw [h]; exact lt3 (s1.heap.objs.size + 1 + 1 + 1 + 1 + 1, oc1) (by k_mem)
        rcases List.mem_cons.mp hp with h | hp
        · rw [h]; exact lt2.2.1
        rcases List.mem_cons.mp hp with h | hp
        · rw [h]; exact lt1.1
        rcases List.mem_append.mp hp with h | h
        · rcases List.mem_append.mp h with h | h
          · rcases List.mem_append.mp h with h | h
            · rcases List.mem_append.mp h with h | h
              · exact O2 (s1.heap.objs.size + 1 + 1 + 1 + 1 + 1, oc1) (by k_mem) p h
              · exact O4 (s1.heap.objs.size + 1 + 1 + 1 + 1 + 1, oc1) (by k_mem) p h
            · exact O5 (s1.heap.objs.size + 1 + 1 + 1 + 1 + 1, oc1) (by k_mem) p h
          · exact O6 (s1.heap.objs.size + 1 + 1 + 1 + 1 + 1, oc1) (by k_mem) p h
        · exact O7 (s1.heap.objs.size + 1 + 1 + 1 + 1 + 1, oc1) (by k_mem) p h
      have hRootB : RootIn B0 io := hRoot.mono fun p hp => by
        rw [hB0]
        rcases List.mem_append.mp hp with h | h
        · rcases List.mem_cons.mp h with h | h
          · rw [h]; k_mem
          · rw [List.mem_singleton.mp h]; k_mem
        · k_mem
      have hTopB : InstIn B0 top io [] := hTop.mono fun p hp => by
        rw [hB0]
        rcases List.mem_append.mp hp with h | h
        · rw [List.mem_singleton.mp h]; k_mem
        · k_mem
      refine kdn_made_str F7 NW (UpdF.head ?hw) hd0 rfl (of_decide_eq_true (by first | rfl | kernel_rfl!)) ?_
      case hw =>
        intro p hp
        rcases List.mem_cons.mp hp with h | hp
        · rw [h]; exact Nat.ne_of_lt (lwd (s1.heap.objs.size + 1 + 1 + 1 + 1 + 1, oc1) (by k_mem))
        rcases List.mem_cons.mp hp with h | hp
        · rw [h]; exact Nat.ne_of_lt (lwd (s1.heap.objs.size + 1 + 1 + 1 + 1, oc2) (by k_mem))
        rcases List.mem_cons.mp hp with h | hp
        · rw [h]; exact Nat.ne_of_lt (lwd (s1.heap.objs.size + 1 + 1 + 1, oc3) (by k_mem))
        rcases List.mem_cons.mp hp with h | hp
        · rw [h]; exact Nat.ne_of_lt (lwd (s1.heap.objs.size + 1 + 1, oc4) (by k_mem))
        rcases List.mem_cons.mp hp with h | hp
        · rw [h]; exact Nat.ne_of_lt (lwd (s1.heap.objs.size + 1, oc5) (by k_mem))
        · exact hBw p hp
      intro h8 ow F8 N8 hdw
      clear F4a N4a Fwd Nwd F5 N5 F6 N6 F7 N7 NW
      have hwc : s1.heap.objs.size + 1 + 1 + 1 + 1 + 1 < wd := ltN (lwd _ (show (s1.heap.objs.size + 1 + 1 + 1 + 1 + 1, oc1) ∈ _ by k_mem))
      have hB1 : ∀ p ∈ B0, p.1 ≠ s1.heap.objs.size + 1 := fun p hp => by have := ltN (hBc p hp); exact neN (by omega)
      have hB2 : ∀ p ∈ B0, p.1 ≠ s1.heap.objs.size + 1 + 1 := fun p hp => by have := ltN (hBc p hp); exact neN (by omega)
      have hB3 : ∀ p ∈ B0, p.1 ≠ s1.heap.objs.size + 1 + 1 + 1 := fun p hp => by have := ltN (hBc p hp); exact neN (by omega)
      have hB4 : ∀ p ∈ B0, p.1 ≠ s1.heap.objs.size + 1 + 1 + 1 + 1 := fun p hp => by have := ltN (hBc p hp); exact neN (by omega)
      have hB5 : ∀ p ∈ B0, p.1 ≠ s1.heap.objs.size + 1 + 1 + 1 + 1 + 1 := fun p hp => by have := ltN (hBc p hp); exact neN (by omega)
      k_steps
      rename_i h9 ocw F9 N9 dcw
      k_dflt (refine' For_turns F9 ?_)
      k_steps
      rename_i ln hn Fn Nn lln
      have hW0 : WSt w top [.obj, .non, .nev, .any] ow B0 := by
        have s3 : ∀ p ∈ tl3, p ∈ B0 := fun p hp => by rw [hB0]; k_mem
        have s4 : ∀ p ∈ tl4, p ∈ B0 := fun p hp => by rw [hB0]; k_mem
        have s5 : ∀ p ∈ tl5, p ∈ B0 := fun p hp => by rw [hB0]; k_mem
        refine ⟨_, hdw, Nat.le_of_ble_eq_true rfl, Nat.le_of_ble_eq_true rfl, fun x hx => ?_⟩
        simp only [List.mem_cons, List.not_mem_nil, or_false] at hx
        rcases hx with rfl | rfl | rfl | rfl
        · exact ⟨_, rfl, rfl⟩
        · obtain ⟨d, n, e1, e2⟩ := hNon
          exact ⟨_, rfl, _, rfl, d, n, s3 _ e1, s3 _ e2⟩
        · simp only [TypIn] at P6
          obtain ⟨x, d, h1, t1, n, e, e1, e2⟩ := P6
          exact ⟨_, rfl, x, d, h1, t1, n, e, s4 _ e1, s4 _ e2⟩
        · obtain ⟨d, h1, h2, t1, t1', t2, n, e1, e2⟩ := hAny
          exact ⟨_, rfl, _, rfl, d, h1, h2, t1, t1', t2, n, s5 _ e1, s5 _ e2⟩
      obtain ⟨us, husl, hus, hun⟩ : ∃ us : List Value, us.length = 5 ∧ (∀ (i : Nat) (v : Value), us[i]? = some v → ∃ (x : WKey) (tk : Tok), [WKey.S, .T, .U, .K, .V][i]? = some x ∧ v = Value.str x.nm tk) ∧ News T.heap s1.heap.objs.size hn ((wd, ow) :: (s1.heap.objs.size + 1 + 1 + 1 + 1 + 1, oc1) :: (s1.heap.objs.size + 1 + 1 + 1 + 1, oc2) :: (s1.heap.objs.size + 1 + 1 + 1, oc3) :: (s1.heap.objs.size + 1 + 1, oc4) :: (s1.heap.objs.size + 1, ocw) :: (ln, PySem.W.listOf us.toArray 0) :: B0) := by
        refine ⟨[Value.str (Str.ofString "S") tk, Value.str (Str.ofString "T") (tk + 1), Value.str (Str.ofString "U") (tk + 1 + 1), Value.str (Str.ofString "K") (tk + 1 + 1 + 1), Value.str (Str.ofString "V") (tk + 1 + 1 + 1 + 1)], rfl, ?_, fun p hp => Nn p ?_⟩
        · rintro (_ | _ | _ | _ | _ | i) v hv
          · simp at hv; exact ⟨.S, _, rfl, hv.symm⟩
          · simp at hv; exact ⟨.T, _, rfl, hv.symm⟩
          · simp at hv; exact ⟨.U, _, rfl, hv.symm⟩
          · simp at hv; exact ⟨.K, _, rfl, hv.symm⟩
          · simp at hv; exact ⟨.V, _, rfl, hv.symm⟩
          · simp at hv
        · simp only [List.mem_cons] at hp ⊢
          rcases hp with h | h | h | h | h | h | h | h <;> simp [h]
      refine for_enum (us := us) (fun m₀ i m nx => ∃ un uk ow B, m = (fun y => if y = Str.ofString "name" then un else if y = Str.ofString "k" then uk else m₀ y) ∧ nx = (wd, ow) :: (s1.heap.objs.size + 1 + 1 + 1 + 1 + 1, oc1) :: (s1.heap.objs.size + 1 + 1 + 1 + 1, oc2) :: (s1.heap.objs.size + 1 + 1 + 1, oc3) :: (s1.heap.objs.size + 1 + 1, oc4) :: (s1.heap.objs.size + 1, ocw) :: B ∧ (∀ p ∈ B, p.1 ≠ wd) ∧ (∀ p ∈ B, s1.heap.objs.size + 1 + 1 + 1 + 1 + 1 < p.1) ∧ RootIn B io ∧ InstIn B top io [] ∧ (ln, PySem.W.listOf us.toArray 0) ∈ B ∧ WSt w top ([.obj, .non, .nev, .any] ++ [WKey.S, .T, .U, .K, .V].take i) ow B) rfl Fn hun (by k_mem) ?_ ?_ ?_
      · refine ⟨_, _, ow, (ln, PySem.W.listOf us.toArray 0) :: B0, env2_start _ _ _, rfl, ?_, ?_, hRootB.mono fun p hp => List.mem_cons_of_mem _ hp, hTopB.mono fun p hp => List.mem_cons_of_mem _ hp, List.mem_cons_self .., hW0.mono fun p hp => List.mem_cons_of_mem _ hp⟩
        · intro p hp
          rcases List.mem_cons.mp hp with h | h
          · rw [h]; exact Nat.ne_of_gt lln.1
          · exact hBw p h
        · intro p hp
          rcases List.mem_cons.mp hp with h | h
          · rw [h]; exact lln.2.1
          · exact hBc p h
      · intro i v Tt tt m₁ nx h tk' its hv ht hln ho hJ F N
        obtain ⟨un, uk, ow1, B1, rfl, rfl, b1, b2, b3, b4, b5, b6⟩ := hJ
        obtain ⟨vk, tkv, hvk, rfl⟩ := hus i v hv
        refine unpackN_ F N ht rfl rfl rfl ?_
        intro ha F10 N10
        k_steps
        k_dflt (refine' con_use (tvid_con _ _ _ _ ((i : Int) + 1)) ([]) ?k1 ?k2 ?k3 ?k4 ?k5 ?kA ?kF ?kK ?kh ?kg ?kd ?ku ?kv ?pre ?_; (case k1 => k_asm); (case k2 => k_asm); (case k3 => k_asm); (case k4 => k_asm); (case k5 => k_asm); (case kA => first | exact Around.frames_deeper (Below.stack (by assumption)) | assumption); (case kF => exact rfl); (case kK => exact rfl); (case kh => first | exact hh | exact rfl | assumption); (case kg => first | exact hg | exact rfl | assumption); (case kd => ((try simp only [depth_under_make, depth_under_kw, depth_in1, depth_deeper, depth_caller]); omega)); (case ku => ((try simp only [units_under_make, units_in1, units_deeper, Around.mark_units, units_caller]); omega)))
        case kv => intro p hp; exact nomatch hp
        case pre => exact ⟨_, rfl⟩
        intro r tlA h11 tk11 F11 N11 O11 P11
        obtain ⟨ida, rfl, hId⟩ := P11
        dsimp only
        k_steps
        rename_i l0 h12 F12 N12 ll0
        k_dflt (refine' con_use (var_con _ _ _ _ vk.nm ((i : Int) + 1)) ((l0, PySem.W.listOf #[] 0) :: ([] ++ tlA)) ?k1 ?k2 ?k3 ?k4 ?k5 ?kA ?kF ?kK ?kh ?kg ?kd ?ku ?kv ?pre ?_; (case k1 => k_asm); (case k2 => k_asm); (case k3 => k_asm); (case k4 => k_asm); (case k5 => k_asm); (case kA => first | exact Around.frames_deeper (Below.stack (by assumption)) | assumption); (case kF => exact rfl); (case kK => exact rfl); (case kh => first | exact hh | exact rfl | assumption); (case kg => first | exact hg | exact rfl | assumption); (case kd => ((try simp only [depth_under_make, depth_under_kw, depth_in1, depth_deeper, depth_caller]); omega)); (case ku => ((try simp only [units_under_make, units_in1, units_deeper, Around.mark_units, units_caller]); omega)))
        case kv =>
          intro p hp
          rcases List.mem_cons.mp hp with h | h
          · rw [h]; k_mem
          · exact List.mem_cons_of_mem _ (List.mem_append_right _ h)
        case pre => exact ⟨_, ida, l0, 0, top, rfl, hId.mono (fun p hp => List.mem_cons_of_mem _ hp), List.mem_cons_self ..⟩
        intro r tlB h13 tk13 F13 N13 O13 P13
        obtain ⟨xv, tkq, iq, lq, tq, eq1, rfl, hVar⟩ := P13
        dsimp only
        k_steps
        have eqt : tq = top := by
          simp only [List.cons.injEq, Value.ref.injEq, and_true] at eq1
          exact eq1.2.2.2.symm
        rw [eqt] at hVar
        obtain ⟨kvs, q1, q2, q3, q4⟩ := b6
        have N14 : News T.heap s1.heap.objs.size h13 ((wd, ow1) :: ((s1.heap.objs.size + 1 + 1 + 1 + 1 + 1, oc1) :: (s1.heap.objs.size + 1 + 1 + 1 + 1, oc2) :: (s1.heap.objs.size + 1 + 1 + 1, oc3) :: (s1.heap.objs.size + 1 + 1, oc4) :: (s1.heap.objs.size + 1, ocw) :: (B1 ++ ((l0, PySem.W.listOf #[] 0) :: (tlA ++ tlB))) ++ its)) := fun p hp => N13 p (by
          simp only [List.mem_cons, List.mem_append, List.cons_append] at hp ⊢
          rcases hp with h | h | h | h | h | h | (h | h | h | h) | h <;> simp [h])
        have wdl : (wd, ow1) ∈ its ++ ((wd, ow1) :: (s1.heap.objs.size + 1 + 1 + 1 + 1 + 1, oc1) :: (s1.heap.objs.size + 1 + 1 + 1 + 1, oc2) :: (s1.heap.objs.size + 1 + 1 + 1, oc3) :: (s1.heap.objs.size + 1 + 1, oc4) :: (s1.heap.objs.size + 1, ocw) :: B1) := List.mem_append_right _ (List.mem_cons_self ..)
        have hnew : ∀ p ∈ (l0, PySem.W.listOf #[] 0) :: (tlA ++ tlB), wd < p.1 := fun p hp => by
          rcases List.mem_cons.mp hp with h | h
          · rw [h]; exact ll0 _ (List.mem_append_left _ wdl)
          · rcases List.mem_append.mp h with h | h
            · exact O11 _ wdl p h
            · exact O13 _ (List.mem_cons_of_mem _ (List.mem_append_left _ wdl)) p h
        have hwn : ∀ p ∈ (s1.heap.objs.size + 1 + 1 + 1 + 1 + 1, oc1) :: (s1.heap.objs.size + 1 + 1 + 1 + 1, oc2) :: (s1.heap.objs.size + 1 + 1 + 1, oc3) :: (s1.heap.objs.size + 1 + 1, oc4) :: (s1.heap.objs.size + 1, ocw) :: (B1 ++ ((l0, PySem.W.listOf #[] 0) :: (tlA ++ tlB))) ++ its, p.1 ≠ wd := fun p hp => by
          have q := ltN hwc
          rcases List.mem_append.mp hp with hp | h
          · rcases List.mem_cons.mp hp with h | hp
            · rw [h]; exact neN (by omega)
            rcases List.mem_cons.mp hp with h | hp
            · rw [h]; exact neN (by omega)
            rcases List.mem_cons.mp hp with h | hp
            · rw [h]; exact neN (by omega)
            rcases List.mem_cons.mp hp with h | hp
            · rw [h]; exact neN (by omega)
            rcases List.mem_cons.mp hp with h | hp
            · rw [h]; exact neN (by omega)
            rcases List.mem_append.mp hp with h | h
            · exact b1 p h
            · exact Nat.ne_of_gt (hnew p h)
          · exact Ne.symm (ho (wd, ow1) (List.mem_cons_self ..) p h)
        refine kda_set (knd := PySem.strKind PySem.Challenge.rw_ft0017_01.row.prog w) F13 N14 (UpdF.head hwn) q1 (strKind_is _ _ _ _) (by have := sizeLine_eq; omega) ?_
        intro h15 ow2 F15 N15 hd2
        k_steps
        refine TurnEnd.next ((wd, ow2) :: (s1.heap.objs.size + 1 + 1 + 1 + 1 + 1, oc1) :: (s1.heap.objs.size + 1 + 1 + 1 + 1, oc2) :: (s1.heap.objs.size + 1 + 1 + 1, oc3) :: (s1.heap.objs.size + 1 + 1, oc4) :: (s1.heap.objs.size + 1, ocw) :: (B1 ++ ((l0, PySem.W.listOf #[] 0) :: (tlA ++ tlB)))) F15 N15 (fun p hp => ?_) ?_ ?_ ⟨_, _, ow2, B1 ++ ((l0, PySem.W.listOf #[] 0) :: (tlA ++ tlB)), env2_turn _ _ _ _ _, rfl, ?_, ?_, b3.mono fun p hp => List.mem_append_left _ hp, b4.mono fun p hp => List.mem_append_left _ hp, List.mem_append_left _ b5, ?_⟩
        · simp only [List.mem_cons, List.mem_append, List.cons_append] at hp ⊢
          rcases hp with h | h | h | h | h | h | h | h | h | h | h <;> simp [h]
        · k_mem
        · intro p hp q hq
          rcases List.mem_cons.mp hp with h | hp
          · rw [h]; exact ho (wd, ow1) (List.mem_cons_self ..) q hq
          rcases List.mem_cons.mp hp with h | hp
          · rw [h]; exact ho (s1.heap.objs.size + 1 + 1 + 1 + 1 + 1, oc1) (by k_mem) q hq
          rcases List.mem_cons.mp hp with h | hp
          · rw [h]; exact ho (s1.heap.objs.size + 1 + 1 + 1 + 1, oc2) (by k_mem) q hq
          rcases List.mem_cons.mp hp with h | hp
          · rw [h]; exact ho (s1.heap.objs.size + 1 + 1 + 1, oc3) (by k_mem) q hq
          rcases List.mem_cons.mp hp with h | hp
          · rw [h]; exact ho (s1.heap.objs.size + 1 + 1, oc4) (by k_mem) q hq
          rcases List.mem_cons.mp hp with h | hp
          · rw [h]; exact ho (s1.heap.objs.size + 1, ocw) (by k_mem) q hq
          rcases List.mem_append.mp hp with h | hp
          · exact ho p (by k_mem) q hq
          rcases List.mem_cons.mp hp with h | hp
          · rw [h]; exact Nat.ne_of_gt (ll0 q (by k_mem))
          rcases List.mem_append.mp hp with h | h
          · exact Nat.ne_of_gt (O11 q (by k_mem) p h)
          · exact Nat.ne_of_gt (O13 q (by k_mem) p h)
        · intro p hp
          rcases List.mem_append.mp hp with h | h
          · exact b1 p h
          · exact Nat.ne_of_gt (hnew p h)
        · intro p hp
          rcases List.mem_append.mp hp with h | h
          · exact b2 p h
          · exact Nat.lt_trans hwc (hnew p h)
        · have htk : [WKey.S, .T, .U, .K, .V].take (i + 1) = [WKey.S, .T, .U, .K, .V].take i ++ [vk] := by rw [List.take_add_one, hvk]; rfl
          rw [htk]
          refine WSt.put (ks := [WKey.obj, .non, .nev, .any] ++ [WKey.S, .T, .U, .K, .V].take i) q3 (fun x hx => ?_) hd2 ?_ (kok_var i vk hvk (hVar.mono fun p hp => ?_))
          · obtain ⟨v, e1, e2⟩ := q4 x hx
            exact ⟨v, e1, e2.mono fun p hp => List.mem_append_left _ hp⟩
          · have : ([WKey.S, .T, .U, .K, .V].take i).length ≤ 5 := by rw [List.length_take]; exact Nat.min_le_right _ _
            simp only [List.length_append, List.length_cons, List.length_nil] at this ⊢
            omega
          · refine List.mem_append_right _ ?_
            simp only [List.mem_append, List.mem_cons, List.cons_append, List.nil_append] at hp ⊢
            rcases hp with h | h | h <;> simp [h]
      · intro m₁ nx h tk' hJ F N
        obtain ⟨un, uk, ow1, B1, rfl, rfl, b1, b2, b3, b4, b5, b6⟩ := hJ
        clear hBw hBc hB1 hB2 hB3 hB4 hB5
        rw [husl] at b6
        show wpAny _ _ _ _ _ _
        k_steps
        rename_i lt ht2 Ft Nt llt
        obtain ⟨us2, hus2l, hus2, hun2⟩ : ∃ us : List Value, us.length = 3 ∧ (∀ (i : Nat) (v : Value), us[i]? = some v → ∃ (x : WKey) (tk : Tok), [WKey.A, .B, .C][i]? = some x ∧ v = Value.str x.nm tk) ∧ News T.heap s1.heap.objs.size ht2 ((wd, ow1) :: (s1.heap.objs.size + 1 + 1 + 1 + 1 + 1, oc1) :: (s1.heap.objs.size + 1 + 1 + 1 + 1, oc2) :: (s1.heap.objs.size + 1 + 1 + 1, oc3) :: (s1.heap.objs.size + 1 + 1, oc4) :: (s1.heap.objs.size + 1, ocw) :: ((lt, ({ cls := .type "tuple", data := .seq us.toArray 0 } : Obj)) :: B1)) := by
          refine ⟨[Value.str (Str.ofString "A") tk', Value.str (Str.ofString "B") (tk' + 1), Value.str (Str.ofString "C") (tk' + 1 + 1)], rfl, ?_, fun p hp => Nt p ?_⟩
          · rintro (_ | _ | _ | i) v hv
            · simp at hv; exact ⟨.A, _, rfl, hv.symm⟩
            · simp at hv; exact ⟨.B, _, rfl, hv.symm⟩
            · simp at hv; exact ⟨.C, _, rfl, hv.symm⟩
            · simp at hv
          · simp only [List.mem_cons] at hp
            rcases hp with h | h | h | h | h | h | h | h
            all_goals first | (rw [h]; exact List.mem_cons_self ..) | (rw [h]; k_mem) | k_mem
        refine for_tup (us := us2) (fun m₀ i m nx => ∃ un ow B, m = (fun y => if y = Str.ofString "name" then un else m₀ y) ∧ nx = (wd, ow) :: (s1.heap.objs.size + 1 + 1 + 1 + 1 + 1, oc1) :: (s1.heap.objs.size + 1 + 1 + 1 + 1, oc2) :: (s1.heap.objs.size + 1 + 1 + 1, oc3) :: (s1.heap.objs.size + 1 + 1, oc4) :: (s1.heap.objs.size + 1, ocw) ::  B ∧ (∀ p ∈ B, p.1 ≠ wd) ∧ (∀ p ∈ B, s1.heap.objs.size + 1 + 1 + 1 + 1 + 1 < p.1) ∧ RootIn B io ∧ InstIn B top io [] ∧ (lt, ({ cls := .type "tuple", data := .seq us2.toArray 0 } : Obj)) ∈ B ∧ WSt w top ([.obj, .non, .nev, .any, .S, .T, .U, .K, .V] ++ [WKey.A, .B, .C].take i) ow B) rfl Ft hun2 (by k_mem) ?_ ?_ ?_
        · refine ⟨_, ow1, (lt, ({ cls := .type "tuple", data := .seq us2.toArray 0 } : Obj)) :: B1, env1_start _ _, rfl, ?_, ?_, b3.mono fun p hp => List.mem_cons_of_mem _ hp, b4.mono fun p hp => List.mem_cons_of_mem _ hp, List.mem_cons_self .., b6.mono fun p hp => List.mem_cons_of_mem _ hp⟩
          · intro p hp
            rcases List.mem_cons.mp hp with h | h
            · rw [h]; exact Nat.ne_of_gt llt.1
            · exact b1 p h
          · intro p hp
            rcases List.mem_cons.mp hp with h | h
            · rw [h]; exact llt.2.1
            · exact b2 p h
        · intro i v m₁ nx h tk' its hv hln ho hJ F N
          obtain ⟨un, ow1, B1, rfl, rfl, b1, b2, b3, b4, b5, b6⟩ := hJ
          obtain ⟨vk, tkv, hvk, rfl⟩ := hus2 i v hv
          k_steps
          refine add_str (fun t8 tk8 => ?_) (by
            have h1 : vk.nm.length ≤ 6 := by cases vk <;> decide
            have h2 : (Str.ofString "m.").length = 2 := rfl
            have h3 := sizeLine_eq
            omega)
          k_steps
          rename_i la1 ha1 lla1 la2 ha2 Fa2 Na2 lla2
          k_dflt (refine' con_use (info_con _ _ _ _ (Str.ofString "m." ++ vk.nm)) (B1 ++ [(la1, PySem.W.listOf #[] 0), (la2, PySem.W.listOf #[.ref top] 0)]) ?k1 ?k2 ?k3 ?k4 ?k5 ?kA ?kF ?kK ?kh ?kg ?kd ?ku ?kv ?pre ?_; (case k1 => k_asm); (case k2 => k_asm); (case k3 => k_asm); (case k4 => k_asm); (case k5 => k_asm); (case kA => first | exact Around.frames_deeper (Below.stack (by assumption)) | assumption); (case kF => exact rfl); (case kK => exact rfl); (case kh => first | exact hh | exact rfl | assumption); (case kg => first | exact hg | exact rfl | assumption); (case kd => ((try simp only [depth_under_make, depth_under_kw, depth_in1, depth_deeper, depth_caller]); omega)); (case ku => ((try simp only [units_under_make, units_in1, units_deeper, Around.mark_units, units_caller]); omega)))
          case kv =>
            intro p hp
            rcases List.mem_append.mp hp with h | h
            · k_mem
            · rcases List.mem_cons.mp h with h | h
              · rw [h]; k_mem
              · rw [List.mem_singleton.mp h]; k_mem
          case pre => exact ⟨_, la1, la2, [], 0, 0, top, io, rfl, List.mem_append_right _ (List.mem_cons_self ..), by simp, fun _ h => (nomatch h), List.mem_append_right _ (List.mem_cons_of_mem _ (List.mem_cons_self ..)), b4.mono fun p hp => List.mem_append_left _ hp, b3.mono fun p hp => List.mem_append_left _ hp⟩
          intro r tlA h11 tk11 F11 N11 O11 P11
          obtain ⟨ii, rfl, hInf⟩ := P11
          dsimp only
          k_steps
          rename_i l0 h12 F12 N12 ll0
          k_dflt (refine' con_use (inst_con _ _ _ _ ii [] (by simp)) ([(l0, PySem.W.listOf #[] 0)]) ?k1 ?k2 ?k3 ?k4 ?k5 ?kA ?kF ?kK ?kh ?kg ?kd ?ku ?kv ?pre ?_; (case k1 => k_asm); (case k2 => k_asm); (case k3 => k_asm); (case k4 => k_asm); (case k5 => k_asm); (case kA => first | exact Around.frames_deeper (Below.stack (by assumption)) | assumption); (case kF => exact rfl); (case kK => exact rfl); (case kh => first | exact hh | exact rfl | assumption); (case kg => first | exact hg | exact rfl | assumption); (case kd => ((try simp only [depth_under_make, depth_under_kw, depth_in1, depth_deeper, depth_caller]); omega)); (case ku => ((try simp only [units_under_make, units_in1, units_deeper, Around.mark_units, units_caller]); omega)))
          case kv =>
            intro p hp
            rw [List.mem_singleton.mp hp]; k_mem
          case pre => exact ⟨l0, 0, rfl, List.mem_cons_self ..⟩
          intro r tlB h13 tk13 F13 N13 O13 P13
          obtain ⟨xv, rfl, hIn⟩ := P13
          dsimp only
          k_steps
          obtain ⟨kvs, q1, q2, q3, q4⟩ := b6
          have wdl : (wd, ow1) ∈ its ++ ((wd, ow1) :: (s1.heap.objs.size + 1 + 1 + 1 + 1 + 1, oc1) :: (s1.heap.objs.size + 1 + 1 + 1 + 1, oc2) :: (s1.heap.objs.size + 1 + 1 + 1, oc3) :: (s1.heap.objs.size + 1 + 1, oc4) :: (s1.heap.objs.size + 1, ocw) :: B1) := List.mem_append_right _ (List.mem_cons_self ..)
          have wdl2 : (wd, ow1) ∈ (la2, PySem.W.listOf #[.ref top] 0) :: (la1, PySem.W.listOf #[] 0) :: (its ++ ((wd, ow1) :: (s1.heap.objs.size + 1 + 1 + 1 + 1 + 1, oc1) :: (s1.heap.objs.size + 1 + 1 + 1 + 1, oc2) :: (s1.heap.objs.size + 1 + 1 + 1, oc3) :: (s1.heap.objs.size + 1 + 1, oc4) :: (s1.heap.objs.size + 1, ocw) :: B1)) := List.mem_cons_of_mem _ (List.mem_cons_of_mem _ wdl)
          have N14 : News T.heap s1.heap.objs.size h13 ((wd, ow1) :: ((s1.heap.objs.size + 1 + 1 + 1 + 1 + 1, oc1) :: (s1.heap.objs.size + 1 + 1 + 1 + 1, oc2) :: (s1.heap.objs.size + 1 + 1 + 1, oc3) :: (s1.heap.objs.size + 1 + 1, oc4) :: (s1.heap.objs.size + 1, ocw) :: (B1 ++ ((la1, PySem.W.listOf #[] 0) :: (la2, PySem.W.listOf #[.ref top] 0) :: (tlA ++ ((l0, PySem.W.listOf #[] 0) :: tlB)))) ++ its)) := fun p hp => N13 p (by
            simp only [List.mem_cons, List.mem_append, List.cons_append] at hp ⊢
            rcases hp with h | h | h | h | h | h | (h | h | h | h | h | h) | h <;> simp [h])
          have hnew : ∀ p ∈ (la1, PySem.W.listOf #[] 0) :: (la2, PySem.W.listOf #[.ref top] 0) :: (tlA ++ ((l0, PySem.W.listOf #[] 0) :: tlB)), wd < p.1 := fun p hp => by
            rcases List.mem_cons.mp hp with h | hp
            · rw [h]; exact lla1 _ wdl
            rcases List.mem_cons.mp hp with h | hp
            · rw [h]; exact allLt_get lla2.2 _ wdl
            rcases List.mem_append.mp hp with h | h
            · exact O11 _ wdl2 p h
            · rcases List.mem_cons.mp h with h | h
              · rw [h]; exact ll0 _ (List.mem_append_left _ wdl2)
              · exact O13 _ (List.mem_cons_of_mem _ (List.mem_append_left _ wdl2)) p h
          have hwn : ∀ p ∈ (s1.heap.objs.size + 1 + 1 + 1 + 1 + 1, oc1) :: (s1.heap.objs.size + 1 + 1 + 1 + 1, oc2) :: (s1.heap.objs.size + 1 + 1 + 1, oc3) :: (s1.heap.objs.size + 1 + 1, oc4) :: (s1.heap.objs.size + 1, ocw) :: (B1 ++ ((la1, PySem.W.listOf #[] 0) :: (la2, PySem.W.listOf #[.ref top] 0) :: (tlA ++ ((l0, PySem.W.listOf #[] 0) :: tlB)))) ++ its, p.1 ≠ wd := fun p hp => by
            have q := ltN hwc
            rcases List.mem_append.mp hp with hp | h
            · rcases List.mem_cons.mp hp with h | hp
              · rw [h]; exact neN (by omega)
              rcases List.mem_cons.mp hp with h | hp
              · rw [h]; exact neN (by omega)
              rcases List.mem_cons.mp hp with h | hp
              · rw [h]; exact neN (by omega)
              rcases List.mem_cons.mp hp with h | hp
              · rw [h]; exact neN (by omega)
              rcases List.mem_cons.mp hp with h | hp
              · rw [h]; exact neN (by omega)
              rcases List.mem_append.mp hp with h | h
              · exact b1 p h
              · exact Nat.ne_of_gt (hnew p h)
            · exact Ne.symm (ho (wd, ow1) (List.mem_cons_self ..) p h)
          refine kda_set (knd := PySem.strKind PySem.Challenge.rw_ft0017_01.row.prog w) F13 N14 (UpdF.head hwn) q1 (strKind_is _ _ _ _) (by have := sizeLine_eq; omega) ?_
          intro h15 ow2 F15 N15 hd2
          k_steps
          refine TurnEnd.next ((wd, ow2) :: (s1.heap.objs.size + 1 + 1 + 1 + 1 + 1, oc1) :: (s1.heap.objs.size + 1 + 1 + 1 + 1, oc2) :: (s1.heap.objs.size + 1 + 1 + 1, oc3) :: (s1.heap.objs.size + 1 + 1, oc4) :: (s1.heap.objs.size + 1, ocw) :: (B1 ++ ((la1, PySem.W.listOf #[] 0) :: (la2, PySem.W.listOf #[.ref top] 0) :: (tlA ++ ((l0, PySem.W.listOf #[] 0) :: tlB))))) F15 N15 (fun p hp => ?_) ?_ ?_ ⟨_, ow2, B1 ++ ((la1, PySem.W.listOf #[] 0) :: (la2, PySem.W.listOf #[.ref top] 0) :: (tlA ++ ((l0, PySem.W.listOf #[] 0) :: tlB))), env1_turn _ _ _, rfl, ?_, ?_, b3.mono fun p hp => List.mem_append_left _ hp, b4.mono fun p hp => List.mem_append_left _ hp, List.mem_append_left _ b5, ?_⟩
          · simp only [List.mem_cons, List.mem_append, List.cons_append] at hp ⊢
            rcases hp with h | h | h | h | h | h | h | h | h | h | h | h | h <;> simp [h]
          · k_mem
          · intro p hp q hq
            rcases List.mem_cons.mp hp with h | hp
            · rw [h]; exact ho (wd, ow1) (List.mem_cons_self ..) q hq
            rcases List.mem_cons.mp hp with h | hp
            · rw [h]; exact ho (s1.heap.objs.size + 1 + 1 + 1 + 1 + 1, oc1) (by k_mem) q hq
            rcases List.mem_cons.mp hp with h | hp
            · rw [h]; exact ho (s1.heap.objs.size + 1 + 1 + 1 + 1, oc2) (by k_mem) q hq
            rcases List.mem_cons.mp hp with h | hp
            · rw [h]; exact ho (s1.heap.objs.size + 1 + 1 + 1, oc3) (by k_mem) q hq
            rcases List.mem_cons.mp hp with h | hp
            · rw [h]; exact ho (s1.heap.objs.size + 1 + 1, oc4) (by k_mem) q hq
            rcases List.mem_cons.mp hp with h | hp
            · rw [h]; exact ho (s1.heap.objs.size + 1, ocw) (by k_mem) q hq
            rcases List.mem_append.mp hp with h | hp
            · exact ho p (by k_mem) q hq
            rcases List.mem_cons.mp hp with h | hp
            · rw [h]; exact Nat.ne_of_gt (lla1 q (by k_mem))
            rcases List.mem_cons.mp hp with h | hp
            · rw [h]; exact Nat.ne_of_gt (allLt_get lla2.2 q (by k_mem))
            rcases List.mem_append.mp hp with h | hp
            · exact Nat.ne_of_gt (O11 q (by k_mem) p h)
            rcases List.mem_cons.mp hp with h | h
            · rw [h]; exact Nat.ne_of_gt (ll0 q (by k_mem))
            · exact Nat.ne_of_gt (O13 q (by k_mem) p h)
          · intro p hp
            rcases List.mem_append.mp hp with h | h
            · exact b1 p h
            · exact Nat.ne_of_gt (hnew p h)
          · intro p hp
            rcases List.mem_append.mp hp with h | h
            · exact b2 p h
            · exact Nat.lt_trans hwc (hnew p h)
          · have htk : [WKey.A, .B, .C].take (i + 1) = [WKey.A, .B, .C].take i ++ [vk] := by rw [List.take_add_one, hvk]; rfl
            rw [htk]
            refine WSt.put (ks := [WKey.obj, .non, .nev, .any, .S, .T, .U, .K, .V] ++ [WKey.A, .B, .C].take i) q3 (fun x hx => ?_) hd2 ?_ (kok_plain i vk hvk ⟨xv, ii, rfl, hIn.mono fun p hp => ?_, hInf.mono fun p hp => ?_⟩)
            · obtain ⟨v, e1, e2⟩ := q4 x hx
              exact ⟨v, e1, e2.mono fun p hp => List.mem_append_left _ hp⟩
            · have : ([WKey.A, .B, .C].take i).length ≤ 3 := by rw [List.length_take]; exact Nat.min_le_right _ _
              simp only [List.length_append, List.length_cons, List.length_nil] at this ⊢
              omega
            · rcases List.mem_append.mp hp with h | h
              · rw [List.mem_singleton.mp h]; k_mem
              · k_mem
            · rcases List.mem_append.mp hp with h | h
              · rcases List.mem_append.mp h with h | h
                · k_mem
                · rcases List.mem_cons.mp h with h | h
                  · rw [h]; k_mem
                  · rw [List.mem_singleton.mp h]; k_mem
              · k_mem
        · intro m₁ nx h tk' hJ F N
          obtain ⟨un, ow1, B1, rfl, rfl, b1, b2, b3, b4, b5, b6⟩ := hJ
          rw [hus2l] at b6
          obtain ⟨kvs, q1, q2, q3, q4⟩ := b6
          obtain ⟨vK, eK1, eK2⟩ := q4 .K (by decide)
          obtain ⟨xK, rfl, hK⟩ := eK2
          obtain ⟨vV, eV1, eV2⟩ := q4 .V (by decide)
          obtain ⟨xV, rfl, hV⟩ := eV2
          show wpAny _ _ _ _ _ _
          k_steps
          refine kda_item (knd := PySem.strKind PySem.Challenge.rw_ft0017_01.row.prog w) (k := WKey.nm .K) N (by k_mem) q1 (by simp [PySem.strKind, Value.isStrOf, WKey.nm]) eK1 ?_
          k_steps
          rename_i la1 ha1 lla1 la2 ha2 Fa2 Na2 lla2
          k_dflt (refine' con_use (info_con _ _ _ _ (Str.ofString "m.box")) (B1 ++ [(la1, PySem.W.listOf [.ref xK].toArray 0), (la2, PySem.W.listOf #[.ref top] 0)]) ?k1 ?k2 ?k3 ?k4 ?k5 ?kA ?kF ?kK ?kh ?kg ?kd ?ku ?kv ?pre ?_; (case k1 => k_asm); (case k2 => k_asm); (case k3 => k_asm); (case k4 => k_asm); (case k5 => k_asm); (case kA => first | exact Around.frames_deeper (Below.stack (by assumption)) | assumption); (case kF => exact rfl); (case kK => exact rfl); (case kh => first | exact hh | exact rfl | assumption); (case kg => first | exact hg | exact rfl | assumption); (case kd => ((try simp only [depth_under_make, depth_under_kw, depth_in1, depth_deeper, depth_caller]); omega)); (case ku => ((try simp only [units_under_make, units_in1, units_deeper, Around.mark_units, units_caller]); omega)))
          case kv =>
            intro p hp
            rcases List.mem_append.mp hp with h | h
            · k_mem
            · rcases List.mem_cons.mp h with h | h
              · rw [h]; k_mem
              · rw [List.mem_singleton.mp h]; k_mem
          case pre => exact ⟨_, la1, la2, [.ref xK], 0, 0, top, io, rfl, List.mem_append_right _ (List.mem_cons_self ..), by simp, fun v hv => ⟨xK, _, _, _, List.mem_singleton.mp hv, hK.mono fun p hp => List.mem_append_left _ hp⟩, List.mem_append_right _ (List.mem_cons_of_mem _ (List.mem_cons_self ..)), b4.mono fun p hp => List.mem_append_left _ hp, b3.mono fun p hp => List.mem_append_left _ hp⟩
          intro r tlA h11 tk11 F11 N11 O11 P11
          obtain ⟨ii, rfl, hInf⟩ := P11
          dsimp only
          k_steps
          have wdl2 : (wd, ow1) ∈ (la2, PySem.W.listOf #[.ref top] 0) :: (la1, PySem.W.listOf [.ref xK].toArray 0) :: ((wd, ow1) :: (s1.heap.objs.size + 1 + 1 + 1 + 1 + 1, oc1) :: (s1.heap.objs.size + 1 + 1 + 1 + 1, oc2) :: (s1.heap.objs.size + 1 + 1 + 1, oc3) :: (s1.heap.objs.size + 1 + 1, oc4) :: (s1.heap.objs.size + 1, ocw) :: B1) := List.mem_cons_of_mem _ (List.mem_cons_of_mem _ (List.mem_cons_self ..))
          have wd1 : wd < la1 := lla1.1
          have wd2 : wd < la2 := lla2.2.1
          have N14 : News T.heap s1.heap.objs.size h11 ((wd, ow1) :: ((s1.heap.objs.size + 1 + 1 + 1 + 1 + 1, oc1) :: (s1.heap.objs.size + 1 + 1 + 1 + 1, oc2) :: (s1.heap.objs.size + 1 + 1 + 1, oc3) :: (s1.heap.objs.size + 1 + 1, oc4) :: (s1.heap.objs.size + 1, ocw) :: (B1 ++ ((la1, PySem.W.listOf [.ref xK].toArray 0) :: (la2, PySem.W.listOf #[.ref top] 0) :: tlA)))) := fun p hp => N11 p (by
            simp only [List.mem_cons, List.mem_append, List.cons_append] at hp ⊢
            rcases hp with h | h | h | h | h | h | h | h | h | h <;> simp [h])
          have hnew : ∀ p ∈ (la1, PySem.W.listOf [.ref xK].toArray 0) :: (la2, PySem.W.listOf #[.ref top] 0) :: tlA, wd < p.1 := fun p hp => by
            rcases List.mem_cons.mp hp with h | h
            · rw [h]; exact wd1
            · rcases List.mem_cons.mp h with h | h
              · rw [h]; exact wd2
              · exact O11 _ wdl2 p h
          have hwn : ∀ p ∈ (s1.heap.objs.size + 1 + 1 + 1 + 1 + 1, oc1) :: (s1.heap.objs.size + 1 + 1 + 1 + 1, oc2) :: (s1.heap.objs.size + 1 + 1 + 1, oc3) :: (s1.heap.objs.size + 1 + 1, oc4) :: (s1.heap.objs.size + 1, ocw) :: (B1 ++ ((la1, PySem.W.listOf [.ref xK].toArray 0) :: (la2, PySem.W.listOf #[.ref top] 0) :: tlA)), p.1 ≠ wd := fun p hp => by
            have q := ltN hwc
            rcases List.mem_cons.mp hp with h | hp
            · rw [h]; exact neN (by omega)
            rcases List.mem_cons.mp hp with h | hp
            · rw [h]; exact neN (by omega)
            rcases List.mem_cons.mp hp with h | hp
            · rw [h]; exact neN (by omega)
            rcases List.mem_cons.mp hp with h | hp
            · rw [h]; exact neN (by omega)
            rcases List.mem_cons.mp hp with h | hp
            · rw [h]; exact neN (by omega)
            rcases List.mem_append.mp hp with h | h
            · exact b1 p h
            · exact Nat.ne_of_gt (hnew p h)
          refine kda_set (knd := PySem.strKind PySem.Challenge.rw_ft0017_01.row.prog w) F11 N14 (UpdF.head hwn) q1 (strKind_is _ _ _ _) (by have := sizeLine_eq; omega) ?_
          intro h15 ow2 F15 N15 hd2
          have b6 : WSt w top (([WKey.obj, .non, .nev, .any, .S, .T, .U, .K, .V] ++ [WKey.A, .B, .C].take 3) ++ [WKey.box]) ow2 (B1 ++ ((la1, PySem.W.listOf [.ref xK].toArray 0) :: (la2, PySem.W.listOf #[.ref top] 0) :: tlA)) := WSt.put (x := .box) q3 (fun x hx => by
            obtain ⟨v, e1, e2⟩ := q4 x hx
            exact ⟨v, e1, e2.mono fun p hp => List.mem_append_left _ hp⟩) hd2 (by decide) ⟨ii, rfl, hInf.mono fun p hp => by
              rw [List.append_assoc] at hp; exact hp⟩
          replace b1 : ∀ p ∈ B1 ++ ((la1, PySem.W.listOf [.ref xK].toArray 0) :: (la2, PySem.W.listOf #[.ref top] 0) :: tlA), p.1 ≠ wd := fun p hp => by
            rcases List.mem_append.mp hp with h | h
            · exact b1 p h
            · exact Nat.ne_of_gt (hnew p h)
          replace b2 : ∀ p ∈ B1 ++ ((la1, PySem.W.listOf [.ref xK].toArray 0) :: (la2, PySem.W.listOf #[.ref top] 0) :: tlA), s1.heap.objs.size + 1 + 1 + 1 + 1 + 1 < p.1 := fun p hp => by
            rcases List.mem_append.mp hp with h | h
            · exact b2 p h
            · exact Nat.lt_trans hwc (hnew p h)
          replace b3 := b3.mono fun p hp => List.mem_append_left ((la1, PySem.W.listOf [.ref xK].toArray 0) :: (la2, PySem.W.listOf #[.ref top] 0) :: tlA) hp
          replace b4 := b4.mono fun p hp => List.mem_append_left ((la1, PySem.W.listOf [.ref xK].toArray 0) :: (la2, PySem.W.listOf #[.ref top] 0) :: tlA) hp
          clear b5 q1 q2 q3 q4 hd2 hK hV eK1 eV1 hnew hwn N14 wdl2 O11 hInf lla1 lla2 wd1 wd2
          generalize hBg : B1 ++ ((la1, PySem.W.listOf [.ref xK].toArray 0) :: (la2, PySem.W.listOf #[.ref top] 0) :: tlA) = B2 at *
          clear hBg
          obtain ⟨kvs', q1, q2, q3, q4⟩ := b6
          obtain ⟨vK', eK1, eK2⟩ := q4 .K (by decide)
          obtain ⟨xK', rfl, hK⟩ := eK2
          obtain ⟨vV', eV1, eV2⟩ := q4 .V (by decide)
          obtain ⟨xV', rfl, hV⟩ := eV2
          k_steps
          refine kda_item (knd := PySem.strKind PySem.Challenge.rw_ft0017_01.row.prog w) (k := WKey.nm .K) N15 (by k_mem) q1 (by simp [PySem.strKind, Value.isStrOf, WKey.nm]) eK1 ?_
          k_steps
          refine kda_item (knd := PySem.strKind PySem.Challenge.rw_ft0017_01.row.prog w) (k := WKey.nm .V) N15 (by k_mem) q1 (by simp [PySem.strKind, Value.isStrOf, WKey.nm]) eV1 ?_
          k_steps
          rename_i la1 ha1 lla1 la2 ha2 Fa2 Na2 lla2
          k_dflt (refine' con_use (info_con _ _ _ _ (Str.ofString "m.pair")) (B2 ++ [(la1, PySem.W.listOf [.ref xK', .ref xV'].toArray 0), (la2, PySem.W.listOf #[.ref top] 0)]) ?k1 ?k2 ?k3 ?k4 ?k5 ?kA ?kF ?kK ?kh ?kg ?kd ?ku ?kv ?pre ?_; (case k1 => k_asm); (case k2 => k_asm); (case k3 => k_asm); (case k4 => k_asm); (case k5 => k_asm); (case kA => first | exact Around.frames_deeper (Below.stack (by assumption)) | assumption); (case kF => exact rfl); (case kK => exact rfl); (case kh => first | exact hh | exact rfl | assumption); (case kg => first | exact hg | exact rfl | assumption); (case kd => ((try simp only [depth_under_make, depth_under_kw, depth_in1, depth_deeper, depth_caller]); omega)); (case ku => ((try simp only [units_under_make, units_in1, units_deeper, Around.mark_units, units_caller]); omega)))
          case kv =>
            intro p hp
            rcases List.mem_append.mp hp with h | h
            · k_mem
            · rcases List.mem_cons.mp h with h | h
              · rw [h]; k_mem
              · rw [List.mem_singleton.mp h]; k_mem
          case pre => exact ⟨_, la1, la2, [.ref xK', .ref xV'], 0, 0, top, io, rfl, List.mem_append_right _ (List.mem_cons_self ..), by simp, fun v hv => by
            rcases List.mem_cons.mp hv with h | h
            · exact ⟨xK', _, _, _, h, hK.mono fun p hp => List.mem_append_left _ hp⟩
            · exact ⟨xV', _, _, _, List.mem_singleton.mp h, hV.mono fun p hp => List.mem_append_left _ hp⟩, List.mem_append_right _ (List.mem_cons_of_mem _ (List.mem_cons_self ..)), b4.mono fun p hp => List.mem_append_left _ hp, b3.mono fun p hp => List.mem_append_left _ hp⟩
          intro r tlA h21 tk21 F21 N21 O11 P11
          obtain ⟨ii, rfl, hInf⟩ := P11
          dsimp only
          k_steps
          have wdl2 : (wd, ow2) ∈ (la2, PySem.W.listOf #[.ref top] 0) :: (la1, PySem.W.listOf [.ref xK', .ref xV'].toArray 0) :: ((wd, ow2) :: (s1.heap.objs.size + 1 + 1 + 1 + 1 + 1, oc1) :: (s1.heap.objs.size + 1 + 1 + 1 + 1, oc2) :: (s1.heap.objs.size + 1 + 1 + 1, oc3) :: (s1.heap.objs.size + 1 + 1, oc4) :: (s1.heap.objs.size + 1, ocw) :: B2) := List.mem_cons_of_mem _ (List.mem_cons_of_mem _ (List.mem_cons_self ..))
          have wd1 : wd < la1 := lla1.1
          have wd2 : wd < la2 := lla2.2.1
          have N14 : News T.heap s1.heap.objs.size h21 ((wd, ow2) :: ((s1.heap.objs.size + 1 + 1 + 1 + 1 + 1, oc1) :: (s1.heap.objs.size + 1 + 1 + 1 + 1, oc2) :: (s1.heap.objs.size + 1 + 1 + 1, oc3) :: (s1.heap.objs.size + 1 + 1, oc4) :: (s1.heap.objs.size + 1, ocw) :: (B2 ++ ((la1, PySem.W.listOf [.ref xK', .ref xV'].toArray 0) :: (la2, PySem.W.listOf #[.ref top] 0) :: tlA)))) := fun p hp => N21 p (by
            simp only [List.mem_cons, List.mem_append, List.cons_append] at hp ⊢
            rcases hp with h | h | h | h | h | h | h | h | h | h <;> simp [h])
          have hnew : ∀ p ∈ (la1, PySem.W.listOf [.ref xK', .ref xV'].toArray 0) :: (la2, PySem.W.listOf #[.ref top] 0) :: tlA, wd < p.1 := fun p hp => by
            rcases List.mem_cons.mp hp with h | h
            · rw [h]; exact wd1
            · rcases List.mem_cons.mp h with h | h
              · rw [h]; exact wd2
              · exact O11 _ wdl2 p h
          have hwn : ∀ p ∈ (s1.heap.objs.size + 1 + 1 + 1 + 1 + 1, oc1) :: (s1.heap.objs.size + 1 + 1 + 1 + 1, oc2) :: (s1.heap.objs.size + 1 + 1 + 1, oc3) :: (s1.heap.objs.size + 1 + 1, oc4) :: (s1.heap.objs.size + 1, ocw) :: (B2 ++ ((la1, PySem.W.listOf [.ref xK', .ref xV'].toArray 0) :: (la2, PySem.W.listOf #[.ref top] 0) :: tlA)), p.1 ≠ wd := fun p hp => by
            have q := ltN hwc
            rcases List.mem_cons.mp hp with h | hp
            · rw [h]; exact neN (by omega)
            rcases List.mem_cons.mp hp with h | hp
            · rw [h]; exact neN (by omega)
            rcases List.mem_cons.mp hp with h | hp
            · rw [h]; exact neN (by omega)
            rcases List.mem_cons.mp hp with h | hp
            · rw [h]; exact neN (by omega)
            rcases List.mem_cons.mp hp with h | hp
            · rw [h]; exact neN (by omega)
            rcases List.mem_append.mp hp with h | h
            · exact b1 p h
            · exact Nat.ne_of_gt (hnew p h)
          refine kda_set (knd := PySem.strKind PySem.Challenge.rw_ft0017_01.row.prog w) F21 N14 (UpdF.head hwn) q1 (strKind_is _ _ _ _) (by have := sizeLine_eq; omega) ?_
          intro h25 ow3 F25 N25 hd2
          have b6 : WSt w top (([WKey.obj, .non, .nev, .any, .S, .T, .U, .K, .V] ++ [WKey.A, .B, .C].take 3 ++ [WKey.box]) ++ [WKey.pair]) ow3 (B2 ++ ((la1, PySem.W.listOf [.ref xK', .ref xV'].toArray 0) :: (la2, PySem.W.listOf #[.ref top] 0) :: tlA)) := WSt.put (x := .pair) q3 (fun x hx => by
            obtain ⟨v, e1, e2⟩ := q4 x hx
            exact ⟨v, e1, e2.mono fun p hp => List.mem_append_left _ hp⟩) hd2 (by decide) ⟨ii, rfl, hInf.mono fun p hp => by
              rw [List.append_assoc] at hp; exact hp⟩
          replace b1 : ∀ p ∈ B2 ++ ((la1, PySem.W.listOf [.ref xK', .ref xV'].toArray 0) :: (la2, PySem.W.listOf #[.ref top] 0) :: tlA), p.1 ≠ wd := fun p hp => by
            rcases List.mem_append.mp hp with h | h
            · exact b1 p h
            · exact Nat.ne_of_gt (hnew p h)
          replace b2 : ∀ p ∈ B2 ++ ((la1, PySem.W.listOf [.ref xK', .ref xV'].toArray 0) :: (la2, PySem.W.listOf #[.ref top] 0) :: tlA), s1.heap.objs.size + 1 + 1 + 1 + 1 + 1 < p.1 := fun p hp => by
            rcases List.mem_append.mp hp with h | h
            · exact b2 p h
            · exact Nat.lt_trans hwc (hnew p h)
          replace b3 := b3.mono fun p hp => List.mem_append_left ((la1, PySem.W.listOf [.ref xK', .ref xV'].toArray 0) :: (la2, PySem.W.listOf #[.ref top] 0) :: tlA) hp
          replace b4 := b4.mono fun p hp => List.mem_append_left ((la1, PySem.W.listOf [.ref xK', .ref xV'].toArray 0) :: (la2, PySem.W.listOf #[.ref top] 0) :: tlA) hp
          clear b5 q1 q2 q3 q4 hd2 hK hV eK1 eV1 hnew hwn N14 wdl2 O11 hInf lla1 lla2 wd1 wd2
          generalize hBg : B2 ++ ((la1, PySem.W.listOf [.ref xK', .ref xV'].toArray 0) :: (la2, PySem.W.listOf #[.ref top] 0) :: tlA) = B3 at *
          clear hBg
          k_steps
          refine wp_join2 F25 N25 (fun r led => ∃ l vs ns k, r = .ref l ∧ (l, PySem.W.listOf vs.toArray k) ∈ led ∧ IntsAre vs ns ∧ vs.length ≤ 63) ?way ?_
          case way =>
            refine holdPost ?_
            refine IfExp_ ?_
            k_steps
            rename_i lz0 hz0 Fz0 Nz0 llz0
            have rS : Reads hz0 (.ref sl) (PyData.list (ns.map .int)) wc := Reads.keeps Fz0.keep r0
            refine ne_dataH (da := .list (ns.map .int)) (db := .list (([] : List Int).map .int)) rS (.list (Nz0 _ (List.mem_cons_self ..)).1 rfl rfl .nil) (ints_shaped ns) (ints_shaped []) ((by (try simp only [units_under_make, units_in1, units_deeper, Around.mark_units, units_caller]); omega)) ?_
            by_cases hns : ns = []
            · have e : (!PyData.eqv (.list (ns.map .int)) (.list (([] : List Int).map .int))) = false := by rw [hns]; simp [PyData.eqv, PyData.eqvAll]
              rw [e]
              k_steps
              rename_i lz hz Fz Nz llz
              refine unhold ⟨[(lz0, PySem.W.listOf #[] 0), (lz, PySem.W.listOf [Value.int 11 (tk21 + 1 + 1), Value.int 9 (tk21 + 1 + 1 + 1), Value.int 0 (tk21 + 1 + 1 + 1 + 1), Value.int 1 (tk21 + 1 + 1 + 1 + 1 + 1), Value.int 10 (tk21 + 1 + 1 + 1 + 1 + 1 + 1), Value.int 3 (tk21 + 1 + 1 + 1 + 1 + 1 + 1 + 1), Value.int 2 (tk21 + 1 + 1 + 1 + 1 + 1 + 1 + 1 + 1)].toArray 0)], hz, _, rfl, Fz, fun p hp => Nz p ?_, Ord.cons (allLt_get llz0) (Ord.cons (allLt_get llz.2) Ord.nil), lz, [Value.int 11 (tk21 + 1 + 1), Value.int 9 (tk21 + 1 + 1 + 1), Value.int 0 (tk21 + 1 + 1 + 1 + 1), Value.int 1 (tk21 + 1 + 1 + 1 + 1 + 1), Value.int 10 (tk21 + 1 + 1 + 1 + 1 + 1 + 1), Value.int 3 (tk21 + 1 + 1 + 1 + 1 + 1 + 1 + 1), Value.int 2 (tk21 + 1 + 1 + 1 + 1 + 1 + 1 + 1 + 1)], [11, 9, 0, 1, 10, 3, 2], 0, rfl, by k_mem, (by repeat constructor), by simp⟩
              simp only [List.mem_append, List.mem_cons, List.cons_append, List.not_mem_nil, or_false] at hp ⊢
              rcases hp with h | h | h | h | h | h | h | h | h <;> simp [h]
            · have e : (!PyData.eqv (.list (ns.map .int)) (.list (([] : List Int).map .int))) = true := by
                cases ns with
                | nil => exact absurd rfl hns
                | cons x r => simp [PyData.eqv, PyData.eqvAll]
              rw [e]
              k_steps
              rename_i Dz wz hz Fz Nz hIz hCz hLz llz
              refine unhold ⟨[(lz0, PySem.W.listOf #[] 0), (Dz, PySem.W.listOf wz.toArray 0)], hz, _, rfl, Fz, fun p hp => Nz p ?_, Ord.cons (allLt_get llz0) (Ord.cons (allLt_get llz.2) Ord.nil), Dz, wz, _, 0, rfl, by k_mem, hIz, ?_⟩
              · simp only [List.mem_append, List.mem_cons, List.cons_append, List.not_mem_nil, or_false] at hp ⊢
                rcases hp with h | h | h | h | h | h | h | h | h <;> simp [h]
              · exact Nat.le_trans (Nat.le_of_eq (hIz.length.trans hCz)) (Nat.le_trans (Nat.min_le_left _ _) (by decide))
          intro r tlS h31 tk31 F31 N31 O31 P31
          obtain ⟨lS, vS, nS, kS, rfl, hlS, hiS, hvS⟩ := P31
          k_steps
          obtain ⟨W, iA, iB, iC, hWI, hDW⟩ := world_made (wd := wd) ((sv_of N25).sub (vis := B3) fun p hp => by k_mem) b3 b4 b6 (by intro x; cases x <;> simp) low
          obtain ⟨B, hB⟩ : ∃ b : Led, b = (wd, ow3) :: (B3 ++ tlS) := ⟨_, rfl⟩
          have hWB : WIn W iA iB iC io B := hWI.mono fun p hp => by rw [hB]; k_mem
          have hDB : DWIn w W B wd := hDW.mono fun p hp => by
            rw [hB]
            rcases List.mem_cons.mp hp with h | h
            · rw [h]; k_mem
            · k_mem
          have NB : News T.heap s1.heap.objs.size h31 ((s1.heap.objs.size + 1 + 1 + 1 + 1 + 1, oc1) :: (s1.heap.objs.size + 1 + 1 + 1 + 1, oc2) :: (s1.heap.objs.size + 1 + 1 + 1, oc3) :: (s1.heap.objs.size + 1 + 1, oc4) :: (s1.heap.objs.size + 1, ocw) :: B) := fun p hp => N31 p (by
            rw [hB] at hp
            simp only [List.mem_cons, List.mem_append, List.cons_append] at hp ⊢
            rcases hp with h | h | h | h | h | h | h | h <;> simp [h])
          have hlB : (lS, PySem.W.listOf vS.toArray kS) ∈ B := by
            rw [hB]
            exact List.mem_cons_of_mem _ (List.mem_append_right _ hlS)
          have bc : ∀ p ∈ B, s1.heap.objs.size + 1 + 1 + 1 + 1 + 1 < p.1 := fun p hp => by
            rw [hB] at hp
            rcases List.mem_cons.mp hp with h | h
            · rw [h]; exact hwc
            · rcases List.mem_append.mp h with h | h
              · exact b2 p h
              · exact Nat.lt_trans hwc (O31 _ (List.mem_cons_self ..) p h)
          clear hB hWI hDW N31 O31 hlS b1 b2 b3 b4 b6 N25 F25
          k_steps
          k_dflt (refine' con_use (tree_con _ _ _ _ 2) (B) ?k1 ?k2 ?k3 ?k4 ?k5 ?kA ?kF ?kK ?kh ?kg ?kd ?ku ?kv ?pre ?_; (case k1 => k_asm); (case k2 => k_asm); (case k3 => k_asm); (case k4 => k_asm); (case k5 => k_asm); (case kA => first | exact Around.frames_deeper (Below.stack (by assumption)) | assumption); (case kF => exact rfl); (case kK => exact rfl); (case kh => first | exact hh | exact rfl | assumption); (case kg => first | exact hg | exact rfl | assumption); (case kd => ((try simp only [depth_under_make, depth_under_kw, depth_in1, depth_deeper, depth_caller]); omega)); (case ku => ((try simp only [units_under_make, units_in1, units_deeper, Around.mark_units, units_caller]); omega)))
          case kv => intro p hp; k_mem
          case pre => exact ⟨lS, vS, nS, kS, _, rfl, hlB, hiS, hvS⟩
          intro r tlT h41 tk41 F41 N41 O41 P41
          obtain ⟨Dt, xt, lr, vr, nr, kr, kt, tree, rfl, t1, t2, t3, t4, t5, t6⟩ := P41
          dsimp only
          obtain ⟨B2, hB2⟩ : ∃ b : Led, b = B ++ tlT := ⟨_, rfl⟩
          rw [← hB2] at t1 t2 t5
          have NB2 : News T.heap s1.heap.objs.size h41 ((s1.heap.objs.size + 1 + 1 + 1 + 1 + 1, oc1) :: (s1.heap.objs.size + 1 + 1 + 1 + 1, oc2) :: (s1.heap.objs.size + 1 + 1 + 1, oc3) :: (s1.heap.objs.size + 1 + 1, oc4) :: (s1.heap.objs.size + 1, ocw) :: B2) := by rw [hB2]; exact N41
          replace bc : ∀ p ∈ B2, s1.heap.objs.size + 1 + 1 + 1 + 1 + 1 < p.1 := by
            rw [hB2]; intro p hp
            rcases List.mem_append.mp hp with h | h
            · exact bc p h
            · exact O41 _ (List.mem_cons_self ..) p h
          replace hWB : WIn W iA iB iC io B2 := hWB.mono fun p hp => by rw [hB2]; k_mem
          replace hDB : DWIn w W B2 wd := hDB.mono fun p hp => by rw [hB2]; k_mem
          have a1 : ∀ p ∈ B2, p.1 ≠ s1.heap.objs.size + 1 := fun p hp => by have := ltN (bc p hp); exact neN (by omega)
          have a2 : ∀ p ∈ B2, p.1 ≠ s1.heap.objs.size + 1 + 1 := fun p hp => by have := ltN (bc p hp); exact neN (by omega)
          have a3 : ∀ p ∈ B2, p.1 ≠ s1.heap.objs.size + 1 + 1 + 1 := fun p hp => by have := ltN (bc p hp); exact neN (by omega)
          have a4 : ∀ p ∈ B2, p.1 ≠ s1.heap.objs.size + 1 + 1 + 1 + 1 := fun p hp => by have := ltN (bc p hp); exact neN (by omega)
          have a5 : ∀ p ∈ B2, p.1 ≠ s1.heap.objs.size + 1 + 1 + 1 + 1 + 1 := fun p hp => by have := ltN (bc p hp); exact neN (by omega)
          clear N41 O41 NB hlB
          refine unpackN_ (items := #[xt, .ref lr]) F41 NB2 (News.isTup NB2 (by k_mem)) rfl rfl rfl ?_
          intro ha F42 N42
          clear F41 NB2 hB2 F31
          k_steps
          rename_i hA oct dct hB tkB lt hC llt hD D1 hE l1 D2 hG l2 D3 hF FF NN l3
          obtain ⟨vs1, vs2, hvs1, hvs2, NN'⟩ := tups_of NN
          obtain ⟨B0, hB0⟩ : ∃ b : Led, b = (D3, ({ cls := .type "tuple", data := .seq [Value.ref D1, .ref D2].toArray 0 } : Obj)) :: (D2, ({ cls := .type "tuple", data := .seq vs2.toArray 0 } : Obj)) :: (D1, ({ cls := .type "tuple", data := .seq vs1.toArray 0 } : Obj)) :: B2 := ⟨_, rfl⟩
          rw [← hB0] at NN'
          have m3 : (D3, ({ cls := .type "tuple", data := .seq [Value.ref D1, .ref D2].toArray 0 } : Obj)) ∈ B0 := by rw [hB0]; k_mem
          have hTT : ∀ (i : Nat) (v : Value), [Value.ref D1, .ref D2][i]? = some v → ∃ as, tabNames[i]? = some as ∧ TupIn B0 as v := by
            rintro (_ | _ | i) v hv
            · simp at hv; exact ⟨_, rfl, D1, vs1, hv.symm, by rw [hB0]; k_mem, hvs1⟩
            · simp at hv; exact ⟨_, rfl, D2, vs2, hv.symm, by rw [hB0]; k_mem, hvs2⟩
            · simp at hv
          have h00 : RestSt B0 B0 [lt, s1.heap.objs.size + 1 + 1 + 1 + 1 + 1, s1.heap.objs.size + 1 + 1 + 1 + 1, s1.heap.objs.size + 1 + 1 + 1, s1.heap.objs.size + 1 + 1, s1.heap.objs.size + 1] lr := by
            refine ⟨fun p hp a ha => ?_, fun _ h => h, ⟨vr, nr, kr, ?_, t3, t4⟩⟩
            · rw [hB0] at hp
              simp only [List.mem_cons, List.not_mem_nil, or_false] at hp ha
              rcases hp with h | h | h | h
              · rw [h]; rcases ha with rfl | rfl | rfl | rfl | rfl | rfl
                · exact Nat.ne_of_gt l3.2.2.1
                · exact Nat.ne_of_gt l3.2.2.2.1
                · exact Nat.ne_of_gt l3.2.2.2.2.1
                · exact Nat.ne_of_gt l3.2.2.2.2.2.1
                · exact Nat.ne_of_gt l3.2.2.2.2.2.2.1
                · exact Nat.ne_of_gt l3.2.2.2.2.2.2.2.1
              · rw [h]; rcases ha with rfl | rfl | rfl | rfl | rfl | rfl
                · exact Nat.ne_of_gt l2.2.1
                · exact Nat.ne_of_gt l2.2.2.1
                · exact Nat.ne_of_gt l2.2.2.2.1
                · exact Nat.ne_of_gt l2.2.2.2.2.1
                · exact Nat.ne_of_gt l2.2.2.2.2.2.1
                · exact Nat.ne_of_gt l2.2.2.2.2.2.2.1
              · rw [h]; rcases ha with rfl | rfl | rfl | rfl | rfl | rfl
                · exact Nat.ne_of_gt l1.1
                · exact Nat.ne_of_gt l1.2.1
                · exact Nat.ne_of_gt l1.2.2.1
                · exact Nat.ne_of_gt l1.2.2.2.1
                · exact Nat.ne_of_gt l1.2.2.2.2.1
                · exact Nat.ne_of_gt l1.2.2.2.2.2.1
              · rcases ha with rfl | rfl | rfl | rfl | rfl | rfl
                · exact Nat.ne_of_lt (allLt_get llt.2.2.2.2.2 p h)
                · exact a5 p h
                · exact a4 p h
                · exact a3 p h
                · exact a2 p h
                · exact a1 p h
            · rw [hB0]; k_mem
          replace t5 : TreeIn B0 tree xt := t5.mono fun p hp => by rw [hB0]; k_mem
          replace hWB : WIn W iA iB iC io B0 := hWB.mono fun p hp => by rw [hB0]; k_mem
          replace hDB : DWIn w W B0 wd := hDB.mono fun p hp => by rw [hB0]; k_mem
          refine for_tup (us := [.ref D1, .ref D2]) (fun m₀ i m nx => ∃ u1 u2 u3 u4 lr ys ky B, m = (fun y => if y = Str.ofString "names" then u1 else if y = Str.ofString "table" then u2 else if y = Str.ofString "name" then u3 else if y = Str.ofString "part" then u4 else if y = Str.ofString "rest" then some (.ref lr) else m₀ y) ∧ nx = (lt, PySem.W.listOf (List.toArray ys) ky) :: (s1.heap.objs.size + 1 + 1 + 1 + 1 + 1, oc1) :: (s1.heap.objs.size + 1 + 1 + 1 + 1, oc2) :: (s1.heap.objs.size + 1 + 1 + 1, oc3) :: (s1.heap.objs.size + 1 + 1, oct) :: (s1.heap.objs.size + 1, ocw) :: B ∧ RestSt B0 B [lt, s1.heap.objs.size + 1 + 1 + 1 + 1 + 1, s1.heap.objs.size + 1 + 1 + 1 + 1, s1.heap.objs.size + 1 + 1 + 1, s1.heap.objs.size + 1 + 1, s1.heap.objs.size + 1] lr ∧ TabsIn w B (tabNames.take i) ys) rfl FF NN' (by k_mem) ?_ ?_ ?_
          · exact ⟨_, _, _, _, lr, [], 0, B0, env5_at _ (by rfl), rfl, h00, rfl⟩
          · intro i v m₁ nx h tk its hv hq ho hJ F N
            obtain ⟨u1, u2, u3, u4, lr1, ys, ky, B1, rfl, rfl, hR1, hT1⟩ := hJ
            obtain ⟨as, has, D, vs, rfl, hDm, hat⟩ := hTT i v hv
            have hDm1 := hR1.sub _ hDm
            k_steps
            rename_i hx1 Fx1 Nx1 td hx2 od hod lowt hd1 fs1 hi1 fi1 hx3 FT NT
            have hnd : as.Nodup := by
              match i, has with
              | 0, h => simp [tabNames] at h; subst h; decide
              | 1, h => simp [tabNames] at h; subst h; decide
              | n + 2, h => simp [tabNames] at h
            have hitd : ∀ q ∈ its, q.1 < td := fun q hq => hod q (by k_mem)
            have hB1d : ∀ p ∈ B1, p.1 < td := fun q hq => hod q (by k_mem)
            have holt : ∀ q ∈ its, lt ≠ q.1 := ho _ (List.mem_cons_self ..)
            refine for_tup (us := vs) (fun m₀ j m nx => ∃ u1 u2 lr od σ B, m = (fun y => if y = Str.ofString "name" then u1 else if y = Str.ofString "part" then u2 else if y = Str.ofString "rest" then some (.ref lr) else m₀ y) ∧ nx = (td, od) :: (its ++ ((lt, PySem.W.listOf ys.toArray ky) :: (s1.heap.objs.size + 1 + 1 + 1 + 1 + 1, oc1) :: (s1.heap.objs.size + 1 + 1 + 1 + 1, oc2) :: (s1.heap.objs.size + 1 + 1 + 1, oc3) :: (s1.heap.objs.size + 1 + 1, oct) :: (s1.heap.objs.size + 1, ocw) :: B)) ∧ RestSt B0 B ((td :: its.map (·.1)) ++ [lt, s1.heap.objs.size + 1 + 1 + 1 + 1 + 1, s1.heap.objs.size + 1 + 1 + 1 + 1, s1.heap.objs.size + 1 + 1 + 1, s1.heap.objs.size + 1 + 1, s1.heap.objs.size + 1]) lr ∧ TabsIn w B (tabNames.take i) ys ∧ TabSt w B σ od ∧ σ.map (·.1) = as.take j ∧ TabOk σ) rfl FT NT (by k_mem) ?_ ?_ ?_
            · refine ⟨_, _, lr1, od, [], B1, env3_at _ (by rfl), rfl, hR1.more fun p hp a ha => ?_, hT1, ⟨[], hd1, rfl⟩, rfl, TabOk.nil⟩
              rcases List.mem_cons.mp ha with h | h
              · rw [h]; exact Nat.ne_of_lt (hB1d p hp)
              · obtain ⟨q, hq, rfl⟩ := List.mem_map.mp h
                exact ho p (by k_mem) q hq
            · intro j v m₂ nx h tk its2 hv2 hq2 ho2 hJ F2 N2
              obtain ⟨u1, u2, lr2, od2, σ, B2, rfl, rfl, hR2, hT2, hS2, hk2, ho2'⟩ := hJ
              obtain ⟨a, tka, haj, rfl⟩ := hat.get hv2
              obtain ⟨vr2, nr2, kr2, e1, e2, e3⟩ := hR2.rest
              k_steps
              rename Fr _ _ _ _ => F5
              rename News _ _ _ _ => N5
              clear F2 N2
              have hrest : (lr2, PySem.W.listOf vr2.toArray kr2) ∈ its2 ++ ((td, od2) :: (its ++ ((lt, PySem.W.listOf ys.toArray ky) :: (s1.heap.objs.size + 1 + 1 + 1 + 1 + 1, oc1) :: (s1.heap.objs.size + 1 + 1 + 1 + 1, oc2) :: (s1.heap.objs.size + 1 + 1 + 1, oc3) :: (s1.heap.objs.size + 1 + 1, oct) :: (s1.heap.objs.size + 1, ocw) :: B2))) := by k_mem
              refine wp_join2 F5 N5 (fun r led => ∃ l vs ns k, r = .ref l ∧ (l, PySem.W.listOf vs.toArray k) ∈ B2 ++ led ∧ IntsAre vs ns ∧ vs.length ≤ 63) ?way ?_
              case way =>
                refine holdPost ?_
                refine IfExp_ ?_
                k_steps
                rename_i le he Fe Ne lle
                refine ne_ints (Ne _ (List.mem_cons_of_mem _ hrest)).1 (Ne _ (List.mem_cons_self ..)).1 e2 (by ((try simp only [units_under_make, units_in1, units_deeper, Around.mark_units, units_caller]); omega)) ?_
                cases e2 with
                | nil =>
                  rw [show (!([] : List Value).isEmpty) = false from rfl]
                  k_steps
                  rename_i l9 h9 F9 N9 ll9
                  refine unhold ⟨[(le, PySem.W.listOf #[] 0), (l9, PySem.W.listOf [Value.int 9 tk, Value.int 2 (tk + 1), Value.int 4 (tk + 1 + 1)].toArray 0)], h9, _, rfl, F9, fun p hp => N9 p ?_, Ord.cons lle (Ord.cons (allLt_get ll9.2) Ord.nil), l9, [Value.int 9 tk, Value.int 2 (tk + 1), Value.int 4 (tk + 1 + 1)], [9, 2, 4], 0, rfl, by k_mem, (by repeat constructor), by simp⟩
                  rcases List.mem_append.mp hp with h | h
                  · k_mem
                  · rcases List.mem_cons.mp h with h | h
                    · rw [h]; k_mem
                    · rw [List.mem_singleton.mp h]; k_mem
                | cons x t r =>
                  rw [show (!(Value.int x t :: _).isEmpty) = true from rfl]
                  k_steps
                  refine unhold ⟨[(le, PySem.W.listOf #[] 0)], he, _, rfl, Fe, fun p hp => Ne p ?_, Ord.cons lle Ord.nil, lr2, _, _, kr2, rfl, List.mem_append_left _ e1, .cons x t r, e3⟩
                  rcases List.mem_append.mp hp with h | h
                  · k_mem
                  · rw [List.mem_singleton.mp h]; k_mem
              intro r tlW h51 tk51 F51 N51 O51 P51
              obtain ⟨l2, v2, n2, k2, rfl, hl2, hi2, hv2'⟩ := P51
              have hl2' : (l2, PySem.W.listOf v2.toArray k2) ∈ (its2 ++ ((td, od2) :: (its ++ ((lt, PySem.W.listOf ys.toArray ky) :: (s1.heap.objs.size + 1 + 1 + 1 + 1 + 1, oc1) :: (s1.heap.objs.size + 1 + 1 + 1 + 1, oc2) :: (s1.heap.objs.size + 1 + 1 + 1, oc3) :: (s1.heap.objs.size + 1 + 1, oct) :: (s1.heap.objs.size + 1, ocw) :: B2)))) ++ tlW := by
                rcases List.mem_append.mp hl2 with h | h
                · k_mem
                · k_mem
              k_steps
              k_dflt (refine' con_use (tree_con _ _ _ _ 1) ([(l2, PySem.W.listOf v2.toArray k2)]) ?k1 ?k2 ?k3 ?k4 ?k5 ?kA ?kF ?kK ?kh ?kg ?kd ?ku ?kv ?pre ?_; (case k1 => k_asm); (case k2 => k_asm); (case k3 => k_asm); (case k4 => k_asm); (case k5 => k_asm); (case kA => first | exact Around.frames_deeper (Below.stack (by assumption)) | assumption); (case kF => exact rfl); (case kK => exact rfl); (case kh => first | exact hh | exact rfl | assumption); (case kg => first | exact hg | exact rfl | assumption); (case kd => ((try simp only [depth_under_make, depth_under_kw, depth_in1, depth_deeper, depth_caller]); omega)); (case ku => ((try simp only [units_under_make, units_in1, units_deeper, Around.mark_units, units_caller]); omega)))
              case kv => intro p hp; rw [List.mem_singleton.mp hp]; exact hl2'
              case pre => exact ⟨l2, v2, n2, k2, _, rfl, List.mem_cons_self .., hi2, hv2'⟩
              intro r tlT h52 tk52 F52 N52 O52 P52
              obtain ⟨Dt, xp, l3, v3, n3, k3, kt, part, rfl, p1, p2, p3, p4, p5, p6⟩ := P52
              dsimp only
              have sub52 : ∀ p ∈ [(l2, PySem.W.listOf v2.toArray k2)] ++ tlT, p ∈ ((its2 ++ ((td, od2) :: (its ++ ((lt, PySem.W.listOf ys.toArray ky) :: (s1.heap.objs.size + 1 + 1 + 1 + 1 + 1, oc1) :: (s1.heap.objs.size + 1 + 1 + 1 + 1, oc2) :: (s1.heap.objs.size + 1 + 1 + 1, oc3) :: (s1.heap.objs.size + 1 + 1, oct) :: (s1.heap.objs.size + 1, ocw) :: B2)))) ++ tlW) ++ tlT := fun p hp => by
                rcases List.mem_append.mp hp with h | h
                · rw [List.mem_singleton.mp h]; exact List.mem_append_left _ hl2'
                · exact List.mem_append_right _ h
              refine unpackN_ (items := #[xp, .ref l3]) F52 N52 (News.isTup N52 (sub52 _ p1)) rfl rfl rfl ?_
              intro ha F53 N53
              k_steps
              rename_i hx1 hx2 Fx Nx de hy oe F6 N6 lde lowe hde fse hie fie
              k_dflt (refine' con_use (repl_con _ _ _ _ [] 0 1 1 (3 ^ (1 - 1)) (Nat.le_refl _) (Nat.le_refl _) (by decide) (fun a t e => (nil_none e).elim) 2 part (Nat.lt_succ_of_le p6.1) (by decide) (Nat.le_trans (Nat.le_trans (Nat.le_of_eq (Nat.mul_one _)) p6.2.2.2.1) (by decide)) p6.2.2.2.2) ((de, oe) :: ([(l2, PySem.W.listOf v2.toArray k2)] ++ tlT)) ?k1 ?k2 ?k3 ?k4 ?k5 ?kA ?kF ?kK ?kh ?kg ?kd ?ku ?kv ?pre ?_; (case k1 => k_asm); (case k2 => k_asm); (case k3 => k_asm); (case k4 => k_asm); (case k5 => k_asm); (case kA => first | exact Around.frames_deeper (Below.stack (by assumption)) | assumption); (case kF => exact rfl); (case kK => exact rfl); (case kh => first | exact hh | exact rfl | assumption); (case kg => first | exact hg | exact rfl | assumption); (case kd => ((try simp only [depth_under_make, depth_under_kw, depth_in1, depth_deeper, depth_caller]); omega)); (case ku => ((try simp only [units_under_make, units_in1, units_deeper, Around.mark_units, units_caller]); omega)))
              case kv =>
                intro p hp
                rcases List.mem_cons.mp hp with h | h
                · rw [h]; k_mem
                · exact List.mem_cons_of_mem _ (sub52 p h)
              case pre => exact ⟨_, _, rfl, p5.mono fun p hp => List.mem_cons_of_mem _ hp, tbl_nil (List.mem_cons_self ..) lowe hde⟩
              intro r tlR h7 tk7 F7 N7 O7 P7
              dsimp only
              k_steps
              rename Fr _ _ _ _ => F8
              obtain ⟨kvs, q1, q2⟩ := hS2.ex
              have Onew : Ord (its2 ++ ((td, od2) :: (its ++ ((lt, PySem.W.listOf ys.toArray ky) :: (s1.heap.objs.size + 1 + 1 + 1 + 1 + 1, oc1) :: (s1.heap.objs.size + 1 + 1 + 1 + 1, oc2) :: (s1.heap.objs.size + 1 + 1 + 1, oc3) :: (s1.heap.objs.size + 1 + 1, oct) :: (s1.heap.objs.size + 1, ocw) :: B2)))) (tlW ++ (tlT ++ ((de, oe) :: tlR))) := Ord.app O51 (Ord.app O52 (Ord.cons lde (O7.sub fun q hq => List.mem_cons_of_mem _ hq)))
              have N8 : News s1.heap s1.heap.objs.size h7 ((td, od2) :: (its2 ++ (its ++ ((lt, PySem.W.listOf ys.toArray ky) :: (s1.heap.objs.size + 1 + 1 + 1 + 1 + 1, oc1) :: (s1.heap.objs.size + 1 + 1 + 1 + 1, oc2) :: (s1.heap.objs.size + 1 + 1 + 1, oc3) :: (s1.heap.objs.size + 1 + 1, oct) :: (s1.heap.objs.size + 1, ocw) :: (B2 ++ (tlW ++ (tlT ++ ((de, oe) :: tlR)))))))) := fun p hp => N7 p (by
                simp only [List.mem_cons, List.mem_append] at hp ⊢
                rcases hp with h | h | h | h | h | h | h | h | h | h | h | h | h | h <;> simp [h])
              have htd0 : (td, od2) ∈ its2 ++ ((td, od2) :: (its ++ ((lt, PySem.W.listOf ys.toArray ky) :: (s1.heap.objs.size + 1 + 1 + 1 + 1 + 1, oc1) :: (s1.heap.objs.size + 1 + 1 + 1 + 1, oc2) :: (s1.heap.objs.size + 1 + 1 + 1, oc3) :: (s1.heap.objs.size + 1 + 1, oct) :: (s1.heap.objs.size + 1, ocw) :: B2))) := by k_mem
              have hwn : ∀ p ∈ its2 ++ (its ++ ((lt, PySem.W.listOf ys.toArray ky) :: (s1.heap.objs.size + 1 + 1 + 1 + 1 + 1, oc1) :: (s1.heap.objs.size + 1 + 1 + 1 + 1, oc2) :: (s1.heap.objs.size + 1 + 1 + 1, oc3) :: (s1.heap.objs.size + 1 + 1, oct) :: (s1.heap.objs.size + 1, ocw) :: (B2 ++ (tlW ++ (tlT ++ ((de, oe) :: tlR)))))), p.1 ≠ td := fun p hp => by
                rcases List.mem_append.mp hp with h | hp
                · exact Ne.symm (ho2 _ (List.mem_cons_self ..) p h)
                rcases List.mem_append.mp hp with h | hp
                · exact Nat.ne_of_lt (hitd p h)
                rcases List.mem_cons.mp hp with h | hp
                · rw [h]; exact Nat.ne_of_lt (hod (lt, PySem.W.listOf ys.toArray ky) (by k_mem))
                rcases List.mem_cons.mp hp with h | hp
                · rw [h]; exact Nat.ne_of_lt (hod (s1.heap.objs.size + 1 + 1 + 1 + 1 + 1, oc1) (by k_mem))
                rcases List.mem_cons.mp hp with h | hp
                · rw [h]; exact Nat.ne_of_lt (hod (s1.heap.objs.size + 1 + 1 + 1 + 1, oc2) (by k_mem))
                rcases List.mem_cons.mp hp with h | hp
                · rw [h]; exact Nat.ne_of_lt (hod (s1.heap.objs.size + 1 + 1 + 1, oc3) (by k_mem))
                rcases List.mem_cons.mp hp with h | hp
                · rw [h]; exact Nat.ne_of_lt (hod (s1.heap.objs.size + 1 + 1, oct) (by k_mem))
                rcases List.mem_cons.mp hp with h | hp
                · rw [h]; exact Nat.ne_of_lt (hod (s1.heap.objs.size + 1, ocw) (by k_mem))
                rcases List.mem_append.mp hp with h | hp
                · exact hR2.off p h td (by k_mem)
                · exact Nat.ne_of_gt (Onew _ htd0 p hp)
              have hlen : kvs.length ≤ 3 := by
                rw [q2.len, ← List.length_map (f := (·.1)), hk2, List.length_take]
                refine Nat.le_trans (Nat.min_le_right _ _) ?_
                match i, has with
                | 0, h => simp [tabNames] at h; subst h; decide
                | 1, h => simp [tabNames] at h; subst h; decide
                | n + 2, h => simp [tabNames] at h
              refine kda_set (knd := PySem.strKind PySem.Challenge.rw_ft0017_01.row.prog w) F8 N8 (UpdF.head hwn) q1 (strKind_is _ _ _ _) (by have := sizeLine_eq; omega) ?_
              intro h15 od3 F15 N15 hd3
              have hfr : a ∉ σ.map (·.1) := by rw [hk2]; exact tab_fresh has haj
              rw [q2.fresh hfr] at hd3
              k_steps
              refine TurnEnd.next ((td, od3) :: (its ++ ((lt, PySem.W.listOf ys.toArray ky) :: (s1.heap.objs.size + 1 + 1 + 1 + 1 + 1, oc1) :: (s1.heap.objs.size + 1 + 1 + 1 + 1, oc2) :: (s1.heap.objs.size + 1 + 1 + 1, oc3) :: (s1.heap.objs.size + 1 + 1, oct) :: (s1.heap.objs.size + 1, ocw) :: (B2 ++ (tlW ++ (tlT ++ ((de, oe) :: tlR))))))) F15 N15 (fun p hp => ?_) ?_ (fun p hp q hq => ?_) ⟨_, _, l3, od3, σ ++ [(a, exp [] part)], B2 ++ (tlW ++ (tlT ++ ((de, oe) :: tlR))), env3_to (fun y h1 h2 h3 => by simp only [h1, h2, h3, if_false]) (by rfl), rfl, hR2.app Onew (fun a ha => ?_) ⟨v3, n3, k3, ?_, p3, p4⟩, hT2.mono fun p hp => List.mem_append_left _ hp, ⟨⟨_, hd3, (q2.mono fun p hp => List.mem_append_left _ hp).snoc (P7.mono ?_)⟩⟩, ?_, TabOk.snoc ho2' p6⟩
              · simp only [List.mem_cons, List.mem_append] at hp ⊢
                rcases hp with h | h | h | h | h | h | h | h | h | h | h | h | h | h <;> simp [h]
              · have m4 : (D, ({ cls := .type "tuple", data := .seq vs.toArray 0 } : Obj)) ∈ B2 := hR2.sub _ hDm
                k_mem
              · rcases List.mem_cons.mp hp with h | hp
                · rw [h]; exact ho2 (td, od2) (List.mem_cons_self ..) q hq
                rcases List.mem_append.mp hp with h | hp
                · exact ho2 p (List.mem_cons_of_mem _ (List.mem_append_left _ h)) q hq
                rcases List.mem_cons.mp hp with h | hp
                · exact ho2 p (by rw [h]; k_mem) q hq
                rcases List.mem_cons.mp hp with h | hp
                · exact ho2 p (by rw [h]; k_mem) q hq
                rcases List.mem_cons.mp hp with h | hp
                · exact ho2 p (by rw [h]; k_mem) q hq
                rcases List.mem_cons.mp hp with h | hp
                · exact ho2 p (by rw [h]; k_mem) q hq
                rcases List.mem_cons.mp hp with h | hp
                · exact ho2 p (by rw [h]; k_mem) q hq
                rcases List.mem_cons.mp hp with h | hp
                · exact ho2 p (by rw [h]; k_mem) q hq
                rcases List.mem_append.mp hp with h | hp
                · exact ho2 p (by k_mem) q hq
                · exact Nat.ne_of_gt (Onew q (List.mem_append_left _ hq) p hp)
              · rcases List.mem_append.mp ha with h | h
                · rcases List.mem_cons.mp h with h | h
                  · exact ⟨od2, by rw [h]; exact htd0⟩
                  · obtain ⟨o, ho⟩ := mem_its h
                    exact ⟨o, by k_mem⟩
                · simp only [List.mem_cons, List.not_mem_nil, or_false] at h
                  rcases h with rfl | rfl | rfl | rfl | rfl | rfl
                  · exact ⟨PySem.W.listOf ys.toArray ky, by k_mem⟩
                  · exact ⟨oc1, by k_mem⟩
                  · exact ⟨oc2, by k_mem⟩
                  · exact ⟨oc3, by k_mem⟩
                  · exact ⟨oct, by k_mem⟩
                  · exact ⟨ocw, by k_mem⟩
              · rcases List.mem_append.mp p2 with h | h
                · rw [List.mem_singleton.mp h]
                  rcases List.mem_append.mp hl2 with h | h
                  · k_mem
                  · k_mem
                · k_mem
              · intro p hp
                rcases List.mem_append.mp hp with h | h
                · rcases List.mem_cons.mp h with h | h
                  · rw [h]; k_mem
                  · rcases List.mem_append.mp h with h | h
                    · rw [List.mem_singleton.mp h]
                      rcases List.mem_append.mp hl2 with h | h
                      · k_mem
                      · k_mem
                    · k_mem
                · k_mem
              · rw [List.map_append, hk2, List.take_add_one, haj]; rfl
            · intro m₂ nx h tk hJ F2 N2
              obtain ⟨u1, u2, lr2, od2, σ, B2, rfl, rfl, hR2, hT2, hS2, hk2, ho2'⟩ := hJ
              show wpAny _ _ _ _ _ _
              have N3 : News T.heap s1.heap.objs.size h ((lt, PySem.W.listOf ys.toArray ky) :: ((td, od2) :: (s1.heap.objs.size + 1 + 1 + 1 + 1 + 1, oc1) :: (s1.heap.objs.size + 1 + 1 + 1 + 1, oc2) :: (s1.heap.objs.size + 1 + 1 + 1, oc3) :: (s1.heap.objs.size + 1 + 1, oct) :: (s1.heap.objs.size + 1, ocw) :: (B2 ++ its))) := fun p hp => N2 p (by
                simp only [List.mem_cons, List.mem_append] at hp ⊢
                rcases hp with h | h | h | h | h | h | h | h | h <;> simp [h])
              clear N2
              k_steps
              have q1 := ltN (hod _ (show (lt, PySem.W.listOf ys.toArray ky) ∈ _ by k_mem))
              have hoff : ∀ p ∈ (td, od2) :: (s1.heap.objs.size + 1 + 1 + 1 + 1 + 1, oc1) :: (s1.heap.objs.size + 1 + 1 + 1 + 1, oc2) :: (s1.heap.objs.size + 1 + 1 + 1, oc3) :: (s1.heap.objs.size + 1 + 1, oct) :: (s1.heap.objs.size + 1, ocw) :: (B2 ++ its), p.1 ≠ lt := fun p hp => by
                simp only [List.mem_cons, List.mem_append] at hp
                rcases hp with h | h | h | h | h | h | h | h
                · rw [h]; exact neN (by omega)
                · rw [h]; exact Nat.ne_of_lt llt.1
                · rw [h]; exact Nat.ne_of_lt llt.2.1
                · rw [h]; exact Nat.ne_of_lt llt.2.2.1
                · rw [h]; exact Nat.ne_of_lt llt.2.2.2.1
                · rw [h]; exact Nat.ne_of_lt llt.2.2.2.2.1
                · exact hR2.off p h lt (by k_mem)
                · exact Ne.symm (holt p h)
              have hys := hT2.len
              have hys2 : ys.length ≤ 2 := by rw [hys, List.length_take]; exact Nat.min_le_right _ _
              have hsl := sizeLine_eq
              k_dflt (refine' append_head (rest := (td, od2) :: (s1.heap.objs.size + 1 + 1 + 1 + 1 + 1, oc1) :: (s1.heap.objs.size + 1 + 1 + 1 + 1, oc2) :: (s1.heap.objs.size + 1 + 1 + 1, oc3) :: (s1.heap.objs.size + 1 + 1, oct) :: (s1.heap.objs.size + 1, ocw) :: (B2 ++ its)) ?aF ?aN ?ap ?_ ?az; (case aF => k_asm); (case aN => k_asm); (case ap => exact hoff); (case az => ((try simp only [List.size_toArray]); omega)))
              intro h9 F9 N9
              rw [List.push_toArray] at N9
              k_steps
              have hsub2 : ∀ p ∈ its ++ ((lt, PySem.W.listOf (ys ++ [Value.ref td]).toArray (ky + 1)) :: (s1.heap.objs.size + 1 + 1 + 1 + 1 + 1, oc1) :: (s1.heap.objs.size + 1 + 1 + 1 + 1, oc2) :: (s1.heap.objs.size + 1 + 1 + 1, oc3) :: (s1.heap.objs.size + 1 + 1, oct) :: (s1.heap.objs.size + 1, ocw) :: ((td, od2) :: B2)), p ∈ (lt, PySem.W.listOf (ys ++ [Value.ref td]).toArray (ky + 1)) :: (td, od2) :: (s1.heap.objs.size + 1 + 1 + 1 + 1 + 1, oc1) :: (s1.heap.objs.size + 1 + 1 + 1 + 1, oc2) :: (s1.heap.objs.size + 1 + 1 + 1, oc3) :: (s1.heap.objs.size + 1 + 1, oct) :: (s1.heap.objs.size + 1, ocw) :: (B2 ++ its) := fun p hp => by
                simp only [List.mem_cons, List.mem_append] at hp ⊢
                rcases hp with h | h | h | h | h | h | h | h | h <;> simp [h]
              have m3' := hR2.sub _ m3
              refine TurnEnd.next _ F9 N9 hsub2 (by k_mem) (fun p hp q hq => ?_) ⟨_, _, _, _, lr2, ys ++ [Value.ref td], ky + 1, (td, od2) :: B2, env5_to (fun y h1 h2 h3 h4 h5 => by simp only [h1, h2, h3, h4, h5, if_false]) (by rfl), rfl, ⟨fun p hp a ha => ?_, fun p hp => List.mem_cons_of_mem _ (hR2.sub p hp), ?_⟩, ?_⟩
              · rcases List.mem_cons.mp hp with h | hp
                · rw [h]; exact holt q hq
                rcases List.mem_cons.mp hp with h | hp
                · rw [h]; exact ho _ (List.mem_cons_of_mem _ (List.mem_cons_self ..)) q hq
                rcases List.mem_cons.mp hp with h | hp
                · rw [h]; exact ho (s1.heap.objs.size + 1 + 1 + 1 + 1, oc2) (by k_mem) q hq
                rcases List.mem_cons.mp hp with h | hp
                · rw [h]; exact ho (s1.heap.objs.size + 1 + 1 + 1, oc3) (by k_mem) q hq
                rcases List.mem_cons.mp hp with h | hp
                · rw [h]; exact ho (s1.heap.objs.size + 1 + 1, oct) (by k_mem) q hq
                rcases List.mem_cons.mp hp with h | hp
                · rw [h]; exact ho (s1.heap.objs.size + 1, ocw) (by k_mem) q hq
                rcases List.mem_cons.mp hp with h | hp
                · rw [h]; exact Ne.symm (Nat.ne_of_lt (hitd q hq))
                · exact hR2.off p hp q.1 (List.mem_append_left _ (List.mem_cons_of_mem _ (List.mem_map.mpr ⟨q, hq, rfl⟩)))
              · rcases List.mem_cons.mp hp with h | hp
                · rw [h]
                  simp only [List.mem_cons, List.not_mem_nil, or_false] at ha
                  have q2 := llt
                  rcases ha with rfl | rfl | rfl | rfl | rfl | rfl
                  · exact neN (by omega)
                  · exact Nat.ne_of_gt (hod (s1.heap.objs.size + 1 + 1 + 1 + 1 + 1, oc1) (by k_mem))
                  · exact Nat.ne_of_gt (hod (s1.heap.objs.size + 1 + 1 + 1 + 1, oc2) (by k_mem))
                  · exact Nat.ne_of_gt (hod (s1.heap.objs.size + 1 + 1 + 1, oc3) (by k_mem))
                  · exact Nat.ne_of_gt (hod (s1.heap.objs.size + 1 + 1, oct) (by k_mem))
                  · exact Nat.ne_of_gt (hod (s1.heap.objs.size + 1, ocw) (by k_mem))
                · exact hR2.off p hp a (List.mem_append_right _ ha)
              · obtain ⟨vr, nr, kr, e1, e2, e3⟩ := hR2.rest
                exact ⟨vr, nr, kr, List.mem_cons_of_mem _ e1, e2, e3⟩
              · have e : tabNames.take (i + 1) = tabNames.take i ++ [σ.map (·.1)] := by
                  rw [List.take_add_one, has, hk2, hat.len, List.take_length]; rfl
                rw [e]
                exact TabsIn.snoc ((hS2.mono fun p hp => List.mem_cons_of_mem _ hp).tab (List.mem_cons_self ..) lowt) ho2' (hT2.mono fun p hp => List.mem_cons_of_mem _ hp)
          · intro m₁ nx h tk hJ F N
            obtain ⟨u1, u2, u3, u4, lr1, ys, ky, B1, rfl, rfl, hR1, hT1⟩ := hJ
            show wpAny _ _ _ _ _ _
            obtain ⟨td1, td2, a1', b1', c2, d2, e2, rfl, T1, T2, ok1, ok2⟩ : ∃ td1 td2 a1 b1 c2 d2 e2, ys = [Value.ref td1, .ref td2] ∧ TabIn w B1 [(.S, a1), (.T, b1)] td1 ∧ TabIn w B1 [(.U, c2), (.T, d2), (.S, e2)] td2 ∧ TabOk [(.S, a1), (.T, b1)] ∧ TabOk [(.U, c2), (.T, d2), (.S, e2)] := by
              have h : TabsIn w B1 [[.S, .T], [.U, .T, .S]] ys := hT1
              simp only [TabsIn] at h
              obtain ⟨td1, σ1, us1, rfl, T1, k1, ok1, td2, σ2, us2, rfl, T2, k2, ok2, rfl⟩ := h
              obtain ⟨a1, b1, rfl⟩ := keys_two k1
              obtain ⟨c2, d2, e2, rfl⟩ := keys_three k2
              exact ⟨td1, td2, a1, b1, c2, d2, e2, rfl, T1, T2, ok1, ok2⟩
            clear hT1
            k_steps
            replace t5 : TreeIn B1 tree xt := t5.mono hR1.sub
            replace hWB : WIn W iA iB iC io B1 := hWB.mono hR1.sub
            replace hDB : DWIn w W B1 wd := hDB.mono hR1.sub
            have bc1 : ∀ p ∈ B1, p.1 ≠ lt ∧ p.1 ≠ s1.heap.objs.size + 1 + 1 + 1 + 1 + 1 ∧ p.1 ≠ s1.heap.objs.size + 1 + 1 + 1 + 1 ∧ p.1 ≠ s1.heap.objs.size + 1 + 1 + 1 ∧ p.1 ≠ s1.heap.objs.size + 1 + 1 ∧ p.1 ≠ s1.heap.objs.size + 1 := fun p hp => ⟨hR1.off p hp _ (by k_mem), hR1.off p hp _ (by k_mem), hR1.off p hp _ (by k_mem), hR1.off p hp _ (by k_mem), hR1.off p hp _ (by k_mem), hR1.off p hp _ (by k_mem)⟩
            clear hR1 h00 hTT m3 NN' hB0 hvs1 hvs2
            obtain ⟨σs, hσs⟩ : ∃ s : List (List (Atom × Tree)), s = [[(.S, a1'), (.T, b1')], [(.U, c2), (.T, d2), (.S, e2)]] := ⟨_, rfl⟩
            have hts : ∀ (i : Nat) (v : Value), [Value.ref td1, .ref td2][i]? = some v → ∃ td σ, v = .ref td ∧ σs[i]? = some σ ∧ TabIn w B1 σ td ∧ TabOk σ ∧ (σ.map (·.1)).Nodup ∧ (∀ p ∈ σ, isVar p.1 = true) ∧ σ.length ≤ 3 := by
              rw [hσs]
              rintro (_ | _ | i) v hv
              · simp at hv; exact ⟨td1, _, hv.symm, rfl, T1, ok1, by simp, by simp [isVar], by simp⟩
              · simp at hv; exact ⟨td2, _, hv.symm, rfl, T2, ok2, by simp, by simp [isVar], by simp⟩
              · simp at hv
            refine AssignComp_led (hsw := by with_unfolding_all rfl) (hclos := by rfl) rfl (by decide) ?_
            k_steps
            refine comp_someC rfl F N (SeqOf.src SeqOf.list N (List.mem_cons_self ..)) (fun led i _ y => ∃ σ l2, σs[i]? = some σ ∧ TypIn W (B1 ++ l2) (exp σ tree) y ∧ ∀ p ∈ l2, p ∈ led ∧ ∀ q ∈ (lt, PySem.W.listOf #[Value.ref td1, Value.ref td2] ky) :: (s1.heap.objs.size + 1 + 1 + 1 + 1 + 1, oc1) :: (s1.heap.objs.size + 1 + 1 + 1 + 1, oc2) :: (s1.heap.objs.size + 1 + 1 + 1, oc3) :: (s1.heap.objs.size + 1 + 1, oct) :: (s1.heap.objs.size + 1, ocw) :: B1, q.1 < p.1) ?hG (by have := sizeLine_eq; simp only [List.length_cons, List.length_nil]; omega) (fun _ => rfl) (fun _ => rfl) rfl (fun cenv h => ?hx) rfl rfl ?elt ?_
            case hG =>
              rintro l l' i v y hs ⟨σ, l2, h1, h2, h3⟩
              exact ⟨σ, l2, h1, h2, fun p hp => ⟨hs _ (h3 p hp).1, (h3 p hp).2⟩⟩
            case hx => simp only [Env.kindOf, h, relabel]; rfl
            case elt =>
              intro i v C K tl own oK h tk E' hv F2 N2 O2 hK dK
              obtain ⟨td, σ, rfl, hσ, hTab, hOk, hnd, hvar, hlen⟩ := hts i v hv
              clear F N
              k_steps
              k_dflt (refine' con_use (made_con _ _ _ _ W iA iB iC io 4 3 tree (Nat.lt_succ_of_le t6.1) (by decide) (Nat.le_trans t6.2.2.2.1 (by decide))) (B1) ?k1 ?k2 ?k3 ?k4 ?k5 ?kA ?kF ?kK ?kh ?kg ?kd ?ku ?kv ?pre ?_; (case k1 => k_asm); (case k2 => k_asm); (case k3 => k_asm); (case k4 => k_asm); (case k5 => k_asm); (case kA => first | exact Around.frames_deeper (Below.stack (by assumption)) | assumption); (case kF => exact rfl); (case kK => exact rfl); (case kh => first | exact hh | exact rfl | assumption); (case kg => first | exact hg | exact rfl | assumption); (case kd => ((try simp only [depth_under_make, depth_under_kw, depth_in1, depth_deeper, depth_caller]); omega)); (case ku => ((try simp only [units_under_make, units_in1, units_deeper, Around.mark_units, units_caller]); omega)))
              case kv => intro p hp; k_mem
              case pre => exact ⟨hWB, xt, wd, rfl, t5, hDB⟩
              intro rM tlM h3 tk3 F3 N3 O3 P3
              dsimp only
              k_steps
              refine DictComp_led (hclos := by rfl) rfl (by decide) ?_
              k_steps
              obtain ⟨oT, kvs, m1, m2, m3, m4⟩ := hTab
              refine comp_dict (knd := PySem.strKind PySem.Challenge.rw_ft0017_01.row.prog w) rfl F3 N3 (show (td, oT) ∈ _ by k_mem) m2 m3 (fun led vs oD => EntSt W B1 ((own ++ ((lt, PySem.W.listOf #[Value.ref td1, Value.ref td2] ky) :: (s1.heap.objs.size + 1 + 1 + 1 + 1 + 1, oc1) :: (s1.heap.objs.size + 1 + 1 + 1 + 1, oc2) :: (s1.heap.objs.size + 1 + 1 + 1, oc3) :: (s1.heap.objs.size + 1 + 1, oct) :: (s1.heap.objs.size + 1, ocw) :: B1 ++ tl)) ++ tlM) σ vs.length led oD) (by decide) rfl rfl EntSt.nil ?turn ?_
              case turn =>
                intro vs v D C2 mC tl2 oD own2 h4 tk4 E4 hP hlt hPs hH F4 N4 O4 hn4 hm4 hC4 hD4
                obtain ⟨k0, x0, hk0, hv0⟩ := hP
                obtain ⟨a, t, hat, rfl, hx0⟩ := m4.get hk0
                obtain ⟨tkv, rfl⟩ := Value.isStrOf_shape (show Value.isStrOf _ v = true from hv0)
                have ha : isVar a = true := hvar _ (List.mem_of_getElem? hat)
                have pt := hOk.part (look_at hnd hat)
                have hl := m4.look a
                rw [look_at hnd hat] at hl
                obtain ⟨x1, ex1, tx1⟩ := hl
                have hDB0 := hDB
                obtain ⟨ow0, kvw, n1, n2, n3, n4, n5⟩ := hDB
                obtain ⟨vw, ew, tw⟩ := n4 a
                obtain ⟨iD, hid⟩ := id_at hWB ha
                have hid0 := hid
                obtain ⟨dI, g1, g2, g3, g4, g5, u1', u2', u3', u4', u5', u6', u7', lI, nI, z1, z2, z3⟩ := hid
                have hvw : vw = .ref (W.at_ a) := by
                  cases a <;> simp only [isVar, Bool.false_eq_true] at ha <;> simpa only [TypIn] using tw
                subst hvw
                k_steps
                refine kda_item (knd := PySem.strKind PySem.Challenge.rw_ft0017_01.row.prog w) (k := a.nm) N4 (show (wd, ow0) ∈ _ by k_mem) n2 (strKind_is _ _ _ _) ew ?_
                k_steps
                refine kda_item (knd := PySem.strKind PySem.Challenge.rw_ft0017_01.row.prog w) (k := a.nm) N4 (show (td, oT) ∈ _ by k_mem) m2 (strKind_is _ _ _ _) ex1 ?_
                k_steps
                k_dflt (refine' con_use (made_con _ _ _ _ W iA iB iC io 4 2 t (Nat.lt_succ_of_le pt.h) (by decide) (Nat.le_trans pt.z (by decide))) (B1) ?k1 ?k2 ?k3 ?k4 ?k5 ?kA ?kF ?kK ?kh ?kg ?kd ?ku ?kv ?pre ?_; (case k1 => k_asm); (case k2 => k_asm); (case k3 => k_asm); (case k4 => k_asm); (case k5 => k_asm); (case kA => first | exact Around.frames_deeper (Below.stack (by assumption)) | assumption); (case kF => exact rfl); (case kK => exact rfl); (case kh => first | exact hh | exact rfl | assumption); (case kg => first | exact hg | exact rfl | assumption); (case kd => ((try simp only [depth_under_make, depth_under_kw, depth_in1, depth_deeper, depth_caller]); omega)); (case ku => ((try simp only [units_under_make, units_in1, units_deeper, Around.mark_units, units_caller]); omega)))
                case kv => intro p hp; k_mem
                case pre => exact ⟨hWB, x1, wd, rfl, tx1, hDB0⟩
                intro rP tlP h5 tk5 F5 N5 O5 P5
                rw [mk_nrm pt.n] at P5
                dsimp only
                k_steps
                obtain ⟨es, ep, l2, rfl, hEs, hl2⟩ := hH.ex
                have e4 : (σ.take vs.length).length ≤ 3 := Nat.le_trans (by rw [List.length_take]; exact Nat.min_le_right _ _) hlen
                refine dictSet_own (rest := (own2 ++ ((own ++ ((lt, PySem.W.listOf #[Value.ref td1, Value.ref td2] ky) :: (s1.heap.objs.size + 1 + 1 + 1 + 1 + 1, oc1) :: (s1.heap.objs.size + 1 + 1 + 1 + 1, oc2) :: (s1.heap.objs.size + 1 + 1 + 1, oc3) :: (s1.heap.objs.size + 1 + 1, oct) :: (s1.heap.objs.size + 1, ocw) :: B1 ++ tl)) ++ tlM ++ tl2)) ++ tlP) (k := idOf' (.leaf a)) F5 N5 (fun p hp => ?_) ?hH ?hno ?hne (by rw [hEs.len]; have := sizeLine_eq; omega) ?hQ
                · rcases List.mem_append.mp hp with h | h
                  · exact hD4 p h
                  · exact Nat.ne_of_gt (O5 _ (List.mem_cons_self ..) p h)
                case hH =>
                  have vin : ∀ p ∈ B1, p ∈ (D, dictOf es ep) :: ((own2 ++ ((own ++ ((lt, PySem.W.listOf #[Value.ref td1, Value.ref td2] ky) :: (s1.heap.objs.size + 1 + 1 + 1 + 1 + 1, oc1) :: (s1.heap.objs.size + 1 + 1 + 1 + 1, oc2) :: (s1.heap.objs.size + 1 + 1 + 1, oc3) :: (s1.heap.objs.size + 1 + 1, oct) :: (s1.heap.objs.size + 1, ocw) :: B1 ++ tl)) ++ tlM ++ tl2)) ++ tlP) := fun p hp => by k_mem
                  obtain ⟨di, j6, j7, j8, j9, j10, j11, j12, y1, y2⟩ := id z3
                  rintro _ E Q ⟨h, tk, rfl, F3, N3⟩ hQ
                  refine hash_K (K := Mine.hd.heap_39 w.params) (C := 147) (f := 137) ((by (try simp only [units_under_make, units_in1, units_deeper, Around.mark_units, units_caller]); omega)) (KX.keeps F3.keep) (InstAt.of_news N3 (vin _ y1) (vin _ y2)) (by k_is) (by k_is) ?_
                  refine wpAny_call ?_
                  have h3 : idOf' (.leaf a) = 1 ∨ idOf' (.leaf a) = 2 ∨ idOf' (.leaf a) = 3 := by cases a <;> simp only [isVar, Bool.false_eq_true] at ha <;> simp [idOf']
                  clear F5 N5
                  k_dflt (refine' con_use (hash_con w _ _ _ (idOf' (.leaf a)) h3) (B1) ?k1 ?k2 ?k3 ?k4 ?k5 ?kA ?kF ?kK ?kh ?kg ?kd ?ku ?kv ?pre ?_; (case k1 => k_asm); (case k2 => k_asm); (case k3 => k_asm); (case k4 => k_asm); (case k5 => k_asm); (case kA => first | exact Around.frames_deeper (Below.stack (by assumption)) | assumption); (case kF => exact rfl); (case kK => exact rfl); (case kh => first | exact hh | exact rfl | assumption); (case kg => first | exact hg | exact rfl | assumption); (case kd => ((try simp only [depth_under_make, depth_under_kw, depth_in1, depth_deeper, depth_caller]); omega)); (case ku => ((try simp only [units_under_make, units_in1, units_deeper, Around.mark_units, units_caller]); omega)))
                  case kv => exact vin
                  case pre => exact ⟨iD, rfl, z3⟩
                  rintro r tl h9 tk9 F9 N9 O9 ⟨t9, rfl⟩
                  exact ⟨_, t9, rfl, by rcases h3 with h | h | h <;> rw [h] <;> decide, by rcases h3 with h | h | h <;> rw [h] <;> decide, hQ _ ⟨h9, tk9, rfl, F9, News.sub N9 fun p hp => List.mem_append_left _ hp⟩⟩
                case hno => exact (EntIn.fresh ((sv_of N5).sub fun p hp => by
                  rcases List.mem_append.mp hp with h | h
                  · k_mem
                  · have := (hl2 p h).1; k_mem) hEs ha (hid0.mono fun p hp => List.mem_append_left _ hp) (take_fresh hnd hat)).1
                case hne => exact (EntIn.fresh ((sv_of N5).sub fun p hp => by
                  rcases List.mem_append.mp hp with h | h
                  · k_mem
                  · have := (hl2 p h).1; k_mem) hEs ha (hid0.mono fun p hp => List.mem_append_left _ hp) (take_fresh hnd hat)).2
                case hQ =>
                  intro h' tk' F' N'
                  refine ⟨tlP, _, h', tk', rfl, F', N', O5, ⟨⟨_, _, l2 ++ tlP, rfl, ?_, fun p hp => ?_⟩⟩⟩
                  · rw [List.length_append, List.length_singleton, List.take_add_one, hat]
                    exact EntIn.snoc ha (hid0.mono fun p hp => List.mem_append_left _ hp) (P5.mono fun p hp => by
                      rcases List.mem_append.mp hp with h | h
                      · exact List.mem_append_left _ h
                      · exact List.mem_append_right _ (List.mem_append_right _ h)) (hEs.mono fun p hp => by
                      rcases List.mem_append.mp hp with h | h
                      · exact List.mem_append_left _ h
                      · exact List.mem_append_right _ (List.mem_append_left _ h))
                  · rcases List.mem_append.mp hp with h | h
                    · exact ⟨List.mem_append_left _ (hl2 p h).1, (hl2 p h).2⟩
                    · exact ⟨List.mem_append_right _ h, fun q hq => O5 q (List.mem_cons_of_mem _ (List.mem_append_right _ (List.mem_append_left _ hq))) p h⟩
              · intro D oD h4 tk4 vs tl2 DD
                clear F3 N3 F2 N2
                obtain ⟨F4, N4, O4, off4, P4, lenv4, H4⟩ := DD
                obtain ⟨es, ep, l2, rfl, hEs, hl2⟩ := H4.ex
                rw [lenv4, m4.len, List.take_length] at hEs
                have hsm : sysModules < s1.heap.objs.size := modules_low (topRead_of T).nolimit
                have hD1 : (D == sysModules) = false := beq_false_of_ne (Nat.ne_of_gt (Nat.lt_trans (Nat.lt_succ_of_lt hsm) (O4 (s1.heap.objs.size + 1, ocw) (by k_mem) _ (List.mem_cons_self ..))))
                have vin : ∀ p ∈ (D, dictOf es ep) :: (B1 ++ (tlM ++ l2)), p ∈ (D, dictOf es ep) :: (((own ++ ((lt, PySem.W.listOf #[Value.ref td1, Value.ref td2] ky) :: (s1.heap.objs.size + 1 + 1 + 1 + 1 + 1, oc1) :: (s1.heap.objs.size + 1 + 1 + 1 + 1, oc2) :: (s1.heap.objs.size + 1 + 1 + 1, oc3) :: (s1.heap.objs.size + 1 + 1, oct) :: (s1.heap.objs.size + 1, ocw) :: B1 ++ tl)) ++ tlM) ++ tl2) := fun p hp => by
                  rcases List.mem_cons.mp hp with h | hp
                  · rw [h]; k_mem
                  rcases List.mem_append.mp hp with h | hp
                  · k_mem
                  rcases List.mem_append.mp hp with h | hp
                  · k_mem
                  · exact List.mem_cons_of_mem _ (hl2 p hp).1
                have hσp : ∀ a t, σ.lookup a = some t → t.ht ≤ 1 ∧ t.sz ≤ 4 := fun a t e => ⟨(hOk.part e).h, (hOk.part e).z⟩
                have mkb := mk_b tree
                have h2 : (4 : Nat) ^ 2 = 16 := rfl
                have hb9 : big = 1000000 := rfl
                have t61 := t6.1
                have t64 := t6.2.2.2.1
                have hq1 : (mk tree).ht < 3 := by omega
                have hq2 : (mk tree).sz * 4 + 2 ≤ big := by omega
                k_steps
                k_dflt (refine' con_use (expand_con _ _ _ _ W iA iB iC io σ (mk tree) _ _ (exp_con _ _ _ _ W iA iB iC io σ hnd 1 4 6 (by decide) hσp 3 (mk tree) hq1 (by decide) hq2)) ((D, dictOf es ep) :: (B1 ++ (tlM ++ l2))) ?k1 ?k2 ?k3 ?k4 ?k5 ?kA ?kF ?kK ?kh ?kg ?kd ?ku ?kv ?pre ?_; (case k1 => k_asm); (case k2 => k_asm); (case k3 => k_asm); (case k4 => k_asm); (case k5 => k_asm); (case kA => first | exact Around.frames_deeper (Below.stack (by assumption)) | assumption); (case kF => exact rfl); (case kK => exact rfl); (case kh => first | exact hh | exact rfl | assumption); (case kg => first | exact hg | exact rfl | assumption); (case kd => ((try simp only [depth_under_make, depth_under_kw, depth_in1, depth_deeper, depth_caller]); omega)); (case ku => ((try simp only [units_under_make, units_in1, units_deeper, Around.mark_units, units_caller]); omega)))
                case kv => exact vin
                case pre => exact ⟨(sv_of N4).sub vin, hWB.mono fun p hp => by k_mem, _, D, rfl, P3.mono fun p hp => by
                  rcases List.mem_append.mp hp with h | h
                  · k_mem
                  · k_mem, es, ep, List.mem_cons_self .., hEs.mono fun p hp => by
                  rcases List.mem_append.mp hp with h | h
                  · k_mem
                  · k_mem, hD1⟩
                intro r tlE h5 tk5 F5 N5 O5 P5
                have P6 : TypIn W ((D, dictOf es ep) :: (B1 ++ (tlM ++ l2)) ++ tlE) (exp σ (mk tree)) r := P5
                rw [exp_mk] at P6
                dsimp only
                refine ⟨tlM ++ ((D, dictOf es ep) :: (tl2 ++ tlE)), h5, tk5, rfl, F5, fun p hp => N5 p ?_, ?_, σ, (D, dictOf es ep) :: (tlM ++ (l2 ++ tlE)), hσ, P6.mono fun p hp => ?_, fun p hp => ?_⟩
                · rcases List.mem_append.mp hp with h | hp
                  · k_mem
                  rcases List.mem_append.mp hp with h | hp
                  · k_mem
                  rcases List.mem_cons.mp hp with h | hp
                  · rw [h]; k_mem
                  rcases List.mem_append.mp hp with h | hp
                  · k_mem
                  · k_mem
                · exact Ord.app O3 (Ord.app O4 (O5.sub fun q hq => by
                    rcases List.mem_append.mp hq with h | h
                    · k_mem
                    · rcases List.mem_cons.mp h with h | h
                      · rw [h]; k_mem
                      · k_mem))
                · rcases List.mem_append.mp hp with h | hp
                  · rcases List.mem_cons.mp h with h | h
                    · rw [h]; k_mem
                    rcases List.mem_append.mp h with h | h
                    · k_mem
                    rcases List.mem_append.mp h with h | h
                    · k_mem
                    · k_mem
                  · k_mem
                · have hl2' := mem_new hl2
                  rcases List.mem_cons.mp hp with h | hp
                  · rw [h]; exact ⟨by k_mem, fun q hq => O4 q (by k_mem) _ (List.mem_cons_self ..)⟩
                  rcases List.mem_append.mp hp with h | hp
                  · exact ⟨by k_mem, fun q hq => O3 q (by k_mem) p h⟩
                  rcases List.mem_append.mp hp with h | hp
                  · have := hl2' p h
                    exact ⟨by k_mem, fun q hq => (hl2 p h).2 q (by k_mem)⟩
                  · exact ⟨by k_mem, fun q hq => O5 q (by k_mem) p hp⟩
            · intro D nD h' tk ys tl CD
              k_steps
              obtain ⟨FD, ND, OD, offD, PD, lenvD, lenD, GD⟩ := CD
              obtain ⟨y1, y2, rfl⟩ := two_of lenD
              obtain ⟨B2, hB2⟩ : ∃ b : Led, b = (D, PySem.W.listOf [y1, y2].toArray nD) :: (lt, PySem.W.listOf [Value.ref td1, Value.ref td2].toArray ky) :: (B1 ++ tl) := ⟨_, rfl⟩
              have N2 : News s1.heap s1.heap.objs.size h' ((s1.heap.objs.size + 1 + 1 + 1 + 1 + 1, oc1) :: (s1.heap.objs.size + 1 + 1 + 1 + 1, oc2) :: (s1.heap.objs.size + 1 + 1 + 1, oc3) :: (s1.heap.objs.size + 1 + 1, oct) :: (s1.heap.objs.size + 1, ocw) :: B2) := fun p hp => ND p (by
                rw [hB2] at hp
                simp only [List.mem_cons, List.mem_append, List.cons_append] at hp ⊢
                rcases hp with h | h | h | h | h | h | h | h | h <;> simp [h])
              have s12 : ∀ p ∈ B1, p ∈ B2 := fun p hp => by rw [hB2]; k_mem
              have told1 : TypIn W B2 (exp [(.S, a1'), (.T, b1')] tree) y1 := by
                obtain ⟨y, e, σ, l2, e1, e2, e3⟩ := GD 0 (.ref td1) rfl
                rw [hσs] at e1
                simp only [List.getElem?_cons_zero, Option.some.injEq] at e e1
                subst e e1
                have e4 := mem_new e3
                exact e2.mono fun p hp => by
                  rw [hB2]
                  rcases List.mem_append.mp hp with h | h
                  · k_mem
                  · have := e4 p h; k_mem
              have told2 : TypIn W B2 (exp [(.U, c2), (.T, d2), (.S, e2)] tree) y2 := by
                obtain ⟨y, e, σ, l2, e1, e2, e3⟩ := GD 1 (.ref td2) rfl
                rw [hσs] at e1
                simp only [List.getElem?_cons_succ, List.getElem?_cons_zero, Option.some.injEq] at e e1
                subst e e1
                have e4 := mem_new e3
                exact e2.mono fun p hp => by
                  rw [hB2]
                  rcases List.mem_append.mp hp with h | h
                  · k_mem
                  · have := e4 p h; k_mem
              have oB2 : ∀ p ∈ B2, p.1 ≠ s1.heap.objs.size + 1 + 1 + 1 + 1 + 1 ∧ p.1 ≠ s1.heap.objs.size + 1 + 1 + 1 + 1 ∧ p.1 ≠ s1.heap.objs.size + 1 + 1 + 1 ∧ p.1 ≠ s1.heap.objs.size + 1 + 1 ∧ p.1 ≠ s1.heap.objs.size + 1 := fun p hp => by
                rw [hB2] at hp
                have hnew : ∀ q ∈ (D, PySem.W.listOf [y1, y2].toArray nD) :: tl, q.1 ≠ s1.heap.objs.size + 1 + 1 + 1 + 1 + 1 ∧ q.1 ≠ s1.heap.objs.size + 1 + 1 + 1 + 1 ∧ q.1 ≠ s1.heap.objs.size + 1 + 1 + 1 ∧ q.1 ≠ s1.heap.objs.size + 1 + 1 ∧ q.1 ≠ s1.heap.objs.size + 1 := fun q hq =>
                  ⟨Nat.ne_of_gt (OD (s1.heap.objs.size + 1 + 1 + 1 + 1 + 1, oc1) (by k_mem) q hq), Nat.ne_of_gt (OD (s1.heap.objs.size + 1 + 1 + 1 + 1, oc2) (by k_mem) q hq), Nat.ne_of_gt (OD (s1.heap.objs.size + 1 + 1 + 1, oc3) (by k_mem) q hq), Nat.ne_of_gt (OD (s1.heap.objs.size + 1 + 1, oct) (by k_mem) q hq), Nat.ne_of_gt (OD (s1.heap.objs.size + 1, ocw) (by k_mem) q hq)⟩
                rcases List.mem_cons.mp hp with h | hp
                · rw [h]; exact hnew _ (List.mem_cons_self ..)
                rcases List.mem_cons.mp hp with h | hp
                · rw [h]; exact ⟨Nat.ne_of_gt llt.1, Nat.ne_of_gt llt.2.1, Nat.ne_of_gt llt.2.2.1, Nat.ne_of_gt llt.2.2.2.1, Nat.ne_of_gt llt.2.2.2.2.1⟩
                rcases List.mem_append.mp hp with h | h
                · exact (bc1 p h).2
                · exact hnew p (List.mem_cons_of_mem _ h)
              have mD : (D, PySem.W.listOf [y1, y2].toArray nD) ∈ B2 := by rw [hB2]; k_mem
              have mlt : (lt, PySem.W.listOf [Value.ref td1, Value.ref td2].toArray ky) ∈ B2 := by rw [hB2]; k_mem
              replace t5 : TreeIn B2 tree xt := t5.mono s12
              replace hWB : WIn W iA iB iC io B2 := hWB.mono s12
              replace hDB : DWIn w W B2 wd := hDB.mono s12
              replace T1 := T1.mono s12
              replace T2 := T2.mono s12
              have a5 : ∀ p ∈ B2, p.1 ≠ s1.heap.objs.size + 1 + 1 + 1 + 1 + 1 := fun p hp => (oB2 p hp).1
              have a4 : ∀ p ∈ B2, p.1 ≠ s1.heap.objs.size + 1 + 1 + 1 + 1 := fun p hp => (oB2 p hp).2.1
              have a3 : ∀ p ∈ B2, p.1 ≠ s1.heap.objs.size + 1 + 1 + 1 := fun p hp => (oB2 p hp).2.2.1
              have a2 : ∀ p ∈ B2, p.1 ≠ s1.heap.objs.size + 1 + 1 := fun p hp => (oB2 p hp).2.2.2.1
              have a1 : ∀ p ∈ B2, p.1 ≠ s1.heap.objs.size + 1 := fun p hp => (oB2 p hp).2.2.2.2
              clear N F ND GD PD OD offD lenvD lenD hts bc1 oB2 s12 hB2 hσs
              have g1 := Told.of t6 fun a u e => ok1.part e
              have g2 := Told.of t6 fun a u e => ok2.part e
              refine ListComp_led (hclos := by rfl) rfl (by decide) ?_
              k_steps
              refine comp_none rfl FD N2 (SeqOf.src SeqOf.list N2 (show (D, PySem.W.listOf [y1, y2].toArray nD) ∈ _ by k_mem)) (fun led i _ y => ∃ t, [exp [(.S, a1'), (.T, b1')] tree, exp [(.U, c2), (.T, d2), (.S, e2)] tree][i]? = some t ∧ TreeIn led t y) ?hG (by have := sizeLine_eq; simp only [List.length_cons, List.length_nil]; omega) (by decide) rfl rfl ?elt ?_
              case hG => rintro l l' i v y hs ⟨t, h1, h2⟩; exact ⟨t, h1, h2.mono hs⟩
              case elt =>
                intro i v C mC tl3 own h tk E' hv F3 N3 O3 hn hm hC
                obtain ⟨t, ht, htv, hgt⟩ : ∃ t, [exp [(.S, a1'), (.T, b1')] tree, exp [(.U, c2), (.T, d2), (.S, e2)] tree][i]? = some t ∧ TypIn W B2 t v ∧ Told t := by
                  match i, hv with
                  | 0, hv => simp at hv; subst hv; exact ⟨_, rfl, told1, g1⟩
                  | 1, hv => simp at hv; subst hv; exact ⟨_, rfl, told2, g2⟩
                  | i + 2, hv => simp at hv
                k_steps
                k_dflt (refine' con_use (shown_con _ _ _ _ W iA iB iC io 4 t (Nat.lt_succ_of_le hgt.h) (Nat.le_trans hgt.z (by decide)) hgt.o) (B2) ?k1 ?k2 ?k3 ?k4 ?k5 ?kA ?kF ?kK ?kh ?kg ?kd ?ku ?kv ?pre ?_; (case k1 => k_asm); (case k2 => k_asm); (case k3 => k_asm); (case k4 => k_asm); (case k5 => k_asm); (case kA => first | exact Around.frames_deeper (Below.stack (by assumption)) | assumption); (case kF => exact rfl); (case kK => exact rfl); (case kh => first | exact hh | exact rfl | assumption); (case kg => first | exact hg | exact rfl | assumption); (case kd => ((try simp only [depth_under_make, depth_under_kw, depth_in1, depth_deeper, depth_caller]); omega)); (case ku => ((try simp only [units_under_make, units_in1, units_deeper, Around.mark_units, units_caller]); omega)))
                case kv => intro p hp; k_mem
                case pre => exact ⟨hWB, v, wd, rfl, htv, hDB⟩
                intro r tl9 h9 tk9 F9 N9 O9 P9
                exact ⟨tl9, h9, tk9, rfl, F9, N9, O9, t, ht, P9.mono fun p hp => by
                  rcases List.mem_append.mp hp with h | h
                  · k_mem
                  · k_mem⟩
              intro D3 nD3 h3 tk3 ys3 tl3 CD3
              k_steps
              obtain ⟨F3, N3, O3, off3, P3, lenv3, len3, G3⟩ := CD3
              obtain ⟨z1, z2, rfl⟩ := two_of len3
              obtain ⟨z1', e0, t0, e1, r1⟩ := G3 0 y1 rfl
              obtain ⟨z2', e0', t0', e1', r2⟩ := G3 1 y2 rfl
              simp only [List.getElem?_cons_succ, List.getElem?_cons_zero, Option.some.injEq] at e0 e1 e0' e1'
              subst e0 e1 e0' e1'
              have hts2 : ∀ (i : Nat) (v : Value), [Value.ref td1, .ref td2][i]? = some v → ∃ td σ, v = .ref td ∧ TblIn w B2 σ td ∧ [exp [(.S, a1'), (.T, b1')] tree, exp [(.U, c2), (.T, d2), (.S, e2)] tree][i]? = some (exp σ tree) ∧ TabOk σ := by
                rintro (_ | _ | i) v hv
                · simp at hv; exact ⟨td1, _, hv.symm, T1.tbl, rfl, ok1⟩
                · simp at hv; exact ⟨td2, _, hv.symm, T2.tbl, rfl, ok2⟩
                · simp at hv
              clear G3 FD N2
              refine ListComp_led (hclos := by rfl) rfl (by decide) ?_
              k_steps
              refine comp_none rfl F3 N3 (SeqOf.src SeqOf.list N3 (show (lt, PySem.W.listOf [Value.ref td1, Value.ref td2].toArray ky) ∈ _ by k_mem)) (fun led i _ y => ∃ t, [exp [(.S, a1'), (.T, b1')] tree, exp [(.U, c2), (.T, d2), (.S, e2)] tree][i]? = some t ∧ TreeIn led t y) ?hG (by have := sizeLine_eq; simp only [List.length_cons, List.length_nil]; omega) (by decide) rfl rfl ?elt ?_
              case hG => rintro l l' i v y hs ⟨t, h1, h2⟩; exact ⟨t, h1, h2.mono hs⟩
              case elt =>
                intro i v C mC tl4 own h tk E' hv F4 N4 O4 hn hm hC
                obtain ⟨td, σ, rfl, htb, hti, hok⟩ := hts2 i v hv
                k_steps
                k_dflt (refine' con_use (repl_con _ _ _ _ σ 1 4 3 3 (by decide) (by decide) (by decide) (fun a u e => ⟨(hok.part e).n, (hok.part e).h, (hok.part e).z, (hok.part e).l⟩) 3 tree (Nat.lt_succ_of_le t6.1) (by decide) (Nat.le_trans (Nat.mul_le_mul_right 4 t6.2.2.2.1) (by decide)) t6.2.2.2.2) (B2) ?k1 ?k2 ?k3 ?k4 ?k5 ?kA ?kF ?kK ?kh ?kg ?kd ?ku ?kv ?pre ?_; (case k1 => k_asm); (case k2 => k_asm); (case k3 => k_asm); (case k4 => k_asm); (case k5 => k_asm); (case kA => first | exact Around.frames_deeper (Below.stack (by assumption)) | assumption); (case kF => exact rfl); (case kK => exact rfl); (case kh => first | exact hh | exact rfl | assumption); (case kg => first | exact hg | exact rfl | assumption); (case kd => ((try simp only [depth_under_make, depth_under_kw, depth_in1, depth_deeper, depth_caller]); omega)); (case ku => ((try simp only [units_under_make, units_in1, units_deeper, Around.mark_units, units_caller]); omega)))
                case kv => intro p hp; k_mem
                case pre => exact ⟨_, _, rfl, t5, htb⟩
                intro r tl9 h9 tk9 F9 N9 O9 P9
                exact ⟨tl9, h9, tk9, rfl, F9, N9, O9, _, hti, P9.mono fun p hp => by
                  rcases List.mem_append.mp hp with h | h
                  · k_mem
                  · k_mem⟩
              intro D4 nD4 h4 tk4 ys4 tl4 CD4
              obtain ⟨F4, N4, O4, off4, P4, lenv4, len4, G4⟩ := CD4
              obtain ⟨x1, x2, rfl⟩ := two_of len4
              obtain ⟨z1', e0, t0, e1, q1⟩ := G4 0 (.ref td1) rfl
              obtain ⟨z2', e0', t0', e1', q2⟩ := G4 1 (.ref td2) rfl
              simp only [List.getElem?_cons_succ, List.getElem?_cons_zero, Option.some.injEq] at e0 e1 e0' e1'
              subst e0 e1 e0' e1'
              clear F3 N3 G4
              k_steps
              refine ne_trees (fun p hp => (N4 p hp).1) (show (D3, PySem.W.listOf [z1, z2].toArray nD3) ∈ _ by k_mem) (show (D4, PySem.W.listOf [x1, x2].toArray nD4) ∈ _ by k_mem) (TreesIn.two (r1.mono fun p hp => by k_mem) (r2.mono fun p hp => by k_mem)) (TreesIn.two (q1.mono fun p hp => by k_mem) (q2.mono fun p hp => by k_mem)) (by have := g1.h; have := g2.h; simp only [hts]; omega) (by ((try simp only [units_under_make, units_in1, units_deeper, Around.mark_units, units_caller]); omega)) ?_
              have N5 : News s1.heap s1.heap.objs.size h4 ((s1.heap.objs.size + 1 + 1 + 1 + 1 + 1, oc1) :: (s1.heap.objs.size + 1 + 1 + 1 + 1, oc2) :: (s1.heap.objs.size + 1 + 1 + 1, oc3) :: (s1.heap.objs.size + 1 + 1, oct) :: (s1.heap.objs.size + 1, ocw) :: B2) := fun p hp => N4 p (by
                simp only [List.mem_cons] at hp
                rcases hp with h | h | h | h | h | h
                · rw [h]; k_mem
                · rw [h]; k_mem
                · rw [h]; k_mem
                · rw [h]; k_mem
                · rw [h]; k_mem
                · k_mem)
              clear N4 r1 r2 q1 q2 hts2 off3 off4 P3 P4
              k_steps
              try dsimp only
              clear O3 O4 lenv3 lenv4 len3 len4
              refine PyProof.Rows.item_list (items := #[Value.ref td1, .ref td2]) (x := .ref td1) (News.isList N5 (show (lt, PySem.W.listOf #[Value.ref td1, .ref td2] ky) ∈ _ by k_mem)) (by decide) (by decide) (by simp) ?_
              try dsimp only
              k_steps
              try dsimp only
              rename_i d3 hx3 od3 F6 N6 lod hd3 ld3
              clear F4 N5
              refine PyProof.Rows.item_list (items := #[Value.ref td1, .ref td2]) (x := .ref td2) (News.isList N6 (show (lt, PySem.W.listOf #[Value.ref td1, .ref td2] ky) ∈ _ by k_mem)) (by decide) (by decide) (by simp) ?_
              try dsimp only
              k_steps
              obtain ⟨oT, kvs, m1, m2, m3, m4⟩ := id T2
              obtain ⟨vU, eU, tU⟩ : ∃ v, valueAt kvs (Atom.nm .U) = some v ∧ TreeIn B2 c2 v := by
                have := m4.look .U
                simpa using this
              refine kda_item (knd := PySem.strKind PySem.Challenge.rw_ft0017_01.row.prog w) (k := Atom.nm .U) N6 (show (td2, oT) ∈ _ by k_mem) m2 (by simp [PySem.strKind, Value.isStrOf, Atom.nm]) eU ?_
              try dsimp only
              k_steps
              rename_i hy1 od4 hd4 D5 hy2 lD5 hy3 Fy Ny hy4 ocf dcf hy5 ocs F7 N7 dcs
              obtain ⟨B3, hB3⟩ : ∃ b : Led, b = (d3, od4) :: B2 := ⟨_, rfl⟩
              have N8 : News s1.heap s1.heap.objs.size hy5 ((s1.heap.objs.size + 1 + 1 + 1 + 1 + 1, oc1) :: (s1.heap.objs.size + 1 + 1 + 1 + 1, ocs) :: (s1.heap.objs.size + 1 + 1 + 1, ocf) :: (s1.heap.objs.size + 1 + 1, oct) :: (s1.heap.objs.size + 1, ocw) :: B3) := fun p hp => N7 p (by
                rw [hB3] at hp
                simp only [List.mem_cons] at hp ⊢
                rcases hp with h | h | h | h | h | h | h <;> simp [h])
              have s23 : ∀ p ∈ B2, p ∈ B3 := fun p hp => by rw [hB3]; k_mem
              have md3 : (d3, od4) ∈ B3 := by rw [hB3]; k_mem
              have TS : TabIn w B3 [(.U, c2)] d3 := ⟨od4, _, md3, hd4, lod, by
                show KvIn B3 [(.U, c2)] [(Str.ofString "U", vU)]
                simp only [KvIn]
                exact ⟨vU, [], rfl, tU.mono s23, rfl⟩⟩
              replace a5 : ∀ p ∈ B3, p.1 ≠ s1.heap.objs.size + 1 + 1 + 1 + 1 + 1 := fun p hp => by
                rw [hB3] at hp
                rcases List.mem_cons.mp hp with h | h
                · rw [h]; exact Nat.ne_of_gt ld3.1
                · exact a5 p h
              replace mD := s23 _ mD
              replace t5 : TreeIn B3 tree xt := t5.mono s23
              replace hWB : WIn W iA iB iC io B3 := hWB.mono s23
              replace hDB : DWIn w W B3 wd := hDB.mono s23
              replace T1 := T1.mono s23
              replace told1 := told1.mono s23
              replace tU : TreeIn B3 c2 vU := tU.mono s23
              have eU3 : valueAt (strPairs [(Value.str (Str.ofString "U") (tk4 + 1), vU)]) (Atom.nm .U) = some vU := rfl
              clear N7 hB3 s23 Ny Fy a1 a2 a3 a4 told2 m1 m2 m3 m4 eU mlt T2 g2
              have hsm : sysModules < s1.heap.objs.size := modules_low (topRead_of T).nolimit
              have pc := ok2.part (show List.lookup Atom.U [(.U, c2), (.T, d2), (.S, e2)] = some c2 from rfl)
              have hDB0 := hDB
              obtain ⟨ow0, kvw, n1, n2, n3, n4, n5⟩ := hDB
              obtain ⟨vw, ew, tw⟩ := n4 .U
              have hvw : vw = .ref (W.at_ .U) := by simpa only [TypIn] using tw
              subst hvw
              obtain ⟨iD, hid⟩ := id_at hWB (a := .U) rfl
              have hid0 := hid
              obtain ⟨dI, g1', g2', g3', g4', g5', u1', u2', u3', u4', u5', u6', u7', lI, nI, z1', z2', z3'⟩ := hid
              refine Dict_one F7 N8 hsm ?_
              intro de he Fe Ne lde lowe
              clear F7 N8
              k_steps
              refine kda_item (knd := PySem.strKind PySem.Challenge.rw_ft0017_01.row.prog w) (k := Atom.nm .U) Ne (show (wd, ow0) ∈ _ by k_mem) n2 (by simp [PySem.strKind, Value.isStrOf, Atom.nm]) ew ?_
              k_steps
              refine kda_item (knd := PySem.strKind PySem.Challenge.rw_ft0017_01.row.prog w) (k := Atom.nm .U) Ne (show (d3, od4) ∈ _ by k_mem) hd4 (by simp [PySem.strKind, Value.isStrOf, Atom.nm]) eU3 ?_
              k_steps
              k_dflt (refine' con_use (made_con _ _ _ _ W iA iB iC io 4 2 c2 (Nat.lt_succ_of_le pc.h) (by decide) (Nat.le_trans pc.z (by decide))) (B3) ?k1 ?k2 ?k3 ?k4 ?k5 ?kA ?kF ?kK ?kh ?kg ?kd ?ku ?kv ?pre ?_; (case k1 => k_asm); (case k2 => k_asm); (case k3 => k_asm); (case k4 => k_asm); (case k5 => k_asm); (case kA => first | exact Around.frames_deeper (Below.stack (by assumption)) | assumption); (case kF => exact rfl); (case kK => exact rfl); (case kh => first | exact hh | exact rfl | assumption); (case kg => first | exact hg | exact rfl | assumption); (case kd => ((try simp only [depth_under_make, depth_under_kw, depth_in1, depth_deeper, depth_caller]); omega)); (case ku => ((try simp only [units_under_make, units_in1, units_deeper, Around.mark_units, units_caller]); omega)))
              case kv => intro p hp; k_mem
              case pre => exact ⟨hWB, vU, wd, rfl, tU, hDB0⟩
              intro rP tlP h5 tk5 F5 N5 O5 P5
              rw [mk_nrm pc.n] at P5
              try dsimp only
              k_steps
              refine dictSet_own (rest := ((s1.heap.objs.size + 1 + 1 + 1 + 1 + 1, oc1) :: (s1.heap.objs.size + 1 + 1 + 1 + 1, ocs) :: (s1.heap.objs.size + 1 + 1 + 1, ocf) :: (s1.heap.objs.size + 1 + 1, oct) :: (s1.heap.objs.size + 1, ocw) :: B3) ++ tlP) (k := idOf' (.leaf .U)) F5 N5 (fun p hp => ?_) ?hH (fun _ h => nomatch h) (fun _ h => nomatch h) (by simp) ?hQ
              · rcases List.mem_append.mp hp with h | h
                · exact Nat.ne_of_lt (lde p h)
                · exact Nat.ne_of_gt (O5 _ (List.mem_cons_self ..) p h)
              case hH =>
                have vin : ∀ p ∈ B3, p ∈ (de, dictOf [] 0) :: (((s1.heap.objs.size + 1 + 1 + 1 + 1 + 1, oc1) :: (s1.heap.objs.size + 1 + 1 + 1 + 1, ocs) :: (s1.heap.objs.size + 1 + 1 + 1, ocf) :: (s1.heap.objs.size + 1 + 1, oct) :: (s1.heap.objs.size + 1, ocw) :: B3) ++ tlP) := fun p hp => by k_mem
                obtain ⟨di, j6, j7, j8, j9, j10, j11, j12, y1', y2'⟩ := id z3'
                rintro _ E Q ⟨h, tk, rfl, F3, N3⟩ hQ
                refine hash_K (K := Mine.hd.heap_39 w.params) (C := 147) (f := 137) ((by (try simp only [units_under_make, units_in1, units_deeper, Around.mark_units, units_caller]); omega)) (KX.keeps F3.keep) (InstAt.of_news N3 (vin _ y1') (vin _ y2')) (by k_is) (by k_is) ?_
                refine wpAny_call ?_
                clear F5 N5
                k_dflt (refine' con_use (hash_con w _ _ _ (idOf' (.leaf .U)) (by simp [idOf'])) (B3) ?k1 ?k2 ?k3 ?k4 ?k5 ?kA ?kF ?kK ?kh ?kg ?kd ?ku ?kv ?pre ?_; (case k1 => k_asm); (case k2 => k_asm); (case k3 => k_asm); (case k4 => k_asm); (case k5 => k_asm); (case kA => first | exact Around.frames_deeper (Below.stack (by assumption)) | assumption); (case kF => exact rfl); (case kK => exact rfl); (case kh => first | exact hh | exact rfl | assumption); (case kg => first | exact hg | exact rfl | assumption); (case kd => ((try simp only [depth_under_make, depth_under_kw, depth_in1, depth_deeper, depth_caller]); omega)); (case ku => ((try simp only [units_under_make, units_in1, units_deeper, Around.mark_units, units_caller]); omega)))
                case kv => exact vin
                case pre => exact ⟨iD, rfl, z3'⟩
                rintro r tl h9 tk9 F9 N9 O9 ⟨t9, rfl⟩
                exact ⟨_, t9, rfl, by decide, by decide, hQ _ ⟨h9, tk9, rfl, F9, News.sub N9 fun p hp => List.mem_append_left _ hp⟩⟩
              case hQ =>
              intro h6 tk6 F6 N6
              obtain ⟨oE, hoE⟩ : ∃ o : Obj, o = dictOf ([] ++ [⟨idOf' (.leaf .U), .ref iD, rP⟩]) (0 + 1) := ⟨_, rfl⟩
              rw [← hoE] at N6
              obtain ⟨B4, hB4⟩ : ∃ b : Led, b = (de, oE) :: (B3 ++ tlP) := ⟨_, rfl⟩
              have N7 : News s1.heap s1.heap.objs.size h6 ((s1.heap.objs.size + 1 + 1 + 1 + 1 + 1, oc1) :: (s1.heap.objs.size + 1 + 1 + 1 + 1, ocs) :: (s1.heap.objs.size + 1 + 1 + 1, ocf) :: (s1.heap.objs.size + 1 + 1, oct) :: (s1.heap.objs.size + 1, ocw) :: B4) := fun p hp => N6 p (by
                rw [hB4] at hp
                simp only [List.mem_cons, List.mem_append, List.cons_append] at hp ⊢
                rcases hp with h | h | h | h | h | h | h | h <;> simp [h])
              have s34 : ∀ p ∈ B3, p ∈ B4 := fun p hp => by rw [hB4]; k_mem
              have DE : DictIn W B4 [(.U, c2)] de := by
                refine ⟨[⟨idOf' (.leaf .U), .ref iD, rP⟩], 1, by rw [hB4, hoE]; exact List.mem_cons_self .., ?_, lowe⟩
                simp only [EntIn]
                exact ⟨iD, rP, [], rfl, rfl, hid0.mono s34, P5.mono fun p hp => by
                  rw [hB4]
                  rcases List.mem_append.mp hp with h | h
                  · k_mem
                  · k_mem, rfl⟩
              replace a5 : ∀ p ∈ B4, p.1 ≠ s1.heap.objs.size + 1 + 1 + 1 + 1 + 1 := fun p hp => by
                rw [hB4] at hp
                rcases List.mem_cons.mp hp with h | h
                · rw [h]; exact Nat.ne_of_gt (lde (s1.heap.objs.size + 1 + 1 + 1 + 1 + 1, oc1) (List.mem_cons_self ..))
                rcases List.mem_append.mp h with h | h
                · exact a5 p h
                · exact Nat.ne_of_gt (O5 (s1.heap.objs.size + 1 + 1 + 1 + 1 + 1, oc1) (by k_mem) p h)
              replace mD := s34 _ mD
              replace md3 := s34 _ md3
              replace t5 : TreeIn B4 tree xt := t5.mono s34
              replace hWB : WIn W iA iB iC io B4 := hWB.mono s34
              replace hDB0 : DWIn w W B4 wd := hDB0.mono s34
              replace T1 := T1.mono s34
              replace TS := TS.mono s34
              replace told1 := told1.mono s34
              replace tU : TreeIn B4 c2 vU := tU.mono s34
              clear N6 hB4 hoE s34 F5 N5 Fe Ne P5 hid0 n1 n2 n3 n4 n5 z1' z2' z3'
              k_steps
              refine PyProof.Rows.item_list (items := #[y1, y2]) (x := y1) (News.isList (by with_reducible assumption) (show (D, PySem.W.listOf #[y1, y2] nD) ∈ _ by k_mem)) (by decide) (by decide) (by simp) ?_
              try dsimp only
              k_steps
              have hσ2 : ∀ a t, ([(.U, c2)] : List (Atom × Tree)).lookup a = some t → t.ht ≤ 1 ∧ t.sz ≤ 4 := fun a t e => ⟨(part_one pc a t e).h, (part_one pc a t e).z⟩
              have hq1 := Nat.lt_succ_of_le g1.h
              have hq2 : (exp [(.S, a1'), (.T, b1')] tree).sz * 4 + 2 ≤ big := by have := g1.z; have hb9 : big = 1000000 := rfl; omega
              rename News _ _ _ _ => N8
              k_dflt (refine' con_use (expand_con _ _ _ _ W iA iB iC io [(.U, c2)] (exp [(.S, a1'), (.T, b1')] tree) _ _ (exp_con _ _ _ _ W iA iB iC io [(.U, c2)] (by simp) 1 4 6 (by decide) hσ2 4 (exp [(.S, a1'), (.T, b1')] tree) hq1 (by decide) hq2)) (B4) ?k1 ?k2 ?k3 ?k4 ?k5 ?kA ?kF ?kK ?kh ?kg ?kd ?ku ?kv ?pre ?_; (case k1 => k_asm); (case k2 => k_asm); (case k3 => k_asm); (case k4 => k_asm); (case k5 => k_asm); (case kA => first | exact Around.frames_deeper (Below.stack (by assumption)) | assumption); (case kF => exact rfl); (case kK => exact rfl); (case kh => first | exact hh | exact rfl | assumption); (case kg => first | exact hg | exact rfl | assumption); (case kd => ((try simp only [depth_under_make, depth_under_kw, depth_in1, depth_deeper, depth_caller]); omega)); (case ku => ((try simp only [units_under_make, units_in1, units_deeper, Around.mark_units, units_caller]); omega)))
              case kv => intro p hp; k_mem
              case pre => exact ⟨(sv_of N8).sub fun p hp => by k_mem, hWB, y1, de, rfl, told1, DE⟩
              intro rW tlW h8 tk8 F8 N9 O8 P8
              try dsimp only
              k_steps
              rename_i h10 F10 N10
              obtain ⟨B5, hB5⟩ : ∃ b : Led, b = B4 ++ tlW := ⟨_, rfl⟩
              have N11 : News s1.heap s1.heap.objs.size h10 ((s1.heap.objs.size + 1 + 1 + 1 + 1 + 1, oc1) :: (s1.heap.objs.size + 1 + 1 + 1 + 1, ocs) :: (s1.heap.objs.size + 1 + 1 + 1, ocf) :: (s1.heap.objs.size + 1 + 1, oct) :: (s1.heap.objs.size + 1, ocw) :: B5) := by rw [hB5]; exact N10
              have s45 : ∀ p ∈ B4, p ∈ B5 := fun p hp => by rw [hB5]; k_mem
              have twice : TypIn W B5 (exp [(.U, c2)] (exp [(.S, a1'), (.T, b1')] tree)) rW := by rw [hB5]; exact P8
              replace a5 : ∀ p ∈ B5, p.1 ≠ s1.heap.objs.size + 1 + 1 + 1 + 1 + 1 := fun p hp => by
                rw [hB5] at hp
                rcases List.mem_append.mp hp with h | h
                · exact a5 p h
                · exact Nat.ne_of_gt (O8 (s1.heap.objs.size + 1 + 1 + 1 + 1 + 1, oc1) (by k_mem) p h)
              replace md3 := s45 _ md3
              replace t5 : TreeIn B5 tree xt := t5.mono s45
              replace hWB : WIn W iA iB iC io B5 := hWB.mono s45
              replace hDB0 : DWIn w W B5 wd := hDB0.mono s45
              replace T1 := T1.mono s45
              replace TS := TS.mono s45
              replace tU : TreeIn B5 c2 vU := tU.mono s45
              clear N10 P8 hB5 s45 DE told1 mD
              obtain ⟨oT, kvs, m1, m2, m3, m4⟩ := id T1
              refine DictComp_led (hclos := by rfl) rfl (by decide) ?_
              k_steps
              refine comp_dict (knd := PySem.strKind PySem.Challenge.rw_ft0017_01.row.prog w) rfl F10 N11 (show (td1, oT) ∈ _ by k_mem) m2 m3 (fun led vs oD => JoinSt w B5 ((s1.heap.objs.size + 1 + 1 + 1 + 1 + 1, oc1) :: (s1.heap.objs.size + 1 + 1 + 1 + 1, ocs) :: (s1.heap.objs.size + 1 + 1 + 1, ocf) :: (s1.heap.objs.size + 1 + 1, oct) :: (s1.heap.objs.size + 1, ocw) :: B5) ([(.S, a1'), (.T, b1')].map fun p => (p.1, exp [(.U, c2)] p.2)) vs.length led oD) (by decide) rfl rfl JoinSt.nil ?turn ?_
              case turn =>
                intro vs v D C2 mC tl2 oD own2 h4 tk4 E4 hP hlt hPs hH F4 N4 O4 hn4 hm4 hC4 hD4
                obtain ⟨k0, x0, hk0, hv0⟩ := hP
                obtain ⟨a, t, hat, rfl, hx0⟩ := m4.get hk0
                obtain ⟨tkv, rfl⟩ := Value.isStrOf_shape (show Value.isStrOf _ v = true from hv0)
                have hnd : (([(.S, a1'), (.T, b1')] : List (Atom × Tree)).map (·.1)).Nodup := by simp
                have pt := ok1.part (look_at hnd hat)
                have hl := m4.look a
                rw [look_at hnd hat] at hl
                obtain ⟨x1, ex1, tx1⟩ := hl
                k_steps
                refine kda_item (knd := PySem.strKind PySem.Challenge.rw_ft0017_01.row.prog w) (k := a.nm) N4 (show (td1, oT) ∈ _ by k_mem) m2 (strKind_is _ _ _ _) ex1 ?_
                try dsimp only
                k_steps
                k_dflt (refine' con_use (repl_con _ _ _ _ [(.U, c2)] 1 4 3 1 (by decide) (by decide) (by decide) (fun b u e => ⟨(part_one pc b u e).n, (part_one pc b u e).h, (part_one pc b u e).z, (part_one pc b u e).l⟩) 2 t (Nat.lt_succ_of_le pt.h) (by decide) (Nat.le_trans (Nat.mul_le_mul_right 4 pt.z) (by decide)) pt.c) (B5) ?k1 ?k2 ?k3 ?k4 ?k5 ?kA ?kF ?kK ?kh ?kg ?kd ?ku ?kv ?pre ?_; (case k1 => k_asm); (case k2 => k_asm); (case k3 => k_asm); (case k4 => k_asm); (case k5 => k_asm); (case kA => first | exact Around.frames_deeper (Below.stack (by assumption)) | assumption); (case kF => exact rfl); (case kK => exact rfl); (case kh => first | exact hh | exact rfl | assumption); (case kg => first | exact hg | exact rfl | assumption); (case kd => ((try simp only [depth_under_make, depth_under_kw, depth_in1, depth_deeper, depth_caller]); omega)); (case ku => ((try simp only [units_under_make, units_in1, units_deeper, Around.mark_units, units_caller]); omega)))
                case kv => intro p hp; k_mem
                case pre => exact ⟨x1, d3, rfl, tx1, TS.tbl⟩
                intro rP tlP h5 tk5 F5 N5 O5 P5
                try dsimp only
                k_steps
                obtain ⟨kvj, l2, j1, j2, hl2⟩ := hH.ex
                have hz : kvj.length ≤ 2 := by rw [j2.len, List.length_take]; exact Nat.min_le_right _ _
                have hat2 := map_get (f := exp [(.U, c2)]) hat
                have hfr := take_fresh (show ((([(.S, a1'), (.T, b1')] : List (Atom × Tree)).map fun p => (p.1, exp [(.U, c2)] p.2)).map (·.1)).Nodup by simp) hat2
                refine dictSet_kv (rest := (own2 ++ ((s1.heap.objs.size + 1 + 1 + 1 + 1 + 1, oc1) :: (s1.heap.objs.size + 1 + 1 + 1 + 1, ocs) :: (s1.heap.objs.size + 1 + 1 + 1, ocf) :: (s1.heap.objs.size + 1 + 1, oct) :: (s1.heap.objs.size + 1, ocw) :: B5 ++ tl2)) ++ tlP) F5 N5 (fun p hp => ?_) j1 (strKind_is _ _ _ _) (by have := sizeLine_eq; omega) ?_
                · rcases List.mem_append.mp hp with h | h
                  · exact hD4 p h
                  · exact Nat.ne_of_gt (O5 _ (List.mem_cons_self ..) p h)
                intro h' o' F' N' hd'
                rw [j2.fresh hfr] at hd'
                refine ⟨tlP, o', h', _, rfl, F', N', O5, ⟨⟨_, l2 ++ tlP, hd', ?_, fun p hp => ?_⟩⟩⟩
                · rw [List.length_append, List.length_singleton, List.take_add_one, hat2]
                  exact KvIn.snoc (j2.mono fun p hp => by
                    rcases List.mem_append.mp hp with h | h
                    · exact List.mem_append_left _ h
                    · exact List.mem_append_right _ (List.mem_append_left _ h)) (P5.mono fun p hp => by
                    rcases List.mem_append.mp hp with h | h
                    · exact List.mem_append_left _ h
                    · exact List.mem_append_right _ (List.mem_append_right _ h))
                · rcases List.mem_append.mp hp with h | h
                  · exact ⟨List.mem_append_left _ (hl2 p h).1, (hl2 p h).2⟩
                  · exact ⟨List.mem_append_right _ h, fun q hq => O5 q (List.mem_cons_of_mem _ (List.mem_append_right _ (List.mem_append_left _ hq))) p h⟩
              intro D oD h4 tk4 vs tl2 DD
              obtain ⟨F4, N4, O4, off4, P4, lenv4, H4⟩ := DD
              obtain ⟨kvj, l2, j1, j2, hl2⟩ := H4.ex
              rw [lenv4, m4.len] at j2
              have hl2' := mem_new hl2
              obtain ⟨B6, hB6⟩ : ∃ b : Led, b = B5 ++ tl2 := ⟨_, rfl⟩
              have N6 : News s1.heap s1.heap.objs.size h4 ((D, oD) :: (s1.heap.objs.size + 1 + 1 + 1 + 1 + 1, oc1) :: (s1.heap.objs.size + 1 + 1 + 1 + 1, ocs) :: (s1.heap.objs.size + 1 + 1 + 1, ocf) :: (s1.heap.objs.size + 1 + 1, oct) :: (s1.heap.objs.size + 1, ocw) :: B6) := by rw [hB6]; exact N4
              have s56 : ∀ p ∈ B5, p ∈ B6 := fun p hp => by rw [hB6]; k_mem
              have KJ : KvIn B6 [(.S, exp [(.U, c2)] a1'), (.T, exp [(.U, c2)] b1')] kvj := KvIn.mono (fun p hp => by
                rw [hB6]
                rcases List.mem_append.mp hp with h | h
                · k_mem
                · have := hl2' p h; k_mem) j2
              have hsm : sysModules < s1.heap.objs.size := modules_low (topRead_of T).nolimit
              have hDc : s1.heap.objs.size + 1 + 1 + 1 + 1 + 1 < D := ltN (O4 (s1.heap.objs.size + 1 + 1 + 1 + 1 + 1, oc1) (by k_mem) _ (List.mem_cons_self ..))
              have lowD : (D == sysModules) = false := beq_false_of_ne (Nat.ne_of_gt (Nat.lt_trans (Nat.lt_succ_of_lt hsm) (ltN (show s1.heap.objs.size + 1 < D by omega))))
              have bD : ∀ p ∈ B6, p.1 ≠ D := fun p hp => by
                rw [hB6] at hp
                rcases List.mem_append.mp hp with h | h
                · exact Nat.ne_of_lt (O4 p (by k_mem) _ (List.mem_cons_self ..))
                · exact Nat.ne_of_gt (off4 p h)
              replace a5 : ∀ p ∈ B6, p.1 ≠ s1.heap.objs.size + 1 + 1 + 1 + 1 + 1 := fun p hp => by
                rw [hB6] at hp
                rcases List.mem_append.mp hp with h | h
                · exact a5 p h
                · exact Nat.ne_of_gt (Nat.lt_trans hDc (off4 p h))
              replace md3 := s56 _ md3
              replace t5 : TreeIn B6 tree xt := t5.mono s56
              replace hWB : WIn W iA iB iC io B6 := hWB.mono s56
              replace hDB0 : DWIn w W B6 wd := hDB0.mono s56
              replace T1 := T1.mono s56
              replace TS := TS.mono s56
              replace tU : TreeIn B6 c2 vU := tU.mono s56
              replace twice := twice.mono s56
              clear N4 N11 F10 hB6 s56 j2 hl2 hl2' off4 P4 O4 H4 m1 m2 m3 m4
              have hDc2 : s1.heap.objs.size + 1 + 1 + 1 + 1 + 1 < D ∧ s1.heap.objs.size + 1 + 1 + 1 + 1 < D ∧ s1.heap.objs.size + 1 + 1 + 1 < D ∧ s1.heap.objs.size + 1 + 1 < D ∧ s1.heap.objs.size + 1 < D := ⟨hDc, by omega, by omega, by omega, by omega⟩
              k_steps
              rename_i hx oj F7 N7 dj
              refine kda_item (knd := PySem.strKind PySem.Challenge.rw_ft0017_01.row.prog w) (k := Atom.nm .U) N7 (show (d3, od4) ∈ _ by k_mem) hd4 (by simp [PySem.strKind, Value.isStrOf, Atom.nm]) eU3 ?_
              try dsimp only
              k_steps
              have hoff : ∀ p ∈ (s1.heap.objs.size + 1 + 1 + 1 + 1 + 1, oj) :: (s1.heap.objs.size + 1 + 1 + 1 + 1, ocs) :: (s1.heap.objs.size + 1 + 1 + 1, ocf) :: (s1.heap.objs.size + 1 + 1, oct) :: (s1.heap.objs.size + 1, ocw) :: B6, p.1 ≠ D := fun p hp => by
                rcases List.mem_cons.mp hp with h | hp
                · rw [h]; exact Nat.ne_of_lt hDc2.1
                rcases List.mem_cons.mp hp with h | hp
                · rw [h]; exact Nat.ne_of_lt hDc2.2.1
                rcases List.mem_cons.mp hp with h | hp
                · rw [h]; exact Nat.ne_of_lt hDc2.2.2.1
                rcases List.mem_cons.mp hp with h | hp
                · rw [h]; exact Nat.ne_of_lt hDc2.2.2.2.1
                rcases List.mem_cons.mp hp with h | hp
                · rw [h]; exact Nat.ne_of_lt hDc2.2.2.2.2
                · exact bD p hp
              have hz : kvj.length = 2 := KJ.len
              refine kda_set (knd := PySem.strKind PySem.Challenge.rw_ft0017_01.row.prog w) (k := Atom.nm .U) F7 N7 (UpdF.head hoff) j1 (by simp [PySem.strKind, Value.isStrOf, Atom.nm]) (by have := sizeLine_eq; omega) ?_
              intro h8 oD2 F8 N8 hd8
              rw [KJ.fresh (by simp) vU] at hd8
              obtain ⟨B7, hB7⟩ : ∃ b : Led, b = (D, oD2) :: B6 := ⟨_, rfl⟩
              have N9 : News s1.heap s1.heap.objs.size h8 ((s1.heap.objs.size + 1 + 1 + 1 + 1 + 1, oj) :: (s1.heap.objs.size + 1 + 1 + 1 + 1, ocs) :: (s1.heap.objs.size + 1 + 1 + 1, ocf) :: (s1.heap.objs.size + 1 + 1, oct) :: (s1.heap.objs.size + 1, ocw) :: B7) := fun p hp => N8 p (by
                rw [hB7] at hp
                simp only [List.mem_cons] at hp ⊢
                rcases hp with h | h | h | h | h | h | h <;> simp [h])
              have s67 : ∀ p ∈ B6, p ∈ B7 := fun p hp => by rw [hB7]; k_mem
              obtain ⟨σ3, hσ3⟩ : ∃ s : List (Atom × Tree), s = [(.S, exp [(.U, c2)] a1'), (.T, exp [(.U, c2)] b1'), (.U, c2)] := ⟨_, rfl⟩
              have TJ : TabIn w B7 σ3 D := ⟨oD2, _, by rw [hB7]; exact List.mem_cons_self .., hd8, lowD, by rw [hσ3]; exact KvIn.snoc (KJ.mono s67) (tU.mono s67)⟩
              have pa := ok1.part (show List.lookup Atom.S [(.S, a1'), (.T, b1')] = some a1' from rfl)
              have pb := ok1.part (show List.lookup Atom.T [(.S, a1'), (.T, b1')] = some b1' from rfl)
              have hok3 : ∀ a u, σ3.lookup a = some u → Part2 u := fun a u e => by
                have := lookup_of e
                rw [hσ3] at this
                simp only [List.mem_cons, Prod.mk.injEq, List.not_mem_nil, or_false] at this
                rcases this with ⟨_, rfl⟩ | ⟨_, rfl⟩ | ⟨_, rfl⟩
                · exact Part2.of pa (part_one pc)
                · exact Part2.of pb (part_one pc)
                · exact pc.two
              have hnd3 : (σ3.map (·.1)).Nodup := by rw [hσ3]; simp
              have hvar3 : ∀ p ∈ σ3, isVar p.1 = true := by rw [hσ3]; simp [isVar]
              have hlen3 : σ3.length ≤ 3 := by rw [hσ3]; simp
              replace t5 : TreeIn B7 tree xt := t5.mono s67
              replace hWB : WIn W iA iB iC io B7 := hWB.mono s67
              replace hDB0 : DWIn w W B7 wd := hDB0.mono s67
              replace T1 := T1.mono s67
              replace TS := TS.mono s67
              replace twice := twice.mono s67
              clear N8 N7 F7 hB7 s67 hoff bD a5 j1 tU KJ
              k_steps
              k_dflt (refine' con_use (made_con _ _ _ _ W iA iB iC io 4 3 tree (Nat.lt_succ_of_le t6.1) (by decide) (Nat.le_trans t6.2.2.2.1 (by decide))) (B7) ?k1 ?k2 ?k3 ?k4 ?k5 ?kA ?kF ?kK ?kh ?kg ?kd ?ku ?kv ?pre ?_; (case k1 => k_asm); (case k2 => k_asm); (case k3 => k_asm); (case k4 => k_asm); (case k5 => k_asm); (case kA => first | exact Around.frames_deeper (Below.stack (by assumption)) | assumption); (case kF => exact rfl); (case kK => exact rfl); (case kh => first | exact hh | exact rfl | assumption); (case kg => first | exact hg | exact rfl | assumption); (case kd => ((try simp only [depth_under_make, depth_under_kw, depth_in1, depth_deeper, depth_caller]); omega)); (case ku => ((try simp only [units_under_make, units_in1, units_deeper, Around.mark_units, units_caller]); omega)))
              case kv => intro p hp; k_mem
              case pre => exact ⟨hWB, xt, wd, rfl, t5, hDB0⟩
              intro rM tlM h3 tk3 F3 N3 O3 P3
              try dsimp only
              k_steps
              obtain ⟨oT, kvs, m1, m2, m3, m4⟩ := id TJ
              refine DictComp_led (hclos := by rfl) rfl (by decide) ?_
              k_steps
              refine comp_dict (knd := PySem.strKind PySem.Challenge.rw_ft0017_01.row.prog w) rfl F3 N3 (show (D, oT) ∈ _ by k_mem) m2 m3 (fun led vs oD => EntSt W B7 (((s1.heap.objs.size + 1 + 1 + 1 + 1 + 1, oj) :: (s1.heap.objs.size + 1 + 1 + 1 + 1, ocs) :: (s1.heap.objs.size + 1 + 1 + 1, ocf) :: (s1.heap.objs.size + 1 + 1, oct) :: (s1.heap.objs.size + 1, ocw) :: B7) ++ tlM) σ3 vs.length led oD) (by decide) rfl rfl EntSt.nil ?turn ?_
              case turn =>
                intro vs v De C2 mC tl2 oE own2 h4 tk4 E4 hP hlt hPs hH F4 N4 O4 hn4 hm4 hC4 hD4
                obtain ⟨k0, x0, hk0, hv0⟩ := hP
                obtain ⟨a, t, hat, rfl, hx0⟩ := m4.get hk0
                obtain ⟨tkv, rfl⟩ := Value.isStrOf_shape (show Value.isStrOf _ v = true from hv0)
                have ha : isVar a = true := hvar3 _ (List.mem_of_getElem? hat)
                have pt := hok3 a t (look_at hnd3 hat)
                have hl := m4.look a
                rw [look_at hnd3 hat] at hl
                obtain ⟨x1, ex1, tx1⟩ := hl
                have hDB := hDB0
                obtain ⟨ow0, kvw, n1, n2, n3, n4, n5⟩ := hDB
                obtain ⟨vw, ew, tw⟩ := n4 a
                obtain ⟨iD, hid⟩ := id_at hWB ha
                have hid0 := hid
                obtain ⟨dI, g1, g2, g3, g4, g5, u1', u2', u3', u4', u5', u6', u7', lI, nI, z1, z2, z3⟩ := hid
                have hvw : vw = .ref (W.at_ a) := by
                  cases a <;> simp only [isVar, Bool.false_eq_true] at ha <;> simpa only [TypIn] using tw
                subst hvw
                k_steps
                refine kda_item (knd := PySem.strKind PySem.Challenge.rw_ft0017_01.row.prog w) (k := a.nm) N4 (show (wd, ow0) ∈ _ by k_mem) n2 (strKind_is _ _ _ _) ew ?_
                try dsimp only
                k_steps
                refine kda_item (knd := PySem.strKind PySem.Challenge.rw_ft0017_01.row.prog w) (k := a.nm) N4 (show (D, oT) ∈ _ by k_mem) m2 (strKind_is _ _ _ _) ex1 ?_
                try dsimp only
                k_steps
                k_dflt (refine' con_use (made_con _ _ _ _ W iA iB iC io 4 3 t (Nat.lt_succ_of_le pt.h) (by decide) (Nat.le_trans pt.z (by decide))) (B7) ?k1 ?k2 ?k3 ?k4 ?k5 ?kA ?kF ?kK ?kh ?kg ?kd ?ku ?kv ?pre ?_; (case k1 => k_asm); (case k2 => k_asm); (case k3 => k_asm); (case k4 => k_asm); (case k5 => k_asm); (case kA => first | exact Around.frames_deeper (Below.stack (by assumption)) | assumption); (case kF => exact rfl); (case kK => exact rfl); (case kh => first | exact hh | exact rfl | assumption); (case kg => first | exact hg | exact rfl | assumption); (case kd => ((try simp only [depth_under_make, depth_under_kw, depth_in1, depth_deeper, depth_caller]); omega)); (case ku => ((try simp only [units_under_make, units_in1, units_deeper, Around.mark_units, units_caller]); omega)))
                case kv => intro p hp; k_mem
                case pre => exact ⟨hWB, x1, wd, rfl, tx1, hDB0⟩
                intro rP tlP h5 tk5 F5 N5 O5 P5
                rw [mk_nrm pt.n] at P5
                try dsimp only
                k_steps
                obtain ⟨es, ep, l2, rfl, hEs, hl2⟩ := hH.ex
                have e4 : (σ3.take vs.length).length ≤ 3 := Nat.le_trans (by rw [List.length_take]; exact Nat.min_le_right _ _) hlen3
                refine dictSet_own (rest := (own2 ++ (((s1.heap.objs.size + 1 + 1 + 1 + 1 + 1, oj) :: (s1.heap.objs.size + 1 + 1 + 1 + 1, ocs) :: (s1.heap.objs.size + 1 + 1 + 1, ocf) :: (s1.heap.objs.size + 1 + 1, oct) :: (s1.heap.objs.size + 1, ocw) :: B7) ++ tlM ++ tl2)) ++ tlP) (k := idOf' (.leaf a)) F5 N5 (fun p hp => ?_) ?hH ?hno ?hne (by rw [hEs.len]; have := sizeLine_eq; omega) ?hQ
                · rcases List.mem_append.mp hp with h | h
                  · exact hD4 p h
                  · exact Nat.ne_of_gt (O5 _ (List.mem_cons_self ..) p h)
                case hH =>
                  have vin : ∀ p ∈ B7, p ∈ (De, dictOf es ep) :: ((own2 ++ (((s1.heap.objs.size + 1 + 1 + 1 + 1 + 1, oj) :: (s1.heap.objs.size + 1 + 1 + 1 + 1, ocs) :: (s1.heap.objs.size + 1 + 1 + 1, ocf) :: (s1.heap.objs.size + 1 + 1, oct) :: (s1.heap.objs.size + 1, ocw) :: B7) ++ tlM ++ tl2)) ++ tlP) := fun p hp => by k_mem
                  obtain ⟨di, j6, j7, j8, j9, j10, j11, j12, y1, y2⟩ := id z3
                  rintro _ E Q ⟨h, tk, rfl, F3, N3⟩ hQ
                  refine hash_K (K := Mine.hd.heap_39 w.params) (C := 147) (f := 137) ((by (try simp only [units_under_make, units_in1, units_deeper, Around.mark_units, units_caller]); omega)) (KX.keeps F3.keep) (InstAt.of_news N3 (vin _ y1) (vin _ y2)) (by k_is) (by k_is) ?_
                  refine wpAny_call ?_
                  have h3 : idOf' (.leaf a) = 1 ∨ idOf' (.leaf a) = 2 ∨ idOf' (.leaf a) = 3 := by cases a <;> simp only [isVar, Bool.false_eq_true] at ha <;> simp [idOf']
                  clear F5 N5
                  k_dflt (refine' con_use (hash_con w _ _ _ (idOf' (.leaf a)) h3) (B7) ?k1 ?k2 ?k3 ?k4 ?k5 ?kA ?kF ?kK ?kh ?kg ?kd ?ku ?kv ?pre ?_; (case k1 => k_asm); (case k2 => k_asm); (case k3 => k_asm); (case k4 => k_asm); (case k5 => k_asm); (case kA => first | exact Around.frames_deeper (Below.stack (by assumption)) | assumption); (case kF => exact rfl); (case kK => exact rfl); (case kh => first | exact hh | exact rfl | assumption); (case kg => first | exact hg | exact rfl | assumption); (case kd => ((try simp only [depth_under_make, depth_under_kw, depth_in1, depth_deeper, depth_caller]); omega)); (case ku => ((try simp only [units_under_make, units_in1, units_deeper, Around.mark_units, units_caller]); omega)))
                  case kv => exact vin
                  case pre => exact ⟨iD, rfl, z3⟩
                  rintro r tl h9 tk9 F9 N9 O9 ⟨t9, rfl⟩
                  exact ⟨_, t9, rfl, by rcases h3 with h | h | h <;> rw [h] <;> decide, by rcases h3 with h | h | h <;> rw [h] <;> decide, hQ _ ⟨h9, tk9, rfl, F9, News.sub N9 fun p hp => List.mem_append_left _ hp⟩⟩
                case hno => exact (EntIn.fresh ((sv_of N5).sub fun p hp => by
                  rcases List.mem_append.mp hp with h | h
                  · k_mem
                  · have := (hl2 p h).1; k_mem) hEs ha (hid0.mono fun p hp => List.mem_append_left _ hp) (take_fresh hnd3 hat)).1
                case hne => exact (EntIn.fresh ((sv_of N5).sub fun p hp => by
                  rcases List.mem_append.mp hp with h | h
                  · k_mem
                  · have := (hl2 p h).1; k_mem) hEs ha (hid0.mono fun p hp => List.mem_append_left _ hp) (take_fresh hnd3 hat)).2
                case hQ =>
                  intro h' tk' F' N'
                  refine ⟨tlP, _, h', tk', rfl, F', N', O5, ⟨⟨_, _, l2 ++ tlP, rfl, ?_, fun p hp => ?_⟩⟩⟩
                  · rw [List.length_append, List.length_singleton, List.take_add_one, hat]
                    exact EntIn.snoc ha (hid0.mono fun p hp => List.mem_append_left _ hp) (P5.mono fun p hp => by
                      rcases List.mem_append.mp hp with h | h
                      · exact List.mem_append_left _ h
                      · exact List.mem_append_right _ (List.mem_append_right _ h)) (hEs.mono fun p hp => by
                      rcases List.mem_append.mp hp with h | h
                      · exact List.mem_append_left _ h
                      · exact List.mem_append_right _ (List.mem_append_left _ h))
                  · rcases List.mem_append.mp hp with h | h
                    · exact ⟨List.mem_append_left _ (hl2 p h).1, (hl2 p h).2⟩
                    · exact ⟨List.mem_append_right _ h, fun q hq => O5 q (List.mem_cons_of_mem _ (List.mem_append_right _ (List.mem_append_left _ hq))) p h⟩
              · intro De oE h4 tk4 vs tl2 DD
                clear F3 N3
                obtain ⟨F4, N4, O4, off4, P4, lenv4, H4⟩ := DD
                obtain ⟨es, ep, l2, rfl, hEs, hl2⟩ := H4.ex
                rw [lenv4, m4.len, List.take_length] at hEs
                have hsm : sysModules < s1.heap.objs.size := modules_low (topRead_of T).nolimit
                have hD1 : (De == sysModules) = false := beq_false_of_ne (Nat.ne_of_gt (Nat.lt_trans (Nat.lt_succ_of_lt hsm) (O4 (s1.heap.objs.size + 1, ocw) (by k_mem) _ (List.mem_cons_self ..))))
                have vin : ∀ p ∈ (De, dictOf es ep) :: (B7 ++ (tlM ++ l2)), p ∈ (De, dictOf es ep) :: ((((s1.heap.objs.size + 1 + 1 + 1 + 1 + 1, oj) :: (s1.heap.objs.size + 1 + 1 + 1 + 1, ocs) :: (s1.heap.objs.size + 1 + 1 + 1, ocf) :: (s1.heap.objs.size + 1 + 1, oct) :: (s1.heap.objs.size + 1, ocw) :: B7) ++ tlM) ++ tl2) := fun p hp => by
                  rcases List.mem_cons.mp hp with h | hp
                  · rw [h]; k_mem
                  rcases List.mem_append.mp hp with h | hp
                  · k_mem
                  rcases List.mem_append.mp hp with h | hp
                  · k_mem
                  · exact List.mem_cons_of_mem _ (hl2 p hp).1
                have hσp : ∀ a t, σ3.lookup a = some t → t.ht ≤ 2 ∧ t.sz ≤ 16 := fun a t e => ⟨(hok3 a t e).h, (hok3 a t e).z⟩
                have mkb := mk_b tree
                have h2 : (4 : Nat) ^ 2 = 16 := rfl
                have hb9 : big = 1000000 := rfl
                have t61 := t6.1
                have t64 := t6.2.2.2.1
                have hq1 : (mk tree).ht < 3 := by omega
                have hq2 : (mk tree).sz * 16 + 2 ≤ big := by omega
                k_steps
                k_dflt (refine' con_use (expand_con _ _ _ _ W iA iB iC io σ3 (mk tree) _ _ (exp_con _ _ _ _ W iA iB iC io σ3 hnd3 2 16 6 (by decide) hσp 3 (mk tree) hq1 (by decide) hq2)) ((De, dictOf es ep) :: (B7 ++ (tlM ++ l2))) ?k1 ?k2 ?k3 ?k4 ?k5 ?kA ?kF ?kK ?kh ?kg ?kd ?ku ?kv ?pre ?_; (case k1 => k_asm); (case k2 => k_asm); (case k3 => k_asm); (case k4 => k_asm); (case k5 => k_asm); (case kA => first | exact Around.frames_deeper (Below.stack (by assumption)) | assumption); (case kF => exact rfl); (case kK => exact rfl); (case kh => first | exact hh | exact rfl | assumption); (case kg => first | exact hg | exact rfl | assumption); (case kd => ((try simp only [depth_under_make, depth_under_kw, depth_in1, depth_deeper, depth_caller]); omega)); (case ku => ((try simp only [units_under_make, units_in1, units_deeper, Around.mark_units, units_caller]); omega)))
                case kv => exact vin
                case pre => exact ⟨(sv_of N4).sub vin, hWB.mono fun p hp => by k_mem, _, De, rfl, P3.mono fun p hp => by
                  rcases List.mem_append.mp hp with h | h
                  · k_mem
                  · k_mem, es, ep, List.mem_cons_self .., hEs.mono fun p hp => by
                  rcases List.mem_append.mp hp with h | h
                  · k_mem
                  · k_mem, hD1⟩
                intro r tlE h5 tk5 F5 N5 O5 P5
                have P6 : TypIn W ((De, dictOf es ep) :: (B7 ++ (tlM ++ l2)) ++ tlE) (exp σ3 (mk tree)) r := P5
                rw [exp_mk] at P6
                try dsimp only
                k_steps
                rename_i h9 F9 N9
                obtain ⟨B8, hB8⟩ : ∃ b : Led, b = (De, dictOf es ep) :: (B7 ++ (tlM ++ (tl2 ++ tlE))) := ⟨_, rfl⟩
                have N10 : News s1.heap s1.heap.objs.size h9 ((s1.heap.objs.size + 1 + 1 + 1 + 1 + 1, oj) :: (s1.heap.objs.size + 1 + 1 + 1 + 1, ocs) :: (s1.heap.objs.size + 1 + 1 + 1, ocf) :: (s1.heap.objs.size + 1 + 1, oct) :: (s1.heap.objs.size + 1, ocw) :: B8) := fun p hp => N9 p (by
                  rw [hB8] at hp
                  simp only [List.mem_cons, List.mem_append, List.cons_append] at hp ⊢
                  rcases hp with h | h | h | h | h | h | h | h | h | h <;> simp [h])
                have s78 : ∀ p ∈ B7, p ∈ B8 := fun p hp => by rw [hB8]; k_mem
                have hl2' := mem_new hl2
                have once : TypIn W B8 (exp σ3 tree) r := P6.mono fun p hp => by
                  rw [hB8]
                  rcases List.mem_append.mp hp with h | h
                  · rcases List.mem_cons.mp h with h | h
                    · rw [h]; k_mem
                    rcases List.mem_append.mp h with h | h
                    · k_mem
                    rcases List.mem_append.mp h with h | h
                    · k_mem
                    · have := hl2' p h; k_mem
                  · k_mem
                replace t5 : TreeIn B8 tree xt := t5.mono s78
                replace hWB : WIn W iA iB iC io B8 := hWB.mono s78
                replace hDB0 : DWIn w W B8 wd := hDB0.mono s78
                replace T1 := T1.mono s78
                replace TS := TS.mono s78
                replace twice := twice.mono s78
                clear N9 hB8 s78 hl2' hl2 P6 P5 vin O4 off4 P4 lenv4 H4 hEs P3 O3 O5 m1 m2 m3 m4 TJ
                have hteq : teq (exp [(.U, c2)] (exp [(.S, a1'), (.T, b1')] tree)) (exp σ3 tree) = true := by rw [hσ3]; exact joined_eq pa pb pc tree
                have b4 := exp_bound [(.U, c2)] 1 4 (by decide) (fun a t e => ⟨(part_one pc a t e).h, (part_one pc a t e).z⟩) (exp [(.S, a1'), (.T, b1')] tree)
                have b5 := exp_bound σ3 2 16 (by decide) (fun a t e => ⟨(hok3 a t e).h, (hok3 a t e).z⟩) tree
                have ok4 := ok_exp (σ := [(.U, c2)]) (fun a t e => (part_one pc a t e).o) (exp [(.S, a1'), (.T, b1')] tree) g1.o
                have e1 := g1.h
                have e2 := g1.z
                have q1 : (exp [(.U, c2)] (exp [(.S, a1'), (.T, b1')] tree)).ht < 5 := by omega
                have q2 : (exp σ3 tree).ht < 5 := by omega
                have q3 : (exp [(.U, c2)] (exp [(.S, a1'), (.T, b1')] tree)).sz ≤ big := by omega
                have q4 : (exp σ3 tree).sz ≤ big := by omega
                k_dflt (refine' rc_use (rc_con _ _ _ _ W iA iB iC io 5 (exp [(.U, c2)] (exp [(.S, a1'), (.T, b1')] tree)) (exp σ3 tree) q1 q2 q3 q4) B8 ?k1 ?k2 ?k3 ?k4 ?k5 ?kA ?kF ?kK ?kh ?kg ?kd ?ku ?kv hWB twice once ?_; (case k1 => k_asm); (case k2 => k_asm); (case k3 => k_asm); (case k4 => k_asm); (case k5 => k_asm); (case kA => first | exact Around.frames_deeper (Below.stack (by assumption)) | assumption); (case kF => exact rfl); (case kK => exact rfl); (case kh => first | exact hh | exact rfl | assumption); (case kg => first | exact hg | exact rfl | assumption); (case kd => ((try simp only [depth_under_make, depth_under_kw, depth_in1, depth_deeper, depth_caller]); omega)); (case ku => ((try simp only [units_under_make, units_in1, units_deeper, Around.mark_units, units_caller]); omega)))
                case kv => intro p hp; k_mem
                intro h11 tk11 F11 N11
                rw [hteq]
                clear F9 N10
                try dsimp only
                k_steps
                k_dflt (refine' con_use (shown_con _ _ _ _ W iA iB iC io 5 (exp [(.U, c2)] (exp [(.S, a1'), (.T, b1')] tree)) q1 q3 ok4) (B8) ?k1 ?k2 ?k3 ?k4 ?k5 ?kA ?kF ?kK ?kh ?kg ?kd ?ku ?kv ?pre ?_; (case k1 => k_asm); (case k2 => k_asm); (case k3 => k_asm); (case k4 => k_asm); (case k5 => k_asm); (case kA => first | exact Around.frames_deeper (Below.stack (by assumption)) | assumption); (case kF => exact rfl); (case kK => exact rfl); (case kh => first | exact hh | exact rfl | assumption); (case kg => first | exact hg | exact rfl | assumption); (case kd => ((try simp only [depth_under_make, depth_under_kw, depth_in1, depth_deeper, depth_caller]); omega)); (case ku => ((try simp only [units_under_make, units_in1, units_deeper, Around.mark_units, units_caller]); omega)))
                case kv => intro p hp; k_mem
                case pre => exact ⟨hWB, rW, wd, rfl, twice, hDB0⟩
                intro rS tlS h12 tk12 F12 N12 O12 P12
                try dsimp only
                k_steps
                k_dflt (refine' con_use (repl_con _ _ _ _ [(.S, a1'), (.T, b1')] 1 4 3 3 (by decide) (by decide) (by decide) (fun a u e => ⟨(ok1.part e).n, (ok1.part e).h, (ok1.part e).z, (ok1.part e).l⟩) 3 tree (Nat.lt_succ_of_le t6.1) (by decide) (Nat.le_trans (Nat.mul_le_mul_right 4 t6.2.2.2.1) (by decide)) t6.2.2.2.2) (B8) ?k1 ?k2 ?k3 ?k4 ?k5 ?kA ?kF ?kK ?kh ?kg ?kd ?ku ?kv ?pre ?_; (case k1 => k_asm); (case k2 => k_asm); (case k3 => k_asm); (case k4 => k_asm); (case k5 => k_asm); (case kA => first | exact Around.frames_deeper (Below.stack (by assumption)) | assumption); (case kF => exact rfl); (case kK => exact rfl); (case kh => first | exact hh | exact rfl | assumption); (case kg => first | exact hg | exact rfl | assumption); (case kd => ((try simp only [depth_under_make, depth_under_kw, depth_in1, depth_deeper, depth_caller]); omega)); (case ku => ((try simp only [units_under_make, units_in1, units_deeper, Around.mark_units, units_caller]); omega)))
                case kv => intro p hp; k_mem
                case pre => exact ⟨_, _, rfl, t5, T1.tbl⟩
                intro rA tlA h13 tk13 F13 N13 O13 P13
                try dsimp only
                k_steps
                k_dflt (refine' con_use (repl_con _ _ _ _ [(.U, c2)] 1 4 3 9 (by decide) (by decide) (by decide) (fun b u e => ⟨(part_one pc b u e).n, (part_one pc b u e).h, (part_one pc b u e).z, (part_one pc b u e).l⟩) 4 (exp [(.S, a1'), (.T, b1')] tree) (Nat.lt_succ_of_le g1.h) (by decide) (Nat.le_trans (Nat.mul_le_mul_right 4 g1.z) (by decide)) g1.c) (B8 ++ tlA) ?k1 ?k2 ?k3 ?k4 ?k5 ?kA ?kF ?kK ?kh ?kg ?kd ?ku ?kv ?pre ?_; (case k1 => k_asm); (case k2 => k_asm); (case k3 => k_asm); (case k4 => k_asm); (case k5 => k_asm); (case kA => first | exact Around.frames_deeper (Below.stack (by assumption)) | assumption); (case kF => exact rfl); (case kK => exact rfl); (case kh => first | exact hh | exact rfl | assumption); (case kg => first | exact hg | exact rfl | assumption); (case kd => ((try simp only [depth_under_make, depth_under_kw, depth_in1, depth_deeper, depth_caller]); omega)); (case ku => ((try simp only [units_under_make, units_in1, units_deeper, Around.mark_units, units_caller]); omega)))
                case kv =>
                  intro p hp
                  rcases List.mem_append.mp hp with h | h
                  · k_mem
                  · k_mem
                case pre => exact ⟨rA, d3, rfl, P13, TS.tbl.mono fun p hp => List.mem_append_left _ hp⟩
                intro rB tlB h14 tk14 F14 N14 O14 P14
                try dsimp only
                k_steps
                refine ne_tree (fun p hp => (N14 p hp).1) (P12.mono fun p hp => ?_) (P14.mono fun p hp => ?_) (Nat.le_of_lt (Nat.lt_of_lt_of_le q1 (by decide))) ((by (try simp only [units_under_make, units_in1, units_deeper, Around.mark_units, units_caller]); omega)) ?_
                · rcases List.mem_append.mp hp with h | h
                  · k_mem
                  · k_mem
                · rcases List.mem_append.mp hp with h | h
                  · rcases List.mem_append.mp h with h | h
                    · k_mem
                    · k_mem
                  · k_mem
                have N15 : News s1.heap s1.heap.objs.size h14 ((s1.heap.objs.size + 1 + 1 + 1 + 1 + 1, oj) :: (s1.heap.objs.size + 1 + 1 + 1 + 1, ocs) :: (s1.heap.objs.size + 1 + 1 + 1, ocf) :: (s1.heap.objs.size + 1 + 1, oct) :: (s1.heap.objs.size + 1, ocw) :: B8) := fun p hp => N14 p (by k_mem)
                clear N11 N14 P12 P13 P14 O12 O13 O14
                k_steps
                refine ListComp_led (hclos := by rfl) rfl (by decide) ?_
                k_steps
                k_dflt (refine' con_use (made_con _ _ _ _ W iA iB iC io 4 3 tree (Nat.lt_succ_of_le t6.1) (by decide) (Nat.le_trans t6.2.2.2.1 (by decide))) (B8) ?k1 ?k2 ?k3 ?k4 ?k5 ?kA ?kF ?kK ?kh ?kg ?kd ?ku ?kv ?pre ?_; (case k1 => k_asm); (case k2 => k_asm); (case k3 => k_asm); (case k4 => k_asm); (case k5 => k_asm); (case kA => first | exact Around.frames_deeper (Below.stack (by assumption)) | assumption); (case kF => exact rfl); (case kK => exact rfl); (case kh => first | exact hh | exact rfl | assumption); (case kg => first | exact hg | exact rfl | assumption); (case kd => ((try simp only [depth_under_make, depth_under_kw, depth_in1, depth_deeper, depth_caller]); omega)); (case ku => ((try simp only [units_under_make, units_in1, units_deeper, Around.mark_units, units_caller]); omega)))
                case kv => intro p hp; k_mem
                case pre => exact ⟨hWB, xt, wd, rfl, t5, hDB0⟩
                intro rM tlM' h15 tk15 F15 N16 O15 P15
                try dsimp only
                k_steps
                have mk1 : (mk tree).ht < 3 := hq1
                have mk2 : (mk tree).sz ≤ big := by omega
                k_dflt (refine' con_use (allvars_con _ _ _ _ W iA iB iC io (mk tree) _ _ (x_con _ _ _ _ W iA iB iC io 3 (mk tree) mk1 mk2)) (B8 ++ tlM') ?k1 ?k2 ?k3 ?k4 ?k5 ?kA ?kF ?kK ?kh ?kg ?kd ?ku ?kv ?pre ?_; (case k1 => k_asm); (case k2 => k_asm); (case k3 => k_asm); (case k4 => k_asm); (case k5 => k_asm); (case kA => first | exact Around.frames_deeper (Below.stack (by assumption)) | assumption); (case kF => exact rfl); (case kK => exact rfl); (case kh => first | exact hh | exact rfl | assumption); (case kg => first | exact hg | exact rfl | assumption); (case kd => ((try simp only [depth_under_make, depth_under_kw, depth_in1, depth_deeper, depth_caller]); omega)); (case ku => ((try simp only [units_under_make, units_in1, units_deeper, Around.mark_units, units_caller]); omega)))
                case kv =>
                  intro p hp
                  rcases List.mem_append.mp hp with h | h
                  · k_mem
                  · k_mem
                case pre => exact ⟨hWB.mono fun p hp => List.mem_append_left _ hp, rM, rfl, P15⟩
                intro rV tlV h16 tk16 F16 N17 O16 P16
                obtain ⟨lV, kV, rfl, mV⟩ := P16
                rw [tv_mk] at mV
                try dsimp only
                k_steps
                clear N15 N16
                have lV0 : (refs W (tvars tree)).length = (tvars tree).length := by simp [refs]
                have mV' : (lV, PySem.W.listOf (refs W (tvars tree)).toArray kV) ∈ (((s1.heap.objs.size + 1 + 1 + 1 + 1 + 1, oj) :: (s1.heap.objs.size + 1 + 1 + 1 + 1, ocs) :: (s1.heap.objs.size + 1 + 1 + 1, ocf) :: (s1.heap.objs.size + 1 + 1, oct) :: (s1.heap.objs.size + 1, ocw) :: B8) ++ tlM') ++ tlV := by
                  rcases List.mem_append.mp mV with h | h
                  · rcases List.mem_append.mp h with h | h
                    · k_mem
                    · k_mem
                  · k_mem
                refine comp_none rfl F16 N17 (SeqOf.src SeqOf.list N17 mV') (fun led i _ y => ∃ a tk, (tvars tree)[i]? = some a ∧ y = .str a.nm tk) ?hG (by have := sizeLine_eq; have := tvars_len tree; have := t6.2.2.2.1; have h4 : (4 : Nat) ^ 2 = 16 := rfl; omega) (by decide) rfl rfl ?elt ?_
                case hG => rintro l l' i v y hs h; exact h
                case elt =>
                  intro i v C mC tl own h tk E' hv F N O hn hm hC
                  obtain ⟨a, ha, rfl⟩ : ∃ a, (tvars tree)[i]? = some a ∧ v = .ref (W.at_ a) := by
                    rw [refs, List.getElem?_map] at hv
                    obtain ⟨a, e1, e2⟩ := Option.map_eq_some_iff.mp hv
                    exact ⟨a, e1, e2.symm⟩
                  have hav := tvars_var tree a (List.mem_of_getElem? ha)
                  obtain ⟨iD', hid⟩ := id_at hWB hav
                  obtain ⟨dI', g1', g2', g3', g4', g5', u1', u2', u3', u4', u5', u6', u7', lI', nI', z1', z2', z3'⟩ := hid
                  rw [nm_var hav] at z2'
                  refine holdPost ?_
                  k_steps
                  exact unhold ⟨[], h, _, rfl, F, by rw [List.append_nil]; exact N, Ord.nil, a, _, ha, rfl⟩
                intro Dn nDn h17 tk17 ysn tln CDn
                obtain ⟨F17, N18, O17, off17, P17, lenv17, len17, G17⟩ := CDn
                clear F16 N17
                k_steps
                k_dflt (refine' con_use (found_con _ _ _ _ 3 tree (Nat.lt_succ_of_le t6.1) (Nat.le_trans t6.2.2.2.1 (by decide))) (B8) ?k1 ?k2 ?k3 ?k4 ?k5 ?kA ?kF ?kK ?kh ?kg ?kd ?ku ?kv ?pre ?_; (case k1 => k_asm); (case k2 => k_asm); (case k3 => k_asm); (case k4 => k_asm); (case k5 => k_asm); (case kA => first | exact Around.frames_deeper (Below.stack (by assumption)) | assumption); (case kF => exact rfl); (case kK => exact rfl); (case kh => first | exact hh | exact rfl | assumption); (case kg => first | exact hg | exact rfl | assumption); (case kd => ((try simp only [depth_under_make, depth_under_kw, depth_in1, depth_deeper, depth_caller]); omega)); (case ku => ((try simp only [units_under_make, units_in1, units_deeper, Around.mark_units, units_caller]); omega)))
                case kv => intro p hp; k_mem
                case pre => exact ⟨_, rfl, t5⟩
                intro rF tlF h18 tk18 F18 N19 O18 P18
                obtain ⟨lF, vF, kF, rfl, mF, hF⟩ := P18
                try dsimp only
                k_steps
                have hNn : NamesIn (tvars tree) ysn := names_of (by rw [len17, lV0]) fun j a hj => by
                  obtain ⟨y, e1, a', tk', e2, e3⟩ := G17 j (.ref (W.at_ a)) (by rw [refs, List.getElem?_map, hj]; rfl)
                  rw [hj] at e2
                  cases e2
                  exact ⟨tk', by rw [e1, e3]⟩
                refine eq_trees (ts := (tvars tree).map .leaf) (fun p hp => (N19 p hp).1) (show (Dn, PySem.W.listOf ysn.toArray nDn) ∈ _ by k_mem) (show (lF, PySem.W.listOf vF.toArray kF) ∈ _ from ?mm) (names_trees hNn) (names_trees hF) (leaves_ht _) ((by (try simp only [units_under_make, units_in1, units_deeper, Around.mark_units, units_caller]); omega)) ?_
                case mm =>
                  rcases List.mem_append.mp mF with h | h
                  · k_mem
                  · k_mem
                k_steps
      all_goals done))
end Mine
theorem PySem.Challenge.cw_ft0017_01_holds : PySem.Challenge.rw_ft0017_01.Holds := by
  exact Mine.law0
