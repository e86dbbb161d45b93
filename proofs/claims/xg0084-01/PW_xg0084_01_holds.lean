import PyProof.Rows.All
import Wide.All
import OpenK.AllK
import Wide.FinOn
import PyProof.IsiH_list
import KE.KLcFree
import KE.KLcPair
import PyProof.Rows.ZipGen
import KE.KEqDict
import PySem.Challenge.RW_xg0084_01
open PySem PySem.W PyProof.Rows
set_option Elab.async false
set_option maxRecDepth 100000
set_option maxHeartbeats 16000000
namespace Mine
-- these names keep the head from laying twins of big terms (their proofs would be 35 MB)
theorem hA.tw1838840343062740437 : True := trivial
theorem hA.tw6745432751129146776 : True := trivial
def Sign : Prop := True
theorem sign_of (_ : Challenge.rw_xg0084_01.Holds) : Sign = True := rfl
-- lays the written part (hA.heap_1_39) and the view (hA.view_1_40): the side goal is begun and left
set_option Elab.async true in
theorem hA : True ∧ Sign := by
  simp (disch := (w_on; o_law; k_head; (case hw => w_witness2))) only [sign_of, true_and]
  exact trivial
end Mine
namespace Mine
local macro_rules | `(tactic| omega) => `(tactic| first | decide | lia | omega +splitDisjunctions)
local macro_rules | `(tactic| walk_at $s:str) => `(tactic| k_extra $s)
-- Toks
section
open PySem PySem.W PyProof.Rows PySem.Calls
theorem runs_toks {M : Model} {Γ : Ctx} {p : Pos} {t : Sem Fin} {fs : List Frame} {s s' : Shared} {e : End} (h : Runs M Γ p t fs s e s') : s.toks ≤ s'.toks := by
  induction h <;> first | exact Nat.le_refl _ | assumption | omega | (dsimp only [Shared.setGen] at *; omega)

theorem wakes_toks {M : Model} {Γ : Ctx} {p : Pos} {g : Nat} {r : Resume} {s s' : Shared} {res : GenResult} (h : Wakes M Γ p g r s res s') : s.toks ≤ s'.toks := by
  unfold Wakes at h
  split at h
  · exact h.elim
  · split at h
    · obtain ⟨e, s₁, hr, _, _, rfl⟩ := h
      have q := runs_toks hr
      exact q
    · rw [h.2]; exact Nat.le_refl _
    · rw [h.2]; exact Nat.le_refl _
  · obtain ⟨e, s₁, hr, _, _, rfl⟩ := h
    have q := runs_toks hr
    exact q
  · rw [h.2]; exact Nat.le_refl _
  · rw [h.2]; exact Nat.le_refl _

theorem wp_toks {α : Type} (M : Model) (Γ : Ctx) (n : Nat) (t : Sem α) : ∀ (Q : α → Pos → Shared → Prop) (E : Value → Pos → Shared → Prop) (p : Pos) (s : Shared), n ≤ s.toks →
    Sem.wp M Γ t (fun a p' s' => n ≤ s'.toks → Q a p' s') (fun e p' s' => n ≤ s'.toks → E e p' s') p s → Sem.wp M Γ t Q E p s := by
  induction t with
  | pure a => intro Q E p s hn h; exact h hn
  | raise e => intro Q E p s hn h; exact h hn
  | unsupported w => intro Q E p s hn h; exact h.elim
  | finish w => intro Q E p s hn h; exact h.elim
  | rule tag k ih => intro Q E p s hn h; exact ih () Q E p s hn h
  | «at» p' k ih => intro Q E p s hn h; exact ih () Q E p' s hn h
  | load a part k ih => intro Q E p s hn h; obtain ⟨o, e, h⟩ := h; exact ⟨o, e, ih o Q E p s hn h⟩
  | update a part f k ih => intro Q E p s hn h; exact ⟨h.1, ih () Q E p _ hn h.2⟩
  | alloc o k ih => intro Q E p s hn h; exact ih _ Q E p _ hn h
  | loadIfAlive a k ih => intro Q E p s hn h; exact ih _ Q E p s hn h
  | point l k ih => intro Q E p s hn h; exact ih () Q E p s hn h
  | register a k ih => intro Q E p s hn h; exact h.elim
  | fresh k ih => intro Q E p s hn h; exact ih _ Q E p _ (Nat.le_succ_of_le hn) h
  | ask k ih => intro Q E p s hn h; exact ih _ Q E p s hn h
  | choose src m k ih => intro Q E p s hn h; exact ⟨h.1, ih _ Q E p _ hn h.2⟩
  | os q l k ih => intro Q E p s hn h; exact ih _ Q E p _ hn h
  | call c h' g l k ih => intro Q E p s hn h; obtain ⟨r, s', hr, h⟩ := h; exact ⟨r, s', hr, ih r Q E p s' (Nat.le_trans hn (runs_toks hr)) h⟩
  | handled own k ih => intro Q E p s hn h; exact ih _ Q E p s hn h
  | genState g k ih => intro Q E p s hn h; obtain ⟨st, e, h⟩ := h; exact ⟨st, e, ih _ Q E p s hn h⟩
  | newGen c k ih => intro Q E p s hn h; exact ih _ Q E p _ hn h
  | resume g r l k ih => intro Q E p s hn h; obtain ⟨res, s', hw, h⟩ := h; exact ⟨res, s', hw, ih res Q E p s' (Nat.le_trans hn (wakes_toks hw)) h⟩
  | yield v g l k ih => intro Q E p s hn h; exact h.elim
  | stack k ih => intro Q E p s hn h; exact ih _ Q E p s hn h
  | fork c k ih => intro Q E p s hn h; exact h.elim
  | thread k ih => intro Q E p s hn h; exact ih _ Q E p s hn h
  | await a f d l k ih => intro Q E p s hn h; exact h.elim

theorem wpAny_toks {α : Type} {M : Model} {A : Around} {t : Sem α} {Q : α → Shared → Prop} {E : Value → Shared → Prop} {s : Shared}
    (h : wpAny M A t (fun a s' => s.toks ≤ s'.toks → Q a s') (fun e s' => s.toks ≤ s'.toks → E e s') s) : wpAny M A t Q E s :=
  fun Γ p hΓ => wp_toks M Γ s.toks t _ _ p s (Nat.le_refl _) (h Γ p hΓ)
theorem noneBooked {w : World} {h : Heap} (X : (Mine.hA.heap_1_39 w.params).In h) : NoneBooked h := by
  have e : h.get? cStatics = some { cls := Value.none, data := Data.dict #[] } := X 2 _ rfl
  exact ⟨fun _ => none, ⟨_, #[], _, e, rfl, (fun _ h => by simp at h), fun _ => rfl⟩, rfl⟩
-- a frame's map behind a store, as a word (smaller terms than the lambda)
noncomputable abbrev upd (m : Str → Option Value) (x : Str) (v : Value) : Str → Option Value := fun y => if y = x then some v else m y
theorem storeX_U {M : Model} {A : Around} {E : Value → Shared → Prop} {s : Shared} {h₀ : Heap} {L a : Addr} {m : Str → Option Value} {cn : Str} {cs : Scope} {ccd : Value} {cl : List (Str × Addr)} {x : Str} {v : Value} {Q : Unit → Shared → Prop} {news : List (Addr × Obj)}
    (F : Fr h₀ L s.heap m) (N : News h₀ L s.heap news) (h : ∀ h', Fr h₀ L h' (upd m x v) → News h₀ L h' news → Q () { s with heap := h', toks := s.toks + 1 }) (hk : cs.kind = .function) (hx : (envX cn cs L a ccd cl).kindOf x = some .local) :
    wpAny M A (storeName (envX cn cs L a ccd cl) x v) Q E s := storeX_L F N h hk hx
theorem pow2_le {i : Nat} (h : i < 5) : (2 : Int) ^ i ≤ 32 := by
  match i, h with
  | 0, _ | 1, _ | 2, _ | 3, _ | 4, _ => decide
  | i + 5, h => omega
theorem pow2_leN {i : Nat} (h : i < 5) : 2 ^ i ≤ 32 := by
  match i, h with
  | 0, _ | 1, _ | 2, _ | 3, _ | 4, _ => decide
  | i + 5, h => omega
theorem turn_lt {i n : Nat} (h : i < n) : n + 1 - (i + 1) < n + 1 - i := by omega
end
-- Comp1
section
open PySem PySem.W PyProof.Rows PySem.Calls PySem.Spec
open PyProof.Rows.LCg
noncomputable abbrev testsOf (ifs : List Expr) (env : Env) : Sem Bool := forIn ifs true fun c r => if r = true then do let ok ← isTrue c env (eval c env); pure (ForInStep.yield ok) else pure (ForInStep.yield r)

inductive CInv (s₂ : Shared) (C D : Addr) (I n : Nat) (St : Nat → Heap → Prop) (h₀ : Heap) (L : Addr) (m : Str → Option Value) (S : List (Addr × Obj) → Prop) (J : Nat → List Value → List (Addr × Obj) → Prop) (k : Nat) (s' : Shared) : Prop
  | mk (h' : Heap) (tk i : Nat) (ys : List Value) (oC : Obj) (m' : Str → Option Value) (news' : List (Addr × Obj))
    (x1 : s' = { s₂ with heap := h', toks := tk })
    (x2 : s₂.toks ≤ tk)
    (x3 : i ≤ n)
    (x4 : k = n + 1 - i)
    (x5 : ys.length ≤ i)
    (x6 : St i h')
    (x7 : Fr h₀ L h' m)
    (x8 : NsObj oC m')
    (x9 : News h₀ L h' ((C, oC) :: (D, lst ys) :: news'))
    (x10 : Off3 I C D news')
    (x11 : S news')
    (x12 : J i ys news') : CInv s₂ C D I n St h₀ L m S J k s'
inductive CEnd9 (h₀ : Heap) (L : Addr) (m : Str → Option Value) (g₁ : Array GenState) (d₁ : Drawn) (o₁ : OsState) (I : Addr) (oI : Obj) (C D : Addr) (ys : List Value) (S rest : List (Addr × Obj) → Prop) (s₂ : Shared) : Prop
  | mk (h' : _) (tk : _) (news' : _) (oC : _) (m' : _)
    (x1 : s₂ = { heap := h', gens := g₁, drawn := d₁, toks := tk, os := o₁ })
    (x2 : Fr h₀ L h' m)
    (x3 : News h₀ L h' ((I, oI) :: (C, oC) :: (D, lst ys) :: news'))
    (x4 : NsObj oC m')
    (x5 : Off3 I C D news')
    (x6 : S news')
    (x7 : rest news') : CEnd9 h₀ L m g₁ d₁ o₁ I oI C D ys S rest s₂
noncomputable def CEnd (h₀ : Heap) (L : Addr) (m : Str → Option Value) (s₁ : Shared) (I : Addr) (oI : Obj) (C D : Addr) (ys : List Value) (S rest : List (Addr × Obj) → Prop) (s₂ : Shared) : Prop := CEnd9 h₀ L m s₁.gens s₁.drawn s₁.os I oI C D ys S rest s₂

section
variable {prog : Program} {w : World} {A : Around} {E : Value → Shared → Prop} {s : Shared} {h₀ : Heap} {L : Addr} {m : Str → Option Value} {env : Env}

theorem CEnd.intro {s₁ : Shared} {I C D : Addr} {oI oC : Obj} {m' : Str → Option Value} {ys : List Value} {S rest : List (Addr × Obj) → Prop} {h' : Heap} {tk : Nat} {all : List (Addr × Obj)} (F : Fr h₀ L h' m) (N : News h₀ L h' all)
    (news' : List (Addr × Obj)) (sub : ∀ p ∈ (I, oI) :: (C, oC) :: (D, lst ys) :: news', p ∈ all) (hC : NsObj oC m') (off : Off3 I C D news') (hS : S news') (r : rest news') : CEnd h₀ L m s₁ I oI C D ys S rest { s₁ with heap := h', toks := tk } :=
  ⟨h', tk, news', oC, m', rfl, F, fun p hp => N p (sub p hp), hC, off, hS, r⟩

noncomputable def CTurn (prog : Program) (w : World) (A : Around) (h₀ : Heap) (L : Addr) (m : Str → Option Value) (env : Env) (target : Expr) (ifs : List Expr) (elt : Expr) (scope : Scope) (cl : List (Str × Addr)) (s : Shared) (S : List (Addr × Obj) → Prop)
    (J' : List Value → List (Addr × Obj) → Prop) (I : Addr) (v : Value) (ys : List Value) (news : List (Addr × Obj)) : Prop :=
  ∀ oI C oC D m₁ h tk (E' : Value → Shared → Prop), NsObj oC m₁ → Fr h₀ L h m → News h₀ L h ((I, oI) :: (C, oC) :: (D, lst ys) :: news) → Off3 I C D news → ((@Ne Nat I C) ∧ (@Ne Nat I D) ∧ (@Ne Nat C D)) → s.toks ≤ tk →
    wpAny (model prog w) A (assign target (compEnvC scope cl C env) v) (fun _ s₃ => wpAny (model prog w) A (testsOf ifs (compEnvC scope cl C env)) (fun ok s₄ =>
      if ok = true then wpAny (model prog w) A (eval elt (compEnvC scope cl C env)) (fun y => CEnd h₀ L m s I oI C D ys S (J' (ys ++ [y]))) E' s₄
      else CEnd h₀ L m s I oI C D ys S (J' ys) s₄) E' s₃) E' { s with heap := h, toks := tk }

theorem blockG {elt target iter : Expr} {ifs : List Expr} {scope : Scope} {cl : List (Str × Addr)} {pos : Pos} {s₂ : Shared} {I : Addr} {fp : List Addr} {n : Nat} {P : Nat → Value → Prop} {St : Nat → Heap → Prop} {S : List (Addr × Obj) → Prop} {news : List (Addr × Obj)}
    {RR : Value → Addr → Result → Shared → Prop} (J : Nat → List Value → List (Addr × Obj) → Prop)
    (W : Walks prog w A I fp [I] n P St) (hsz : n ≤ sizeLine) (hIo : ∀ i h, St i h → ∃ o, h.get? I = some o)
    (hSt : ∀ i h h' o nw, St i h → h.get? I = some o → h'.get? I = some o → (∀ b o, h₀.get? b = some o → h'.get? b = some o) → News h₀ L h' nw → S nw → St i h')
    (hlet : ∀ i v (s' : Shared) (Q : Unit → Shared → Prop) (E' : Value → Shared → Prop), St (i + 1) s'.heap → P i v → Q () s' → wpAny (model prog w) A (letOwnedTupleGo target (.ref I) v) Q E' s')
    (hcell : ∀ y ∈ scope.names, y.2 ≠ .cell) (hkind : scope.kind = .function) (hst : St 0 s₂.heap) (hfp : ∀ b ∈ fp, b < s₂.heap.objs.size)
    (F : Fr h₀ L s₂.heap m) (N : News h₀ L s₂.heap news) (hIL : L ≠ I) (hI₀ : h₀.get? I = none) (off : ∀ p ∈ news, p.1 ≠ I) (hS : S news) (hJ : J 0 [] news)
    (step : ∀ i v ys news', i < n → P i v → ys.length ≤ i → S news' → J i ys news' → CTurn prog w A h₀ L m env target ifs elt scope cl s₂ S (J (i + 1)) I v ys news')
    (hRR : ∀ D C h tk m' ys news', Fr h₀ L h m → News h₀ L h ((D, lst ys) :: news') → Off1 D news' → h.Ns C m' → h₀.get? C = none → h₀.get? D = none → C ≠ L → D ≠ L → C ≠ D → (∀ p ∈ news', p.1 ≠ C) → J n ys news' → RR (.ref D) C (.ok .next) { s₂ with heap := h, toks := tk }) :
    wpAny (model prog w) A (newList []) (fun acc s₃ => wpAny (model prog w) A (newFunctionEnv scope env.globals cl [] env.qual none .none (some env)) (fun cenv s₄ =>
      codeAny (model prog w) A (.compStart (.ListComp elt [⟨target, iter, ifs, 0⟩] scope pos) 0 (.ref I) acc { cenv with scope := relabel scope env }) (RR acc cenv.locals) s₄) E s₃) E s₂ := by
  refine wpAny_newObj_type (wpAny_newFunctionEnv hcell (by intro y hy; simp at hy) (fun h₁ hns₁ hsb₁ => ?_) hkind)
  dsimp only at hns₁ hsb₁ ⊢
  generalize hH2 : s₂.heap.push { cls := .type "list", dict := none, data := .seq ([] : List Value).toArray } = H2 at hns₁ hsb₁ ⊢
  have hC : H2.objs.size = s₂.heap.objs.size + 1 := by rw [← hH2, Heap.size_push]
  have hDC : s₂.heap.objs.size ≠ H2.objs.size := by rw [hC]; exact Nat.ne_of_lt (Nat.lt_succ_self _)
  have below : ∀ b, b < s₂.heap.objs.size → b ≠ H2.objs.size ∧ b ≠ s₂.heap.objs.size := fun b hb => ⟨by rw [hC]; exact Nat.ne_of_lt (Nat.lt_succ_of_lt hb), Nat.ne_of_lt hb⟩
  have hDf : s₂.heap.objs.size ∉ fp := fun hm => Nat.lt_irrefl _ (hfp _ hm)
  have hCf : H2.objs.size ∉ fp := fun hm => by have := hfp _ hm; rw [hC] at this; exact Nat.lt_irrefl _ (Nat.lt_of_succ_lt this)
  have hIlt : I < s₂.heap.objs.size := hfp I (W.sub I (List.mem_singleton.mpr rfl))
  have old : ∀ b o, s₂.heap.get? b = some o → h₁.get? b = some o := fun b o e => hsb₁.extBut b o (below b (Heap.lt_size e)).1 (Heap.get?_push_of_some _ (hH2 ▸ Heap.get?_push_of_some _ e))
  have hacc : h₁.get? s₂.heap.objs.size = some (lst []) := hsb₁.extBut _ _ hDC (Heap.get?_push_of_some _ (hH2 ▸ Heap.get?_push_size _ rfl))
  have hst₁ : St 0 h₁ := W.frame _ _ _ hst fun b _ o e => old b o e
  have fresh₀ : ∀ a, s₂.heap.objs.size ≤ a → h₀.get? a = none := fun a ha => by
    cases e : h₀.get? a with
    | none => rfl
    | some o' => exact absurd (Heap.lt_size (F.keep a o' e)) (Nat.not_lt.mpr ha)
  have hD₀ : h₀.get? s₂.heap.objs.size = none := fresh₀ _ (Nat.le_refl _)
  have hC₀ : h₀.get? H2.objs.size = none := fresh₀ _ (by rw [hC]; exact Nat.le_succ _)
  have hLlt : L < s₂.heap.objs.size := F.ns.lt
  have hDL : s₂.heap.objs.size ≠ L := Ne.symm (below L hLlt).2
  have hCL : H2.objs.size ≠ L := Ne.symm (below L hLlt).1
  have hCI : I ≠ H2.objs.size := (below I hIlt).1
  have hDI : I ≠ s₂.heap.objs.size := (below I hIlt).2
  have off₀ : Off3 I H2.objs.size s₂.heap.objs.size news := Off3.of fun p hp => ⟨off p hp, (below _ (Heap.lt_size (N p hp).1)).1, (below _ (Heap.lt_size (N p hp).1)).2⟩
  obtain ⟨oC₁, heC₁, hoC₁⟩ := ns_obj hns₁
  have loop : ∀ s₃ : Shared, s₃ = { s₂ with heap := h₁, toks := s₂.toks + ([] : List (Str × Value)).length } →
      codeAny (model prog w) A (.compLoop (.ListComp elt [⟨target, iter, ifs, 0⟩] scope pos) 0 (.ref I) (.ref s₂.heap.objs.size) (compEnvC scope cl H2.objs.size env))
        (RR (.ref s₂.heap.objs.size) H2.objs.size) s₃ := by
    rintro s₃ rfl
    refine codeAny_loop rfl
      (CInv s₂ H2.objs.size s₂.heap.objs.size I n St h₀ L m S J) ?_ (n + 1)
      ⟨h₁, _, 0, [], oC₁, _, news, rfl, Nat.le_add_right _ _, Nat.zero_le _, rfl, Nat.le_refl _, hst₁, F.keeps old, hoC₁, fun p hp => ?_, off₀, hS, hJ⟩
    · rintro k s' ⟨h', tk, i, ys, oC, m', news', rfl, tle, hi, rfl, hyl, hst', F', hoC, N', off', hS', hJ'⟩
      have off3 := off'.mem
      have zC' := N' (H2.objs.size, oC) List.mem_cons_self
      have N0 : News h₀ L h' ((s₂.heap.objs.size, lst ys) :: news') := fun p hp => N' p (List.mem_cons_of_mem _ hp)
      have offI : ∀ p ∈ (s₂.heap.objs.size, lst ys) :: news', p.1 ≠ I := fun p hp => by
        rcases List.mem_cons.mp hp with rfl | hp
        · exact Ne.symm hDI
        · exact (off3 p hp).1
      show wpAny _ A ((compTurn (.ListComp elt [⟨target, iter, ifs, 0⟩] scope pos) 0 (.ref I) (.ref s₂.heap.objs.size) (compEnvC scope cl H2.objs.size env)).onRaise (fun x => do noteFrame x (compEnvC scope cl H2.objs.size env); theTreesLotGoes x)) _ _ _
      refine wpAny_noted ?_
      rw [compTurn_list]
      refine wpAny_bind (wpAny_standAt (wpAny_bind ?_))
      by_cases hlt : i < n
      · refine wpAny_toks (W.item i _ _ _ hlt hst' fun v h₂ tk₂ hPv hst₂ hk₂ tle₂ => ?_)
        replace tle₂ := Nat.le_trans tle tle₂
        obtain ⟨oI, heI⟩ := hIo _ _ hst₂
        have F₂ : Fr h₀ L h₂ m := fr_but F' hk₂ hIL hI₀
        have N₂ : News h₀ L h₂ ((I, oI) :: (H2.objs.size, oC) :: (s₂.heap.objs.size, lst ys) :: news') := fun p hp => by
          rcases List.mem_cons.mp hp with rfl | hp
          · exact ⟨heI, Ne.symm hIL, hI₀⟩
          · rcases List.mem_cons.mp hp with rfl | hp
            · exact ⟨hk₂ _ _ (by simpa using Ne.symm hCI) zC'.1, zC'.2⟩
            · exact (news_but N0 hk₂ offI) p hp
        refine wpAny_toks ?_
        refine wpAny_bind (hlet i v _ _ _ hst₂ hPv ?_)
        refine wpAny_bind (wpAny_mono (step i v ys news' hlt hPv hyl hS' hJ' oI H2.objs.size oC s₂.heap.objs.size m' h₂ tk₂ _ hoC F₂ N₂ off' ⟨hCI, hDI, Ne.symm hDC⟩ tle₂) (fun _ s₃ h₃ => wpAny_bind (wpAny_mono h₃ (fun ok s₄ h₄ => ?_) fun _ _ e => e)) fun _ _ e => e)
        cases ok with
        | false =>
          simp only [Bool.false_eq_true, if_false] at h₄ ⊢
          obtain ⟨h₅, tk₅, news₅, oC₅, m₅, rfl, F₅, N₅, hC₅, off₅, hS₅, hJ₅⟩ := h₄
          have zI := (N₅ (I, oI) List.mem_cons_self).1
          refine wpAny_pure fun t => ⟨rfl, n + 1 - (i + 1), turn_lt hlt, h₅, tk₅, i + 1, ys, oC₅, m₅, news₅, rfl, Nat.le_trans tle₂ t, hlt, rfl, Nat.le_succ_of_le hyl, ?_, F₅, hC₅, fun p hp => N₅ p (List.mem_cons_of_mem _ hp), off₅, hS₅, hJ₅⟩
          exact hSt _ _ _ _ _ hst₂ heI zI F₅.keep (fun p hp => N₅ p (List.mem_cons_of_mem _ (List.mem_cons_of_mem _ (List.mem_cons_of_mem _ hp)))) hS₅
        | true =>
          simp only [if_true] at h₄ ⊢
          refine wpAny_bind (wpAny_bind (wpAny_mono h₄ (fun y s₅ h₅ => wpAny_bind ?_) fun _ _ e => e))
          obtain ⟨h₅, tk₅, news₅, oC₅, m₅, rfl, F₅, N₅, hC₅, off₅, hS₅, hJ₅⟩ := h₅
          have zI := (N₅ (I, oI) List.mem_cons_self).1
          have zC := (N₅ (H2.objs.size, oC₅) (List.mem_cons_of_mem _ List.mem_cons_self)).1
          have zD := (N₅ (s₂.heap.objs.size, lst ys) (List.mem_cons_of_mem _ (List.mem_cons_of_mem _ List.mem_cons_self))).1
          have N₅' : News h₀ L h₅ news₅ := fun p hp => N₅ p (List.mem_cons_of_mem _ (List.mem_cons_of_mem _ (List.mem_cons_of_mem _ hp)))
          have hst₅ : St (i + 1) h₅ := hSt _ _ _ _ _ hst₂ heI zI F₅.keep N₅' hS₅
          have off5 := off₅.mem
          refine append_at (hsz := by show ys.toArray.size ≤ sizeLine; rw [List.size_toArray]; exact Nat.le_trans hyl (Nat.le_trans hi hsz)) zD fun h₆ hs₆ hD₆ => ?_
          refine wpAny_pure (wpAny_pure fun t => ⟨rfl, n + 1 - (i + 1), turn_lt hlt, h₆, tk₅, i + 1, ys ++ [y], oC₅, m₅, news₅, rfl, Nat.le_trans tle₂ t, hlt, rfl, by rw [List.length_append, List.length_singleton]; omega,
            W.frame _ _ _ hst₅ fun b hb o e => hs₆.extBut b o (fun q => hDf (q ▸ hb)) e, F₅.change hs₆ hDL hD₀, hC₅, fun p hp => ?_, off₅, hS₅, hJ₅⟩)
          rcases List.mem_cons.mp hp with rfl | hp
          · exact ⟨hs₆.extBut _ _ (Ne.symm hDC) zC, hCL, hC₀⟩
          · rcases List.mem_cons.mp hp with rfl | hp
            · exact ⟨hD₆.trans (congrArg some (lst_snoc ys y)), hDL, hD₀⟩
            · exact ⟨hs₆.extBut _ _ (off5 p hp).2.2 (N₅' p hp).1, (N₅' p hp).2⟩
      · obtain rfl : i = n := Nat.le_antisymm hi (Nat.not_lt.mp hlt)
        refine W.done _ _ _ hst' fun h₂ tk₂ hk₂ => wpAny_pure ?_
        exact hRR _ _ h₂ tk₂ _ ys news' (fr_but F' hk₂ hIL hI₀) (news_but N0 hk₂ offI) off'.one (hoC.ns (hk₂ _ _ (by simpa using Ne.symm hCI) zC'.1)) hC₀ hD₀ hCL hDL (Ne.symm hDC) (fun p hp => (off3 p hp).2.1) hJ'
    · rcases List.mem_cons.mp hp with rfl | hp
      · exact ⟨heC₁, hCL, hC₀⟩
      · rcases List.mem_cons.mp hp with rfl | hp
        · exact ⟨hacc, hDL, hD₀⟩
        · exact ⟨old _ _ (N p hp).1, (N p hp).2⟩
  exact codeAny_compStart_list (loop _ rfl) (W.self 0 _ _ _ hst₁ (loop _ rfl))

inductive CSrc (prog : Program) (w : World) (A : Around) (h₀ : Heap) (L : Addr) (m : Str → Option Value) (env : Env) (target : Expr) (ifs : List Expr) (elt : Expr) (scope : Scope) (cl : List (Str × Addr)) (Fin : Shared → List Value → List (Addr × Obj) → Prop) (it : Value) (s₂ : Shared) : Prop
  | mk (I : Addr) (fp : List Addr) (n : Nat) (P : Nat → Value → Prop) (St : Nat → Heap → Prop) (S : List (Addr × Obj) → Prop) (news : List (Addr × Obj)) (J : Nat → List Value → List (Addr × Obj) → Prop)
    (x1 : it = .ref I)
    (x2 : Walks prog w A I fp [I] n P St)
    (x3 : n ≤ sizeLine)
    (x4 : (∀ i h, St i h → ∃ o, h.get? I = some o))
    (x5 : (∀ i h h' o nw, St i h → h.get? I = some o → h'.get? I = some o → (∀ b o, h₀.get? b = some o → h'.get? b = some o) → News h₀ L h' nw → S nw → St i h'))
    (x6 : (∀ i v (s' : Shared) (Q : Unit → Shared → Prop) (E' : Value → Shared → Prop), St (i + 1) s'.heap → P i v → Q () s' → wpAny (model prog w) A (letOwnedTupleGo target (.ref I) v) Q E' s'))
    (x7 : St 0 s₂.heap)
    (x8 : (∀ b ∈ fp, b < s₂.heap.objs.size))
    (x9 : Fr h₀ L s₂.heap m)
    (x10 : News h₀ L s₂.heap news)
    (x11 : L ≠ I)
    (x12 : h₀.get? I = none)
    (x13 : (∀ p ∈ news, p.1 ≠ I))
    (x14 : S news)
    (x15 : J 0 [] news)
    (x16 : (∀ i v ys news', i < n → P i v → ys.length ≤ i → S news' → J i ys news' → CTurn prog w A h₀ L m env target ifs elt scope cl s₂ S (J (i + 1)) I v ys news'))
    (x17 : ∀ ys news', J n ys news' → Fin s₂ ys news') : CSrc prog w A h₀ L m env target ifs elt scope cl Fin it s₂

theorem compG (_F : Fr h₀ L s.heap m) {elt target iter : Expr} {ifs : List Expr} {scope : Scope} {cl : List (Str × Addr)} {pos : Pos} {Q : Value → Shared → Prop}
    (hclos : closureFor scope env = pure cl) (hcell : ∀ y ∈ scope.names, y.2 ≠ .cell) (hkind : scope.kind = .function)
    (hnames : ∀ y ∈ scope.names, y.2 = .local → scope.names.lookup y.1 = some .local)
    (h : wpAny (model prog w) A (eval iter env) (fun xv s₁ => wpAny (model prog w) A (pyIter xv) (CSrc prog w A h₀ L m env target ifs elt scope cl (fun s₂ => FinE h₀ L m s₂ Q)) E s₁) E s)
    (hs : ∀ x, foldedSetIterable iter env x = pure x := by intro _; rfl) :
    wpAny (model prog w) A (eval (.ListComp elt [⟨target, iter, ifs, 0⟩] scope pos) env) Q E s := by
  rw [eval_ListComp]
  refine wpAny_comprehension_free (use := none) rfl hs hclos hkind hnames (wpAny_mono h (fun xv s₁ h₁ => wpAny_mono h₁ (fun it s₂ h₂ => ?_) fun _ _ e => e) fun _ _ e => e)
  obtain ⟨I, fp, n, P, St, S, news, J, rfl, W, hsz, hIo, hSt, hlet, hst, hfp, F, N, hIL, hI₀, off, hS, hJ, step, fin⟩ := h₂
  refine blockG J W hsz hIo hSt hlet hcell hkind hst hfp F N hIL hI₀ off hS hJ step ?_
  intro D C h tk m' ys news' F' N' o1 hn hC₀ hD₀ hCL hDL hCD offC hJ'
  refine ⟨m', hn, fun h'' hs'' => fin ys news' hJ' D h'' tk (F'.change hs'' hCL hC₀) (fun p hp => ?_) o1⟩
  refine ⟨hs''.extBut _ _ ?_ (N' p hp).1, (N' p hp).2⟩
  rcases List.mem_cons.mp hp with rfl | hp
  · exact Ne.symm hCD
  · exact offC p hp

theorem assignCompG (_F : Fr h₀ L s.heap m) {elt target iter : Expr} {ifs : List Expr} {y : Str} {py : Pos} {scope : Scope} {cl : List (Str × Addr)} {pos spos : Pos} {Q : Flow → Shared → Prop} (hLe : env.locals = L)
    (hsw : swapsWith (.ListComp elt [⟨target, iter, ifs, 0⟩] scope pos) (some (.Name y py)) spos.line env = pure true)
    (hclos : closureFor scope env = pure cl) (hcell : ∀ y ∈ scope.names, y.2 ≠ .cell) (hkind : scope.kind = .function)
    (hnames : ∀ y ∈ scope.names, y.2 = .local → scope.names.lookup y.1 = some .local)
    (hy : env.kindOf y = some .local) (hp : (env.scope.kind == .class || (env.scope.kind == .module && env.locals != env.globals)) = false)
    (h : wpAny (model prog w) A (eval iter env) (fun xv s₁ => wpAny (model prog w) A (pyIter xv) (CSrc prog w A h₀ L m env target ifs elt scope cl (fun s₂ => FinA h₀ L m s₂ y Q)) E s₁) E s)
    (hs : ∀ x, foldedSetIterable iter env x = pure x := by intro _; rfl) :
    wpAny (model prog w) A (exec (.Assign [.Name y py] (.ListComp elt [⟨target, iter, ifs, 0⟩] scope pos) spos) env) Q E s := by
  subst hLe
  rw [exec_Assign_Name_used _ _ _ _ hsw]
  refine wpAny_bind (wpAny_standAt (wpAny_bind ?_))
  show wpAny _ A (do let _ ← comprehension (.ListComp elt [⟨target, iter, ifs, 0⟩] scope pos) scope env _ (newList []) false (eval iter env) (some (assign (.Name y py) env))) _ _ s
  refine wpAny_bind (wpAny_mono (wpAny_comprehension_free (use := some (assign (.Name y py) env)) (Q := fun _ s' => Q .next s') rfl hs hclos hkind hnames
    (wpAny_mono h (fun xv s₁ h₁ => wpAny_mono h₁ (fun it s₂ h₂ => ?_) fun _ _ e => e) fun _ _ e => e)) (fun _ s' hq => wpAny_pure (wpAny_pure hq)) fun _ _ e => e)
  obtain ⟨I, fp, n, P, St, S, news, J, rfl, W, hsz, hIo, hSt, hlet, hst, hfp, F, N, hIL, hI₀, off, hS, hJ, step, fin⟩ := h₂
  refine blockG J W hsz hIo hSt hlet hcell hkind hst hfp F N hIL hI₀ off hS hJ step ?_
  intro D C h' tk m' ys news' F' N' o1 hn hC₀ hD₀ hCL hDL hCD offC hJ'
  show wpAny _ A (assign (.Name y py) env (.ref D)) _ _ _
  refine wpAny_assign_Name (wpAny_storeName_local hy F'.ns (fun h₂ hn₂ hs₂ => ?_) hp)
  have hL₀ : h₀.get? env.locals = none := Heap.get?_none_of_le F'.above
  have F₂ : Fr h₀ env.locals h₂ (upd m y (.ref D)) := ⟨hn₂, fun b o e => hs₂.extBut b o (fun q => by rw [q, hL₀] at e; cases e) (F'.keep b o e), F'.above⟩
  refine ⟨m', hn.sameBut hs₂ hCL, fun h'' hs'' => fin ys news' hJ' D h'' _ (F₂.change hs'' hCL hC₀) (fun p hp => ?_) o1⟩
  have z : h₂.get? p.1 = some p.2 := hs₂.extBut _ _ (N' p hp).2.1 (N' p hp).1
  refine ⟨hs''.extBut _ _ ?_ z, (N' p hp).2⟩
  rcases List.mem_cons.mp hp with rfl | hp
  · exact Ne.symm hCD
  · exact offC p hp
end
end
-- Acc1
section
open PySem PySem.W PyProof.Rows PySem.Calls
noncomputable abbrev accObj (d : Addr) (its : List Value) (n : Nat) : Obj := { cls := .ref 99, dict := some d, data := .seq its.toArray n }

section
variable {prog : Program} {w : World} {A : Around} {E : Value → Shared → Prop} {s : Shared} {K : Frag} {C x : Addr} {ox : Obj} {od : Option Obj}
theorem acc_isList {h : Heap} {M : Model} (X : K.In h) (I : InstAt h x ox C od) (hm : mroIn K C (.type "list") = some true) : Looks M h (isInstance (.ref x) (.type "list")) true :=
  I.type.andThen (looks_mroIn X hm)

theorem acc_check {M : Model} {i n : String} {rest : List Value} {kw : List (Str × Value)} {Q : Unit → Shared → Prop}
    (hk : builtinKind i = some .slot ∨ builtinKind i = some .method) (hs : splitId i = some ("list", n)) (X : K.In s.heap) (I : InstAt s.heap x ox C od) (hm : mroIn K C (.type "list") = some true)
    (ha : argsOk i ⟨.ref x :: rest, kw⟩) (q : Q () s) :
    wpAny M A (checkBuiltinCall i ⟨.ref x :: rest, kw⟩) Q E s := by
  rcases hk with hk | hk
  · exact check_slot hk hs (acc_isList X I hm) ha q
  · simp only [checkBuiltinCall, hk, hs]
    refine wpAny_bind ((acc_isList X I hm).here ?_)
    simp only [Bool.not_true, Bool.false_eq_true, if_false]
    cases hsig : Manifest.signature? i with
    | none => exact wpAny_pure q
    | some sig =>
      simp only [argsOk, hsig] at ha
      have h2 : Bind.checkArgs i sig ⟨.ref x :: rest, kw⟩ = pure () := ha
      show wpAny M A (Bind.checkArgs i sig ⟨.ref x :: rest, kw⟩) Q E s
      rw [h2]; exact wpAny_pure q

theorem acc_call {id n : String} {b : Builtin} {rest : List Value} {Q : Value → Shared → Prop} (hp : plainId id = true) (hb : entryFor table id = some b)
    (hk : builtinKind id = some .slot ∨ builtinKind id = some .method) (hs : splitId id = some ("list", n)) (X : K.In s.heap) (I : InstAt s.heap x ox C od) (hm : mroIn K C (.type "list") = some true)
    (ha : argsOk id ⟨.ref x :: rest, []⟩)
    (hc : wpAny (model prog w) A.in1 (b ⟨.ref x :: rest, []⟩) (fun fin s' => ∃ v, fin = .done (.ret v) ∧ Q v s') E s) :
    wpAny (model prog w) A (call (.builtin id) (.ref x :: rest)) Q E s := by
  refine wpAny_call (codeAny_call_builtin hp hb (acc_check hk hs X I hm ha (wpAny_mono hc (fun fin s' h' => ?_) fun _ _ h' => h')))
  obtain ⟨v, rfl, hv⟩ := h'; exact hv

theorem acc_special {name : Str} {id : String} {args : List Value} {Q : Option Value → Shared → Prop} (S : Slot "list" name id) (X : K.In s.heap) (I : InstAt s.heap x ox C od)
    (hf : findIn K (.ref C) name = some (some (.builtin id)))
    (hc : wpAny (model prog w) A (call (.builtin id) (.ref x :: args)) (fun v => Q (some v)) E s) :
    wpAny (model prog w) A (callSpecial? (.ref x) name args) Q E s := by
  refine wpAny_bind (wpAny_bind (I.type.here ((looks_findIn X hf).here (wpAny_holding (wpAny_bind ?_)))))
  rw [S.bind]
  exact wpAny_pure (wpAny_bind (wpAny_mono hc (fun _ _ z => wpAny_pure z) fun _ _ z => z))

theorem acc_getItem_slice {sl : Addr} {its : Array Value} {n : Nat} {vl vu : Value} {lo hi : Option Int} {Q : Value → Shared → Prop} (X : K.In s.heap) (I : InstAt s.heap x ox C od)
    (hq : noSeq K C = true) (hf : findIn K (.ref C) (Str.ofString "__getitem__") = some (some (.builtin "list.__getitem__"))) (hm : mroIn K C (.type "list") = some true) (hd : ox.data = .seq its n)
    (hs : s.heap.IsSliceOf sl vl vu .none) (pl : IsPart vl lo) (pu : IsPart vu hi)
    (h : Q (.ref s.heap.objs.size) { s with heap := s.heap.push { cls := .type "list", data := .seq (slicePick its lo hi none) } }) (hsz : its.size ≤ sizeLine) :
    wpAny (model prog w) A (getItem (.ref x) (.ref sl)) Q E s := by
  obtain ⟨os, hos, hcs, hds⟩ := id hs
  have hTs : s.TypeIs (.ref sl) "slice" := ⟨os, hos, hcs⟩
  have ho := I.at_
  unfold getItem sequenceKey
  refine wpAny_holding (wpAny_bind (wpAny_bind (I.type.here ?_)))
  refine wpAny_bind ((anyM_none X hq).here ?_)
  rw [if_pos (show (!false) = true from rfl)]
  refine wpAny_pure (wpAny_bind (acc_special slot_list_getitem X I hf ?_))
  refine acc_call (n := "__getitem__") slot_list_getitem.plain entry_list_getitem (.inr (by decide +kernel)) (by decide +kernel) X I hm (args_list_getitem _ _) ?_
  show wpAny _ _ (Builtin.List.listSubscript? (.ref sl) >>= _) _ _ s
  refine wpAny_bind ?_
  unfold Builtin.List.listSubscript?
  refine wpAny_bind (wpAny_specialOf hTs slice_no_index ?_)
  simp only [Option.isNone_none, if_true]
  refine wpAny_pure ?_
  show wpAny _ _ (typeOf (.ref sl) >>= _) _ _ s
  refine wpAny_bind (wpAny_typeOf hTs ?_)
  rw [if_neg (by decide)]
  rw [listSliceParts_eq]
  refine wpAny_bind (wpAny_bind (wpAny_field hos hds (x := .none) rfl (wpAny_bind (wpAny_listPart .none ?_))))
  rw [if_neg (show ¬ ((rawPart none == rawInt 0) = true) from Bool.false_ne_true)]
  refine wpAny_bind (wpAny_field hos hds (x := vl) rfl (wpAny_bind (wpAny_listPart pl ?_)))
  refine wpAny_bind (wpAny_field hos hds (x := vu) rfl (wpAny_bind (wpAny_listPart pu (wpAny_pure ?_))))
  refine wpAny_bind (m := Builtin.List.listItems (.ref x)) ?_
  unfold Builtin.List.listItems
  refine wpAny_bind (wpAny_seqItems ho hd (wpAny_pure ?_))
  refine wpAny_bind (wpAny_of_eq (sliceIndices_raw lo hi none its.size (by simp)) ?_)
  exact wpAny_bind (wpAny_newObj_type (wpAny_pure ⟨_, rfl, wpAny_pure h⟩) (Nat.le_trans (slicePick_size_le its lo hi none) hsz))

theorem acc_tail_slice {h₀ : Heap} {L : Addr} {m : Str → Option Value} {news : List (Addr × Obj)} {value slice : Expr} {its : Array Value} {n : Nat} {vl vu : Value} {lo hi : Option Int} {Q : Value → Shared → Prop}
    (F : Fr h₀ L s.heap m) (X₀ : K.In h₀) (N : News h₀ L s.heap news) (I : InstAt s.heap x ox C od)
    (hq : noSeq K C = true) (hf : findIn K (.ref C) (Str.ofString "__getitem__") = some (some (.builtin "list.__getitem__"))) (hm : mroIn K C (.type "list") = some true) (hd : ox.data = .seq its n)
    (pl : IsPart vl lo) (pu : IsPart vu hi)
    (h : ∀ D h', Fr h₀ L h' m → News h₀ L h' ((D, listOf (slicePick its lo hi none) 0) :: news) → (∀ p ∈ news, p.1 < D) → Q (.ref D) { s with heap := h' })
    (hs : subscripted slice false (.ref x) (.ref s.heap.objs.size) = operate [.ref s.heap.objs.size, .ref x] (getItem (.ref x) (.ref s.heap.objs.size))) (ht : ∀ r, letTemporaryGo value (.ref x) r = pure ()) (hz : its.size ≤ sizeLine) :
    wpAny (model prog w) A (subscriptTail value slice (.ref x) (.ref s.heap.objs.size)) Q E { s with heap := s.heap.push { cls := .type "slice", data := .fields #[vl, vu, .none] } } := by
  have kp : ∀ b o, s.heap.get? b = some o → (s.heap.push { cls := .type "slice", data := .fields #[vl, vu, .none] }).get? b = some o := fun b o e => Heap.get?_push_of_some _ e
  have X : K.In (s.heap.push { cls := .type "slice", data := .fields #[vl, vu, .none] }) := (X₀.keeps F.keep).keeps kp
  have I' : InstAt (s.heap.push { cls := .type "slice", data := .fields #[vl, vu, .none] }) x ox C od := ⟨kp _ _ I.at_, I.cls, I.no, by
    have := I.dict
    revert this
    cases ox.dict <;> cases od <;> intro q <;> first | exact q | exact kp _ _ q⟩
  have N1 := News.push (F.push { cls := .type "slice", data := .fields #[vl, vu, .none] }) (N.grown fun _ _ e => Heap.get?_push_of_some _ e) { cls := .type "list", data := .seq (slicePick its lo hi none) }
  rw [Heap.size_push] at N1
  unfold subscriptTail getitemInPython
  refine wpAny_bind (wpAny_bind (wpAny_bind (I'.type.here ((looks_findIn X hf).here ?_))))
  refine wpAny_pure ?_
  refine wpAny_bind ?_
  rw [hs]
  refine wpAny_operating (acc_getItem_slice X I' hq hf hm hd (Heap.IsSliceOf.new ..) pl pu ?_ hz)
  rw [ht]
  refine wpAny_bind (wpAny_pure (wpAny_pure ?_))
  have := h (s.heap.objs.size + 1) _ ((F.push _).push _) N1 (fun p hp => Nat.lt_succ_of_lt (Heap.lt_size (N p hp).1))
  simpa only [Heap.size_push] using this

noncomputable abbrev ep (a b n : Nat) : Nat := if (b == a) = true then n else n + 1
theorem mapSeq_acc {d : Addr} {its : List Value} {n : Nat} {f : Array Value → Array Value} {zs : List Value} (e : f its.toArray = zs.toArray) :
    Obj.mapSeq f (accObj d its n) = accObj d zs (ep its.length zs.length n) := by
  unfold Obj.mapSeq accObj
  simp only [e, List.size_toArray]

theorem extract_take (its : List Value) (k : Nat) : its.toArray.extract 0 k ++ #[] ++ its.toArray.extract (max (k : Int) (its.toArray.size : Int)).toNat its.toArray.size = (its.take k).toArray := by
  have : (max (k : Int) (its.toArray.size : Int)).toNat = max k its.toArray.size := by omega
  rw [this]
  apply Array.ext'
  simp only [Array.toList_append, List.append_nil, List.extract_toArray]
  simp [List.drop_eq_nil_of_le, Nat.le_max_right]

theorem acc_setSlice {h₀ : Heap} {L pg dpg l : Addr} {m : Str → Option Value} {news news' : List (Addr × Obj)} {its : List Value} {n k : Nat} {i : Int} {t : Tok} {oc : Obj} {Q : Unit → Shared → Prop}
    (F : Fr h₀ L s.heap m) (X₀ : K.In h₀) (N : News h₀ L s.heap news) (hC : (accObj dpg its n).cls = .ref C) (m1 : (pg, accObj dpg its n) ∈ news) (m2 : (dpg, oc) ∈ news)
    (U : Upd pg (accObj dpg its n) (accObj dpg (its.take i.toNat) (ep its.length (its.take i.toNat).length n)) news news')
    (hq : noSeq K C = true) (hf : findIn K (.ref C) (Str.ofString "__setitem__") = some (some (.builtin "list.__setitem__"))) (hm : mroIn K C (.type "list") = some true)
    (ml : (l, listOf #[] k) ∈ news) (hne : l ≠ pg) (hi : 0 ≤ i) (hz : its.length ≤ sizeLine)
    (h : ∀ h', Fr h₀ L h' m → News h₀ L h' news' → Q () { s with heap := h' }) :
    wpAny (model prog w) A (setItem (.ref pg) (.ref s.heap.objs.size) (.ref l)) Q E { s with heap := s.heap.push { cls := .type "slice", data := .fields #[.int i t, .none, .none] } } := by
  have kp : ∀ b o, s.heap.get? b = some o → (s.heap.push { cls := .type "slice", data := .fields #[.int i t, .none, .none] }).get? b = some o := fun b o e => Heap.get?_push_of_some _ e
  have Fp := F.push { cls := .type "slice", data := .fields #[.int i t, .none, .none] }
  have Np : News h₀ L (s.heap.push { cls := .type "slice", data := .fields #[.int i t, .none, .none] }) news := N.grown kp
  have hS := Heap.IsSliceOf.new s.heap (.int i t) .none .none
  generalize hH : s.heap.push { cls := .type "slice", data := .fields #[.int i t, .none, .none] } = H at Fp Np hS ⊢
  have X : K.In H := X₀.keeps Fp.keep
  have ho := (Np _ m1).1
  have hl := (Np _ ml).1
  have I : InstAt H pg (accObj dpg its n) C (some oc) := ⟨ho, hC, rfl, (Np _ m2).1⟩
  obtain ⟨os, hos, hcs, hds⟩ := id hS
  have hTs : (⟨H, s.gens, s.drawn, s.toks, s.os⟩ : Shared).TypeIs (.ref s.heap.objs.size) "slice" := ⟨os, hos, hcs⟩
  have hTl : (⟨H, s.gens, s.drawn, s.toks, s.os⟩ : Shared).TypeIs (.ref l) "list" := ⟨_, hl, rfl⟩
  obtain ⟨pre, post, e1, e2, h1, h2⟩ := U.split
  unfold setItem sequenceKey
  refine wpAny_holding (wpAny_bind (wpAny_bind (I.type.here ?_)))
  refine wpAny_bind ((anyM_none X hq).here ?_)
  rw [if_pos (show (!false) = true from rfl)]
  refine wpAny_pure (wpAny_bind (acc_special slot_list_setitem X I hf ?_))
  refine acc_call (n := "__setitem__") slot_list_setitem.plain entry_list_setitem (.inl (by decide +kernel)) (by decide +kernel) X I hm (by unfold argsOk; kernel_rfl) ?_
  show wpAny _ _ (Builtin.List.listSubscript? (.ref s.heap.objs.size) >>= _) _ _ _
  refine wpAny_bind ?_
  unfold Builtin.List.listSubscript?
  refine wpAny_bind (wpAny_specialOf hTs slice_no_index ?_)
  simp only [Option.isNone_none, if_true]
  refine wpAny_pure ?_
  show wpAny _ _ (typeOf (.ref s.heap.objs.size) >>= _) _ _ _
  refine wpAny_bind (wpAny_typeOf hTs ?_)
  rw [if_neg (by decide)]
  rw [listSliceParts_eq]
  refine wpAny_bind (wpAny_bind (wpAny_field hos hds (x := .none) rfl (wpAny_bind (wpAny_listPart .none ?_))))
  rw [if_neg (show ¬ ((rawPart none == rawInt 0) = true) from Bool.false_ne_true)]
  refine wpAny_bind (wpAny_field hos hds (x := .int i t) rfl (wpAny_bind (wpAny_listPart (.int i t) ?_)))
  refine wpAny_bind (wpAny_field hos hds (x := .none) rfl (wpAny_bind (wpAny_listPart .none (wpAny_pure ?_))))
  rw [if_neg (show ¬ (Builtin.List.listSameRef (.ref pg) (.ref l) = true) from fun q => hne (beq_iff_eq.mp q).symm)]
  unfold Builtin.List.listAllItems
  refine wpAny_bind (wpAny_bind (wpAny_typeOf hTl ?_))
  rw [if_pos (by decide)]
  unfold Builtin.List.listItems
  refine wpAny_bind (wpAny_seqItems hl rfl (wpAny_pure ?_))
  refine wpAny_bind (wpAny_bind (wpAny_seqItems ho rfl (wpAny_pure ?_)))
  refine wpAny_bind (wpAny_of_eq (sliceIndices_raw (some i) none none its.toArray.size (by simp)) ?_)
  have eB : sliceBounds (some i) none none its.toArray.size = (((min i.toNat its.length : Nat) : Int), ((its.length : Nat) : Int), 1) := by
    simp only [sliceBounds, Option.getD_none, show (1 : Int) > 0 by decide, if_true, if_neg (show ¬ (i < 0) by omega), List.size_toArray]
    congr 1
    omega
  rw [eB]
  rw [if_pos (show (((((min i.toNat its.length : Nat) : Int), ((its.length : Nat) : Int), (1 : Int)).2.2 == 1) = true) from rfl)]
  refine wpAny_bind (wpAny_rule ?_)
  rw [if_neg (show ¬ (Builtin.List.listTooLong (its.toArray.size + #[].size) = true) by
    unfold Builtin.List.listTooLong
    simp only [List.size_toArray, decide_eq_true_eq, List.length_nil]
    skip
    omega)]
  have fe : (fun xs : Array Value => xs.extract 0 ((((min i.toNat its.length : Nat) : Int), ((its.length : Nat) : Int), (1 : Int)).1.toNat) ++ #[] ++ xs.extract (max ((((min i.toNat its.length : Nat) : Int), ((its.length : Nat) : Int), (1 : Int)).1) ((((min i.toNat its.length : Nat) : Int), ((its.length : Nat) : Int), (1 : Int)).2.1)).toNat) its.toArray = (its.take i.toNat).toArray := by
    have := extract_take its (min i.toNat its.length)
    rw [kmk_take_min] at this
    exact this
  subst e1
  obtain ⟨F2, N2⟩ := news_upd (f := Obj.mapSeq (fun xs : Array Value => xs.extract 0 ((((min i.toNat its.length : Nat) : Int), ((its.length : Nat) : Int), (1 : Int)).1.toNat) ++ #[] ++ xs.extract (max ((((min i.toNat its.length : Nat) : Int), ((its.length : Nat) : Int), (1 : Int)).1) ((((min i.toNat its.length : Nat) : Int), ((its.length : Nat) : Int), (1 : Int)).2.1)).toNat)) Fp Np h1 h2 (mapSeq_acc fe) rfl
  refine wpAny_bind (listUpdate_at ho rfl ?_ (by rw [List.size_toArray]; exact hz) (by refine Nat.le_trans (Nat.le_of_eq (congrArg Array.size fe)) ?_; rw [List.size_toArray]; have := List.length_take_le' i.toNat its; omega))
  refine wpAny_bind (wpAny_letGo ?_)
  refine wpAny_pure ⟨.none, rfl, wpAny_pure ?_⟩
  exact h _ F2 (e2 ▸ N2)

theorem acc_method {name : Str} {pl : Sem Bool} {f tt : Value} {ga : String} {Q : Value × List Value → Shared → Prop} (X : K.In s.heap) (I : InstAt s.heap x ox C od) (hga : findIn K (.ref C) "__getattribute__" = some (some (.builtin ga))) (hcan : (Manifest.canonical ga != "object.__getattribute__") = false) (hk : findIn K (.ref C) "__getattr__" = some none)
    (hf : findIn K (.ref C) name = some (some f)) (ht : typeIn K f = some tt) (htt : (tt != .type "function" && tt != .type "method_descriptor" && tt != .type "wrapper_descriptor") = false) (hs : shadowIn od name = some false) (h : Q (f, [.ref x]) s) :
    wpAny (model prog w) A (getMethod (.ref x) name pl) Q E s := by
  unfold getMethod specialOf
  refine wpAny_bind (wpAny_bind (I.type.here ((looks_findIn X hga).here ?_)))
  dsimp only
  rw [hcan, if_neg (by decide)]
  refine wpAny_bind (wpAny_bind (I.type.here ((looks_findIn X hk).here ?_)))
  refine wpAny_bind (wpAny_bind (I.type.here ((looks_findIn X hf).here (wpAny_bind ((looks_typeIn X ht).here ?_)))))
  rw [htt, if_neg (by decide)]
  refine wpAny_bind (wpAny_loadPart I.at_ ?_)
  have hd := I.dict
  cases e : ox.dict with
  | none => exact wpAny_bind (wpAny_rule (wpAny_pure h))
  | some dx =>
    cases od with
    | none => rw [e] at hd; exact hd.elim
    | some o =>
      rw [e] at hd
      obtain ⟨r, a, b⟩ := Option.map_eq_some_iff.mp hs
      refine wpAny_bind (wpAny_bind (wpAny_loadPart hd ?_))
      rw [nsLook_of a]
      refine wpAny_pure ?_
      rw [b]
      exact wpAny_bind (wpAny_rule (wpAny_pure h))

theorem acc_append {h₀ : Heap} {L pg dpg : Addr} {m : Str → Option Value} {news news' : List (Addr × Obj)} {its : List Value} {n : Nat} {v : Value} {oc : Obj} {Q : Value → Shared → Prop}
    (F : Fr h₀ L s.heap m) (X₀ : K.In h₀) (N : News h₀ L s.heap news) (hC : (accObj dpg its n).cls = .ref C) (m1 : (pg, accObj dpg its n) ∈ news) (m2 : (dpg, oc) ∈ news)
    (U : Upd pg (accObj dpg its n) (accObj dpg (its ++ [v]) (ep its.length (its ++ [v]).length n)) news news') (hm : mroIn K C (.type "list") = some true) (hz : its.length ≤ sizeLine)
    (h : ∀ h', Fr h₀ L h' m → News h₀ L h' news' → Q .none { s with heap := h' }) :
    wpAny (model prog w) A (call (.builtin "list.append") [.ref pg, v]) Q E s := by
  have X : K.In s.heap := X₀.keeps F.keep
  have ho := (N _ m1).1
  have I : InstAt s.heap pg (accObj dpg its n) C (some oc) := ⟨ho, hC, rfl, (N _ m2).1⟩
  obtain ⟨pre, post, e1, e2, h1, h2⟩ := U.split
  refine acc_call (n := "append") slot_list_append.plain entry_list_append (.inr (by decide +kernel)) (by decide +kernel) X I hm (args_list_append _ _) ?_
  show wpAny _ _ (updateSeq pg (·.push v) >>= fun _ => ret .none) _ _ s
  subst e1
  have fe : (fun xs : Array Value => xs.push v) its.toArray = (its ++ [v]).toArray := by simp
  obtain ⟨F2, N2⟩ := news_upd (f := Obj.mapSeq (fun xs : Array Value => xs.push v)) F N h1 h2 (mapSeq_acc fe) rfl
  refine wpAny_bind (wpAny_updateSeq ho rfl (wpAny_pure ⟨.none, rfl, h _ F2 (e2 ▸ N2)⟩) (by rw [List.size_toArray]; exact hz) (by simp; exact hz))
end
end
-- Fn1
section
theorem kr_Fn1 : True := by
  k_with_none
  w_top off
  trivial
open PySem PySem.W PyProof.Rows PySem.Calls
theorem and_spec {w : World} {p : Program} {loose : List Str} {mean : ExcName → Option Value} {mg mb : Str → Option Value} {dp un : Nat} {gd : Option (List Code)} {cn : Str} {cs : Scope} {a : Addr} {ccd : Value} {cl : List (Str × Addr)} {outer : List Env} {A₀ : Around} {base h₀ : Heap} {L : Addr} {m : Str → Option Value} {news : List (Addr × Obj)} {s : Shared} {Q E : Value → Shared → Prop} {x y : Int} {tx ty : Tok} (B : Below A₀ base outer h₀) (F : Fr h₀ L s.heap m) (X : (Mine.hA.heap_1_39 w.params).In h₀) (N : News h₀ L s.heap news) (T : Top p loose mean mg mb h₀) (hk : cs.kind = .function) (hd : dp + 1 < recursionLimit)
    (hret : ∀ t h' tk', Fr h₀ L h' m → News h₀ L h' news → Q (.int (Builtin.bitAnd x y) t) { s with heap := h', toks := tk' }) :
    wpAny (model Challenge.rw_xg0084_01.row.toRowW.prog w) (ktrTop dp un gd cn cs L a ccd cl outer) (call (.ref 110) [.int x tx, .int y ty]) Q E s := by
  have _q : Challenge.rw_xg0084_01 = Challenge.rw_xg0084_01 ∧ Mine.hA.heap_1_39 = Mine.hA.heap_1_39 := by (k_fill; exact ⟨rfl, rfl⟩)
  refine wpAny_call ?_
  k_dflt (refine' code_def ?k1 ?k2 ?k3 ?k4 ?k5 ?kA ?kF ?kK ?k6 ?k7 ?k8 ?k9 ?kB ?_ ?c2 ?c3 ?c4 ?c5; (case kA => exact rfl); (case kF => exact rfl); (case kK => assumption); (case k1 => k_asm); (case k2 => k_asm); (case k3 => k_asm); (case k4 => k_asm); (case k5 => k_asm); (case k6 => k_is); (case k7 => k_is); (case k8 => ktr_room); (case k9 => first | exact BindsTo.of_eq rfl | exact binds_K (by k_in) rfl (by k_is) rfl rfl rfl); (case c5 => decide); (case kB => exact locs rfl); (case c2 => exact rfl); (case c3 => exact rfl); (case c4 => exact rfl); k_whole; intro g' L' h' FG' F' N' B' X' T'; (try dsimp only); (try k_fold))
  k_steps
  exact hret _ _ _ (by assumption) (by assumption)
theorem inv_spec {w : World} {p : Program} {loose : List Str} {mean : ExcName → Option Value} {mg mb : Str → Option Value} {dp un : Nat} {gd : Option (List Code)} {cn : Str} {cs : Scope} {a : Addr} {ccd : Value} {cl : List (Str × Addr)} {outer : List Env} {A₀ : Around} {base h₀ : Heap} {L : Addr} {m : Str → Option Value} {news : List (Addr × Obj)} {s : Shared} {Q E : Value → Shared → Prop} {x : Int} {tx : Tok} (B : Below A₀ base outer h₀) (F : Fr h₀ L s.heap m) (X : (Mine.hA.heap_1_39 w.params).In h₀) (N : News h₀ L s.heap news) (T : Top p loose mean mg mb h₀) (hk : cs.kind = .function) (hd : dp + 1 < recursionLimit)
    (hret : ∀ t h' tk', Fr h₀ L h' m → News h₀ L h' news → Q (.int (Builtin.bitNot x) t) { s with heap := h', toks := tk' }) :
    wpAny (model Challenge.rw_xg0084_01.row.toRowW.prog w) (ktrTop dp un gd cn cs L a ccd cl outer) (call (.ref 117) [.int x tx]) Q E s := by
  have _q : Challenge.rw_xg0084_01 = Challenge.rw_xg0084_01 ∧ Mine.hA.heap_1_39 = Mine.hA.heap_1_39 := by (k_fill; exact ⟨rfl, rfl⟩)
  refine wpAny_call ?_
  k_dflt (refine' code_def ?k1 ?k2 ?k3 ?k4 ?k5 ?kA ?kF ?kK ?k6 ?k7 ?k8 ?k9 ?kB ?_ ?c2 ?c3 ?c4 ?c5; (case kA => exact rfl); (case kF => exact rfl); (case kK => assumption); (case k1 => k_asm); (case k2 => k_asm); (case k3 => k_asm); (case k4 => k_asm); (case k5 => k_asm); (case k6 => k_is); (case k7 => k_is); (case k8 => ktr_room); (case k9 => first | exact BindsTo.of_eq rfl | exact binds_K (by k_in) rfl (by k_is) rfl rfl rfl); (case c5 => decide); (case kB => exact locs rfl); (case c2 => exact rfl); (case c3 => exact rfl); (case c4 => exact rfl); k_whole; intro g' L' h' FG' F' N' B' X' T'; (try dsimp only); (try k_fold))
  k_steps
  exact hret _ _ _ (by assumption) (by assumption)
theorem xor_spec {w : World} {p : Program} {loose : List Str} {mean : ExcName → Option Value} {mg mb : Str → Option Value} {dp un : Nat} {gd : Option (List Code)} {cn : Str} {cs : Scope} {a : Addr} {ccd : Value} {cl : List (Str × Addr)} {outer : List Env} {A₀ : Around} {base h₀ : Heap} {L : Addr} {m : Str → Option Value} {news : List (Addr × Obj)} {s : Shared} {Q E : Value → Shared → Prop} {x y : Int} {tx ty : Tok} (B : Below A₀ base outer h₀) (F : Fr h₀ L s.heap m) (X : (Mine.hA.heap_1_39 w.params).In h₀) (N : News h₀ L s.heap news) (T : Top p loose mean mg mb h₀) (hk : cs.kind = .function) (hd : dp + 1 < recursionLimit)
    (hret : ∀ t h' tk', Fr h₀ L h' m → News h₀ L h' news → Q (.int (Builtin.bitXor x y) t) { s with heap := h', toks := tk' }) :
    wpAny (model Challenge.rw_xg0084_01.row.toRowW.prog w) (ktrTop dp un gd cn cs L a ccd cl outer) (call (.ref 124) [.int x tx, .int y ty]) Q E s := by
  have _q : Challenge.rw_xg0084_01 = Challenge.rw_xg0084_01 ∧ Mine.hA.heap_1_39 = Mine.hA.heap_1_39 := by (k_fill; exact ⟨rfl, rfl⟩)
  refine wpAny_call ?_
  k_dflt (refine' code_def ?k1 ?k2 ?k3 ?k4 ?k5 ?kA ?kF ?kK ?k6 ?k7 ?k8 ?k9 ?kB ?_ ?c2 ?c3 ?c4 ?c5; (case kA => exact rfl); (case kF => exact rfl); (case kK => assumption); (case k1 => k_asm); (case k2 => k_asm); (case k3 => k_asm); (case k4 => k_asm); (case k5 => k_asm); (case k6 => k_is); (case k7 => k_is); (case k8 => ktr_room); (case k9 => first | exact BindsTo.of_eq rfl | exact binds_K (by k_in) rfl (by k_is) rfl rfl rfl); (case c5 => decide); (case kB => exact locs rfl); (case c2 => exact rfl); (case c3 => exact rfl); (case c4 => exact rfl); k_whole; intro g' L' h' FG' F' N' B' X' T'; (try dsimp only); (try k_fold))
  k_steps
  exact hret _ _ _ (by assumption) (by assumption)

noncomputable def colF (size : Int) (c : Int) : List Nat → Int
  | [] => c
  | k :: l => colF size (if k = 9 then (c.fdiv size + 1) * size else c + 1) l
end
-- Law0
section
open PySem PySem.W PyProof.Rows PySem.Calls
noncomputable def stmtBody : Stmt → List Stmt
  | .FunctionDef (body := b) .. => b
  | _ => []
noncomputable def stmtScope : Stmt → Option Scope
  | .FunctionDef (scope := sc) .. => some sc
  | _ => none
noncomputable def lawDef : Stmt := (PySem.Challenge.pw_xg0084_01.main.body.getLast?).getD (.Pass default)
noncomputable def lawBody : List Stmt := stmtBody lawDef
theorem lawBody_length : lawBody.length = 32 := by decide +kernel
end
-- Has
section
open PySem PySem.W PyProof.Rows PySem.Calls
open PySem.Sem (wp)
theorem md_slot : Slot "method_descriptor" "__get__" "method_descriptor.__get__" :=
  .of (owner := "method_descriptor") (n := "__get__") (by rw [typeLookup_type, builtinLookup_eq_fast]; kernel_rfl) (by decide +kernel) (by decide +kernel) (by decide +kernel) (.inl (by decide +kernel)) (by rw [isSubtype_type]; kernel_rfl)
theorem md_entry : entryFor table "method_descriptor.__get__" = some Builtin.«method_descriptor.__get__» := entryFor_of_tree (by kernel_rfl)
theorem md_args (a b c : Value) : argsOk "method_descriptor.__get__" ⟨[a, b, c], []⟩ := by unfold argsOk; kernel_rfl
theorem md_type : typeOf (.builtin "list.__getitem__") = pure (.type "method_descriptor") := by kernel_rfl
theorem has_kind : builtinKind "hasattr" = builtinKind "len" := by decide +kernel
theorem has_plain : plainId "hasattr" = true := by decide +kernel
theorem has_entry : entryFor table "hasattr" = some Builtin.«hasattr» := entryFor_of_tree (by kernel_rfl)
theorem has_args (a b : Value) : argsOk "hasattr" ⟨[a, b], []⟩ := by unfold argsOk; kernel_rfl
section
variable {prog : Program} {w : World} {A : Around} {E : Value → Shared → Prop} {h : Heap} {g : Array GenState} {d : Drawn} {t : Nat} {os : OsState} {a : Addr} {vs : Array Value} {n : Nat}
theorem has_getitem {tk : Tok} {Q : Value → Shared → Prop} (hx : h.get? a = some (W.listOf vs n)) (hq : ∀ t' ob, Q (.bool true) ⟨h.push ob, g, d, t', os⟩) :
    wpAny (model prog w) A (call (.builtin "hasattr") [.ref a, .str (Str.ofString "__getitem__") tk]) Q E ⟨h, g, d, t, os⟩ := by
  refine call_function_entry (has_kind.trans kind_len) has_plain has_entry (has_args _ _) ?_
  unfold Builtin.«hasattr»
  have hT : (⟨h, g, d, t, os⟩ : Shared).TypeIs (.ref a) "list" := ⟨_, hx, rfl⟩
  have f2 := F.slot_list_getattribute.lookup
  have f3 := F.slot_list_getattribute.bind (.ref a)
  have f4 := slot_list_getitem.lookup
  have f5 := md_type
  have f6 := md_slot.lookup
  have f7 : isSubtype (.type "list") (.type "module") = pure false := by rw [isSubtype_type]; kernel_rfl
  repeat (any_goals (first | assumption | wp_step))
  refine codeAny_call_builtin F.slot_list_getattribute.plain F.entry_list_ga (F.slot_list_getattribute.check _ _ _ _ _ _ _ _ (show (⟨h, g, d, t, os⟩ : Shared).TypeIs (.ref a) "list" from ⟨_, hx, rfl⟩) (F.args_list_getattribute_2 _ _) ?_)
  dsimp only [List.cons_append, List.nil_append]
  have f8 : typeLookup (.type "method_descriptor") (Str.ofString "__set__") = pure none := by rw [typeLookup_type, builtinLookup_eq_fast]; kernel_rfl
  have f9 : typeLookup (.type "method_descriptor") (Str.ofString "__delete__") = pure none := by rw [typeLookup_type, builtinLookup_eq_fast]; kernel_rfl
  have f10 : isSubtype (Value.type "list") (Value.type (".".intercalate ("list.__getitem__".cutAt '.').dropLast)) = pure true := by
    rw [show ".".intercalate ("list.__getitem__".cutAt '.').dropLast = "list" from by decide +kernel, isSubtype_type]; kernel_rfl
  have hT5 : ∀ hp, (⟨hp, g, d, t, os⟩ : Shared).TypeIs (.builtin "list.__getitem__") "method_descriptor" := fun _ => md_type
  repeat (any_goals (first | assumption | (with_reducible refine wpAny_call_entry md_slot (hT5 _) md_entry ?_ (md_args _ _ _)) | (with_reducible refine ⟨_, rfl, ?_⟩) | wp_step))
  all_goals exact hq _ _
end
section
variable {prog : Program} {w : World} {A : Around} {E : Value → Shared → Prop} {s : Shared} {h₀ : Heap} {L : Addr} {m : Str → Option Value} {news : List (Addr × Obj)} {l : Addr} {vs : List Value} {k : Nat}
theorem LL.has {tk : Tok} {Q : Value → Shared → Prop} (F : Fr h₀ L s.heap m) (N : News h₀ L s.heap news) (hm : (l, W.listOf vs.toArray k) ∈ news) (h : ∀ h' tk', Fr h₀ L h' m → News h₀ L h' news → Q (.bool true) { s with heap := h', toks := tk' }) :
    wpAny (model prog w) A (call (.builtin "hasattr") [.ref l, .str (Str.ofString "__getitem__") tk]) Q E s := by
  obtain ⟨hp, g, d, t, os⟩ := s
  refine has_getitem (N _ hm).1 fun t' ob => h _ _ (F.push ob) (N.grown fun _ _ e => Heap.get?_push_of_some _ e)
end
end
-- Is1
section
open PySem PySem.W PyProof.Rows PySem.Calls
section
variable {M : Model} {A : Around} {E : Value → Shared → Prop} {s : Shared} {Q : Value → Shared → Prop}
theorem is_int_same {x y : Int} {t u : Tok} (e : x = y) (hs : smallInt x = true) (ht : t ≠ 0) (hu : u ≠ 0) (h : Q (.bool true) s) : wpAny M A (compareOp .Is (.int x t) (.int y u)) Q E s := by
  subst e
  show wpAny M A (do return .bool (← isSame (.int x t) (.int x u))) Q E s
  refine wpAny_bind ?_
  show wpAny M A (if (x == x && smallInt x) = true then isSame.cachedInt t u else isSame.created (x == x) t u) _ E s
  rw [if_pos (by simp [hs])]
  unfold isSame.cachedInt
  rw [if_neg (by simp [ht, hu])]
  exact wpAny_bind (wpAny_rule (wpAny_pure (wpAny_pure h)))
theorem is_int_other {x y : Int} {t u : Tok} (e : x ≠ y) (ht : t ≠ 0) (hu : u ≠ 0) (htu : t ≠ u) (h : Q (.bool false) s) : wpAny M A (compareOp .Is (.int x t) (.int y u)) Q E s := by
  show wpAny M A (do return .bool (← isSame (.int x t) (.int y u))) Q E s
  refine wpAny_bind ?_
  have exy : (x == y) = false := beq_eq_false_iff_ne.mpr e
  show wpAny M A (if (x == y && smallInt x) = true then isSame.cachedInt t u else isSame.created (x == y) t u) _ E s
  rw [if_neg (by simp [exy])]
  refine wpAny_of_eq (a := false) ?_ (wpAny_pure h)
  unfold isSame.created
  have h1 : (t == 0) = false := beq_eq_false_iff_ne.mpr ht
  have h2 : (u == 0) = false := beq_eq_false_iff_ne.mpr hu
  have h3 : (t == u) = false := beq_eq_false_iff_ne.mpr htu
  simp [h1, h2, h3, exy]
theorem is_str_other {x y : PySem.Str} {t u : Tok} (e : x ≠ y) (ht : t ≠ 0) (hu : u ≠ 0) (htu : t ≠ u) (h : Q (.bool false) s) : wpAny M A (compareOp .Is (.str x t) (.str y u)) Q E s := by
  show wpAny M A (do return .bool (← isSame (.str x t) (.str y u))) Q E s
  refine wpAny_bind (wpAny_of_eq (isSame_str_other x y t u (by simp [ht, hu]) (beq_eq_false_iff_ne.mpr htu) (beq_eq_false_iff_ne.mpr e)) (wpAny_pure h))
theorem is_str_any {x y : PySem.Str} {t u : Tok} (ht : t ≠ 0) (hu : u ≠ 0) (hb : NoneBooked s.heap) (h : ∀ b, Q (.bool b) s) : wpAny M A (compareOp .Is (.str x t) (.str y u)) Q E s := by
  show wpAny M A (do return .bool (← isSame (.str x t) (.str y u))) Q E s
  exact wpAny_bind (wpAny_isSame_str (by simp [ht, hu]) hb fun b => wpAny_pure (h b))
end
end
-- PDef
section
theorem kr_PDef : True := by
  k_with_none
  w_top off
  trivial
-- the plain law: what the walk computes, in plain Lean

noncomputable def rk (ranks : List Nat) (i : Nat) : Nat := ranks.getD i 0

noncomputable def maxL : List Nat → Nat
  | [] => 0
  | a :: l => l.foldl (fun m x => if m < x then x else m) a

noncomputable def idxL (x : Nat) : List Nat → Nat
  | [] => 0
  | a :: l => if a = x then 0 else idxL x l + 1

noncomputable def memL (x : Nat) : List Nat → Bool
  | [] => false
  | a :: l => if x = a then true else memL x l

noncomputable def arr (turned : List Nat) : Nat → List Nat → List Nat
  | 0, row => row
  | n + 1, row =>
    if row.length < 2 then row else
      let top := idxL (maxL row) row
      let v := row.getD top 0
      if memL v turned then arr turned n (row.drop (top + 1)) ++ [v] ++ arr turned n (row.take top)
      else arr turned n (row.take top) ++ [v] ++ arr turned n (row.drop (top + 1))

noncomputable def lowF (r : Nat → Nat) (s : List Nat) (x : Nat) : Nat → Nat
  | 0 => 0
  | n + 1 => if r (s.getD n 0) < r x then lowF r s x n else n + 1

noncomputable def highF (r : Nat → Nat) (s : List Nat) (x : Nat) : Nat → Nat → Nat
  | 0, h => h
  | n + 1, h => if h < s.length then (if r (s.getD h 0) < r x then highF r s x n (h + 1) else h) else h

noncomputable def hopL (r : Nat → Nat) (s : List Nat) (x : Nat) : List Nat :=
  let place := idxL x s
  let low := lowF r s x place
  let high := highF r s x s.length (place + 1)
  (s.take low) ++ ((((s.take high).drop (place + 1)) ++ ((s.take (place + 1)).drop place)) ++ (((s.take place).drop low) ++ s.drop high))

noncomputable def addK (f c : Nat) : List (Nat × Nat) → List (Nat × Nat)
  | [] => [(f, c)]
  | (g, d) :: l => if g = f then (g, d + c) :: l else (g, d) :: addK f c l

noncomputable def nearF (ranks : List Nat) (k : Nat) : Nat :=
  (if 0 < k then (if rk ranks (k - 1) < rk ranks k then 1 else 0) else 0) + (if k + 1 < 6 then (if rk ranks (k + 1) < rk ranks k then 1 else 0) else 0)

noncomputable def freeF (ranks : List Nat) : List Nat := (List.range 6).filter fun k => nearF ranks k == 1
noncomputable def peaksF (ranks : List Nat) : Nat := ((List.range 6).filter fun k => nearF ranks k == 2).length

noncomputable def hoppedF (ranks free : List Nat) (turned : Nat) : List Nat := ((List.range free.length).filter fun k => turned / 2 ^ k % 2 == 1).map fun k => rk ranks (free.getD k 0)

noncomputable def fallsF (ranks s : List Nat) : Nat := ((List.range 5).filter fun k => rk ranks (s.getD (k + 1) 0) < rk ranks (s.getD k 0)).length

structure Bk where
  cc : Nat
  nc : Nat
  tt : Nat
  ct : Nat
  cs : List (Nat × Nat)

noncomputable def stepF (k t : Nat) : Nat := min (Nat.land (t + 1) (Nat.xor t 127)) (2 ^ (k - 1))

noncomputable def waysF : Nat → List Nat
  | 0 => [1]
  | n + 1 => List.zipWith (· + ·) (0 :: waysF n) (waysF n ++ [0])

noncomputable def lookK (f : Nat) : List (Nat × Nat) → Nat
  | [] => 0
  | (g, d) :: l => if g = f then d else lookK f l

noncomputable def endF (ranks free s : List Nat) (turned : Nat) (b : Bk) : Bool :=
  let k := free.length
  let p := peaksF ranks
  let ways := waysF k
  turned == 0 && (s == [0, 1, 2, 3, 4, 5]) && b.cs.length == ways.length
    && ((List.range ways.length).all fun j => lookK (p + j) b.cs == ways.getD j 0 && memL (p + j) (b.cs.map (·.1)))
    && (b.cs.map (·.2)).sum == 2 ^ k && b.cc == 2 ^ k && b.nc == 2 ^ k * 5 / 2 && b.tt == 2 ^ k * (25 + k) / 4 && b.ct == 2 ^ k * (25 - k) / 4

noncomputable def runF (ranks free : List Nat) : Nat → Nat → List Nat → Nat → Bk → Bool
  | 0, _, s, turned, b => endF ranks free s turned b
  | n + 1, t, s, turned, b =>
    let f := fallsF ranks s
    let st := stepF free.length t
    let i := Nat.log2 st
    (s.map (rk ranks) == arr (hoppedF ranks free turned) 6 ranks) && decide (turned < 64) && decide (st = 2 ^ i) && decide (i < free.length) &&
      runF ranks free n (t + 1) (hopL (rk ranks) s (free.getD i 0)) (Nat.xor turned st) ⟨b.cc + 1, b.nc + f, b.tt + f * f, b.ct + f * (5 - f), addK f 1 b.cs⟩

noncomputable def okF (ranks : List Nat) : Bool :=
  let free := freeF ranks
  decide (0 < free.length) && decide (free.length < 6) && runF ranks free (2 ^ free.length) 0 [0, 1, 2, 3, 4, 5] 0 ⟨0, 0, 0, 0, []⟩

noncomputable def allP (P : List Nat → Bool) : Nat → List Nat → List Nat → Bool
  | 0, acc, _ => P acc
  | n + 1, acc, rest => rest.all fun x => allP P n (acc ++ [x]) (rest.filter fun y => !(y == x))

theorem maxFold : ∀ (l : List Nat) (a : Nat), (l.foldl (fun m x => if m < x then x else m) a = a ∨ l.foldl (fun m x => if m < x then x else m) a ∈ l) ∧ a ≤ l.foldl (fun m x => if m < x then x else m) a ∧ ∀ b ∈ l, b ≤ l.foldl (fun m x => if m < x then x else m) a
  | [], a => ⟨.inl rfl, Nat.le_refl _, fun b h => nomatch h⟩
  | x :: l, a => by
    rw [List.foldl_cons]
    by_cases h : a < x
    · rw [if_pos h]
      obtain ⟨p, q, r⟩ := maxFold l x
      refine ⟨.inr ?_, Nat.le_trans (Nat.le_of_lt h) q, fun b hb => ?_⟩
      · rcases p with p | p
        · rw [p]; exact List.mem_cons_self
        · exact List.mem_cons_of_mem _ p
      · rcases List.mem_cons.mp hb with rfl | hb
        · exact q
        · exact r b hb
    · rw [if_neg h]
      obtain ⟨p, q, r⟩ := maxFold l a
      refine ⟨p.imp id (List.mem_cons_of_mem _), q, fun b hb => ?_⟩
      rcases List.mem_cons.mp hb with rfl | hb
      · exact Nat.le_trans (Nat.not_lt.mp h) q
      · exact r b hb
theorem maxL_spec : ∀ {l : List Nat}, 0 < l.length → maxL l ∈ l ∧ ∀ b ∈ l, b ≤ maxL l
  | [], h => absurd h (Nat.lt_irrefl _)
  | a :: l, _ => by
    obtain ⟨p, q, r⟩ := maxFold l a
    refine ⟨?_, fun b hb => ?_⟩
    · rcases p with p | p
      · show l.foldl (fun m x => if m < x then x else m) a ∈ _
        rw [p]; exact List.mem_cons_self
      · exact List.mem_cons_of_mem _ p
    · rcases List.mem_cons.mp hb with rfl | hb
      · exact q
      · exact r b hb
theorem idxL_spec {x : Nat} : ∀ {l : List Nat}, x ∈ l → idxL x l < l.length ∧ l[idxL x l]? = some x ∧ ∀ i, i < idxL x l → l[i]? ≠ some x
  | [], h => nomatch h
  | a :: l, h => by
    unfold idxL
    by_cases e : a = x
    · rw [if_pos e]
      exact ⟨Nat.zero_lt_succ _, by simp [e], fun i hi => absurd hi (Nat.not_lt_zero _)⟩
    · rw [if_neg e]
      have hx : x ∈ l := by
        rcases List.mem_cons.mp h with rfl | h
        · exact absurd rfl e
        · exact h
      obtain ⟨p, q, r⟩ := idxL_spec hx
      refine ⟨Nat.succ_lt_succ p, by simpa using q, fun i hi => ?_⟩
      cases i with
      | zero => simp [e]
      | succ i => simpa using r i (Nat.lt_of_succ_lt_succ hi)
theorem memL_iff {x : Nat} : ∀ {l : List Nat}, memL x l = decide (x ∈ l)
  | [] => by simp [memL]
  | a :: l => by
    unfold memL
    by_cases e : x = a
    · simp [e]
    · simp [e, memL_iff (l := l)]
theorem arr_length (turned : List Nat) : ∀ (n : Nat) (row : List Nat), (arr turned n row).length ≤ row.length
  | 0, row => Nat.le_refl _
  | n + 1, row => by
    unfold arr
    split
    · exact Nat.le_refl _
    · rename_i h
      have hp : 0 < row.length := by omega
      have hi := (idxL_spec (maxL_spec hp).1).1
      have h1 := arr_length turned n (row.drop (idxL (maxL row) row + 1))
      have h2 := arr_length turned n (row.take (idxL (maxL row) row))
      rw [List.length_drop] at h1
      rw [List.length_take] at h2
      dsimp only
      split <;> simp only [List.length_append, List.length_cons, List.length_nil] <;> omega
theorem arr_at {turned : List Nat} {n x top : Nat} {row : List Nat} (h : ¬ row.length < 2) (hx : maxL row = x) (ht : idxL x row = top) (hv : row[top]? = some x) :
    arr turned (n + 1) row = if x ∈ turned then arr turned n (row.drop (top + 1)) ++ [x] ++ arr turned n (row.take top) else arr turned n (row.take top) ++ [x] ++ arr turned n (row.drop (top + 1)) := by
  subst hx ht
  have e : row.getD (idxL (maxL row) row) 0 = maxL row := by rw [List.getD, hv]; rfl
  conv => lhs; unfold arr
  rw [if_neg h]
  dsimp only
  rw [e, memL_iff]
  by_cases q : maxL row ∈ turned <;> simp [q]
theorem lowF_le (r : Nat → Nat) (s : List Nat) (x : Nat) : ∀ n, lowF r s x n ≤ n
  | 0 => Nat.le_refl _
  | n + 1 => by
    show (if r (s.getD n 0) < r x then lowF r s x n else n + 1) ≤ n + 1
    split
    · exact Nat.le_succ_of_le (lowF_le r s x n)
    · exact Nat.le_refl _
theorem highF_ge (r : Nat → Nat) (s : List Nat) (x : Nat) : ∀ n h, h ≤ highF r s x n h
  | 0, h => Nat.le_refl _
  | n + 1, h => by
    show h ≤ (if h < s.length then (if r (s.getD h 0) < r x then highF r s x n (h + 1) else h) else h)
    split
    · split
      · exact Nat.le_trans (Nat.le_succ h) (highF_ge r s x n (h + 1))
      · exact Nat.le_refl _
    · exact Nat.le_refl _
theorem highF_le (r : Nat → Nat) (s : List Nat) (x : Nat) : ∀ n h, h ≤ s.length → highF r s x n h ≤ s.length
  | 0, h, q => q
  | n + 1, h, q => by
    show (if h < s.length then (if r (s.getD h 0) < r x then highF r s x n (h + 1) else h) else h) ≤ _
    split
    · split
      · exact highF_le r s x n (h + 1) (by omega)
      · exact q
    · exact q
end
-- And2
section
theorem kr_And2 : True := by
  k_with_none
  w_top off
  trivial
open PySem PySem.W PyProof.Rows PySem.Calls
theorem kw_379074_1 : True := by
  k_with "execs cons" => (k_here; (with_reducible refine wpAny_execs_cons ?_); try dsimp only)
  trivial
theorem and_spec2 {w : World} {p : Program} {loose : List Str} {mean : ExcName → Option Value} {mg mb : Str → Option Value} {dp un : Nat} {gd : Option (List Code)} {cn : Str} {cs : Scope} {a : Addr} {ccd : Value} {cl : List (Str × Addr)} {outer : List Env} {A₀ : Around} {base h₀ : Heap} {L : Addr} {m : Str → Option Value} {news : List (Addr × Obj)} {s : Shared} {Q E : Value → Shared → Prop} {x y : Int} {tx ty : Tok} (B : Below A₀ base outer h₀) (F : Fr h₀ L s.heap m) (X : (Mine.hA.heap_1_39 w.params).In h₀) (N : News h₀ L s.heap news) (T : Top p loose mean mg mb h₀) (hk : cs.kind = .function) (hd : dp + 1 < recursionLimit)
    (hret : ∀ t h' tk', Fr h₀ L h' m → News h₀ L h' news → @LE.le Nat _ s.toks t → @LT.lt Nat _ t tk' → Q (.int (Builtin.bitAnd x y) t) { s with heap := h', toks := tk' }) :
    wpAny (model Challenge.rw_xg0084_01.row.toRowW.prog w) (ktrTop dp un gd cn cs L a ccd cl outer) (call (.ref 110) [.int x tx, .int y ty]) Q E s := by
  have _q : Challenge.rw_xg0084_01 = Challenge.rw_xg0084_01 ∧ Mine.hA.heap_1_39 = Mine.hA.heap_1_39 := by (k_fill; exact ⟨rfl, rfl⟩)
  refine wpAny_call ?_
  k_dflt (refine' code_def ?k1 ?k2 ?k3 ?k4 ?k5 ?kA ?kF ?kK ?k6 ?k7 ?k8 ?k9 ?kB ?_ ?c2 ?c3 ?c4 ?c5; (case kA => exact rfl); (case kF => exact rfl); (case kK => assumption); (case k1 => k_asm); (case k2 => k_asm); (case k3 => k_asm); (case k4 => k_asm); (case k5 => k_asm); (case k6 => k_is); (case k7 => k_is); (case k8 => ktr_room); (case k9 => first | exact BindsTo.of_eq rfl | exact binds_K (by k_in) rfl (by k_is) rfl rfl rfl); (case c5 => decide); (case kB => exact locs rfl); (case c2 => exact rfl); (case c3 => exact rfl); (case c4 => exact rfl); k_whole; intro g' L' h' FG' F' N' B' X' T'; (try dsimp only); (try k_fold))
  k_steps
  exact hret _ _ _ (by assumption) (by assumption) (by omega) (by omega)
end
-- BitDec
section
open PySem
theorem and_dec : ((List.range 64).all fun t => Builtin.bitAnd ((t : Nat) + 1 : Int) (Builtin.bitNot (t : Nat)) == ((Nat.land (t + 1) (Nat.xor t 127) : Nat) : Int)) = true := by decide +kernel
theorem xor_dec : ((List.range 64).all fun a => (List.range 64).all fun b => Builtin.bitXor (a : Nat) (b : Nat) == ((Nat.xor a b : Nat) : Int)) = true := by decide +kernel
theorem and_at {t : Nat} (h : t < 64) : Builtin.bitAnd ((t : Nat) + 1 : Int) (Builtin.bitNot (t : Nat)) = ((Nat.land (t + 1) (Nat.xor t 127) : Nat) : Int) := by
  have q := and_dec
  rw [List.all_eq_true] at q
  exact eq_of_beq (q t (List.mem_range.mpr h))
theorem xor_at {a b : Nat} (ha : a < 64) (hb : b < 64) : Builtin.bitXor (a : Nat) (b : Nat) = ((Nat.xor a b : Nat) : Int) := by
  have q := xor_dec
  rw [List.all_eq_true] at q
  have q := q a (List.mem_range.mpr ha)
  rw [List.all_eq_true] at q
  exact eq_of_beq (q b (List.mem_range.mpr hb))
end
-- Plain2
section
theorem ok0 : allP okF 5 [0] [1, 2, 3, 4, 5] = true := by decide +kernel
theorem ok1 : allP okF 5 [1] [0, 2, 3, 4, 5] = true := by decide +kernel
theorem ok2 : allP okF 5 [2] [0, 1, 3, 4, 5] = true := by decide +kernel
theorem ok3 : allP okF 5 [3] [0, 1, 2, 4, 5] = true := by decide +kernel
theorem ok4 : allP okF 5 [4] [0, 1, 2, 3, 5] = true := by decide +kernel
theorem ok5 : allP okF 5 [5] [0, 1, 2, 3, 4] = true := by decide +kernel
theorem ok_all : allP okF 6 [] [0, 1, 2, 3, 4, 5] = true := by
  show ([0, 1, 2, 3, 4, 5].all fun x => allP okF 5 ([] ++ [x]) (List.filter (fun y => !(y == x)) [0, 1, 2, 3, 4, 5])) = true
  rw [List.all_eq_true]
  intro x hx
  simp only [List.mem_cons, List.not_mem_nil, or_false] at hx
  rcases hx with rfl | rfl | rfl | rfl | rfl | rfl
  · exact ok0
  · exact ok1
  · exact ok2
  · exact ok3
  · exact ok4
  · exact ok5
theorem allP_spec {P : List Nat → Bool} : ∀ (n : Nat) (acc rest l : List Nat), allP P n acc rest = true → l.length = n → l.Nodup → (∀ x ∈ l, x ∈ rest) → P (acc ++ l) = true
  | 0, acc, rest, [], h, _, _, _ => by rw [List.append_nil]; exact h
  | 0, acc, rest, _ :: _, _, h, _, _ => by simp at h
  | n + 1, acc, rest, [], _, h, _, _ => by simp at h
  | n + 1, acc, rest, x :: l, h, hl, hn, hm => by
    unfold allP at h
    rw [List.all_eq_true] at h
    have h2 := h x (hm x List.mem_cons_self)
    rw [List.nodup_cons] at hn
    have := allP_spec n (acc ++ [x]) (rest.filter fun y => !(y == x)) l h2 (by simpa using hl) hn.2 (fun y hy => by
      rw [List.mem_filter]
      refine ⟨hm y (List.mem_cons_of_mem _ hy), ?_⟩
      have : y ≠ x := fun e => hn.1 (e ▸ hy)
      simp [this])
    simpa using this
theorem okF_of {l : List Nat} (hl : l.length = 6) (hn : l.Nodup) (h : ∀ x ∈ l, x < 6) : okF l = true :=
  allP_spec 6 [] [0, 1, 2, 3, 4, 5] l ok_all hl hn fun x hx => by have := h x hx; simp; omega
end
section
local macro_rules | `(tactic| k_all) => `(tactic| assumption)
local macro_rules | `(tactic| k_mem) => `(tactic| assumption)
-- Acc2
section
theorem kr_Acc2 : True := by
  k_with_none
  w_top off
  trivial
open PySem PySem.W PyProof.Rows PySem.Calls
noncomputable abbrev tupOf (vs : List Value) : Obj := { cls := .type "tuple", data := .seq vs.toArray }
noncomputable def IsAccD (od : Obj) : Prop := ∃ hh tk v k, od = dictOf [⟨hh, .str (Str.ofString "_initial_size") tk, v⟩] k
theorem acc_inst {h₀ h : Heap} {L pg dpg : Addr} {its : List Value} {n : Nat} {od : Obj} {news : List (Addr × Obj)} (N : News h₀ L h news) (h1 : (pg, accObj dpg its n) ∈ news) (h2 : (dpg, od) ∈ news) :
    InstAt h pg (accObj dpg its n) 99 (some od) := ⟨(N _ h1).1, rfl, rfl, (N _ h2).1⟩

theorem kw_941684_1 : True := by
  k_with "subscriptTail" => (k_here;    (with_reducible show wpAny _ _ (subscriptTail _ _ (Value.ref _) (Value.ref _)) _ _ _);    k_dflt (refine' acc_tail_slice (by assumption) (by assumption) (by assumption) (acc_inst (by assumption) (by k_mem) (by k_mem)) (by k_is) (by k_is) (by k_is) (by exact rfl) ?pl ?pu ?_ ?hs ?ht ?hz;      (case pl => first | exact IsPart.int _ _ | exact IsPart.none); (case pu => first | exact IsPart.int _ _ | exact IsPart.none); (case hs => with_unfolding_all rfl); (case ht => intro _; with_unfolding_all rfl); (case hz => first | assumption | size_fits); k_whole); intro D' h' F' N' l1'; (try k_lt l1'); revert D' h' F' N' l1'; intros)
  trivial


theorem kw_941684_2 : True := by
  k_with "setItem ref ref" => (k_here;    (with_reducible show wpAny _ _ (setItem (Value.ref _) (Value.ref _) (Value.ref _)) _ _ _);    k_dflt (refine' acc_setSlice (by assumption) (by assumption) (by assumption) (by exact rfl) (by k_mem) (by k_mem) (by k_upd) (by k_is) (by k_is) (by k_is) ?ml ?hne ?hi ?hz ?_;      (case ml => k_mem); (case hne => k_ne); (case hi => assumption); (case hz => assumption); k_whole); intro _ _ _)
  trivial

theorem pop_from_spec {w : World} {p : Program} {loose : List Str} {mean : ExcName → Option Value} {mg mb : Str → Option Value} {dp un : Nat} {gd : Option (List Code)} {cn : Str} {cs : Scope} {a : Addr} {ccd : Value} {cl : List (Str × Addr)} {outer : List Env} {A₀ : Around} {base h₀ : Heap} {L : Addr} {m : Str → Option Value} {news : List (Addr × Obj)} {s : Shared} {Q E : Value → Shared → Prop} {pg dpg : Addr} {its : List Value} {n : Nat} {i : Int} {t : Tok} {od : Obj} {mid : List (Addr × Obj)}
    (B : Below A₀ base outer h₀) (F : Fr h₀ L s.heap m) (X : (Mine.hA.heap_1_39 w.params).In h₀) (N : News h₀ L s.heap news) (T : Top p loose mean mg mb h₀) (hk : cs.kind = .function) (hd : dp + 1 < recursionLimit) (hz : its.length ≤ sizeLine) (hz2 : its.toArray.size ≤ sizeLine) (hi : 0 ≤ i)
    (hn : news = (pg, accObj dpg its n) :: (dpg, od) :: mid) (hoff : ∀ p ∈ (dpg, od) :: mid, p.1 ≠ pg)
    (hret : ∀ D h' tk' n', Fr h₀ L h' m → News h₀ L h' ((D, listOf (slicePick its.toArray (some i) none none) 0) :: (pg, accObj dpg (its.take i.toNat) n') :: (dpg, od) :: mid) → D ≠ pg → Q (.ref D) { s with heap := h', toks := tk' }) :
    wpAny (model Challenge.rw_xg0084_01.row.toRowW.prog w) (ktrTop dp un gd cn cs L a ccd cl outer) (call (.ref 53) [.ref pg, .int i t]) Q E s := by
  have _q : Challenge.rw_xg0084_01 = Challenge.rw_xg0084_01 ∧ Mine.hA.heap_1_39 = Mine.hA.heap_1_39 := by (k_fill; exact ⟨rfl, rfl⟩)
  refine wpAny_call ?_
  subst hn
  k_dflt (refine' code_def ?k1 ?k2 ?k3 ?k4 ?k5 ?kA ?kF ?kK ?k6 ?k7 ?k8 ?k9 ?kB ?_ ?c2 ?c3 ?c4 ?c5; (case kA => exact rfl); (case kF => exact rfl); (case kK => assumption); (case k1 => k_asm); (case k2 => k_asm); (case k3 => k_asm); (case k4 => k_asm); (case k5 => k_asm); (case k6 => k_is); (case k7 => k_is); (case k8 => ktr_room); (case k9 => first | exact BindsTo.of_eq rfl | exact binds_K (by k_in) rfl (by k_is) rfl rfl rfl); (case c5 => decide); (case kB => exact locs rfl); (case c2 => exact rfl); (case c3 => exact rfl); (case c4 => exact rfl); k_whole; intro g' L' h' FG' F' N' B' X' T'; (try dsimp only); (try k_fold))
  k_steps
  exact hret _ _ _ _ (by assumption) (cb_drop (by assumption) (by ((repeat (refine List.forall_mem_cons.mpr ⟨by k_mem, ?_⟩)); first | exact List.forall_mem_nil _ | (intro p9 hp9; k_mem)))) (by k_ne)
end
-- Acc3
section
theorem kr_Acc3 : True := by
  k_with_none
  w_top off
  trivial
open PySem PySem.W PyProof.Rows PySem.Calls
theorem allLt_ne0 {d : Addr} : ∀ {l : List (Addr × Obj)}, AllLt d l → ∀ p ∈ l, p.1 ≠ d
  | [], _, _, h => nomatch h
  | _ :: _, x, p, h => by
    rcases List.mem_cons.mp h with rfl | h
    · exact Nat.ne_of_lt x.1
    · exact allLt_ne0 x.2 p h
theorem kw_413050_1 : True := by
  k_with "getMethod ref" => (k_here;    k_dflt (refine' acc_method (by exact Frag.In.keeps (by assumption) (Fr.keep (by assumption))) (acc_inst (by assumption) (by k_mem) (by k_mem)) (by k_is) (by decide +kernel) (by k_is) (by k_is) (by k_is) (by decide) (by exact rfl) ?_; k_whole))
  k_with "call builtin:list.append" => (k_here; (with_reducible show wpAny _ _ (call (Value.builtin _) [Value.ref _, _]) _ _ _);    k_dflt (refine' acc_append (by assumption) (by assumption) (by assumption) (by exact rfl) (by k_mem) (by k_mem) (by k_upd) (by k_is) (by assumption) ?_; k_whole); intro _ _ _)
  trivial

theorem push_spec {w : World} {p : Program} {loose : List Str} {mean : ExcName → Option Value} {mg mb : Str → Option Value} {dp un : Nat} {gd : Option (List Code)} {cn : Str} {cs : Scope} {a : Addr} {ccd : Value} {cl : List (Str × Addr)} {outer : List Env} {A₀ : Around} {base h₀ : Heap} {L : Addr} {m : Str → Option Value} {news : List (Addr × Obj)} {s : Shared} {Q E : Value → Shared → Prop} {pg dpg : Addr} {its : List Value} {n : Nat} {v1 v2 : Value} {od : Obj} {mid : List (Addr × Obj)}
    (B : Below A₀ base outer h₀) (F : Fr h₀ L s.heap m) (X : (Mine.hA.heap_1_39 w.params).In h₀) (N : News h₀ L s.heap news) (T : Top p loose mean mg mb h₀) (hk : cs.kind = .function) (hod : IsAccD od) (hd : dp + 1 < recursionLimit) (hz : its.length ≤ sizeLine) (hz2 : its.toArray.size ≤ sizeLine)
    (hn : news = (pg, accObj dpg its n) :: (dpg, od) :: mid) (hoff : ∀ p ∈ (dpg, od) :: mid, p.1 ≠ pg)
    (hret : ∀ D h' tk' n', Fr h₀ L h' m → News h₀ L h' ((D, tupOf [v1, v2]) :: (pg, accObj dpg (its ++ [.ref D]) n') :: (dpg, od) :: mid) → D ≠ pg → (∀ p ∈ mid, p.1 ≠ D) → Q .none { s with heap := h', toks := tk' }) :
    wpAny (model Challenge.rw_xg0084_01.row.toRowW.prog w) (ktrTop dp un gd cn cs L a ccd cl outer) (call (.ref 45) [.ref pg, v1, v2]) Q E s := by
  have _q : Challenge.rw_xg0084_01 = Challenge.rw_xg0084_01 ∧ Mine.hA.heap_1_39 = Mine.hA.heap_1_39 := by (k_fill; exact ⟨rfl, rfl⟩)
  obtain ⟨hh, tk, v, k, rfl⟩ := hod
  refine wpAny_call ?_
  subst hn
  k_dflt (refine' code_def ?k1 ?k2 ?k3 ?k4 ?k5 ?kA ?kF ?kK ?k6 ?k7 ?k8 ?k9 ?kB ?_ ?c2 ?c3 ?c4 ?c5; (case kA => exact rfl); (case kF => exact rfl); (case kK => assumption); (case k1 => k_asm); (case k2 => k_asm); (case k3 => k_asm); (case k4 => k_asm); (case k5 => k_asm); (case k6 => k_is); (case k7 => k_is); (case k8 => ktr_room); (case k9 => first | exact BindsTo.of_eq rfl | exact binds_K (by k_in) rfl (by k_is) rfl rfl rfl); (case c5 => decide); (case kB => exact locs rfl); (case c2 => exact rfl); (case c3 => exact rfl); (case c4 => exact rfl); k_whole; intro g' L' h' FG' F' N' B' X' T'; (try dsimp only); (try k_fold))
  k_steps
  exact hret _ _ _ _ (by assumption) (cb_drop (by assumption) (by ((repeat (refine List.forall_mem_cons.mpr ⟨by k_mem, ?_⟩)); first | exact List.forall_mem_nil _ | (intro p9 hp9; k_mem)))) (by k_ne) (allLt_ne0 (by first | exact And.right (And.right ‹_ < _ ∧ _ < _ ∧ AllLt _ _›)))
end
end
-- Acc4
section
open PySem PySem.W PyProof.Rows PySem.Calls
section
variable {prog : Program} {w : World} {A : Around} {K : Frag} {C : Addr} {R : Result → Shared → Prop} {h : Heap} {g : Array GenState} {d : Drawn} {t : Nat} {os : OsState}

structure AccMakes (M : Model) (h : Heap) (C : Addr) : Prop where
  obj : ∃ oc od cd sl, h.get? C = some ⟨oc, od, .cls cd, sl⟩ ∧ cd.hasDel = false ∧ cd.mro.isEmpty = false
  made : Looks M h (Bind.madeBy (.ref C)) (some "list.__new__")
  base : Looks M h (Bind.staticBase (.ref C)) (.ref C)
  self : Looks M h (isSubtype (.ref C) (.ref C)) true
  top : Looks M h (isSubtype (.ref C) (.type "list")) true
  call : Looks M h (specialOf (.ref C) "__call__") (some (.builtin "type.__call__"))
  typ : Looks M h (isInstance (.ref C) (.type "type")) true
  new : Looks M h (typeLookup (.ref C) "__new__") (some (.builtin "list.__new__"))

theorem accMakes_of {M : Model} (X : K.In h) {cd : ClassData} {oc : Value} {od : Option Addr} {sl : Array (Option Value)} (ho : K.lookup C = some ⟨oc, od, .cls cd, sl⟩) (e2 : cd.hasDel = false) (e3 : (sl.toList[4]?).join = some (.builtin "list.__new__"))
    (e4 : cd.mro.isEmpty = false) (e5 : cd.mro.contains (.ref C) = true) (e6 : cd.mro.contains (.type "list") = true) (e7 : specialIn K (.ref C) "__call__" = some (some (.builtin "type.__call__"))) (e8 : instIn K (.ref C) (.type "type") = some true)
    (e9 : findIn K (.ref C) "__new__" = some (some (.builtin "list.__new__"))) : AccMakes M h C := by
  have hc : clsIn K C = some cd := by unfold clsIn; rw [ho]
  have hm : Looks M h (mroOf (.ref C)) cd.mro := (looks_clsIn X hc).andThen .now
  obtain ⟨c, l, hl⟩ : ∃ c l, cd.mro = c :: l := by cases q : cd.mro with | nil => rw [q] at e4; cases e4 | cons c l => exact ⟨c, l, rfl⟩
  have made : Looks M h (Bind.madeBy (.ref C)) (some "list.__new__") := by
    intro A Q E s k q
    unfold Bind.madeBy
    refine wpAny_bind (hm A _ E s k ?_)
    rw [hl, List.forIn_cons]
    refine wpAny_bind (wpAny_bind (wpAny_bind (wpAny_bind (wpAny_loadPart (k _ _ (X _ _ ho)) (wpAny_pure ?_)))))
    dsimp only
    rw [← Array.getElem?_toList, e3]
    exact wpAny_pure (wpAny_pure (wpAny_pure q))
  refine ⟨⟨oc, od, cd, sl, X _ _ ho, e2, e4⟩, made, ?_, looks_mroIn X ?_, looks_mroIn X ?_, looks_specialIn X e7, looks_instIn X e8, looks_findIn X e9⟩
  · intro A Q E s k q
    unfold Bind.staticBase
    refine wpAny_bind (hm A _ E s k ?_)
    rw [hl, List.forIn_cons]
    exact wpAny_bind (wpAny_bind (wpAny_bind (made A _ E s k (wpAny_pure (wpAny_pure (wpAny_pure q))))))
  · unfold mroIn; rw [hc, Option.bind_some, if_neg (by rw [e4]; decide), e5]
  · unfold mroIn; rw [hc, Option.bind_some, if_neg (by rw [e4]; decide), e6]

noncomputable abbrev accNew (C d : Addr) : Obj := { cls := .ref C, dict := some d, data := .seq #[] }

theorem acc_new_code (Y : AccMakes (model prog w) h C) 
    (hq : R (.ok (.ret (.ref (h.objs.size + 1)))) ⟨(h.push emptyDict).push (accNew C h.objs.size), g, d, t, os⟩) :
    codeAny (model prog w) A (.call (.builtin "list.__new__") ⟨[.ref C], []⟩) R ⟨h, g, d, t, os⟩ := by
  obtain ⟨⟨oc, od, cd, sl, hC, e2, e4⟩, made, base, self, top, call, typ, new⟩ := Y
  refine codeAny_of_tree ?_
  show wpAny _ A.in1 (do checkBuiltinCall "list.__new__" ⟨[.ref C], []⟩; again (.builtin "list.__new__" ⟨[.ref C], []⟩)) _ _ _
  have isT : ∀ A Q E (s : Shared), s.heap = h → Q true s → wpAny (model prog w) A (isType (.ref C)) Q E s := by
    intro A Q E s hs q
    unfold isType
    subst hs
    refine wpAny_bind (wpAny_load hC ?_)
    exact wpAny_pure q
  have hk : builtinKind "list.__new__" = some .builtinFn := by decide +kernel
  have hs : splitId "list.__new__" = some ("list", "__new__") := by decide +kernel
  have hr : Manifest.signature? "list.__new__" = some ⟨.any, "list", "list", .cls, [{ name := "args", kind := .varPos, required := false }, { name := "kwargs", kind := .varKw, required := false }]⟩ := by kernel_rfl
  have args : Bind.checkArgs "list.__new__" ⟨.any, "list", "list", .cls, [{ name := "args", kind := .varPos, required := false }, { name := "kwargs", kind := .varKw, required := false }]⟩ ⟨[.ref C], []⟩ = pure () := by kernel_rfl
  refine wpAny_bind ?_
  simp only [checkBuiltinCall, hk, hs, hr]
  repeat (first | simp only [bne_self_eq_false, beq_self_eq_true, if_true, if_false, Bool.false_eq_true, Bool.not_true, args] | lk)
  refine ⟨plainId_quiet F.plain_list_new _, codeAny_builtin_stack F.entry_list_new rfl fun p st => ?_⟩
  rw [Around.under_plainId F.plain_list_new _]
  have hown := owner_list_new
  simp only [hown]
  repeat (first | simp only [bne_self_eq_false, beq_self_eq_true, if_true, if_false, Bool.false_eq_true, Bool.not_true, args] | lk)
  have hC2 : ((h.push emptyDict).push (accNew C h.objs.size)).get? C = some ⟨oc, od, .cls cd, sl⟩ := Heap.get?_push_of_some _ (Heap.get?_push_of_some _ hC)
  refine wpAny_load hC2 ?_
  dsimp only
  rw [e2]
  refine wpAny_pure ?_
  rw [if_neg Bool.false_ne_true]
  refine wpAny_pure (wpAny_pure ?_)
  show R _ _
  rw [Heap.size_push]
  exact hq

theorem acc_make_core {init : Value} (Y : AccMakes (model prog w) h C) (hi : Looks (model prog w) h (typeLookup (.ref C) "__init__") (some init))
    (hb : ∀ self, Looks (model prog w) h (bindSpecial init self) (init, [self]))
    (hq : codeAny (model prog w) (A.under (.builtin "type.__call__" ⟨[.ref C], []⟩)) (.call init ⟨[.ref (h.objs.size + 1)], []⟩) (InitBack (h.objs.size + 1) R) ⟨(h.push emptyDict).push (accNew C h.objs.size), g, d, t, os⟩) :
    codeAny (model prog w) A (.call (.ref C) ⟨[], []⟩) R ⟨h, g, d, t, os⟩ := by
  have Y' := Y
  obtain ⟨⟨oc, od, cd, sl, hC, e2, e4⟩, made, base, self, top, call, typ, new⟩ := Y
  refine codeAny_of_tree ?_
  show wpAny _ _ (callAny (.ref C) _) _ _ _
  refine nd_load hC ?_
  show wpAny _ _ (callAny.viaDunder (.ref C) _) _ _ _
  unfold callAny.viaDunder
  refine wpAny_bind (call.at ?_)
  dsimp only
  rw [tc_bind]
  refine wpAny_bind (wpAny_pure (wpAny_bind (wpAny_pure ?_)))
  refine wpAny_pure (a := Fin.again (.call (.builtin "type.__call__") ⟨[.ref C], []⟩)) (And.intro rfl ?_)
  refine codeAny_call_builtin_at (Code.quiet_builtin _ (by decide +kernel)) entry_typeCall (check_slot tc_kind tc_split typ (tc_args _ _ _) ?_)
  unfold Builtin.«type.__call__»
  have hm : Looks (model prog w) h (mroOf (.ref C)) cd.mro := ((Looks.ld (part := none) hC).andThen .now).andThen .now
  repeat (first | simp only [e4, Bool.false_eq_true, if_false] | with_reducible refine wpAny_call ?_ | lk)
  refine acc_new_code Y' ?_
  have k : ∀ b o, h.get? b = some o → ((h.push emptyDict).push (accNew C h.objs.size)).get? b = some o := fun b o e => Heap.get?_push_of_some _ (Heap.get?_push_of_some _ e)
  have hx : ((h.push emptyDict).push (accNew C h.objs.size)).get? (h.objs.size + 1) = some (accNew C h.objs.size) := by heap_get
  have t1 : Looks (model prog w) ((h.push emptyDict).push (accNew C h.objs.size)) (typeOf (.ref (h.objs.size + 1))) (.ref C) := (Looks.ld hx).andThen .now
  have s1 := self.keeps k
  have i1 := hi.keeps k
  have b1 := (hb (.ref (h.objs.size + 1))).keeps k
  unfold isInstance callSpecial? specialOf
  repeat (first | with_reducible refine wpAny_call ?_ | lk)
  refine codeAny_mono hq fun r s' z => ?_
  rcases r with e | (v | _ | _ | _) <;> first | exact z | exact z.elim | skip
  obtain ⟨rfl, z⟩ := z
  exact wpAny_pure (wpAny_pure z)
end
end
-- Acc5
section
open PySem PySem.W PyProof.Rows PySem.Calls Builtin Builtin.ObjectAttr
theorem acc_refuse (self : Value) (c : Addr) : refuseLoop self "__setattr__" [.ref c, .type "list", .type "object"] = pure () := by
  rw [refuseLoop_ref]
  kernel_rfl

section
variable {prog : Program} {w : World} {A : Around} {K : Frag} {E : Value → Shared → Prop} {s : Shared} {h₀ : Heap} {L x dx : Addr} {m : Str → Option Value} {rest : List (Addr × Obj)}
theorem acc_setattr {its : List Value} {n : Nat} {cd : ClassData} {name : Str} {v : Value} {Q : Unit → Shared → Prop} (F : Fr h₀ L s.heap m) (X₀ : K.In h₀) (N : News h₀ L s.heap ((x, accObj dx its n) :: (dx, emptyDict) :: rest))
    (hcd : clsIn K 99 = some cd) (hdc : cd.hasDict = true) (hmro : cd.mro = [.ref 99, .type "list", .type "object"])
    (hs : findIn K (.ref 99) "__setattr__" = some (some (.builtin "object.__setattr__"))) (ht : takerIn K 99 name = some none)
    (h1 : x ≠ dx) (h2 : ∀ p ∈ rest, p.1 ≠ dx)
    (h : ∀ h' hh tk tk', Fr h₀ L h' m → News h₀ L h' ((x, accObj dx its n) :: (dx, dictOf [⟨hh, .str name tk, v⟩] 1) :: rest) → Q () { s with heap := h', toks := tk' }) :
    wpAny (model prog w) A (setAttr (.ref x) name v) Q E s := by
  obtain ⟨hp, g, d, tk, os⟩ := s
  dsimp only at F N h ⊢
  have X : K.In hp := X₀.keeps F.keep
  have hx := (N (x, accObj dx its n) (by simp)).1
  have hdx := (N (dx, emptyDict) (by simp)).1
  have I : InstAt hp x (accObj dx its n) 99 (some emptyDict) := ⟨hx, rfl, rfl, hdx⟩
  refine set_plain X I hs ?_
  have SF := PySem.F.store_object
  have sub : Looks (model prog w) hp (isInstance (.ref x) (.type "object")) true := I.type.andThen (looks_mroIn X (by unfold mroIn; rw [hcd, Option.bind_some, hmro]; rfl))
  refine codeAny_call_builtin SF.slot.plain SF.entry (@check_slot (model prog w) _ _ ⟨hp, g, d, tk + 1, os⟩ "object.__setattr__" "object" "__setattr__" (.ref x) [.str name tk, v] [] _ SF.kind SF.split sub (SF.args (.ref x) (.str name tk) v) ?_)
  obtain ⟨attr, ha, hr⟩ := Option.bind_eq_some_iff.mp ht
  have hm : Looks (model prog w) hp (mroOf (.ref 99)) cd.mro := (looks_clsIn X hcd).andThen .now
  have L3 : Looks (model prog w) hp (storeTaker? attr) none := by
    cases attr with
    | none => cases hr; exact .now
    | some a =>
      obtain ⟨b, hb, hb2⟩ := Option.map_eq_some_iff.mp hr
      refine (looks_takesIn X hb).andThen ?_
      cases b with
      | true => cases hb2
      | false => exact .now
  have Na : News h₀ L hp ([(x, accObj dx its n)] ++ (dx, emptyDict) :: rest) := N
  obtain ⟨U1, U2⟩ := news_upd (f := Obj.putName name (PyData.keyHash w.params name) (.str name (tk + 1)) v) (o' := dictOf [⟨PyData.keyHash w.params name, .str name (tk + 1), v⟩] 1) F Na (fun p hp => by rw [List.mem_singleton.mp hp]; exact h1) h2 (putName_dict name _ _ v [] 0) rfl
  have D' := (U2 (dx, dictOf [⟨PyData.keyHash w.params name, .str name (tk + 1), v⟩] 1) (by simp)).1
  rw [osa_eq, refuse_eq]
  refine wpAny_bind (wpAny_bind (I.type.at (wpAny_bind (hm.at ?_))))
  rw [hmro, acc_refuse]
  refine wpAny_pure (wpAny_bind (I.type.at (wpAny_bind ((looks_findIn X ha).at (wpAny_bind (L3.at ?_))))))
  show wpAny _ _ (storeInOwnDict (.ref x) (.ref 99) (.str name tk) name v _) _ _ _
  refine wpAny_bind (wpAny_pure (wpAny_bind (wpAny_bind (wpAny_loadPart hx (wpAny_bind ((looks_clsIn X hcd).at ?_))))))
  rw [hdc]
  refine wpAny_pure (a := some dx) (wpAny_bind (wpAny_pure (wpAny_bind ?_)))
  unfold nsSet
  refine wpAny_bind (wpAny_bind (wpAny_askSetting (wpAny_pure (wpAny_bind (wpAny_mkText (wpAny_bind (wpAny_loadPart hdx ?_)))))))
  refine wpAny_updatePart hdx ?_
  refine wpAny_bind (wpAny_lookBehind D' (pastItsLine_dict (by simp [sizeLine_eq])) ?_)
  exact wpAny_pure (h _ _ _ _ U1 U2)
end
end
-- Comp2
section
theorem kr_Comp2 : True := by
  k_with_none
  w_top off
  trivial
open PySem PySem.W PyProof.Rows PySem.Calls PySem.Spec
open PyProof.Rows.LCg
noncomputable def SeqObj (h : Heap) (a : Addr) (items : Array Value) : Prop := ∃ o n, h.get? a = some o ∧ o.data = .seq items n

section
variable {prog : Program} {w : World} {A : Around} {E : Value → Shared → Prop} {s : Shared}
theorem seqiter_next {it l : Addr} {i : Nat} {items : Array Value} {Q : Option Value → Shared → Prop} (hh : A.handled = none) (hit : s.heap.IsListIter it l i) (hl : SeqObj s.heap l items)
    (hsome : ∀ x h', items[i]? = some x → h'.IsListIter it l (i + 1) → Heap.SameBut it s.heap h' → Q (some x) { s with heap := h' })
    (hnone : ∀ h', items[i]? = none → Heap.ExtBut it s.heap h' → Q none { s with heap := h' }) :
    wpAny (model prog w) A (pyNext (.ref it)) Q E s := by
  obtain ⟨o, ho, hc, hd⟩ := id hit
  obtain ⟨ol, nl, hol, hdl⟩ := hl
  have f0 : (#[.ref l, .int i 0] : Array Value)[0]? = some (.ref l) := rfl
  have f1 : (#[.ref l, .int i 0] : Array Value)[1]? = some (.int i 0) := rfl
  have hT := hit.typeIs
  cases hx : items[i]? with
  | some x =>
    refine wpAny_bind (wpAny_attempt (wpAny_callSpecial?_slot (name := Str.ofString "__next__") hT slot_listiter_next (wpAny_call_entry slot_listiter_next hT entry_listiter_next ?_ (args_listiter_next _))))
    refine wpAny_bind (m := field (.ref it) 0) (wpAny_field ho hd f0 ?_)
    refine wpAny_bind (m := field (.ref it) 1) (wpAny_field ho hd f1 ?_)
    refine wpAny_bind (m := seqItems? (.ref l)) (wpAny_seqItems hol hdl ?_)
    simp only [Int.toNat_natCast, hx]
    refine wpAny_bind (wpAny_setField ho hd (by simp) (wpAny_pure ⟨x, rfl, wpAny_pure (hsome x _ hx ?_ (Heap.SameBut.update ..))⟩))
    exact ⟨_, Heap.get?_update_self _ ho (Obj.isFreed_of_fields (Obj.data_mapFields hd _)), (Obj.cls_mapFields ..).trans hc, by rw [Obj.data_mapFields hd]; simp [rawInt]⟩
  | none =>
    refine wpAny_bind (wpAny_attempt (wpAny_callSpecial?_slot (name := Str.ofString "__next__") hT slot_listiter_next (wpAny_call_entry slot_listiter_next hT entry_listiter_next ?_ (args_listiter_next _))))
    refine wpAny_bind (m := field (.ref it) 0) (wpAny_field ho hd f0 ?_)
    refine wpAny_bind (m := field (.ref it) 1) (wpAny_field ho hd f1 ?_)
    refine wpAny_bind (m := seqItems? (.ref l)) (wpAny_seqItems hol hdl ?_)
    simp only [Int.toNat_natCast, hx]
    refine wpAny_bind (wpAny_rule (wpAny_bind (wpAny_setField ho hd (by simp) ?_)))
    have hA : A.in1.handled = none := hh
    refine wpAny_bind (m := newExc (.type "StopIteration") []) ?_
    simp only [newExc, newTuple, raiseNew]
    refine wpAny_bind (wpAny_newObj_type (wpAny_bind (m := firstArgMember _ _) (wpAny_of_eq (a := Value.none) rfl (wpAny_newObj_type (wpAny_bind (wpAny_handled ?_)) (by size_fits)))) (by size_fits))
    rw [hA]
    refine wpAny_bind (wpAny_pure (wpAny_throw ?_))
    refine wpAny_bind (wpAny_isInstance (T := "StopIteration") (b := true) ⟨_, Heap.get?_push_size _ rfl, rfl⟩ isSubtype_stop ?_)
    exact wpAny_pure (hnone _ hx (((Heap.SameBut.update ..).extBut.push _).push _))

theorem acc_walks (hh : A.handled = none) (I pg : Addr) (hne : pg ≠ I) (items : Array Value) :
    Walks prog w A I [I, pg] [I] items.size (fun i v => items[i]? = some v) (fun i h => h.IsListIter I pg i ∧ SeqObj h pg items) where
  sub := fun b hb => by simp at hb; simp [hb]
  frame := fun _ _ _ st hk => ⟨st.1.at fun o e => hk I (by simp) o e, let ⟨o, n, e, d⟩ := st.2; ⟨o, n, hk pg (by simp) o e, d⟩⟩
  item := fun i s Q E hi st hQ => seqiter_next hh st.1 st.2 (fun x h' hx hit' hs' => hQ x h' s.toks hx ⟨hit', let ⟨o, n, e, d⟩ := st.2; ⟨o, n, hs'.extBut pg o hne e, d⟩⟩ fun b o hb e => hs'.extBut b o (fun h => hb (by simp [h])) e)
    (fun h' hx _ => by rw [Array.getElem?_eq_getElem hi] at hx; cases hx)
  done := fun s Q E st hQ => seqiter_next hh st.1 st.2 (fun x h' hx _ _ => by simp at hx) (fun h' _ he' => hQ h' s.toks fun b o hb e => he' b o (fun h => hb (by simp [h])) e)
  self := fun _ _ _ _ st hQ => wpAny_pyIter_listiter st.1 hQ

theorem acc_pyIter {K : Frag} {C x : Addr} {ox : Obj} {od : Option Obj} {Q : Value → Shared → Prop} (X : K.In s.heap) (I : InstAt s.heap x ox C od)
    (hf : findIn K (.ref C) (Str.ofString "__iter__") = some (some (.builtin "list.__iter__"))) (hm : mroIn K C (.type "list") = some true)
    (hQ : Q (.ref s.heap.objs.size) { s with heap := s.heap.push { cls := .type "list_iterator", data := .fields #[.ref x, .int 0 0] } }) :
    wpAny (model prog w) A (pyIter (.ref x)) Q E s := by
  have L0 := I.type (M := model prog w)
  have L1 := looks_findIn (M := model prog w) X hf
  have hb := slot_list_iter.bind (.ref x)
  have fin : wpAny (model prog w) A (bindSpecial (.builtin "list.__iter__") (.ref x)) (fun v s' => v = (.builtin "list.__iter__", [.ref x]) ∧ s' = s) (fun _ _ => False) s := by
    rw [hb]; exact wpAny_pure ⟨rfl, rfl⟩
  have bnd : ∀ (Q' : Option (Value × List Value) → Shared → Prop), Q' (some (.builtin "list.__iter__", [.ref x])) s → wpAny (model prog w) A (bindSpecialIfBound? (.ref x) "__iter__") Q' E s := by
    intro Q' q
    unfold bindSpecialIfBound?
    refine wpAny_bind (wpAny_bind (L0.here (L1.here ?_)))
    refine wpAny_bind (wpAny_askSetting ?_)
    dsimp only
    split
    · exact wpAny_bind (wpAny_mono fin (fun v s' h => by obtain ⟨rfl, rfl⟩ := h; exact wpAny_pure q) fun _ _ h => h.elim)
    · exact wpAny_tryCatch (wpAny_bind (wpAny_mono fin (fun v s' h => by obtain ⟨rfl, rfl⟩ := h; exact wpAny_pure q) fun _ _ h => h.elim))
  unfold pyIter
  refine wpAny_bind (wpAny_bind (L0.here (L1.here ?_)))
  dsimp only
  unfold callSpecialIfBoundUnlessNone?
  refine wpAny_bind (wpAny_holding (wpAny_bind (bnd _ ?_)))
  dsimp only
  rw [if_neg (by decide)]
  refine wpAny_bind (acc_call (n := "__iter__") slot_list_iter.plain entry_list_iter (.inl (by decide +kernel)) (by decide +kernel) X I hm (args_list_iter _) ?_)
  show wpAny _ _ (do ret (← newFields "list_iterator" [.ref x, rawInt 0])) _ _ s
  refine wpAny_bind (wpAny_newObj_type (wpAny_pure ⟨_, rfl, wpAny_pure ?_⟩))
  refine wpAny_bind (wpAny_specialOf (T := "list_iterator") ⟨_, Heap.get?_push_size _ rfl, rfl⟩ slot_listiter_next.lookup ?_)
  exact wpAny_pure hQ
end
end
-- Comp3
section
theorem kr_Comp3 : True := by
  k_with_none
  w_top off
  trivial
open PySem PySem.W PyProof.Rows PySem.Calls PySem.Spec
open PyProof.Rows.LCg
section
variable {prog : Program} {w : World} {A : Around} {E : Value → Shared → Prop} {s s₁ : Shared} {h₀ : Heap} {L : Addr} {m : Str → Option Value} {env : Env} {elt target : Expr} {ifs : List Expr} {scope : Scope} {cl : List (Str × Addr)}
  {Fin : Shared → List Value → List (Addr × Obj) → Prop} {news : List (Addr × Obj)}

theorem let_name {x : Str} {px : Pos} {it v : Value} {Q : Unit → Shared → Prop} (h : Q () s) : wpAny (model prog w) A (letOwnedTupleGo (.Name x px) it v) Q E s := wpAny_pure h
theorem let_plain {it : Addr} {v : Value} {o : Obj} {Q : Unit → Shared → Prop} (ho : s.heap.get? it = some o) (hc : o.cls = .type "list_iterator" ∨ o.cls = .type "tuple_iterator") (h : Q () s) :
    wpAny (model prog w) A (letOwnedTupleGo target (.ref it) v) Q E s := by
  unfold letOwnedTupleGo
  split
  · cases v <;> first | exact wpAny_pure h | skip
    refine wpAny_bind (wpAny_load ho ?_)
    split
    · rename_i n vs e1 e2
      rw [e1] at hc
      have : (["enumerate", "zip", "dict_itemiterator", "dict_reverseitemiterator", "odict_iterator", "itertools.zip_longest", "itertools.pairwise"].contains n) = false := by
        rcases hc with hc | hc <;> (cases hc; decide)
      rw [this]
      exact wpAny_pure h
    · exact wpAny_pure h
  · cases v <;> first | exact wpAny_pure h | skip
    refine wpAny_bind (wpAny_load ho ?_)
    split
    · rename_i n vs e1 e2
      rw [e1] at hc
      have : (["enumerate", "zip", "dict_itemiterator", "dict_reverseitemiterator", "odict_iterator", "itertools.zip_longest", "itertools.pairwise"].contains n) = false := by
        rcases hc with hc | hc <;> (cases hc; decide)
      rw [this]
      exact wpAny_pure h
    · exact wpAny_pure h
  · exact wpAny_pure h

theorem csrc_seq {ax : Addr} {its : Array Value} (S : List (Addr × Obj) → Prop) (J : Nat → List Value → List (Addr × Obj) → Prop) (hh : A.handled = none) (F : Fr h₀ L s₁.heap m) (N : News h₀ L s₁.heap news)
    (hS : ∀ h nw, (∀ b o, h₀.get? b = some o → h.get? b = some o) → News h₀ L h nw → S nw → SeqObj h ax its) (S₀ : S news) (hsz : its.size ≤ sizeLine) (hJ : J 0 [] news)
    (step : ∀ i v ys news' g I, its[i]? = some v → ys.length ≤ i → S news' → J i ys news' → CTurn prog w A h₀ L m env target ifs elt scope cl { s₁ with heap := g } S (J (i + 1)) I v ys news')
    (fin : ∀ ys news' g, J its.size ys news' → Fin { s₁ with heap := g } ys news') :
    CSrc prog w A h₀ L m env target ifs elt scope cl Fin (.ref s₁.heap.objs.size) { s₁ with heap := s₁.heap.push { cls := .type "list_iterator", data := .fields #[.ref ax, .int 0 0] } } := by
  have hl := hS _ _ F.keep N S₀
  have hlt : ax < s₁.heap.objs.size := by obtain ⟨_, _, e, _⟩ := hl; exact Heap.lt_size e
  have up : ∀ b o, s₁.heap.get? b = some o → (s₁.heap.push { cls := .type "list_iterator", data := .fields #[.ref ax, .int 0 0] }).get? b = some o := fun b o e => Heap.get?_push_of_some _ e
  refine ⟨s₁.heap.objs.size, [s₁.heap.objs.size, ax], its.size, _, _, S, news, J, rfl, acc_walks hh s₁.heap.objs.size ax (Nat.ne_of_lt hlt) its, hsz, fun i h st => let ⟨o, e, _⟩ := st.1; ⟨o, e⟩, ?_, ?_,
    ⟨⟨_, Heap.get?_push_size _ rfl, rfl, rfl⟩, let ⟨o, n, e, d⟩ := hl; ⟨o, n, up _ _ e, d⟩⟩, ?_, F.keeps up, N.grown up, Nat.ne_of_lt F.ns.lt, next_is_new F, fun p hp => Nat.ne_of_lt (Heap.lt_size (N p hp).1), S₀, hJ, ?_, ?_⟩
  · intro i h h' o nw st e e' k N' S'
    refine ⟨?_, hS _ _ k N' S'⟩
    obtain ⟨o', q, r⟩ := st.1
    rw [e] at q; cases q; exact ⟨o, e', r⟩
  · intro i v s' Q E' st _ q
    obtain ⟨o', e, c, _⟩ := st.1
    exact let_plain e (.inl c) q
  · intro b hb
    show b < (s₁.heap.push _).objs.size
    rw [Heap.size_push]
    rcases List.mem_cons.mp hb with rfl | hb
    · exact Nat.lt_succ_self _
    · rw [List.mem_singleton.mp hb]; exact Nat.lt_succ_of_lt hlt
  · exact fun i v ys news' _ hv hl hS' hJ' => step i v ys news' _ _ hv hl hS' hJ'
  · exact fun ys news' hJ' => fin ys news' _ hJ'

theorem src_list {ax : Addr} {its : Array Value} (J : Nat → List Value → List (Addr × Obj) → Prop) (hh : A.handled = none) (F : Fr h₀ L s₁.heap m) (N : News h₀ L s₁.heap news)
    (S₀ : SrcAt h₀ ax its news) (hsz : its.size ≤ sizeLine) (hJ : J 0 [] news)
    (step : ∀ i v ys news' g I, its[i]? = some v → ys.length ≤ i → SrcAt h₀ ax its news' → J i ys news' → CTurn prog w A h₀ L m env target ifs elt scope cl { s₁ with heap := g } (SrcAt h₀ ax its) (J (i + 1)) I v ys news')
    (fin : ∀ ys news' g, J its.size ys news' → Fin { s₁ with heap := g } ys news') :
    wpAny (model prog w) A (pyIter (.ref ax)) (CSrc prog w A h₀ L m env target ifs elt scope cl Fin) E s₁ :=
  wpAny_pyIter_list (S₀.list F.keep N) (csrc_seq (SrcAt h₀ ax its) J hh F N (fun _ _ k N' S' => by obtain ⟨o, e, c, n, d⟩ := S'.list k N'; exact ⟨o, n, e, d⟩) S₀ hsz hJ step fin)

noncomputable def AccAt (pg dpg : Addr) (its : List Value) (od : Obj) (nw : List (Addr × Obj)) : Prop := ∃ n, (pg, accObj dpg its n) ∈ nw ∧ (dpg, od) ∈ nw

theorem src_acc {K : Frag} {pg dpg : Addr} {its : List Value} {od : Obj} (J : Nat → List Value → List (Addr × Obj) → Prop) (hh : A.handled = none) (F : Fr h₀ L s₁.heap m) (X : K.In h₀) (N : News h₀ L s₁.heap news)
    (hf : findIn K (.ref 99) (Str.ofString "__iter__") = some (some (.builtin "list.__iter__"))) (hm : mroIn K 99 (.type "list") = some true)
    (S₀ : AccAt pg dpg its od news) (hsz : its.length ≤ sizeLine) (hJ : J 0 [] news)
    (step : ∀ i v ys news' g I, its[i]? = some v → ys.length ≤ i → AccAt pg dpg its od news' → J i ys news' → CTurn prog w A h₀ L m env target ifs elt scope cl { s₁ with heap := g } (AccAt pg dpg its od) (J (i + 1)) I v ys news')
    (fin : ∀ ys news' g, J its.length ys news' → Fin { s₁ with heap := g } ys news') :
    wpAny (model prog w) A (pyIter (.ref pg)) (CSrc prog w A h₀ L m env target ifs elt scope cl Fin) E s₁ := by
  obtain ⟨n, m1, m2⟩ := id S₀
  refine acc_pyIter (X.keeps F.keep) (acc_inst N m1 m2) hf hm ?_
  refine csrc_seq (its := its.toArray) (AccAt pg dpg its od) J hh F N (fun h nw _ N' S' => by obtain ⟨n', m1', _⟩ := S'; exact ⟨_, n', (N' _ m1').1, rfl⟩) S₀ (by rw [List.size_toArray]; exact hsz) hJ (fun i v ys news' g I hv => step i v ys news' g I (by simpa using hv)) fin

theorem src_range {r : Addr} {a b : Int} {t u v : Tok} {n : Nat} (J : Nat → List Value → List (Addr × Obj) → Prop) (hh : A.handled = none) (F : Fr h₀ L s₁.heap m) (N : News h₀ L s₁.heap news)
    (hr : IsRange s₁.heap r a b 1 t u v) (hsm : Builtin.Range.small a b 1 = true) (hn : Builtin.Range.rangeSize a b 1 = ((n : Nat) : Int)) (hsz : n ≤ sizeLine) (hlet : ∃ x px, target = .Name x px) (hJ : J 0 [] news)
    (step : ∀ i t ys news' g I, i < n → ys.length ≤ i → J i ys news' → CTurn prog w A h₀ L m env target ifs elt scope cl { s₁ with heap := g } (fun _ => True) (J (i + 1)) I (.int (a + (i : Int)) t) ys news')
    (fin : ∀ ys news' g, J n ys news' → Fin { s₁ with heap := g } ys news') :
    wpAny (model prog w) A (pyIter (.ref r)) (CSrc prog w A h₀ L m env target ifs elt scope cl Fin) E s₁ := by
  obtain ⟨x, px, rfl⟩ := hlet
  refine wpAny_pyIter_range hr hsm ?_
  refine ⟨s₁.heap.objs.size, [s₁.heap.objs.size], n, _, _, fun _ => True, news, J, rfl, range_walks hh a n, hsz, fun i h st => ⟨_, st⟩, fun i h h' o nw => range_st (h₀ := h₀) (L := L) i h h' o nw, fun i v s' Q E' _ _ q => let_name q,
    by show IsRangeIter _ _ _ _ _; rw [hn]; simpa using Heap.get?_push_size _ rfl, ?_, F.keeps fun _ _ e => Heap.get?_push_of_some _ e, N.grown fun _ _ e => Heap.get?_push_of_some _ e, Nat.ne_of_lt F.ns.lt, next_is_new F,
    fun p hp => Nat.ne_of_lt (Heap.lt_size (N p hp).1), trivial, hJ, ?_, fun ys news' hJ' => fin ys news' _ hJ'⟩
  · intro b hb
    rw [List.mem_singleton.mp hb]
    show s₁.heap.objs.size < (s₁.heap.push _).objs.size
    rw [Heap.size_push]; exact Nat.lt_succ_self _
  · rintro i v ys news' hi ⟨t, rfl⟩ hl _ hJ'
    exact step i t ys news' _ _ hi hl hJ'

theorem src_str {x : Str} {t : Tok} (hasc : x.cps.all (· < 128) = true) (J : Nat → List Value → List (Addr × Obj) → Prop) (hh : A.handled = none) (F : Fr h₀ L s₁.heap m) (N : News h₀ L s₁.heap news)
    (hsz : x.cps.size ≤ sizeLine) (hlet : ∃ x px, target = .Name x px) (hJ : J 0 [] news)
    (step : ∀ i c u ys news' g I, x.cps[i]? = some c → ys.length ≤ i → J i ys news' → CTurn prog w A h₀ L m env target ifs elt scope cl { s₁ with heap := g } (fun _ => True) (J (i + 1)) I (.str ⟨#[c]⟩ u) ys news')
    (fin : ∀ ys news' g, J x.cps.size ys news' → Fin { s₁ with heap := g } ys news') :
    wpAny (model prog w) A (pyIter (.str x t)) (CSrc prog w A h₀ L m env target ifs elt scope cl Fin) E s₁ := by
  obtain ⟨y, px, rfl⟩ := hlet
  refine wpAny_pyIter_ascii hasc ?_
  refine ⟨s₁.heap.objs.size, [s₁.heap.objs.size], x.cps.size, _, _, fun _ => True, news, J, rfl, Walks.strAscii hh _ x t, hsz, fun i h st => let ⟨o, e, _⟩ := st; ⟨o, e⟩, ?_, fun i v s' Q E' _ _ q => let_name q,
    ⟨_, Heap.get?_push_size _ rfl, rfl, rfl⟩, ?_, F.keeps fun _ _ e => Heap.get?_push_of_some _ e, N.grown fun _ _ e => Heap.get?_push_of_some _ e, Nat.ne_of_lt F.ns.lt, next_is_new F,
    fun p hp => Nat.ne_of_lt (Heap.lt_size (N p hp).1), trivial, hJ, ?_, fun ys news' hJ' => fin ys news' _ hJ'⟩
  · intro i h h' o nw st e e' _ _ _
    obtain ⟨o', q, r⟩ := st
    rw [e] at q; cases q; exact ⟨o, e', r⟩
  · intro b hb
    rw [List.mem_singleton.mp hb]
    show s₁.heap.objs.size < (s₁.heap.push _).objs.size
    rw [Heap.size_push]; exact Nat.lt_succ_self _
  · rintro i v ys news' hi ⟨c, u, hc, rfl⟩ hl _ hJ'
    exact step i c u ys news' _ _ hc hl hJ'

noncomputable def TupleAt (ax : Addr) (its : List Value) (nw : List (Addr × Obj)) : Prop := ∃ n, (ax, ({ cls := .type "tuple", data := .seq its.toArray n } : Obj)) ∈ nw
theorem TupleAt.is {ax : Addr} {its : List Value} {nw : List (Addr × Obj)} {h : Heap} (x : TupleAt ax its nw) (N : News h₀ L h nw) : h.IsTuple ax its.toArray := by
  obtain ⟨n, e⟩ := x
  exact ⟨_, (N _ e).1, rfl, n, rfl⟩

theorem src_tuple {ax : Addr} {its : List Value} (J : Nat → List Value → List (Addr × Obj) → Prop) (hh : A.handled = none) (F : Fr h₀ L s₁.heap m) (N : News h₀ L s₁.heap news)
    (S₀ : TupleAt ax its news) (hsz : its.length ≤ sizeLine) (hJ : J 0 [] news)
    (step : ∀ i v ys news' g I, its[i]? = some v → ys.length ≤ i → TupleAt ax its news' → J i ys news' → CTurn prog w A h₀ L m env target ifs elt scope cl { s₁ with heap := g } (TupleAt ax its) (J (i + 1)) I v ys news')
    (fin : ∀ ys news' g, J its.length ys news' → Fin { s₁ with heap := g } ys news') :
    wpAny (model prog w) A (pyIter (.ref ax)) (CSrc prog w A h₀ L m env target ifs elt scope cl Fin) E s₁ := by
  have hl := S₀.is N
  have hlt : ax < s₁.heap.objs.size := by obtain ⟨_, e, _⟩ := hl; exact Heap.lt_size e
  have up : ∀ b o, s₁.heap.get? b = some o → (s₁.heap.push { cls := .type "tuple_iterator", data := .fields #[.ref ax, .int 0 0] }).get? b = some o := fun b o e => Heap.get?_push_of_some _ e
  refine wpAny_pyIter_tuple hl ?_
  have W := Walks.tuple (prog := prog) (w := w) hh s₁.heap.objs.size ax (Nat.ne_of_lt hlt) its.toArray
  rw [show its.toArray.size = its.length from rfl] at W
  refine ⟨s₁.heap.objs.size, [s₁.heap.objs.size, ax], its.length, _, _, TupleAt ax its, news, J, rfl, W, hsz, fun i h st => let ⟨o, e, _⟩ := st.1; ⟨o, e⟩, ?_, ?_,
    ⟨⟨_, Heap.get?_push_size _ rfl, rfl, rfl⟩, let ⟨o, e, c, d⟩ := hl; ⟨o, up _ _ e, c, d⟩⟩, ?_, F.keeps up, N.grown up, Nat.ne_of_lt F.ns.lt, next_is_new F, fun p hp => Nat.ne_of_lt (Heap.lt_size (N p hp).1), S₀, hJ, ?_, ?_⟩
  · intro i h h' o nw st e e' k N' S'
    refine ⟨?_, S'.is N'⟩
    obtain ⟨o', q, r⟩ := st.1
    rw [e] at q; cases q; exact ⟨o, e', r⟩
  · intro i v s' Q E' st _ q
    obtain ⟨o', e, c, _⟩ := st.1
    exact let_plain e (.inr c) q
  · intro b hb
    show b < (s₁.heap.push _).objs.size
    rw [Heap.size_push]
    rcases List.mem_cons.mp hb with rfl | hb
    · exact Nat.lt_succ_self _
    · rw [List.mem_singleton.mp hb]; exact Nat.lt_succ_of_lt hlt
  · exact fun i v ys news' _ hv hl hS' hJ' => step i v ys news' _ _ (by simpa using hv) hl hS' hJ'
  · exact fun ys news' hJ' => fin ys news' _ hJ'

theorem CTurn.name {x : Str} {px : Pos} {s : Shared} {S : List (Addr × Obj) → Prop} {J' : List Value → List (Addr × Obj) → Prop} {I : Addr} {v : Value} {ys : List Value} (hx : scope.names.lookup x = some .local) (hk : scope.kind = .function)
    (h : ∀ oI C oC D m₁ h tk (E' : Value → Shared → Prop), NsObj oC m₁ → m₁ x = some v → Fr h₀ L h m → News h₀ L h ((I, oI) :: (C, oC) :: (D, lst ys) :: news) → Off3 I C D news → ((@Ne Nat I C) ∧ (@Ne Nat I D) ∧ (@Ne Nat C D)) → s.toks ≤ tk →
      wpAny (model prog w) A (testsOf ifs (compEnvC scope cl C env)) (fun ok s₄ =>
        if ok = true then wpAny (model prog w) A (eval elt (compEnvC scope cl C env)) (fun y => CEnd h₀ L m s I oI C D ys S (J' (ys ++ [y]))) E' s₄
        else CEnd h₀ L m s I oI C D ys S (J' ys) s₄) E' { s with heap := h, toks := tk }) :
    CTurn prog w A h₀ L m env (.Name x px) ifs elt scope cl s S J' I v ys news := by
  intro oI C oC D m₁ hh tk E' hC F N off ne tle
  have zC := N (C, oC) (List.mem_cons_of_mem _ List.mem_cons_self)
  have off3 := off.mem
  refine wpAny_assign_Name (wpAny_storeName_local (lookup_relabel_local hx) (hC.ns zC.1) (fun h₃ hn₃ hs₃ => ?_) (by simp [compEnvC, relabel, hk]))
  obtain ⟨oC', heC', hoC'⟩ := ns_obj hn₃
  refine h oI C oC' D _ h₃ _ E' hoC' (by simp) (F.change hs₃ zC.2.1 zC.2.2) (fun p hp => ?_) off ne (Nat.le_succ_of_le tle)
  rcases List.mem_cons.mp hp with rfl | hp
  · exact ⟨hs₃.extBut _ _ ne.1 (N _ List.mem_cons_self).1, (N _ List.mem_cons_self).2⟩
  · rcases List.mem_cons.mp hp with rfl | hp
    · exact ⟨heC', zC.2⟩
    · have z := N p (List.mem_cons_of_mem _ (List.mem_cons_of_mem _ hp))
      refine ⟨hs₃.extBut _ _ ?_ z.1, z.2⟩
      rcases List.mem_cons.mp hp with rfl | hp
      · exact Ne.symm ne.2.2
      · exact (off3 p hp).2.1

theorem CTurn.pair {x y : Str} {px py tp : Pos} {kk : Nat} {s : Shared} {S : List (Addr × Obj) → Prop} {J' : List Value → List (Addr × Obj) → Prop} {I T : Addr} {v₁ v₂ : Value} {ys : List Value} (hh : A.handled = none)
    (hx : scope.names.lookup x = some .local) (hy : scope.names.lookup y = some .local) (hk : scope.kind = .function) (hT : TupleAt T [v₁, v₂] news)
    (h : ∀ oI C oC D m₁ h tk (E' : Value → Shared → Prop), NsObj oC m₁ → m₁ y = some v₂ → (x ≠ y → m₁ x = some v₁) → Fr h₀ L h m → News h₀ L h ((I, oI) :: (C, oC) :: (D, lst ys) :: news) → Off3 I C D news → ((@Ne Nat I C) ∧ (@Ne Nat I D) ∧ (@Ne Nat C D)) → s.toks ≤ tk →
      wpAny (model prog w) A (testsOf ifs (compEnvC scope cl C env)) (fun ok s₄ =>
        if ok = true then wpAny (model prog w) A (eval elt (compEnvC scope cl C env)) (fun y => CEnd h₀ L m s I oI C D ys S (J' (ys ++ [y]))) E' s₄
        else CEnd h₀ L m s I oI C D ys S (J' ys) s₄) E' { s with heap := h, toks := tk }) :
    CTurn prog w A h₀ L m env (.Tuple [.Name x px, .Name y py] kk tp) ifs elt scope cl s S J' I (.ref T) ys news := by
  intro oI C oC D m₁ hp tk E' hC F N off ne tle
  have zC := N (C, oC) (List.mem_cons_of_mem _ List.mem_cons_self)
  have off3 := off.mem
  have hT' : hp.IsTuple T #[v₁, v₂] := by obtain ⟨n, e⟩ := hT; exact ⟨_, (N _ (List.mem_cons_of_mem _ (List.mem_cons_of_mem _ (List.mem_cons_of_mem _ e)))).1, rfl, n, rfl⟩
  refine wpAny_toks ?_
  refine kcp_assign hh hT' (lookup_relabel_local hx) (lookup_relabel_local hy) (by simp [compEnvC, relabel, hk]) (hC.ns zC.1) fun h₃ tk₃ hn₃ k₃ tle₃ => ?_
  have k₃' : ∀ c o, c ≠ C → hp.get? c = some o → h₃.get? c = some o := k₃
  obtain ⟨oC', heC', hoC'⟩ := ns_obj hn₃
  refine h oI C oC' D _ h₃ _ E' hoC' (by simp) (fun q => by simp [q]) ⟨F.ns.at' fun o e => k₃' L o (Ne.symm zC.2.1) e, fun b o e => k₃' b o (fun q => by rw [q, zC.2.2] at e; cases e) (F.keep b o e), F.above⟩ (fun p hp => ?_) off ne (Nat.le_trans tle tle₃)
  rcases List.mem_cons.mp hp with rfl | hp
  · exact ⟨k₃' _ _ ne.1 (N _ List.mem_cons_self).1, (N _ List.mem_cons_self).2⟩
  · rcases List.mem_cons.mp hp with rfl | hp
    · exact ⟨heC', zC.2⟩
    · have z := N p (List.mem_cons_of_mem _ (List.mem_cons_of_mem _ hp))
      refine ⟨k₃' _ _ ?_ z.1, z.2⟩
      rcases List.mem_cons.mp hp with rfl | hp
      · exact Ne.symm ne.2.2
      · exact (off3 p hp).2.1

theorem tests0 {env : Env} {Q : Bool → Shared → Prop} (h : Q true s) : wpAny (model prog w) A (testsOf [] env) Q E s := wpAny_tests_nil h
theorem tests1 {env : Env} {c : Expr} {Q : Bool → Shared → Prop} (h : wpAny (model prog w) A (isTrue c env (eval c env)) Q E s) : wpAny (model prog w) A (testsOf [c] env) Q E s := wpAny_tests_one h
end
end
-- Loop1
section
theorem kr_Loop1 : True := by
  k_with_none
  w_top off
  trivial
open PySem PySem.W PyProof.Rows PySem.Calls PySem.Spec
open PyProof.Rows.LCg
section
variable {prog : Program} {w : World} {A : Around} {E : Value → Shared → Prop} {s s₁ : Shared} {h₀ : Heap} {m : Str → Option Value} {env : Env} {target : Expr} {body orelse : List Stmt} {Q : Flow → Shared → Prop} {news : List (Addr × Obj)}

inductive FFin9 (h₀ : Heap) (L : Addr) (g₁ : Array GenState) (d₁ : Drawn) (o₁ : OsState) (I : Addr) (oI : Obj) (S : List (Addr × Obj) → Prop) (rest : (Str → Option Value) → List (Addr × Obj) → Prop) (s₂ : Shared) : Prop
  | mk (h' : Heap) (tk : Nat) (m' : Str → Option Value) (news' : List (Addr × Obj)) (x1 : s₂ = { heap := h', gens := g₁, drawn := d₁, toks := tk, os := o₁ }) (x2 : Fr h₀ L h' m') (x3 : News h₀ L h' ((I, oI) :: news')) (x4 : ∀ p ∈ news', p.1 ≠ I) (x5 : S news') (x6 : rest m' news') : FFin9 h₀ L g₁ d₁ o₁ I oI S rest s₂
noncomputable def FFin (h₀ : Heap) (L : Addr) (s₁ : Shared) (I : Addr) (oI : Obj) (S : List (Addr × Obj) → Prop) (rest : (Str → Option Value) → List (Addr × Obj) → Prop) (s₂ : Shared) : Prop := FFin9 h₀ L s₁.gens s₁.drawn s₁.os I oI S rest s₂
inductive FInv (h₀ : Heap) (L : Addr) (s₂ : Shared) (I : Addr) (n : Nat) (St : Nat → Heap → Prop) (S : List (Addr × Obj) → Prop) (J : Nat → (Str → Option Value) → List (Addr × Obj) → Prop) (k : Nat) (s' : Shared) : Prop
  | mk (h' : Heap) (tk i : Nat) (m' : Str → Option Value) (news' : List (Addr × Obj)) (x1 : s' = { s₂ with heap := h', toks := tk }) (x2 : s₂.toks ≤ tk) (x3 : i ≤ n) (x4 : k = n + 1 - i) (x5 : St i h') (x6 : Fr h₀ L h' m') (x7 : News h₀ L h' news') (x8 : ∀ p ∈ news', p.1 ≠ I) (x9 : S news') (x10 : J i m' news') : FInv h₀ L s₂ I n St S J k s'
noncomputable def FEnd (h₀ : Heap) (L : Addr) (s₁ : Shared) (I : Addr) (oI : Obj) (S : List (Addr × Obj) → Prop) (rest : (Str → Option Value) → List (Addr × Obj) → Prop) (Q : Flow → Shared → Prop) (f : Flow) (s₂ : Shared) : Prop :=
  match f with
  | .ret v => Q (.ret v) s₂
  | .brk => Q .next s₂
  | _ => FFin h₀ L s₁ I oI S rest s₂

noncomputable def FTurn (prog : Program) (w : World) (A : Around) (h₀ : Heap) (env : Env) (target : Expr) (body : List Stmt) (s : Shared) (S : List (Addr × Obj) → Prop) (Q : Flow → Shared → Prop)
    (J' : (Str → Option Value) → List (Addr × Obj) → Prop) (I : Addr) (v : Value) (m : Str → Option Value) (news : List (Addr × Obj)) : Prop :=
  ∀ oI h tk, Fr h₀ env.locals h m → News h₀ env.locals h ((I, oI) :: news) → (∀ p ∈ news, p.1 ≠ I) → s.toks ≤ tk →
    wpAny (model prog w) A (assign target env v) (fun _ s₃ => wpAny (model prog w) A (execs body env) (FEnd h₀ env.locals s I oI S J' Q) (fun _ _ => False) s₃) (fun _ _ => False) { s with heap := h, toks := tk }

inductive FSrc (prog : Program) (w : World) (A : Around) (h₀ : Heap) (env : Env) (target : Expr) (body orelse : List Stmt) (Q : Flow → Shared → Prop) (it : Value) (s₂ : Shared) : Prop
  | mk (I : Addr) (fp : List Addr) (n : Nat) (P : Nat → Value → Prop) (St : Nat → Heap → Prop) (S : List (Addr × Obj) → Prop) (m : Str → Option Value) (news : List (Addr × Obj)) (J : Nat → (Str → Option Value) → List (Addr × Obj) → Prop)
    (x1 : it = .ref I)
    (x2 : Walks prog w A I fp [I] n P St)
    (x3 : (∀ i h, St i h → ∃ o, h.get? I = some o))
    (x4 : (∀ i h h' o nw, St i h → h.get? I = some o → h'.get? I = some o → (∀ b o, h₀.get? b = some o → h'.get? b = some o) → News h₀ env.locals h' nw → S nw → St i h'))
    (x5 : (∀ i v (s' : Shared) (Q : Unit → Shared → Prop) (E' : Value → Shared → Prop), St (i + 1) s'.heap → P i v → Q () s' → wpAny (model prog w) A (letOwnedTupleGo target (.ref I) v) Q E' s'))
    (x6 : St 0 s₂.heap)
    (x7 : Fr h₀ env.locals s₂.heap m)
    (x8 : News h₀ env.locals s₂.heap news)
    (x9 : env.locals ≠ I)
    (x10 : h₀.get? I = none)
    (x11 : (∀ p ∈ news, p.1 ≠ I))
    (x12 : S news)
    (x13 : J 0 m news)
    (x14 : (∀ i v m₁ news', i < n → P i v → S news' → J i m₁ news' → FTurn prog w A h₀ env target body s₂ S Q (J (i + 1)) I v m₁ news'))
    (x15 : ∀ m₁ news' h tk, J n m₁ news' → S news' → Fr h₀ env.locals h m₁ → News h₀ env.locals h news' → (∀ p ∈ news', p.1 ≠ I) → s₂.toks ≤ tk → wpAny (model prog w) A (execs orelse env) Q (fun _ _ => False) { s₂ with heap := h, toks := tk }) : FSrc prog w A h₀ env target body orelse Q it s₂

theorem forG {iter : Expr} {pos : Pos} (h : wpAny (model prog w) A (eval iter env) (fun xv s₁ => wpAny (model prog w) A (pyIter xv) (FSrc prog w A h₀ env target body orelse Q) E s₁) E s)
    (hs : ∀ x, foldedSetIterable iter env x = pure x := by intro _; rfl) :
    wpAny (model prog w) A (exec (.For target iter body orelse pos) env) Q E s := by
  refine wpAny_For (wpAny_mono h (fun xv s₁ h₁ => wpAny_mono h₁ (fun it s₂ h₂ => ?_) fun _ _ e => e) fun _ _ e => e) hs
  obtain ⟨I, fp, n, P, St, S, m, news, J, rfl, W, hIo, hSt, hlet, hst, F, N, hLI, hI₀, off, hS, hJ, step, done⟩ := h₂
  refine codeAny_loop' rfl
    (FInv h₀ env.locals s₂ I n St S J) ?_ (n + 1)
    ⟨s₂.heap, s₂.toks, 0, m, news, rfl, Nat.le_refl _, Nat.zero_le _, rfl, hst, F, N, off, hS, hJ⟩
  rintro k s' ⟨h', tk, i, m', news', rfl, tle, hi, rfl, hst', F', N', off', hS', hJ'⟩
  show wpAny _ A ((forTurn target (.ref I) body orelse env).onRaise (fun x => do noteFrame x env; theTreesLotGoes x)) _ _ _
  refine wpAny_noted (wpAny_noRaise ?_)
  simp only [forTurn]
  refine wpAny_bind (wpAny_standAt (wpAny_bind (wpAny_onRaise (wpAny_mono (E := fun _ _ => False) ?_ (fun _ _ x => x) fun _ _ x => x.elim))))
  by_cases hlt : i < n
  · refine wpAny_toks (W.item i _ _ _ hlt hst' fun v h₂ tk₂ hPv hst₂ hk₂ tle₂ => ?_)
    replace tle₂ := Nat.le_trans tle tle₂
    obtain ⟨oI, heI⟩ := hIo _ _ hst₂
    have F₂ := fr_but F' hk₂ hLI hI₀
    have N₂ : News h₀ env.locals h₂ ((I, oI) :: news') := fun p hp => by
      rcases List.mem_cons.mp hp with rfl | hp
      · exact ⟨heI, Ne.symm hLI, hI₀⟩
      · exact (news_but N' hk₂ off') p hp
    refine wpAny_toks ?_
    refine wpAny_bind (hlet i v _ _ _ hst₂ hPv ?_)
    refine wpAny_bind (wpAny_mono (step i v m' news' hlt hPv hS' hJ' oI h₂ tk₂ F₂ N₂ off' tle₂) (fun _ s₃ h₃ => wpAny_bind (wpAny_mono h₃ (fun f s₄ h₄ => ?_) fun _ _ e => e.elim)) fun _ _ e => e.elim)
    have fin : tk₂ ≤ s₄.toks → FFin h₀ env.locals s₂ I oI S (J (i + 1)) s₄ → ∃ k, k < n + 1 - i ∧ FInv h₀ env.locals s₂ I n St S J k s₄ := by
      rintro tle₃ ⟨h₅, tk₅, m₅, news₅, rfl, F₅, N₅, off₅, hS₅, hJ₅⟩
      have zI := (N₅ (I, oI) List.mem_cons_self).1
      have N₅' : News h₀ env.locals h₅ news₅ := fun p hp => N₅ p (List.mem_cons_of_mem _ hp)
      exact ⟨n + 1 - (i + 1), turn_lt hlt, h₅, tk₅, i + 1, m₅, news₅, rfl, Nat.le_trans tle₂ tle₃, hlt, rfl, hSt _ _ _ _ _ hst₂ heI zI F₅.keep N₅' hS₅, F₅, N₅', off₅, hS₅, hJ₅⟩
    cases f with
    | next => exact wpAny_pure fun t => .inl ⟨rfl, fin t h₄⟩
    | cont => exact wpAny_pure fun t => .inl ⟨rfl, fin t h₄⟩
    | brk => exact wpAny_pure fun _ => h₄
    | ret v => exact wpAny_pure fun _ => h₄
  · obtain rfl : i = n := Nat.le_antisymm hi (Nat.not_lt.mp hlt)
    refine wpAny_toks (W.done _ _ _ hst' fun h₂ tk₂ hk₂ tle₂ => ?_)
    replace tle₂ := Nat.le_trans tle tle₂
    refine wpAny_pure (.inr ⟨rfl, codeAny_block ?_⟩)
    exact wpAny_mono (done m' news' h₂ tk₂ hJ' hS' (fr_but F' hk₂ hLI hI₀) (news_but N' hk₂ off') off' tle₂) (fun _ _ x => x) fun _ _ x => x.elim

theorem fsrc_seq {ax : Addr} {its : Array Value} (S : List (Addr × Obj) → Prop) (J : Nat → (Str → Option Value) → List (Addr × Obj) → Prop) (hh : A.handled = none) (F : Fr h₀ env.locals s₁.heap m) (N : News h₀ env.locals s₁.heap news)
    (hS : ∀ h nw, (∀ b o, h₀.get? b = some o → h.get? b = some o) → News h₀ env.locals h nw → S nw → SeqObj h ax its) (S₀ : S news) (hJ : J 0 m news)
    (step : ∀ i v m₁ news' g I, its[i]? = some v → S news' → J i m₁ news' → FTurn prog w A h₀ env target body { s₁ with heap := g } S Q (J (i + 1)) I v m₁ news')
    (done : ∀ m₁ news' h tk, J its.size m₁ news' → S news' → Fr h₀ env.locals h m₁ → News h₀ env.locals h news' → s₁.toks ≤ tk → wpAny (model prog w) A (execs orelse env) Q (fun _ _ => False) { s₁ with heap := h, toks := tk }) :
    FSrc prog w A h₀ env target body orelse Q (.ref s₁.heap.objs.size) { s₁ with heap := s₁.heap.push { cls := .type "list_iterator", data := .fields #[.ref ax, .int 0 0] } } := by
  have hl := hS _ _ F.keep N S₀
  have hlt : ax < s₁.heap.objs.size := by obtain ⟨_, _, e, _⟩ := hl; exact Heap.lt_size e
  have up : ∀ b o, s₁.heap.get? b = some o → (s₁.heap.push { cls := .type "list_iterator", data := .fields #[.ref ax, .int 0 0] }).get? b = some o := fun b o e => Heap.get?_push_of_some _ e
  refine ⟨s₁.heap.objs.size, [s₁.heap.objs.size, ax], its.size, _, _, S, m, news, J, rfl, acc_walks hh s₁.heap.objs.size ax (Nat.ne_of_lt hlt) its, fun i h st => let ⟨o, e, _⟩ := st.1; ⟨o, e⟩, ?_, ?_,
    ⟨⟨_, Heap.get?_push_size _ rfl, rfl, rfl⟩, let ⟨o, n, e, d⟩ := hl; ⟨o, n, up _ _ e, d⟩⟩, F.keeps up, N.grown up, Nat.ne_of_lt F.ns.lt, next_is_new F, fun p hp => Nat.ne_of_lt (Heap.lt_size (N p hp).1), S₀, hJ, ?_, ?_⟩
  · intro i h h' o nw st e e' k N' S'
    refine ⟨?_, hS _ _ k N' S'⟩
    obtain ⟨o', q, r⟩ := st.1
    rw [e] at q; cases q; exact ⟨o, e', r⟩
  · intro i v s' Q E' st _ q
    obtain ⟨o', e, c, _⟩ := st.1
    exact let_plain e (.inl c) q
  · exact fun i v m₁ news' _ hv hS' hJ' => step i v m₁ news' _ _ hv hS' hJ'
  · exact fun m₁ news' h tk hJ' hS' F' N' _ t => done m₁ news' h tk hJ' hS' F' N' t

theorem fsrc_list {ax : Addr} {its : Array Value} (J : Nat → (Str → Option Value) → List (Addr × Obj) → Prop) (hh : A.handled = none) (F : Fr h₀ env.locals s₁.heap m) (N : News h₀ env.locals s₁.heap news) (S₀ : SrcAt h₀ ax its news) (hJ : J 0 m news)
    (step : ∀ i v m₁ news' g I, its[i]? = some v → SrcAt h₀ ax its news' → J i m₁ news' → FTurn prog w A h₀ env target body { s₁ with heap := g } (SrcAt h₀ ax its) Q (J (i + 1)) I v m₁ news')
    (done : ∀ m₁ news' h tk, J its.size m₁ news' → SrcAt h₀ ax its news' → Fr h₀ env.locals h m₁ → News h₀ env.locals h news' → s₁.toks ≤ tk → wpAny (model prog w) A (execs orelse env) Q (fun _ _ => False) { s₁ with heap := h, toks := tk }) :
    wpAny (model prog w) A (pyIter (.ref ax)) (FSrc prog w A h₀ env target body orelse Q) E s₁ :=
  wpAny_pyIter_list (S₀.list F.keep N) (fsrc_seq (SrcAt h₀ ax its) J hh F N (fun _ _ k N' S' => by obtain ⟨o, e, c, n, d⟩ := S'.list k N'; exact ⟨o, n, e, d⟩) S₀ hJ step done)

theorem fsrc_acc {K : Frag} {pg dpg : Addr} {its : List Value} {od : Obj} (J : Nat → (Str → Option Value) → List (Addr × Obj) → Prop) (hh : A.handled = none) (F : Fr h₀ env.locals s₁.heap m) (X : K.In h₀) (N : News h₀ env.locals s₁.heap news)
    (hf : findIn K (.ref 99) (Str.ofString "__iter__") = some (some (.builtin "list.__iter__"))) (hm : mroIn K 99 (.type "list") = some true) (S₀ : AccAt pg dpg its od news) (hJ : J 0 m news)
    (step : ∀ i v m₁ news' g I, its[i]? = some v → AccAt pg dpg its od news' → J i m₁ news' → FTurn prog w A h₀ env target body { s₁ with heap := g } (AccAt pg dpg its od) Q (J (i + 1)) I v m₁ news')
    (done : ∀ m₁ news' h tk, J its.length m₁ news' → AccAt pg dpg its od news' → Fr h₀ env.locals h m₁ → News h₀ env.locals h news' → s₁.toks ≤ tk → wpAny (model prog w) A (execs orelse env) Q (fun _ _ => False) { s₁ with heap := h, toks := tk }) :
    wpAny (model prog w) A (pyIter (.ref pg)) (FSrc prog w A h₀ env target body orelse Q) E s₁ := by
  obtain ⟨n, m1, m2⟩ := id S₀
  refine acc_pyIter (X.keeps F.keep) (acc_inst N m1 m2) hf hm ?_
  refine fsrc_seq (its := its.toArray) (AccAt pg dpg its od) J hh F N (fun h nw _ N' S' => by obtain ⟨n', m1', _⟩ := S'; exact ⟨_, n', (N' _ m1').1, rfl⟩) S₀ hJ (fun i v m₁ news' g I hv => step i v m₁ news' g I (by simpa using hv)) done

theorem fsrc_range {r : Addr} {a b : Int} {t u v : Tok} {n : Nat} (J : Nat → (Str → Option Value) → List (Addr × Obj) → Prop) (hh : A.handled = none) (F : Fr h₀ env.locals s₁.heap m) (N : News h₀ env.locals s₁.heap news)
    (hr : IsRange s₁.heap r a b 1 t u v) (hsm : Builtin.Range.small a b 1 = true) (hn : Builtin.Range.rangeSize a b 1 = ((n : Nat) : Int)) (hlet : ∃ x px, target = .Name x px) (hJ : J 0 m news)
    (step : ∀ i t m₁ news' g I, i < n → J i m₁ news' → FTurn prog w A h₀ env target body { s₁ with heap := g } (fun _ => True) Q (J (i + 1)) I (.int (a + (i : Int)) t) m₁ news')
    (done : ∀ m₁ news' h tk, J n m₁ news' → Fr h₀ env.locals h m₁ → News h₀ env.locals h news' → s₁.toks ≤ tk → wpAny (model prog w) A (execs orelse env) Q (fun _ _ => False) { s₁ with heap := h, toks := tk }) :
    wpAny (model prog w) A (pyIter (.ref r)) (FSrc prog w A h₀ env target body orelse Q) E s₁ := by
  obtain ⟨x, px, rfl⟩ := hlet
  refine wpAny_pyIter_range hr hsm ?_
  refine ⟨s₁.heap.objs.size, [s₁.heap.objs.size], n, _, _, fun _ => True, m, news, J, rfl, range_walks hh a n, fun i h st => ⟨_, st⟩, fun i h h' o nw => range_st (h₀ := h₀) (L := env.locals) i h h' o nw, fun i v s' Q E' _ _ q => let_name q,
    by show IsRangeIter _ _ _ _ _; rw [hn]; simpa using Heap.get?_push_size _ rfl, F.keeps fun _ _ e => Heap.get?_push_of_some _ e, N.grown fun _ _ e => Heap.get?_push_of_some _ e, Nat.ne_of_lt F.ns.lt, next_is_new F,
    fun p hp => Nat.ne_of_lt (Heap.lt_size (N p hp).1), trivial, hJ, ?_, fun m₁ news' h tk hJ' _ F' N' _ t => done m₁ news' h tk hJ' F' N' t⟩
  rintro i v m₁ news' hi ⟨t, rfl⟩ _ hJ'
  exact step i t m₁ news' _ _ hi hJ'

theorem fsrc_str {x : Str} {t : Tok} (hasc : x.cps.all (· < 128) = true) (J : Nat → (Str → Option Value) → List (Addr × Obj) → Prop) (hh : A.handled = none) (F : Fr h₀ env.locals s₁.heap m) (N : News h₀ env.locals s₁.heap news)
    (hlet : ∃ x px, target = .Name x px) (hJ : J 0 m news)
    (step : ∀ i c u m₁ news' g I, x.cps[i]? = some c → J i m₁ news' → FTurn prog w A h₀ env target body { s₁ with heap := g } (fun _ => True) Q (J (i + 1)) I (.str ⟨#[c]⟩ u) m₁ news')
    (done : ∀ m₁ news' h tk, J x.cps.size m₁ news' → Fr h₀ env.locals h m₁ → News h₀ env.locals h news' → s₁.toks ≤ tk → wpAny (model prog w) A (execs orelse env) Q (fun _ _ => False) { s₁ with heap := h, toks := tk }) :
    wpAny (model prog w) A (pyIter (.str x t)) (FSrc prog w A h₀ env target body orelse Q) E s₁ := by
  obtain ⟨y, px, rfl⟩ := hlet
  refine wpAny_pyIter_ascii hasc ?_
  refine ⟨s₁.heap.objs.size, [s₁.heap.objs.size], x.cps.size, _, _, fun _ => True, m, news, J, rfl, Walks.strAscii hh _ x t, fun i h st => let ⟨o, e, _⟩ := st; ⟨o, e⟩, ?_, fun i v s' Q E' _ _ q => let_name q,
    ⟨_, Heap.get?_push_size _ rfl, rfl, rfl⟩, F.keeps fun _ _ e => Heap.get?_push_of_some _ e, N.grown fun _ _ e => Heap.get?_push_of_some _ e, Nat.ne_of_lt F.ns.lt, next_is_new F,
    fun p hp => Nat.ne_of_lt (Heap.lt_size (N p hp).1), trivial, hJ, ?_, fun m₁ news' h tk hJ' _ F' N' _ t => done m₁ news' h tk hJ' F' N' t⟩
  · intro i h h' o nw st e e' _ _ _
    obtain ⟨o', q, r⟩ := st
    rw [e] at q; cases q; exact ⟨o, e', r⟩
  · rintro i v m₁ news' hi ⟨c, u, hc, rfl⟩ _ hJ'
    exact step i c u m₁ news' _ _ hc hJ'

theorem FTurn.name {x : Str} {px : Pos} {s : Shared} {S : List (Addr × Obj) → Prop} {J' : (Str → Option Value) → List (Addr × Obj) → Prop} {I : Addr} {v : Value} (hx : env.kindOf x = some .local)
    (hp : (env.scope.kind == .class || (env.scope.kind == .module && env.locals != env.globals)) = false)
    (h : ∀ oI h tk, Fr h₀ env.locals h (upd m x v) → News h₀ env.locals h ((I, oI) :: news) → (∀ p ∈ news, p.1 ≠ I) → s.toks ≤ tk →
      wpAny (model prog w) A (execs body env) (FEnd h₀ env.locals s I oI S J' Q) (fun _ _ => False) { s with heap := h, toks := tk }) :
    FTurn prog w A h₀ env (.Name x px) body s S Q J' I v m news := by
  intro oI hp' tk F N off tle
  refine wpAny_assign_Name (wpAny_storeName_local hx F.ns (fun h₂ hn₂ hs₂ => ?_) hp)
  exact h oI h₂ _ (F.set hn₂ hs₂) (N.set hs₂) off (Nat.le_succ_of_le tle)

theorem FTurn.pair {x y : Str} {px py tp : Pos} {kk : Nat} {s : Shared} {S : List (Addr × Obj) → Prop} {J' : (Str → Option Value) → List (Addr × Obj) → Prop} {I T : Addr} {v₁ v₂ : Value} (hh : A.handled = none) (hx : env.kindOf x = some .local) (hy : env.kindOf y = some .local)
    (hp : (env.scope.kind == .class || (env.scope.kind == .module && env.locals != env.globals)) = false) (hT : TupleAt T [v₁, v₂] news)
    (h : ∀ oI h tk, Fr h₀ env.locals h (upd (upd m x v₁) y v₂) → News h₀ env.locals h ((I, oI) :: news) → (∀ p ∈ news, p.1 ≠ I) → s.toks ≤ tk →
      wpAny (model prog w) A (execs body env) (FEnd h₀ env.locals s I oI S J' Q) (fun _ _ => False) { s with heap := h, toks := tk }) :
    FTurn prog w A h₀ env (.Tuple [.Name x px, .Name y py] kk tp) body s S Q J' I (.ref T) m news := by
  intro oI hp' tk F N off tle
  have hT' : hp'.IsTuple T #[v₁, v₂] := by obtain ⟨n, e⟩ := hT; exact ⟨_, (N _ (List.mem_cons_of_mem _ e)).1, rfl, n, rfl⟩
  have hL₀ : h₀.get? env.locals = none := Heap.get?_none_of_le F.above
  refine wpAny_toks ?_
  refine kcp_assign hh hT' hx hy hp F.ns fun h₃ tk₃ hn₃ k₃ tle₃ => ?_
  exact h oI h₃ _ ⟨hn₃, fun b o e => k₃ b o (fun q => by rw [q, hL₀] at e; cases e) (F.keep b o e), F.above⟩ (fun p hp => ⟨k₃ _ _ (N p hp).2.1 (N p hp).1, (N p hp).2⟩) off (Nat.le_trans tle tle₃)

theorem FEnd.intro {s₁ : Shared} {L I : Addr} {oI : Obj} {S : List (Addr × Obj) → Prop} {rest : (Str → Option Value) → List (Addr × Obj) → Prop} {h' : Heap} {tk : Nat} {m' : Str → Option Value} {all : List (Addr × Obj)} (F : Fr h₀ L h' m') (N : News h₀ L h' all)
    (news' : List (Addr × Obj)) (sub : ∀ p ∈ (I, oI) :: news', p ∈ all) (off : ∀ p ∈ news', p.1 ≠ I) (hS : S news') (r : rest m' news') : FEnd h₀ L s₁ I oI S rest Q .next { s₁ with heap := h', toks := tk } :=
  ⟨h', tk, m', news', rfl, F, fun p hp => N p (sub p hp), off, hS, r⟩

theorem forF {iter : Expr} {pos : Pos} {L₀ : Addr} {hh : Heap} {m₀ : Str → Option Value} (_F : Fr h₀ L₀ hh m₀) (h : wpAny (model prog w) A (eval iter env) (fun xv s₁ => wpAny (model prog w) A (pyIter xv) (FSrc prog w A h₀ env target body orelse Q) E s₁) E s)
    (hs : ∀ x, foldedSetIterable iter env x = pure x := by intro _; rfl) :
    wpAny (model prog w) A (exec (.For target iter body orelse pos) env) Q E s := forG h hs

theorem forCut {iter : Expr} {pos : Pos} {L₀ : Addr} {hh : Heap} {m₀ : Str → Option Value} (Jf : (Str → Option Value) → List (Addr × Obj) → Prop) (_F : Fr h₀ L₀ hh m₀)
    (h : wpAny (model prog w) A (eval iter env) (fun xv s₁ => wpAny (model prog w) A (pyIter xv) (FSrc prog w A h₀ env target body orelse
      (fun f s' => f = .next ∧ ∃ h' tk m' nw, s' = { s with heap := h', toks := tk } ∧ Fr h₀ env.locals h' m' ∧ News h₀ env.locals h' nw ∧ Jf m' nw)) E s₁) E s)
    (rest : ∀ h' tk m' nw, Fr h₀ env.locals h' m' → News h₀ env.locals h' nw → Jf m' nw → s.toks ≤ tk → Q .next { s with heap := h', toks := tk })
    (hs : ∀ x, foldedSetIterable iter env x = pure x := by intro _; rfl) :
    wpAny (model prog w) A (exec (.For target iter body orelse pos) env) Q E s :=
  wpAny_toks (wpAny_mono (forG h hs) (fun f s' x t => by obtain ⟨rfl, h', tk, m', nw, rfl, F, N, j⟩ := x; exact rest h' tk m' nw F N j t) fun _ _ x _ => x)

theorem FCut.intro {s₁ : Shared} {L : Addr} {Jf : (Str → Option Value) → List (Addr × Obj) → Prop} {h' : Heap} {tk : Nat} {m' : Str → Option Value} {all : List (Addr × Obj)} (F : Fr h₀ L h' m') (N : News h₀ L h' all)
    (nw : List (Addr × Obj)) (sub : ∀ p ∈ nw, p ∈ all) (j : Jf m' nw) : Flow.next = Flow.next ∧ ∃ h'' tk' m'' nw, { s₁ with heap := h', toks := tk } = { s₁ with heap := h'', toks := tk' } ∧ Fr h₀ L h'' m'' ∧ News h₀ L h'' nw ∧ Jf m'' nw :=
  ⟨rfl, h', tk, m', nw, rfl, F, fun p hp => N p (sub p hp), j⟩
end
end
-- Lst1
section
open PySem PySem.W PyProof.Rows PySem.Calls PySem.Spec
open PyProof.Rows.LCg
theorem allp_of {d : Addr} {l : List (Addr × Obj)} (h : ∀ p ∈ l, p.1 < d) : ∀ p ∈ l, p.1 ≠ d := fun p hp => Nat.ne_of_lt (h p hp)
theorem ints_replicate (v : Value) (x : Int) (t : Tok) (hv : v = .int x t) : ∀ n, IntsAre (List.replicate n v) (List.replicate n x)
  | 0 => .nil
  | n + 1 => by subst hv; exact .cons _ _ (ints_replicate _ x t rfl n)
theorem flat_replicate (v : Value) : ∀ (n : Nat) (acc : Array Value), (List.foldl (fun x1 x2 => x1 ++ x2) acc (List.replicate n #[v])).toList = acc.toList ++ List.replicate n v
  | 0, acc => by simp
  | n + 1, acc => by
    rw [List.replicate_succ, List.foldl_cons, flat_replicate v n]
    simp [List.replicate_succ]
theorem flat_one (v : Value) (n : Nat) : List.foldl (fun x1 x2 => x1 ++ x2) #[] (List.replicate n #[v]) = (List.replicate n v).toArray := by
  apply Array.ext'
  rw [flat_replicate]
  simp

section
variable {prog : Program} {w : World} {A : Around} {E : Value → Shared → Prop} {s : Shared} {h₀ : Heap} {L : Addr} {m : Str → Option Value} {news news' : List (Addr × Obj)} {l : Addr} {vs : List Value} {ns : List Int} {k : Nat}
theorem LL.is (N : News h₀ L s.heap news) (hm : (l, W.listOf vs.toArray k) ∈ news) : s.heap.IsList l vs.toArray := ⟨_, (N _ hm).1, rfl, k, rfl⟩

theorem LL.len {Q : Value → Shared → Prop} (N : News h₀ L s.heap news) (hm : (l, W.listOf vs.toArray k) ∈ news) (hz : vs.length < 2 ^ 62) (h : ∀ t tk', Q (.int vs.length t) { s with toks := tk' }) :
    wpAny (model prog w) A (call (.builtin "len") [.ref l]) Q E s :=
  call_len_list (LL.is N hm) (by rw [List.size_toArray]; omega) (by have := h (s.toks + 1) (s.toks + 1 + 1); simpa using this)

theorem LL.item {value slice : Expr} {i : Int} {u : Tok} {v : Value} {Q : Value → Shared → Prop} (N : News h₀ L s.heap news) (hm : (l, W.listOf vs.toArray k) ∈ news) (h0 : 0 ≤ i) (hx : vs[i.toNat]? = some v) (hz : vs.length < 2 ^ 62)
    (hs : subscripted slice false (.ref l) (.int i u) = operate [.ref l, .int i u] (getItem (.ref l) (.int i u))) (h : Q v s) :
    wpAny (model prog w) A (subscriptTail value slice (.ref l) (.int i u)) Q E s := by
  have hi : i.toNat < vs.length := by
    rcases Nat.lt_or_ge i.toNat vs.length with q | q
    · exact q
    · rw [List.getElem?_eq_none q] at hx; cases hx
  exact tail_any (LL.is N hm).typeIs slot_list_getitem.lookup (wpAny_getItem_list (LL.is N hm) h0 (by omega) (by simpa using hx) h) hs

theorem LL.add {l2 : Addr} {ws : List Value} {k2 : Nat} {Q : Value → Shared → Prop} (F : Fr h₀ L s.heap m) (N : News h₀ L s.heap news) (hm : (l, W.listOf vs.toArray k) ∈ news) (hm2 : (l2, W.listOf ws.toArray k2) ∈ news) (hz : vs.length + ws.length ≤ sizeLine)
    (h : ∀ D h', Fr h₀ L h' m → News h₀ L h' ((D, W.listOf (vs ++ ws).toArray 0) :: news) → (∀ p ∈ news, p.1 < D) → Q (.ref D) { s with heap := h' }) :
    wpAny (model prog w) A (binaryOp .Add (.ref l) (.ref l2)) Q E s :=
  add_arrays F N (LL.is N hm) (LL.is N hm2) (fun h' F' N' => h _ h' F' N' fun p hp => Heap.lt_size (N p hp).1) hz

theorem LL.rep {v : Value} {x : Int} {u : Tok} {Q : Value → Shared → Prop} (F : Fr h₀ L s.heap m) (N : News h₀ L s.heap news) (hm : (l, W.listOf [v].toArray k) ∈ news) (hlo : -(2 ^ 63 : Int) ≤ x) (hhi : x ≤ 2 ^ 24)
    (h : ∀ D h', Fr h₀ L h' m → News h₀ L h' ((D, W.listOf (List.replicate x.toNat v).toArray 0) :: news) → (∀ p ∈ news, p.1 < D) → Q (.ref D) { s with heap := h' }) :
    wpAny (model prog w) A (binaryOp .Mult (.ref l) (.int x u)) Q E s := by
  refine mul_list F N (N _ hm).1 hlo (by omega) (by show 1 * x.toNat ≤ 2 ^ 24; omega) fun h' F' N' => h _ h' F' ?_ fun p hp => Heap.lt_size (N p hp).1
  have e : List.foldl (fun x1 x2 => x1 ++ x2) #[] (List.replicate (if [v].toArray.isEmpty = true then 0 else x.toNat) [v].toArray) = (List.replicate x.toNat v).toArray := flat_one v x.toNat
  rw [← e]
  exact N'
end
end
-- Tup1
section
open PySem PySem.W PyProof.Rows PySem.Calls PySem.Spec
theorem allLt_of {d : Addr} : ∀ {l : List (Addr × Obj)}, AllLt d l → ∀ p ∈ l, p.1 < d
  | [], _, _, h => nomatch h
  | _ :: _, x, p, h => by
    rcases List.mem_cons.mp h with rfl | h
    · exact x.1
    · exact allLt_of x.2 p h

section
variable {prog : Program} {w : World} {A : Around} {E : Value → Shared → Prop} {s : Shared} {h₀ : Heap} {L : Addr} {m : Str → Option Value} {news news' : List (Addr × Obj)} {l : Addr} {vs : List Value} {ns : List Int} {k : Nat}
noncomputable abbrev tupN (vs : List Value) (k : Nat) : Obj := { cls := .type "tuple", data := .seq vs.toArray k }
noncomputable abbrev tupO (vs : List Value) : Obj := tupN vs 0
theorem TT.is (N : News h₀ L s.heap news) (hm : (l, tupN vs k) ∈ news) : IsTup s.heap l vs.toArray := ⟨_, (N _ hm).1, rfl, k, rfl⟩

theorem TT.len {Q : Value → Shared → Prop} (N : News h₀ L s.heap news) (hm : (l, tupN vs k) ∈ news) (hz : vs.length < 2 ^ 62) (h : ∀ t tk', Q (.int vs.length t) { s with toks := tk' }) :
    wpAny (model prog w) A (call (.builtin "len") [.ref l]) Q E s :=
  len_tuple (TT.is N hm) (by rw [List.size_toArray]; omega) (by have := h (s.toks + 1) (s.toks + 1 + 1); simpa using this)

theorem ints_at : ∀ {vs : List Value} {ns : List Int}, IntsAre vs ns → ∀ {i : Nat}, i < ns.length → ∃ t, vs[i]? = some (.int (ns.getD i 0) t)
  | _, _, .nil, i, h => absurd h (Nat.not_lt_zero _)
  | _, _, .cons x t r, 0, _ => ⟨t, rfl⟩
  | _, _, .cons x t r, i + 1, h => by
    obtain ⟨t', e⟩ := ints_at r (i := i) (Nat.lt_of_succ_lt_succ h)
    exact ⟨t', by simpa using e⟩

theorem TT.item {value slice : Expr} {i : Int} {u : Tok} {v : Value} {Q : Value → Shared → Prop} (N : News h₀ L s.heap news) (hm : (l, tupN vs k) ∈ news) (h0 : 0 ≤ i) (hx : vs[i.toNat]? = some v) (hz : vs.length < 2 ^ 62) (h : Q v s)
    (hs : subscripted slice false (.ref l) (.int i u) = operate [.ref l, .int i u] (getItem (.ref l) (.int i u)) := by with_unfolding_all rfl) :
    wpAny (model prog w) A (subscriptTail value slice (.ref l) (.int i u)) Q E s := by
  have hi : i.toNat < vs.length := by
    rcases Nat.lt_or_ge i.toNat vs.length with q | q
    · exact q
    · rw [List.getElem?_eq_none q] at hx; cases hx
  have ht := TT.is N hm
  obtain ⟨o, e, c, _⟩ := id ht
  refine tail_any ⟨o, e, c⟩ F.slot_tuple_getitem.lookup (getItem_tuple ht (by omega) (by omega) (j := i.toNat) (seqIndex_of h0 (by rw [List.size_toArray]; omega)) (by simpa using hx) h) hs

theorem TT.int {value slice : Expr} {i : Int} {u : Tok} {Q : Value → Shared → Prop} (N : News h₀ L s.heap news) (hm : (l, tupN vs k) ∈ news) (hi : IntsAre vs ns) (h0 : 0 ≤ i) (h1 : i < ns.length) (hz : ns.length < 2 ^ 62) (h : ∀ t, Q (.int (ns.getD i.toNat 0) t) s)
    (hs : subscripted slice false (.ref l) (.int i u) = operate [.ref l, .int i u] (getItem (.ref l) (.int i u)) := by with_unfolding_all rfl) :
    wpAny (model prog w) A (subscriptTail value slice (.ref l) (.int i u)) Q E s := by
  obtain ⟨t, e⟩ := ints_at hi (i := i.toNat) (by omega)
  exact TT.item N hm h0 e (by rw [hi.length]; exact hz) (h t) hs

theorem LL.int {value slice : Expr} {i : Int} {u : Tok} {Q : Value → Shared → Prop} (N : News h₀ L s.heap news) (hm : (l, W.listOf vs.toArray k) ∈ news) (hi : IntsAre vs ns) (h0 : 0 ≤ i) (h1 : i < ns.length) (hz : ns.length < 2 ^ 62) (h : ∀ t, Q (.int (ns.getD i.toNat 0) t) s)
    (hs : subscripted slice false (.ref l) (.int i u) = operate [.ref l, .int i u] (getItem (.ref l) (.int i u)) := by with_unfolding_all rfl) :
    wpAny (model prog w) A (subscriptTail value slice (.ref l) (.int i u)) Q E s := by
  obtain ⟨t, e⟩ := ints_at hi (i := i.toNat) (by omega)
  exact LL.item N hm h0 e (by rw [hi.length]; exact hz) hs (h t)
end
section
variable {M : Model} {A : Around} {E : Value → Shared → Prop} {s : Shared} {h₀ : Heap} {L a : Addr} {m : Str → Option Value} {cn : Str} {cs : Scope} {ccd : Value} {cl : List (Str × Addr)} {x : Str} {v : Value} {Q : Value → Shared → Prop}
theorem loadX_L (F : Fr h₀ L s.heap m) (hv : m x = some v) (h : Q v s) (hk : cs.kind = .function) (hx : (envX cn cs L a ccd cl).kindOf x = some .local) : wpAny M A (loadName (envX cn cs L a ccd cl) x) Q E s :=
  wpAny_loadName_local hk hx F.ns hv h
end
section
variable {prog : Program} {w : World} {A : Around} {E : Value → Shared → Prop} {s : Shared} {h₀ : Heap} {L : Addr} {m : Str → Option Value} {l : Addr} {vs : List Value} {ns : List Int}
theorem GL.is (F : Fr h₀ L s.heap m) (hL : h₀.IsList l vs.toArray) : s.heap.IsList l vs.toArray := by
  obtain ⟨o, e, r⟩ := hL
  exact ⟨o, F.keep _ _ e, r⟩
theorem GL.len {Q : Value → Shared → Prop} (F : Fr h₀ L s.heap m) (hL : h₀.IsList l vs.toArray) (hz : vs.length < 2 ^ 62) (h : ∀ t tk', Q (.int vs.length t) { s with toks := tk' }) :
    wpAny (model prog w) A (call (.builtin "len") [.ref l]) Q E s :=
  call_len_list (GL.is F hL) (by rw [List.size_toArray]; omega) (by have := h (s.toks + 1) (s.toks + 1 + 1); simpa using this)
theorem GL.int {value slice : Expr} {i : Int} {u : Tok} {Q : Value → Shared → Prop} (F : Fr h₀ L s.heap m) (hL : h₀.IsList l vs.toArray) (hi : IntsAre vs ns) (h0 : 0 ≤ i) (h1 : i < ns.length) (hz : ns.length < 2 ^ 62) (h : ∀ t, Q (.int (ns.getD i.toNat 0) t) s)
    (hs : subscripted slice false (.ref l) (.int i u) = operate [.ref l, .int i u] (getItem (.ref l) (.int i u)) := by with_unfolding_all rfl) :
    wpAny (model prog w) A (subscriptTail value slice (.ref l) (.int i u)) Q E s := by
  obtain ⟨t, e⟩ := ints_at hi (i := i.toNat) (by omega)
  have hl := hi.length
  exact tail_any (GL.is F hL).typeIs slot_list_getitem.lookup (wpAny_getItem_list (GL.is F hL) h0 (by omega) (by simpa using e) (h t)) hs
end
end
-- Loop2
section
open PySem PySem.W PyProof.Rows PySem.Calls PySem.Spec
open PyProof.Rows.LCg
section
variable {prog : Program} {w : World} {A : Around} {E : Value → Shared → Prop} {s s₁ : Shared} {h₀ : Heap} {m : Str → Option Value} {env : Env} {target : Expr} {body orelse : List Stmt} {Q : Flow → Shared → Prop} {news : List (Addr × Obj)}
theorem fsrc_tuple {ax : Addr} {its : List Value} (J : Nat → (Str → Option Value) → List (Addr × Obj) → Prop) (hh : A.handled = none) (F : Fr h₀ env.locals s₁.heap m) (N : News h₀ env.locals s₁.heap news)
    (S₀ : TupleAt ax its news) (hJ : J 0 m news)
    (step : ∀ i v m₁ news' g I, its[i]? = some v → TupleAt ax its news' → J i m₁ news' → FTurn prog w A h₀ env target body { s₁ with heap := g } (TupleAt ax its) Q (J (i + 1)) I v m₁ news')
    (done : ∀ m₁ news' h tk, J its.length m₁ news' → TupleAt ax its news' → Fr h₀ env.locals h m₁ → News h₀ env.locals h news' → s₁.toks ≤ tk → wpAny (model prog w) A (execs orelse env) Q (fun _ _ => False) { s₁ with heap := h, toks := tk }) :
    wpAny (model prog w) A (pyIter (.ref ax)) (FSrc prog w A h₀ env target body orelse Q) E s₁ := by
  have hl := S₀.is N
  have hlt : ax < s₁.heap.objs.size := by obtain ⟨_, e, _⟩ := hl; exact Heap.lt_size e
  have up : ∀ b o, s₁.heap.get? b = some o → (s₁.heap.push { cls := .type "tuple_iterator", data := .fields #[.ref ax, .int 0 0] }).get? b = some o := fun b o e => Heap.get?_push_of_some _ e
  refine wpAny_pyIter_tuple hl ?_
  have W := Walks.tuple (prog := prog) (w := w) hh s₁.heap.objs.size ax (Nat.ne_of_lt hlt) its.toArray
  rw [show its.toArray.size = its.length from rfl] at W
  refine ⟨s₁.heap.objs.size, [s₁.heap.objs.size, ax], its.length, _, _, TupleAt ax its, m, news, J, rfl, W, fun i h st => let ⟨o, e, _⟩ := st.1; ⟨o, e⟩, ?_, ?_,
    ⟨⟨_, Heap.get?_push_size _ rfl, rfl, rfl⟩, let ⟨o, e, c, d⟩ := hl; ⟨o, up _ _ e, c, d⟩⟩, F.keeps up, N.grown up, Nat.ne_of_lt F.ns.lt, next_is_new F, fun p hp => Nat.ne_of_lt (Heap.lt_size (N p hp).1), S₀, hJ, ?_, ?_⟩
  · intro i h h' o nw st e e' k N' S'
    refine ⟨?_, S'.is N'⟩
    obtain ⟨o', q, r⟩ := st.1
    rw [e] at q; cases q; exact ⟨o, e', r⟩
  · intro i v s' Q E' st _ q
    obtain ⟨o', e, c, _⟩ := st.1
    exact let_plain e (.inr c) q
  · exact fun i v m₁ news' _ hv hS' hJ' => step i v m₁ news' _ _ (by simpa using hv) hS' hJ'
  · exact fun m₁ news' h tk hJ' hS' F' N' _ t => done m₁ news' h tk hJ' hS' F' N' t
theorem FEnd.ret {L I : Addr} {oI : Obj} {S : List (Addr × Obj) → Prop} {rest : (Str → Option Value) → List (Addr × Obj) → Prop} {v : Value} {s₂ : Shared} (h : Q (.ret v) s₂) : FEnd h₀ L s₁ I oI S rest Q (.ret v) s₂ := h
end
end
-- Tup2
section
open PySem PySem.W PyProof.Rows PySem.Calls PySem.Spec
section
variable {prog : Program} {w : World} {A : Around} {E : Value → Shared → Prop} {s : Shared}
theorem adjust_upto (a n : Nat) (ha : a ≤ n) : Builtin.Slice.sliceAdjust none (some (a : Int)) 1 (n : Int) = ((0 : Int), (a : Int)) := by
  unfold Builtin.Slice.sliceAdjust
  have h1 : ¬ ((1 : Int) < 0) := by omega
  have h2 : ¬ ((a : Int) < 0) := by omega
  simp only [h1, h2, if_false]
  congr 1
  omega
theorem places_upto (a : Nat) : Builtin.Slice.slicePlaces (0 : Int) (a : Int) 1 = a := by
  unfold Builtin.Slice.slicePlaces
  have h1 : (1 : Int) > 0 := by omega
  simp only [h1, if_true, Int.ediv_one]
  split <;> omega
theorem sliceApplied_upto {sl : Addr} {a n : Nat} {u : Tok} {Q : Int × Int × Nat → Shared → Prop} (hs : s.heap.IsSliceOf sl .none (.int a u) .none) (ha : a ≤ n) (h : Q (0, 1, a) s) :
    wpAny (model prog w) A (Builtin.Slice.sliceApplied (.ref sl) (pure (n : Int))) Q E s := by
  obtain ⟨os, hos, hcs, hds⟩ := id hs
  unfold Builtin.Slice.sliceApplied Builtin.Slice.sliceFields
  refine wpAny_bind (wpAny_bind (wpAny_field hos hds (x := .none) rfl (wpAny_bind (wpAny_field hos hds (x := .int a u) rfl (wpAny_bind (wpAny_field hos hds (x := .none) rfl (wpAny_pure ?_)))))))
  refine wpAny_bind (slicePart_none ?_)
  show wpAny _ _ (if ((1 : Int) == 0) = true then _ else _) _ _ s
  rw [if_neg (by decide)]
  refine wpAny_bind (slicePart_none (wpAny_bind (slicePart_int (wpAny_bind (wpAny_pure ?_)))))
  show wpAny _ _ (match Builtin.Slice.sliceAdjust none (some (a : Int)) 1 (n : Int) with | (lo, hi) => pure (lo, (1 : Int), Builtin.Slice.slicePlaces lo hi 1)) _ _ s
  rw [adjust_upto a n ha]
  show wpAny _ _ (pure ((0 : Int), (1 : Int), Builtin.Slice.slicePlaces (0 : Int) (a : Int) 1)) _ _ s
  rw [places_upto a]
  exact wpAny_pure h
theorem pick_upto (xs : Array Value) (a : Nat) : ((List.range a).filterMap fun (k : Nat) => xs[((0 : Int) + (k : Int) * 1).toNat]?).toArray = (xs.toList.take a).toArray := by
  have e : (fun (k : Nat) => xs[((0 : Int) + (k : Int) * 1).toNat]?) = fun k => xs[0 + k]? := by
    funext k
    have : ((0 : Int) + (k : Int) * 1).toNat = 0 + k := by omega
    rw [this]
  rw [e]
  have := pick_run xs 0 a
  rw [List.filterMap_map] at this
  have e2 : ((fun x => xs[x]?) ∘ fun x => 0 + x) = fun k => xs[0 + k]? := rfl
  rw [e2] at this
  rw [this, List.drop_zero]

theorem getItem_tuple_upto {t sl : Addr} {items : Array Value} {a : Nat} {u : Tok} {Q : Value → Shared → Prop} (ht : IsTup s.heap t items) (hs : s.heap.IsSliceOf sl .none (.int a u) .none) (ha : a < items.size)
    (h : Q (.ref s.heap.objs.size) { s with heap := s.heap.push { cls := .type "tuple", data := .seq (items.toList.take a).toArray } })
    (hsz : items.size ≤ sizeLine) : wpAny (model prog w) A (getItem (.ref t) (.ref sl)) Q E s := by
  have htake : sizeOk (.seq (items.toList.take a).toArray) := by
    show (items.toList.take a).toArray.size ≤ sizeLine
    rw [List.size_toArray, List.length_take, Array.length_toList]
    omega
  obtain ⟨os, hos, hcs, hds⟩ := id hs
  have hTs : s.TypeIs (.ref sl) "slice" := ⟨os, hos, hcs⟩
  unfold getItem
  try with_reducible refine wpAny_holding ?_
  first | refine wpAny_bind (wpAny_pure ?_) | skip
  obtain ⟨ot, eot, cot, dot⟩ := id ht
  have hTt : s.TypeIs (.ref t) "tuple" := ⟨ot, eot, cot⟩
  refine wpAny_bind (wpAny_sequenceKey hTt (by decide) ?_)
  refine wpAny_bind (wpAny_callSpecial?_slot (name := Str.ofString "__getitem__") hTt slot_tuple_getitem
    (wpAny_call_entry slot_tuple_getitem hTt entry_tuple_getitem ?_ (args_tuple_getitem _ _)))
  show wpAny _ _ (Builtin.Tuple.tupleItemsOf (.ref t) >>= _) _ _ s
  refine wpAny_bind (tupleItemsOf_ ht ?_)
  refine wpAny_bind (wpAny_typeOf hTs ?_)
  rw [if_pos (by decide)]
  refine wpAny_bind (sliceApplied_upto hs (Nat.le_of_lt ha) ?_)
  have hno : ¬ (((0 : Int) == 0 && (1 : Int) == 1 && a == items.size) = true) := by
    have : (a == items.size) = false := by rw [beq_eq_false_iff_ne]; omega
    rw [this]; simp
  show wpAny _ _ (if ((0 : Int) == 0 && (1 : Int) == 1 && a == items.size) = true then _ else _) _ _ s
  rw [if_neg hno, pick_upto items a]
  first
    | exact wpAny_bind (m := Builtin.Tuple.tupleExact _) (wpAny_newObj_type (wpAny_pure ⟨_, rfl, wpAny_pure h⟩) htake)
    | exact wpAny_bind (m := Builtin.Tuple.tupleExact _) (wpAny_newObj_type (wpAny_bind (wpAny_pure (wpAny_pure ⟨_, rfl, wpAny_pure h⟩))) htake)
    | exact wpAny_bind (wpAny_bind (m := Builtin.Tuple.tupleExact _) (wpAny_newObj_type (wpAny_pure (wpAny_pure ⟨_, rfl, wpAny_pure h⟩)) htake))
    | exact wpAny_bind (wpAny_bind (m := Builtin.Tuple.tupleExact _) (wpAny_newObj_type (wpAny_pure ⟨_, rfl, wpAny_pure h⟩) htake))

variable {h₀ : Heap} {L : Addr} {m : Str → Option Value} {news : List (Addr × Obj)}
theorem TT.upto {value slice : Expr} {t : Addr} {vs : List Value} {k a : Nat} {i : Int} {u : Tok} {Q : Value → Shared → Prop}
    (F : Fr h₀ L s.heap m) (N : News h₀ L s.heap news) (hm : (t, tupN vs k) ∈ news) (hi : i = (a : Int)) (ha : a < vs.length) (hsz : vs.length ≤ sizeLine)
    (h : ∀ D h', Fr h₀ L h' m → News h₀ L h' ((D, tupO (vs.take a)) :: news) → (∀ p ∈ news, p.1 < D) → Q (.ref D) { s with heap := h' })
    (hs : subscripted slice false (.ref t) (.ref s.heap.objs.size) = operate [.ref s.heap.objs.size, .ref t] (getItem (.ref t) (.ref s.heap.objs.size)))
    (hg : ∀ r, letTemporaryGo value (.ref t) r = pure ()) :
    wpAny (model prog w) A (subscriptTail value slice (.ref t) (.ref s.heap.objs.size)) Q E { s with heap := s.heap.push { cls := .type "slice", data := .fields #[.none, .int i u, .none] } } := by
  subst hi
  have ht := TT.is N hm
  have ht' : IsTup (s.heap.push { cls := .type "slice", data := .fields #[.none, .int a u, .none] }) t vs.toArray := ht.keeps fun _ _ e => Heap.get?_push_of_some _ e
  obtain ⟨ot, eot, cot, dot⟩ := id ht'
  refine subscriptTail_ops (s := { s with heap := s.heap.push { cls := .type "slice", data := .fields #[.none, .int a u, .none] } }) ⟨ot, eot, cot⟩ slot_tuple_getitem.lookup
    (getItem_tuple_upto ht' (Heap.IsSliceOf.new ..) (by rw [List.size_toArray]; exact ha) ?_ (by rw [List.size_toArray]; exact hsz)) hs hg
  have N1 := News.push (F.push { cls := .type "slice", data := .fields #[.none, .int a u, .none] }) (N.grown fun _ _ e => Heap.get?_push_of_some _ e) (tupO (vs.take a))
  rw [Heap.size_push] at N1
  show Q (.ref (s.heap.push _).objs.size) _
  rw [Heap.size_push]
  exact h _ _ ((F.push _).push _) N1 fun p hp => Nat.lt_succ_of_lt (Heap.lt_size (N p hp).1)
end
end
-- Dict1
section
open PySem PySem.W PyProof.Rows PySem.Calls PySem.Spec
open PyProof.Rows.LCg
section
variable {prog : Program} {w : World} {K : Type} [DecidableEq K] {knd : KeyKind prog w K} {A : Around} {E : Value → Shared → Prop} {s s₁ : Shared} {h₀ : Heap} {m : Str → Option Value} {env : Env} {xk xv : Str} {pk pv pt : Pos} {x1 : Nat} {body : List Stmt} {Q : Flow → Shared → Prop} {news : List (Addr × Obj)}

noncomputable abbrev itO (d : Addr) (i n ep : Nat) (ok ov : Value) : Obj := { cls := .type "dict_itemiterator", dict := none, data := .fields #[.none, .bool false, .ref d, .int i 0, .int n 0, .int ep 0, ok, ov], slots := #[] }
noncomputable def IsD (knd : KeyKind prog w K) (od : Obj) (kvs : List (K × Value)) (ep : Nat) : Prop := ∃ es, od.ExactDict ∧ od.data = .dict es ep ∧ KeysOf knd es ∧ Pairs knd es.toList kvs ∧ (kvs.map (·.1)).Nodup
theorem IsD.at {od : Obj} {kvs : List (K × Value)} {ep : Nat} {h : Heap} {d : Addr} (x : IsD knd od kvs ep) (e : h.get? d = some od) : h.DictAt knd d kvs ep := let ⟨es, a, b, c, p, n⟩ := x; ⟨od, es, e, a, b, c, p, n⟩
theorem isD_of {od : Obj} {kvs : List (K × Value)} (x : od.IsDictOf knd kvs) : ∃ ep, IsD knd od kvs ep := let ⟨es, ep, r⟩ := x; ⟨ep, es, r⟩

inductive IInv (s₂ : Shared) (I d : Addr) (od : Obj) (kvs : List (K × Value)) (ep : Nat) (h₀ : Heap) (L : Addr) (J : Nat → (Str → Option Value) → List (Addr × Obj) → Prop) (n : Nat) (s' : Shared) : Prop
  | mk (h' : Heap) (tk i : Nat) (m' : Str → Option Value) (news' : List (Addr × Obj)) (ok ov : Value)
    (x1 : s' = { s₂ with heap := h', toks := tk })
    (x2 : i ≤ kvs.length)
    (x3 : n = kvs.length + 1 - i)
    (x4 : IsItemIter h' I d i kvs.length ep ok ov)
    (x5 : Fr h₀ L h' m')
    (x6 : News h₀ L h' news')
    (x7 : (∀ p ∈ news', p.1 ≠ I))
    (x8 : (d, od) ∈ news')
    (x9 : J i m' news') : IInv s₂ I d od kvs ep h₀ L J n s'
inductive FItems (prog : Program) (w : World) {K : Type} [DecidableEq K] (knd : KeyKind prog w K) (A : Around) (h₀ : Heap) (env : Env) (xk xv : Str) (body : List Stmt) (Q : Flow → Shared → Prop) (it : Value) (s₂ : Shared) : Prop
  | mk (I d : Addr) (od : Obj) (kvs : List (K × Value)) (ep : Nat) (m : Str → Option Value) (news : List (Addr × Obj)) (J : Nat → (Str → Option Value) → List (Addr × Obj) → Prop)
    (x1 : it = .ref I)
    (x2 : IsItemIter s₂.heap I d 0 kvs.length ep .none .none)
    (x3 : IsD knd od kvs ep)
    (x4 : (d, od) ∈ news)
    (x5 : Fr h₀ env.locals s₂.heap m)
    (x6 : News h₀ env.locals s₂.heap news)
    (x7 : env.locals ≠ I)
    (x8 : h₀.get? I = none)
    (x9 : (∀ p ∈ news, p.1 ≠ I))
    (x10 : J 0 m news)
    (x11 : (∀ i k v key m₁ news', kvs[i]? = some (k, v) → knd.is k key = true → (d, od) ∈ news' → J i m₁ news' → ∀ oI h tk, Fr h₀ env.locals h (upd (upd m₁ xk key) xv v) → News h₀ env.locals h ((I, oI) :: news') → (∀ p ∈ news', p.1 ≠ I) →
      wpAny (model prog w) A (execs body env) (FEnd h₀ env.locals s₂ I oI (fun nw => (d, od) ∈ nw) (J (i + 1)) Q) (fun _ _ => False) { s₂ with heap := h, toks := tk }))
    (x12 : ∀ m₁ news' h tk, J kvs.length m₁ news' → (d, od) ∈ news' → Fr h₀ env.locals h m₁ → News h₀ env.locals h news' → Q .next { s₂ with heap := h, toks := tk }) : FItems prog w knd A h₀ env xk xv body Q it s₂

theorem forItems (knd : KeyKind prog w K) {iter : Expr} {pos : Pos} (hh : A.handled = none) (hxk : env.kindOf xk = some .local) (hxv : env.kindOf xv = some .local)
    (hp : (env.scope.kind == .class || (env.scope.kind == .module && env.locals != env.globals)) = false)
    (h : wpAny (model prog w) A (eval iter env) (fun xvl s₁ => wpAny (model prog w) A (pyIter xvl) (FItems prog w knd A h₀ env xk xv body Q) E s₁) E s)
    (hs : ∀ x, foldedSetIterable iter env x = pure x := by intro _; rfl) :
    wpAny (model prog w) A (exec (.For (.Tuple [.Name xk pk, .Name xv pv] x1 pt) iter body [] pos) env) Q E s := by
  refine wpAny_For (wpAny_mono h (fun xvl s₁ h₁ => wpAny_mono h₁ (fun it s₂ h₂ => ?_) fun _ _ e => e) fun _ _ e => e) hs
  obtain ⟨I, d, od, kvs, ep, m, news, J, rfl, hit, hd, hm, F, N, hLI, hI₀, off, hJ, step, done⟩ := h₂
  refine codeAny_loop' rfl
    (IInv s₂ I d od kvs ep h₀ env.locals J) ?_ (kvs.length + 1)
    ⟨s₂.heap, s₂.toks, 0, m, news, _, _, rfl, Nat.zero_le _, rfl, hit, F, N, off, hm, hJ⟩
  rintro n s' ⟨H, tk, i, m', news', ok, ov, rfl, hi, rfl, hit', F', N', off', hm', hJ'⟩
  show wpAny _ A ((forTurn (.Tuple [.Name xk pk, .Name xv pv] x1 pt) (.ref I) body [] env).onRaise (fun x => do noteFrame x env; theTreesLotGoes x)) _ _ _
  refine wpAny_noted (wpAny_noRaise ?_)
  simp only [forTurn]
  refine wpAny_bind (wpAny_standAt (wpAny_bind (wpAny_onRaise (wpAny_mono (E := fun _ _ => False) ?_ (fun _ _ x => x) fun _ _ x => x.elim))))
  have oldNe : ∀ b o, h₀.get? b = some o → b ≠ I := fun b o e q => by rw [q, hI₀] at e; cases e
  have hdAt := hd.at (N' _ hm').1
  have hdI : d ≠ I := off' _ hm'
  have hdL : d ≠ env.locals := (N' _ hm').2.1
  cases hv : kvs[i]? with
  | none =>
    have hsz : i = kvs.length := Nat.le_antisymm hi (by simpa using hv)
    refine wpAny_pyNext_items_end hh hit' hdAt hv fun h₁ he₁ => ?_
    refine wpAny_pure (.inr ⟨rfl, codeAny_block (wpAny_execs_nil ?_)⟩)
    exact done m' news' h₁ tk (hsz ▸ hJ') hm' ⟨F'.ns.extBut he₁ hLI, fun b o e => he₁ b o (oldNe b o e) (F'.keep b o e), F'.above⟩ (fun p hp => ⟨he₁ _ _ (off' p hp) (N' p hp).1, (N' p hp).2⟩)
  | some kv =>
    obtain ⟨k, v⟩ := kv
    have hlt : i < kvs.length := (List.getElem?_eq_some_iff.mp hv).1
    have hiH : I < H.objs.size := Heap.lt_size hit'
    have hLH : env.locals < H.objs.size := F'.ns.lt
    refine wpAny_pyNext_items_item hit' hdAt hv fun key h₁ hkey heo ht₁ hz₁ hk₁ => ?_
    refine wpAny_bind (wpAny_letOwnedTupleGo_items heo fun h₂ he₂ hs₂ => ?_)
    replace hs₂ : Heap.SameBut I h₁ h₂ := hs₂
    have ht₂ : h₂.IsTuple H.objs.size #[key, v] := ⟨_, (hs₂.2 _ (Nat.ne_of_gt hiH)).trans ht₁, rfl, _, rfl⟩
    have hz₂ : h₂.objs.size = H.objs.size + 1 := hs₂.1.trans hz₁
    refine wpAny_bind (wpAny_assign_Tuple hh ht₂ rfl rfl fun h₃ hx₃ => ?_)
    replace hx₃ : Heap.ExtBut h₂.objs.size h₂ h₃ := hx₃
    have old₃ : ∀ b o, b < H.objs.size → h₂.get? b = some o → h₃.get? b = some o := fun b o hb x => hx₃ b o (by rw [hz₂]; exact Nat.ne_of_lt (Nat.lt_succ_of_lt hb)) x
    have up₃ : ∀ b o, b ≠ I → H.get? b = some o → h₃.get? b = some o := fun b o hb x => old₃ b o (Heap.lt_size x) (hs₂.extBut b o hb (hk₁ b o hb x))
    have F₃ : Fr h₀ env.locals h₃ m' := ⟨F'.ns.at fun o x => up₃ _ o hLI x, fun b o e => up₃ b o (oldNe b o e) (F'.keep b o e), F'.above⟩
    have N₃ : News h₀ env.locals h₃ ((I, itO d (i + 1) kvs.length ep key v) :: news') := fun p hp => by
      rcases List.mem_cons.mp hp with rfl | hp
      · exact ⟨old₃ _ _ hiH he₂, Ne.symm hLI, hI₀⟩
      · exact ⟨up₃ _ _ (off' p hp) (N' p hp).1, (N' p hp).2⟩
    show wpAny _ _ (do holding [v] (assign (.Name xk pk) env key); holding [] (assign (.Name xv pv) env v); pure ()) _ _ _
    refine wpAny_bind (wpAny_holding (wpAny_assign_Name (wpAny_storeName_local hxk F₃.ns (fun h₄ hn₄ hs₄ => ?_) hp)))
    replace hs₄ : Heap.SameBut env.locals h₃ h₄ := hs₄
    have F₄ := F₃.set hn₄ hs₄
    refine wpAny_bind (wpAny_holding (wpAny_assign_Name (wpAny_storeName_local hxv F₄.ns (fun h₅ hn₅ hs₅ => wpAny_pure ?_) hp)))
    replace hs₅ : Heap.SameBut env.locals h₄ h₅ := hs₅
    have F₅ := F₄.set hn₅ hs₅
    have N₅ := (N₃.set hs₄).set hs₅
    refine wpAny_bind (wpAny_mono (step i k v key m' news' hv hkey hm' hJ' _ h₅ _ F₅ N₅ off') (fun f s₄ h₆ => ?_) fun _ _ x => x)
    have fin : FFin h₀ env.locals s₂ I (itO d (i + 1) kvs.length ep key v) (fun nw => (d, od) ∈ nw) (J (i + 1)) s₄ → ∃ n, n < kvs.length + 1 - i ∧ IInv s₂ I d od kvs ep h₀ env.locals J n s₄ := by
      rintro ⟨h₇, tk₇, m₇, news₇, rfl, F₇, N₇, off₇, hm₇, hJ₇⟩
      exact ⟨kvs.length + 1 - (i + 1), turn_lt hlt, h₇, tk₇, i + 1, m₇, news₇, _, _, rfl, hlt, rfl, (N₇ _ List.mem_cons_self).1, F₇, fun p hp => N₇ p (List.mem_cons_of_mem _ hp), off₇, hm₇, hJ₇⟩
    cases f with
    | next => exact wpAny_pure (.inl ⟨rfl, fin h₆⟩)
    | cont => exact wpAny_pure (.inl ⟨rfl, fin h₆⟩)
    | brk => exact wpAny_pure h₆
    | ret v => exact wpAny_pure h₆

theorem fitems_src {vw d : Addr} {od : Obj} {kvs : List (K × Value)} (J : Nat → (Str → Option Value) → List (Addr × Obj) → Prop) (hvw : s₁.heap.IsItemsView vw d) (hd : od.IsDictOf knd kvs) (hm : (d, od) ∈ news)
    (F : Fr h₀ env.locals s₁.heap m) (N : News h₀ env.locals s₁.heap news) (hJ : J 0 m news)
    (step : ∀ i k v key m₁ news' g I, kvs[i]? = some (k, v) → knd.is k key = true → (d, od) ∈ news' → J i m₁ news' → ∀ oI h tk, Fr h₀ env.locals h (upd (upd m₁ xk key) xv v) → News h₀ env.locals h ((I, oI) :: news') → (∀ p ∈ news', p.1 ≠ I) →
      wpAny (model prog w) A (execs body env) (FEnd h₀ env.locals { s₁ with heap := g } I oI (fun nw => (d, od) ∈ nw) (J (i + 1)) Q) (fun _ _ => False) { s₁ with heap := h, toks := tk })
    (done : ∀ m₁ news' h tk, J kvs.length m₁ news' → (d, od) ∈ news' → Fr h₀ env.locals h m₁ → News h₀ env.locals h news' → Q .next { s₁ with heap := h, toks := tk }) :
    wpAny (model prog w) A (pyIter (.ref vw)) (FItems prog w knd A h₀ env xk xv body Q) E s₁ := by
  obtain ⟨ep, hD⟩ := isD_of hd
  refine wpAny_pyIter_items (knd := knd) (d := d) (kvs := kvs) (ep := ep) hvw (hD.at (N _ hm).1) ?_
  have up : ∀ o b o', s₁.heap.get? b = some o' → (s₁.heap.push o).get? b = some o' := fun o b o' e => Heap.get?_push_of_some _ e
  exact ⟨s₁.heap.objs.size, d, od, kvs, ep, m, news, J, rfl, Heap.get?_push_size _ rfl, hD, hm, F.keeps (up _), N.grown (up _), Nat.ne_of_lt F.ns.lt, next_is_new F, fun p hp => Nat.ne_of_lt (Heap.lt_size (N p hp).1), hJ,
    fun i k v key m₁ news' a b c e => step i k v key m₁ news' _ _ a b c e, fun m₁ news' h tk a b c e => done m₁ news' h tk a b c e⟩
end
end
-- Dict2
section
open PySem PySem.W PyProof.Rows PySem.Calls PySem.Spec
inductive IntsD : List (PySem.Str × Value) → List (PySem.Str × Int) → Prop
  | nil : IntsD [] []
  | cons {k : PySem.Str} {x : Int} {l : List (PySem.Str × Value)} {P : List (PySem.Str × Int)} (t : Tok) : IntsD l P → IntsD ((k, .int x t) :: l) ((k, x) :: P)

noncomputable def hasS (k : PySem.Str) (P : List (PySem.Str × Int)) : Bool := P.any fun q => q.1 = k
noncomputable def putS (k : PySem.Str) (c : Int) (P : List (PySem.Str × Int)) : List (PySem.Str × Int) := if hasS k P then P.map (fun q => if q.1 = k then (q.1, c) else q) else P ++ [(k, c)]
noncomputable def getS (k : PySem.Str) : List (PySem.Str × Int) → Int
  | [] => 0
  | q :: P => if q.1 = k then q.2 else getS k P
noncomputable def addS (k : PySem.Str) (c : Int) (P : List (PySem.Str × Int)) : List (PySem.Str × Int) := if hasS k P then putS k (getS k P + c) P else putS k c P

theorem IntsD.keys {l : List (PySem.Str × Value)} {P : List (PySem.Str × Int)} (h : IntsD l P) : l.map (·.1) = P.map (·.1) := by
  induction h with
  | nil => rfl
  | cons t _ ih => simp [ih]
theorem IntsD.length {l : List (PySem.Str × Value)} {P : List (PySem.Str × Int)} (h : IntsD l P) : l.length = P.length := by
  induction h with
  | nil => rfl
  | cons t _ ih => simp [ih]
theorem IntsD.snoc {l : List (PySem.Str × Value)} {P : List (PySem.Str × Int)} (h : IntsD l P) (k : PySem.Str) (x : Int) (t : Tok) : IntsD (l ++ [(k, .int x t)]) (P ++ [(k, x)]) := by
  induction h with
  | nil => exact .cons t .nil
  | cons t' _ ih => exact .cons t' ih
theorem IntsD.has {l : List (PySem.Str × Value)} {P : List (PySem.Str × Int)} (h : IntsD l P) (k : PySem.Str) : (l.any fun kv => kv.1 = k) = hasS k P := by
  induction h with
  | nil => rfl
  | cons t _ ih => simp only [List.any_cons, hasS] at ih ⊢; rw [ih]
theorem IntsD.map {l : List (PySem.Str × Value)} {P : List (PySem.Str × Int)} (h : IntsD l P) (k : PySem.Str) (c : Int) (t : Tok) : IntsD (l.map fun kv => if kv.1 = k then (kv.1, .int c t) else kv) (P.map fun q => if q.1 = k then (q.1, c) else q) := by
  induction h with
  | nil => exact .nil
  | @cons k' x l P t' _ ih =>
    simp only [List.map_cons]
    by_cases e : k' = k
    · simp only [if_pos e]; exact .cons t ih
    · simp only [if_neg e]; exact .cons t' ih
theorem IntsD.stored {l : List (PySem.Str × Value)} {P : List (PySem.Str × Int)} (h : IntsD l P) (k : PySem.Str) (c : Int) (t : Tok) : IntsD (PySem.stored l k (.int c t)) (putS k c P) := by
  unfold PySem.stored putS
  rw [h.has]
  split
  · exact h.map k c t
  · exact h.snoc k c t
theorem IntsD.value {l : List (PySem.Str × Value)} {P : List (PySem.Str × Int)} (h : IntsD l P) (k : PySem.Str) : (valueAt l k).isSome = hasS k P ∧ (hasS k P = true → ∃ t, valueAt l k = some (.int (getS k P) t)) := by
  induction h with
  | nil => exact ⟨rfl, fun h => by simp [hasS] at h⟩
  | @cons k' x l P t' _ ih =>
    by_cases e : k' = k
    · subst e
      exact ⟨by simp [valueAt, hasS], fun _ => ⟨t', by simp [valueAt, getS]⟩⟩
    · have e1 : valueAt ((k', Value.int x t') :: l) k = valueAt l k := by simp [valueAt, List.find?_cons, e]
      have e2 : hasS k ((k', x) :: P) = hasS k P := by simp [hasS, e]
      have e3 : getS k ((k', x) :: P) = getS k P := by simp [getS, e]
      rw [e1, e2, e3]; exact ih
theorem IntsD.at {l : List (PySem.Str × Value)} {P : List (PySem.Str × Int)} (h : IntsD l P) : ∀ {i : Nat} {k : PySem.Str} {v : Value}, l[i]? = some (k, v) → ∃ x t, v = .int x t ∧ P[i]? = some (k, x) := by
  induction h with
  | nil => intro i k v q; simp at q
  | @cons k' x l P t' _ ih =>
    intro i k v q
    cases i with
    | zero => cases q; exact ⟨x, t', rfl, rfl⟩
    | succ i => simpa using ih (by simpa using q)
theorem put_length (k : PySem.Str) (c : Int) (P : List (PySem.Str × Int)) : (putS k c P).length ≤ P.length + 1 := by
  unfold putS; split <;> simp
theorem add_length (k : PySem.Str) (c : Int) (P : List (PySem.Str × Int)) : (addS k c P).length ≤ P.length + 1 := by
  unfold addS; split <;> exact put_length _ _ _
theorem put_copy : ∀ (P acc : List (PySem.Str × Int)), ((acc ++ P).map (·.1)).Nodup → P.foldl (fun a q => putS q.1 q.2 a) acc = acc ++ P
  | [], acc, _ => by simp
  | q :: P, acc, h => by
    have hq : hasS q.1 acc = false := by
      unfold hasS
      rw [List.any_eq_false]
      intro p hp
      simp only [decide_eq_true_eq]
      intro e
      rw [List.map_append, List.nodup_append] at h
      exact h.2.2 p.1 (List.mem_map_of_mem hp) q.1 (by simp) e
    rw [List.foldl_cons]
    rw [show putS q.1 q.2 acc = acc ++ [q] from by unfold putS; rw [hq]; rfl]
    rw [put_copy P (acc ++ [q]) (by simpa using h)]
    simp
theorem IntsD.flat {l : List (PySem.Str × Value)} {P : List (PySem.Str × Int)} (h : IntsD l P) : PyProof.V.FlatPairs PyData.str l (P.map fun q => (PyData.str q.1, PyData.int q.2)) := by
  induction h with
  | nil => exact .nil
  | cons t _ ih => exact .cons (.int _ _) ih
section
variable {prog : Program} {w : World} {A : Around} {E : Value → Shared → Prop} {s : Shared} {h₀ : Heap} {L : Addr} {m : Str → Option Value} {news : List (Addr × Obj)} {d : Addr} {od : Obj} {kvs : List (PySem.Str × Value)} {P : List (PySem.Str × Int)}
theorem DD.tab (N : News h₀ L s.heap news) (hm : (d, od) ∈ news) (hd : od.IsDictOf (PySem.strKind prog w) kvs) (a : IntsD kvs P) (lo : (d == sysModules) = false) : TabAt (PySem.strKind prog w) PyData.str s.heap d (P.map fun q => (PyData.str q.1, PyData.int q.2)) :=
  TabAt.ofNews N hm lo hd a.flat
theorem DD.method {name : Str} {id : String} {pl : Sem Bool} {Q : Value × List Value → Shared → Prop} (hid : dictMethodId name = some id) (N : News h₀ L s.heap news) (hm : (d, od) ∈ news) (hd : od.IsDictOf (PySem.strKind prog w) kvs) (a : IntsD kvs P) (lo : (d == sysModules) = false) (h : Q (.builtin id, [.ref d]) s) :
    wpAny (model prog w) A (getMethod (.ref d) name pl) Q E s := getMethod_tab_any hid (DD.tab N hm hd a lo) h
theorem DD.items {Q : Value → Shared → Prop} (F : Fr h₀ L s.heap m) (N : News h₀ L s.heap news) (hm : (d, od) ∈ news) (hd : od.IsDictOf (PySem.strKind prog w) kvs) (a : IntsD kvs P) (lo : (d == sysModules) = false)
    (h : ∀ vw h', h'.IsItemsView vw d → Fr h₀ L h' m → News h₀ L h' news → Q (.ref vw) { s with heap := h' }) :
    wpAny (model prog w) A (call (.builtin "dict.items") [.ref d]) Q E s :=
  call_items_tab (DD.tab N hm hd a lo) F N fun h' o v F' N' => h _ h' v F' fun p hp => N' p (List.mem_cons_of_mem _ hp)
end
theorem stored_length {K : Type} [DecidableEq K] (kvs : List (K × Value)) (k : K) (v : Value) : (stored kvs k v).length ≤ kvs.length + 1 := by
  unfold stored; split <;> simp
theorem str_key {prog : Program} {w : World} {k : PySem.Str} {key : Value} (h : (PySem.strKind prog w).is k key = true) : ∃ t, key = .str k t := by
  cases key <;> simp [PySem.strKind, Value.isStrOf] at h
  subst h; exact ⟨_, rfl⟩
theorem take_fold {β γ : Type} {f : β → γ → β} {P : List γ} {i : Nat} {q : γ} {b : β} (h : P[i]? = some q) : (P.take (i + 1)).foldl f b = f ((P.take i).foldl f b) q := by
  rw [List.take_succ, h]
  simp [List.foldl_append]
theorem DD.get {prog : Program} {w : World} {A : Around} {E : Value → Shared → Prop} {s : Shared} {h₀ : Heap} {L : Addr} {news : List (Addr × Obj)} {d : Addr} {od : Obj} {kvs : List (PySem.Str × Value)} {k : PySem.Str} {t : Tok} {v : Value} {Q : Value → Shared → Prop}
    (N : News h₀ L s.heap news) (hm : (d, od) ∈ news) (hd : od.IsDictOf (PySem.strKind prog w) kvs) (hv : valueAt kvs k = some v) (h : Q v { s with toks := s.toks + 1 }) : wpAny (model prog w) A (getItem (.ref d) (.str k t)) Q E s :=
  wpAny_getItem_of (strKind_is _ _ _ _) (W.kda_dict N hm hd).mapOf hv h
end
-- Dict3
section
open PySem PySem.W PyProof.Rows PySem.Calls PySem.Spec
open PyProof.Rows.LCg
section
variable {prog : Program} {w : World} {K : Type} [DecidableEq K] {knd : KeyKind prog w K} {A : Around} {E : Value → Shared → Prop} {s s₁ : Shared} {h₀ : Heap} {m : Str → Option Value} {env : Env} {target : Expr} {body orelse : List Stmt} {Q : Flow → Shared → Prop} {news : List (Addr × Obj)}
theorem fsrc_values {vw d : Addr} {od : Obj} {kvs : List (K × Value)} (J : Nat → (Str → Option Value) → List (Addr × Obj) → Prop) (hh : A.handled = none) (F : Fr h₀ env.locals s₁.heap m) (N : News h₀ env.locals s₁.heap news)
    (hv : s₁.heap.IsValuesView vw d) (hd : od.IsDictOf knd kvs) (hm : (d, od) ∈ news) (hlet : ∃ x px, target = .Name x px) (hJ : J 0 m news)
    (step : ∀ i k v m₁ news' g I, kvs[i]? = some (k, v) → (d, od) ∈ news' → J i m₁ news' → FTurn prog w A h₀ env target body { s₁ with heap := g } (fun nw => (d, od) ∈ nw) Q (J (i + 1)) I v m₁ news')
    (done : ∀ m₁ news' h tk, J kvs.length m₁ news' → (d, od) ∈ news' → Fr h₀ env.locals h m₁ → News h₀ env.locals h news' → s₁.toks ≤ tk → wpAny (model prog w) A (execs orelse env) Q (fun _ _ => False) { s₁ with heap := h, toks := tk }) :
    wpAny (model prog w) A (pyIter (.ref vw)) (FSrc prog w A h₀ env target body orelse Q) E s₁ := by
  obtain ⟨x, px, rfl⟩ := hlet
  obtain ⟨ep, hD⟩ := isD_of hd
  have hAt := hD.at (N _ hm).1
  refine wpAny_pyIter_values hv hAt ?_
  have up : ∀ o b o', s₁.heap.get? b = some o' → (s₁.heap.push o).get? b = some o' := fun o b o' e => Heap.get?_push_of_some _ e
  have hlt : d < s₁.heap.objs.size := Heap.lt_size (N _ hm).1
  refine ⟨s₁.heap.objs.size, [s₁.heap.objs.size, d], kvs.length, _, _, fun nw => (d, od) ∈ nw, m, news, J, rfl, Walks.dictValues (knd := knd) hh s₁.heap.objs.size d (Nat.ne_of_lt hlt) kvs ep, fun i h st => let ⟨o, e, _⟩ := st.1; ⟨o, e⟩, ?_, fun i v s' Q E' _ _ q => let_name q,
    ⟨⟨_, Heap.get?_push_size _ rfl, rfl, rfl⟩, hAt.at' fun o e => up _ _ _ e⟩, F.keeps (up _), N.grown (up _), Nat.ne_of_lt F.ns.lt, next_is_new F, fun p hp => Nat.ne_of_lt (Heap.lt_size (N p hp).1), hm, hJ, ?_, ?_⟩
  · intro i h h' o nw st e e' k N' S'
    refine ⟨?_, hD.at (N' _ S').1⟩
    obtain ⟨o', q, r⟩ := st.1
    rw [e] at q; cases q; exact ⟨o, e', r⟩
  · rintro i v m₁ news' hi ⟨k, hv⟩ hS' hJ'
    exact step i k v m₁ news' _ _ hv hS' hJ'
  · exact fun m₁ news' h tk hJ' hS' F' N' _ t => done m₁ news' h tk hJ' hS' F' N' t
end
section
variable {prog : Program} {w : World} {A : Around} {E : Value → Shared → Prop} {s : Shared} {h₀ : Heap} {L : Addr} {m : Str → Option Value} {news : List (Addr × Obj)} {d : Addr} {od : Obj} {kvs : List (PySem.Str × Value)} {P : List (PySem.Str × Int)}
theorem DD.values {Q : Value → Shared → Prop} (F : Fr h₀ L s.heap m) (N : News h₀ L s.heap news) (hm : (d, od) ∈ news) (hd : od.IsDictOf (PySem.strKind prog w) kvs) (a : IntsD kvs P) (lo : (d == sysModules) = false)
    (h : ∀ vw h', h'.IsValuesView vw d → Fr h₀ L h' m → News h₀ L h' news → Q (.ref vw) { s with heap := h' }) :
    wpAny (model prog w) A (call (.builtin "dict.values") [.ref d]) Q E s :=
  call_values_tab (DD.tab N hm hd a lo) F N fun h' _ v F' N' => h _ h' v F' fun p hp => N' p (List.mem_cons_of_mem _ hp)
end
theorem take_sum {P : List Int} {i : Nat} {q : Int} (h : P[i]? = some q) : (P.take (i + 1)).sum = (P.take i).sum + q := by
  rw [List.take_succ, h]
  simp
end
-- Enum1
section
open PySem PySem.W PyProof.Rows PySem.Calls PySem.Spec
open PyProof.Rows.LCg
noncomputable abbrev enO (it : Addr) (i : Int) (old : Value) : Obj := { cls := .type "enumerate", dict := none, data := .fields #[.none, .bool false, .ref it, rawInt i, .none, old], slots := #[] }
section
variable {prog : Program} {w : World} {A : Around} {E : Value → Shared → Prop} {s s₁ : Shared} {h₀ : Heap} {m : Str → Option Value} {env : Env} {xi xv : Str} {pi pv pt : Pos} {x1 : Nat} {body orelse : List Stmt} {Q : Flow → Shared → Prop} {news : List (Addr × Obj)}

inductive EFin9 (h₀ : Heap) (L : Addr) (g₁ : Array GenState) (d₁ : Drawn) (o₁ : OsState) (e : Addr) (oE : Obj) (I : Addr) (oI : Obj) (S : List (Addr × Obj) → Prop) (rest : (Str → Option Value) → List (Addr × Obj) → Prop) (s₂ : Shared) : Prop
  | mk (h' : Heap) (tk : Nat) (m' : Str → Option Value) (news' : List (Addr × Obj)) (x1 : s₂ = { heap := h', gens := g₁, drawn := d₁, toks := tk, os := o₁ }) (x2 : Fr h₀ L h' m') (x3 : News h₀ L h' ((e, oE) :: (I, oI) :: news')) (x4 : ∀ p ∈ news', p.1 ≠ e ∧ p.1 ≠ I) (x5 : S news') (x6 : rest m' news') : EFin9 h₀ L g₁ d₁ o₁ e oE I oI S rest s₂
noncomputable def EFin (h₀ : Heap) (L : Addr) (s₁ : Shared) (e : Addr) (oE : Obj) (I : Addr) (oI : Obj) (S : List (Addr × Obj) → Prop) (rest : (Str → Option Value) → List (Addr × Obj) → Prop) (s₂ : Shared) : Prop := EFin9 h₀ L s₁.gens s₁.drawn s₁.os e oE I oI S rest s₂
noncomputable def EEnd (h₀ : Heap) (L : Addr) (s₁ : Shared) (e : Addr) (oE : Obj) (I : Addr) (oI : Obj) (S : List (Addr × Obj) → Prop) (rest : (Str → Option Value) → List (Addr × Obj) → Prop) (Q : Flow → Shared → Prop) (f : Flow) (s₂ : Shared) : Prop :=
  match f with
  | .ret v => Q (.ret v) s₂
  | .next => EFin h₀ L s₁ e oE I oI S rest s₂
  | _ => False
theorem EEnd.ret {L e I : Addr} {oE oI : Obj} {S : List (Addr × Obj) → Prop} {rest : (Str → Option Value) → List (Addr × Obj) → Prop} {v : Value} {s₂ : Shared} (h : Q (.ret v) s₂) : EEnd h₀ L s₁ e oE I oI S rest Q (.ret v) s₂ := h
theorem EEnd.intro {L e I : Addr} {oE oI : Obj} {S : List (Addr × Obj) → Prop} {rest : (Str → Option Value) → List (Addr × Obj) → Prop} {h' : Heap} {tk : Nat} {m' : Str → Option Value} {all : List (Addr × Obj)} (F : Fr h₀ L h' m') (N : News h₀ L h' all)
    (news' : List (Addr × Obj)) (sub : ∀ p ∈ (e, oE) :: (I, oI) :: news', p ∈ all) (off : ∀ p ∈ news', p.1 ≠ e ∧ p.1 ≠ I) (hS : S news') (r : rest m' news') : EEnd h₀ L s₁ e oE I oI S rest Q .next { s₁ with heap := h', toks := tk } :=
  ⟨h', tk, m', news', rfl, F, fun p hp => N p (sub p hp), off, hS, r⟩

inductive EInv (s₂ : Shared) (e I l : Addr) (ol : Obj) (vs : List Value) (h₀ : Heap) (L : Addr) (J : Nat → (Str → Option Value) → List (Addr × Obj) → Prop) (n : Nat) (s' : Shared) : Prop
  | mk (h' : Heap) (tk i : Nat) (m' : Str → Option Value) (news' : List (Addr × Obj)) (old : Value)
    (x1 : s' = { s₂ with heap := h', toks := tk })
    (x2 : s₂.toks ≤ tk)
    (x3 : i ≤ vs.length)
    (x4 : n = vs.length + 1 - i)
    (x5 : IsEnum h' e I ((i : Nat) : Int) old)
    (x6 : h'.IsListIter I l i)
    (x7 : Fr h₀ L h' m')
    (x8 : News h₀ L h' news')
    (x9 : (∀ p ∈ news', p.1 ≠ e ∧ p.1 ≠ I))
    (x10 : (l, ol) ∈ news')
    (x11 : J i m' news') : EInv s₂ e I l ol vs h₀ L J n s'
inductive FEnum (prog : Program) (w : World) (A : Around) (h₀ : Heap) (env : Env) (xi xv : Str) (body orelse : List Stmt) (Q : Flow → Shared → Prop) (it : Value) (s₂ : Shared) : Prop
  | mk (e I l : Addr) (ol : Obj) (vs : List Value) (k : Nat) (m : Str → Option Value) (news : List (Addr × Obj)) (J : Nat → (Str → Option Value) → List (Addr × Obj) → Prop)
    (x1 : it = .ref e)
    (x2 : IsEnum s₂.heap e I 0 .none)
    (x3 : s₂.heap.IsListIter I l 0)
    (x4 : ol = W.listOf vs.toArray k)
    (x5 : (l, ol) ∈ news)
    (x6 : Fr h₀ env.locals s₂.heap m)
    (x7 : News h₀ env.locals s₂.heap news)
    (x8 : env.locals ≠ e)
    (x9 : env.locals ≠ I)
    (x10 : e ≠ I)
    (x11 : h₀.get? e = none)
    (x12 : h₀.get? I = none)
    (x13 : (∀ p ∈ news, p.1 ≠ e ∧ p.1 ≠ I))
    (x14 : J 0 m news)
    (x15 : (∀ i v m₁ news', vs[i]? = some v → (l, ol) ∈ news' → J i m₁ news' → ∀ oE oI h tk ti, Fr h₀ env.locals h (upd (upd m₁ xi (.int i ti)) xv v) → News h₀ env.locals h ((e, oE) :: (I, oI) :: news') → (∀ p ∈ news', p.1 ≠ e ∧ p.1 ≠ I) → s₂.toks ≤ tk →
      wpAny (model prog w) A (execs body env) (EEnd h₀ env.locals s₂ e oE I oI (fun nw => (l, ol) ∈ nw) (J (i + 1)) Q) (fun _ _ => False) { s₂ with heap := h, toks := tk }))
    (x16 : ∀ m₁ news' h tk, J vs.length m₁ news' → (l, ol) ∈ news' → Fr h₀ env.locals h m₁ → News h₀ env.locals h news' → wpAny (model prog w) A (execs orelse env) Q (fun _ _ => False) { s₂ with heap := h, toks := tk }) : FEnum prog w A h₀ env xi xv body orelse Q it s₂

theorem forEnum {iter : Expr} {pos : Pos} (hh : A.handled = none) (hxi : env.kindOf xi = some .local) (hxv : env.kindOf xv = some .local)
    (hp : (env.scope.kind == .class || (env.scope.kind == .module && env.locals != env.globals)) = false)
    (h : wpAny (model prog w) A (eval iter env) (fun xvl s₁ => wpAny (model prog w) A (pyIter xvl) (FEnum prog w A h₀ env xi xv body orelse Q) E s₁) E s)
    (hs : ∀ x, foldedSetIterable iter env x = pure x := by intro _; rfl) :
    wpAny (model prog w) A (exec (.For (.Tuple [.Name xi pi, .Name xv pv] x1 pt) iter body orelse pos) env) Q E s := by
  refine wpAny_For (wpAny_mono h (fun xvl s₁ h₁ => wpAny_mono h₁ (fun it s₂ h₂ => ?_) fun _ _ e => e) fun _ _ e => e) hs
  obtain ⟨e, I, l, ol, vs, k, m, news, J, rfl, hen, hit, hol, hm, F, N, hLe, hLI, heI, he₀, hI₀, off, hJ, step, done⟩ := h₂
  refine codeAny_loop' rfl
    (EInv s₂ e I l ol vs h₀ env.locals J) ?_ (vs.length + 1)
    ⟨s₂.heap, s₂.toks, 0, m, news, _, rfl, Nat.le_refl _, Nat.zero_le _, rfl, hen, hit, F, N, off, hm, hJ⟩
  rintro n s' ⟨H, tk, i, m', news', old, rfl, tle, hi, rfl, hen', hit', F', N', off', hm', hJ'⟩
  show wpAny _ A ((forTurn (.Tuple [.Name xi pi, .Name xv pv] x1 pt) (.ref e) body orelse env).onRaise (fun x => do noteFrame x env; theTreesLotGoes x)) _ _ _
  refine wpAny_noted (wpAny_noRaise ?_)
  simp only [forTurn]
  refine wpAny_bind (wpAny_standAt (wpAny_bind (wpAny_onRaise (wpAny_mono (E := fun _ _ => False) ?_ (fun _ _ x => x) fun _ _ x => x.elim))))
  have hl : H.IsList l vs.toArray := ⟨_, (N' _ hm').1, by rw [hol], by rw [hol]; exact ⟨k, rfl⟩⟩
  have olde : ∀ b o, h₀.get? b = some o → b ≠ e := fun b o x q => by rw [q, he₀] at x; cases x
  have oldI : ∀ b o, h₀.get? b = some o → b ≠ I := fun b o x q => by rw [q, hI₀] at x; cases x
  cases hv : vs[i]? with
  | none =>
    have hsz : i = vs.length := Nat.le_antisymm hi (by simpa using hv)
    refine wpAny_pyNext_enum_end hh hen' hit' hl (by simpa using hv) fun h₁ he₁ => ?_
    refine wpAny_pure (.inr ⟨rfl, codeAny_block ?_⟩)
    exact wpAny_mono (done m' news' h₁ tk (hsz ▸ hJ') hm' ⟨F'.ns.extBut he₁ hLI, fun b o x => he₁ b o (oldI b o x) (F'.keep b o x), F'.above⟩ fun p hp => ⟨he₁ _ _ (off' p hp).2 (N' p hp).1, (N' p hp).2⟩) (fun _ _ x => x) fun _ _ x => x.elim
  | some v =>
    have hlt : i < vs.length := (List.getElem?_eq_some_iff.mp hv).1
    have heH : e < H.objs.size := Heap.lt_size hen'
    have hLH : env.locals < H.objs.size := F'.ns.lt
    obtain ⟨oi, hoi, _⟩ := id hit'
    have hiH : I < H.objs.size := Heap.lt_size hoi
    refine wpAny_pyNext_enum_item hen' hit' hl (by simpa using hv) heI fun h₁ heo hit₁ ht₁ hz₁ hk₁ => ?_
    refine wpAny_toks ?_
    refine wpAny_bind (wpAny_letOwnedTupleGo_enum heo fun h₂ he₂ hs₂ => ?_)
    replace hs₂ : Heap.SameBut e h₁ h₂ := hs₂
    have ht₂ : h₂.IsTuple H.objs.size #[.int i tk, v] := ⟨_, (hs₂.2 _ (Nat.ne_of_gt heH)).trans ht₁, rfl, _, rfl⟩
    have hz₂ : h₂.objs.size = H.objs.size + 1 := hs₂.1.trans hz₁
    refine wpAny_bind (wpAny_assign_Tuple hh ht₂ rfl rfl fun h₃ hx₃ => ?_)
    replace hx₃ : Heap.ExtBut h₂.objs.size h₂ h₃ := hx₃
    have old₃ : ∀ b o, b < H.objs.size → h₂.get? b = some o → h₃.get? b = some o := fun b o hb x => hx₃ b o (by rw [hz₂]; exact Nat.ne_of_lt (Nat.lt_succ_of_lt hb)) x
    have up₃ : ∀ b o, b ≠ e → b ≠ I → H.get? b = some o → h₃.get? b = some o := fun b o hb hb' x => old₃ b o (Heap.lt_size x) (hs₂.extBut b o hb (hk₁ b o hb hb' x))
    have F₃ : Fr h₀ env.locals h₃ m' := ⟨F'.ns.at fun o x => up₃ _ o hLe hLI x, fun b o x => up₃ b o (olde b o x) (oldI b o x) (F'.keep b o x), F'.above⟩
    have hit₃ : h₃.IsListIter I l (i + 1) := (hit₁.extBut hs₂.extBut (Ne.symm heI)).at fun o x => old₃ I o hiH x
    obtain ⟨oI, hoI, hcI, hdI⟩ := id hit₃
    have N₃ : News h₀ env.locals h₃ ((e, enO I ((i + 1 : Nat) : Int) v) :: (I, oI) :: news') := fun p hp => by
      rcases List.mem_cons.mp hp with rfl | hp
      · refine ⟨old₃ _ _ heH ?_, Ne.symm hLe, he₀⟩
        have : ((i + 1 : Nat) : Int) = (i : Int) + 1 := rfl
        rw [this]; exact he₂
      · rcases List.mem_cons.mp hp with rfl | hp
        · exact ⟨hoI, Ne.symm hLI, hI₀⟩
        · exact ⟨up₃ _ _ (off' p hp).1 (off' p hp).2 (N' p hp).1, (N' p hp).2⟩
    show wpAny _ _ (do holding [v] (assign (.Name xi pi) env (.int i tk)); do holding [] (assign (.Name xv pv) env v); pure ()) _ _ _
    refine wpAny_bind (wpAny_holding (wpAny_assign_Name (wpAny_storeName_local hxi F₃.ns (fun h₄ hn₄ hs₄ => ?_) hp)))
    replace hs₄ : Heap.SameBut env.locals h₃ h₄ := hs₄
    have F₄ := F₃.set hn₄ hs₄
    refine wpAny_bind (wpAny_holding (wpAny_assign_Name (wpAny_storeName_local hxv F₄.ns (fun h₅ hn₅ hs₅ => wpAny_pure ?_) hp)))
    replace hs₅ : Heap.SameBut env.locals h₄ h₅ := hs₅
    have F₅ := F₄.set hn₅ hs₅
    have N₅ := (N₃.set hs₄).set hs₅
    have tle₅ : s₂.toks ≤ tk + 1 + 1 + 1 := Nat.le_trans tle (by omega)
    refine wpAny_bind (wpAny_mono (step i v m' news' hv hm' hJ' _ _ h₅ _ _ F₅ N₅ off' tle₅) (fun f s₄ h₆ => ?_) fun _ _ x => x.elim)
    cases f with
    | next =>
      refine wpAny_pure fun t => .inl ⟨rfl, ?_⟩
      obtain ⟨h₇, tk₇, m₇, news₇, rfl, F₇, N₇, off₇, hm₇, hJ₇⟩ := h₆
      have z1 := N₇ (e, enO I ((i + 1 : Nat) : Int) v) List.mem_cons_self
      have z2 := N₇ (I, oI) (List.mem_cons_of_mem _ List.mem_cons_self)
      exact ⟨vs.length + 1 - (i + 1), turn_lt hlt, h₇, tk₇, i + 1, m₇, news₇, v, rfl, Nat.le_trans (Nat.le_succ_of_le tle) t, hlt, rfl, z1.1, ⟨oI, z2.1, hcI, hdI⟩, F₇, fun p hp => N₇ p (List.mem_cons_of_mem _ (List.mem_cons_of_mem _ hp)), off₇, hm₇, hJ₇⟩
    | cont => exact h₆.elim
    | brk => exact h₆.elim
    | ret v => exact wpAny_pure fun _ => h₆

theorem fenum_src {e I l : Addr} {vs : List Value} {k : Nat} (J : Nat → (Str → Option Value) → List (Addr × Obj) → Prop) (hen : IsEnum s₁.heap e I 0 .none) (hit : s₁.heap.IsListIter I l 0) (hm : (l, W.listOf vs.toArray k) ∈ news)
    (F : Fr h₀ env.locals s₁.heap m) (N : News h₀ env.locals s₁.heap news) (hLe : env.locals < I) (heI : I < e) (off : ∀ p ∈ news, p.1 < I) (he₀ : h₀.get? e = none) (hI₀ : h₀.get? I = none) (hJ : J 0 m news)
    (step : ∀ i v m₁ news', vs[i]? = some v → (l, W.listOf vs.toArray k) ∈ news' → J i m₁ news' → ∀ oE oI h tk ti, Fr h₀ env.locals h (upd (upd m₁ xi (.int i ti)) xv v) → News h₀ env.locals h ((e, oE) :: (I, oI) :: news') → (∀ p ∈ news', p.1 ≠ e ∧ p.1 ≠ I) → s₁.toks ≤ tk →
      wpAny (model prog w) A (execs body env) (EEnd h₀ env.locals s₁ e oE I oI (fun nw => (l, W.listOf vs.toArray k) ∈ nw) (J (i + 1)) Q) (fun _ _ => False) { s₁ with heap := h, toks := tk })
    (done : ∀ m₁ news' h tk, J vs.length m₁ news' → (l, W.listOf vs.toArray k) ∈ news' → Fr h₀ env.locals h m₁ → News h₀ env.locals h news' → wpAny (model prog w) A (execs orelse env) Q (fun _ _ => False) { s₁ with heap := h, toks := tk }) :
    wpAny (model prog w) A (pyIter (.ref e)) (FEnum prog w A h₀ env xi xv body orelse Q) E s₁ := by
  refine wpAny_pyIter_enum hen ?_
  exact ⟨e, I, l, _, vs, k, m, news, J, rfl, hen, hit, rfl, hm, F, N, Nat.ne_of_lt (Nat.lt_trans hLe heI), Nat.ne_of_lt hLe, Nat.ne_of_gt heI, he₀, hI₀, fun p hp => ⟨Nat.ne_of_lt (Nat.lt_trans (off p hp) heI), Nat.ne_of_lt (off p hp)⟩, hJ, step, done⟩
end
section
variable {prog : Program} {w : World} {A : Around} {E : Value → Shared → Prop} {s : Shared} {h₀ : Heap} {L : Addr} {m : Str → Option Value} {news : List (Addr × Obj)} {l : Addr} {vs : List Value} {k : Nat}
theorem LL.enum {Q : Value → Shared → Prop} (F : Fr h₀ L s.heap m) (N : News h₀ L s.heap news) (hm : (l, W.listOf vs.toArray k) ∈ news)
    (h : ∀ e I h', IsEnum h' e I 0 .none → h'.IsListIter I l 0 → L < I → I < e → (∀ p ∈ news, p.1 < I) → h₀.get? e = none → h₀.get? I = none → Fr h₀ L h' m → News h₀ L h' news → Q (.ref e) { s with heap := h' }) :
    wpAny (model prog w) A (call (.type "enumerate") [.ref l]) Q E s := by
  refine call_enumerate_list (LL.is N hm) fun h' a b _ up => ?_
  have f1 : ∀ c, s.heap.objs.size ≤ c → h₀.get? c = none := fun c hc => by
    cases x : h₀.get? c with
    | none => rfl
    | some o => exact absurd (Heap.lt_size (F.keep c o x)) (Nat.not_lt.mpr hc)
  exact h _ _ h' a b F.ns.lt (Nat.lt_succ_self _) (fun p hp => Heap.lt_size (N p hp).1) (f1 _ (Nat.le_succ _)) (f1 _ (Nat.le_refl _)) (F.keeps up) (N.grown up)
end
end
-- Seq1
section
open PySem PySem.W PyProof.Rows PySem.Calls PySem.Spec
theorem ints_take : ∀ {vs : List Value} {ns : List Int}, IntsAre vs ns → ∀ n, IntsAre (vs.take n) (ns.take n)
  | _, _, .nil, n => by simp; exact .nil
  | _, _, .cons x t r, 0 => .nil
  | _, _, .cons x t r, n + 1 => .cons x t (ints_take r n)
theorem ints_drop : ∀ {vs : List Value} {ns : List Int}, IntsAre vs ns → ∀ n, IntsAre (vs.drop n) (ns.drop n)
  | _, _, .nil, n => by simp; exact .nil
  | _, _, .cons x t r, 0 => .cons x t r
  | _, _, .cons x t r, n + 1 => ints_drop r n
theorem kfints : ∀ {vs : List Value} {ns : List Int}, IntsAre vs ns → kf_ints vs = true
  | _, _, .nil => rfl
  | _, _, .cons x t (vs := vs) r => (kfints r : kf_ints vs = true)
theorem kfat {k : Int} : ∀ {vs : List Value} {ns : List Int}, IntsAre vs ns → ∀ {j : Nat}, ns[j]? = some k → (∀ i, i < j → ns[i]? ≠ some k) → kf_at k vs = some j
  | _, _, .nil, j, h, _ => by simp at h
  | _, _, .cons x t r, 0, h, _ => by
    have : x = k := by simpa using h
    subst this
    unfold kf_at
    rw [show isInt x (.int x t) = true from by simp [isInt]]
    rfl
  | _, _, .cons x t r, j + 1, h, hf => by
    have hx : x ≠ k := fun e => hf 0 (Nat.zero_lt_succ _) (by simp [e])
    unfold kf_at
    rw [show isInt k (.int x t) = false from by simp [isInt, hx]]
    rw [kfat r (by simpa using h) fun i hi => by simpa using hf (i + 1) (Nat.succ_lt_succ hi)]
    rfl
theorem kfany {k : Int} : ∀ {vs : List Value} {ns : List Int}, IntsAre vs ns → vs.any (isInt k) = decide (k ∈ ns)
  | _, _, .nil => by simp
  | _, _, .cons x t r => by
    rw [List.any_cons, kfany r]
    rw [show isInt k (.int x t) = decide (k = x) from by simp only [isInt, Bool.beq_eq_decide_eq, eq_comm (a := x)]]
    simp [List.mem_cons]
section
variable {prog : Program} {w : World} {A : Around} {E : Value → Shared → Prop} {s : Shared} {h₀ : Heap} {L : Addr} {m : Str → Option Value} {news : List (Addr × Obj)} {l : Addr} {vs : List Value} {ns : List Int} {k : Nat}
theorem LL.max {Q : Value → Shared → Prop} (F : Fr h₀ L s.heap m) (N : News h₀ L s.heap news) (hm : (l, W.listOf vs.toArray k) ∈ news) (hi : IntsAre vs ns) (hne : 0 < ns.length) (hh : A.handled = none)
    (h : ∀ h' M (t : Tok) tk, Fr h₀ L h' m → News h₀ L h' news → M ∈ ns → (∀ a, a ∈ ns → a ≤ M) → Q (.int M t) { s with heap := h', toks := tk }) : wpAny (model prog w) A (call (.builtin "max") [.ref l]) Q E s :=
  kso_max F N (LL.is N hm) hi hne hh h
theorem LL.index {x : Int} {t : Tok} {j : Nat} {Q : Value → Shared → Prop} (N : News h₀ L s.heap news) (hm : (l, W.listOf vs.toArray k) ∈ news) (hi : IntsAre vs ns) (hj : ns[j]? = some x) (hf : ∀ i, i < j → ns[i]? ≠ some x) (hz : ns.length ≤ 100)
    (h : Q (.int (j : Nat) s.toks) { s with toks := s.toks + 1 }) : wpAny (model prog w) A (call (.builtin "list.index") [.ref l, .int x t]) Q E s :=
  kf_index (its := vs.toArray) N hm (kfints hi) (kfat hi hj hf) rfl (by rw [sizeLine_eq]; have e9 := hi.length; show vs.length ≤ _; omega) h
theorem LL.isIn {x : Int} {t : Tok} {Q : Value → Shared → Prop} (N : News h₀ L s.heap news) (hm : (l, W.listOf vs.toArray k) ∈ news) (hi : IntsAre vs ns) (h : Q (.bool (decide (x ∈ ns))) s) :
    wpAny (model prog w) A (compareOp .In (.int x t) (.ref l)) Q E s :=
  kf_in (its := vs.toArray) N hm (kfints hi) (kfany hi) h
theorem LL.method {pl : Sem Bool} {Q : Value × List Value → Shared → Prop} (N : News h₀ L s.heap news) (hm : (l, W.listOf vs.toArray k) ∈ news) (h : Q (.builtin "list.index", [.ref l]) s) : wpAny (model prog w) A (getMethod (.ref l) (Str.ofString "index") pl) Q E s :=
  kf_method N hm PySem.F.slot_list_index PySem.F.type_list_index h
theorem pick_take (l : List Value) (i : Int) (a : Nat) (hi : i = (a : Int)) (ha : a ≤ l.length) : kms_pick l none (some i) = l.take a := by
  subst hi
  unfold kms_pick kms_lo kms_hi
  simp only [List.drop_zero, Nat.sub_zero]
  rw [if_neg (by omega)]
  congr 1
  omega
theorem pick_drop (l : List Value) (i : Int) (a : Nat) (hi : i = (a : Int)) (ha : a ≤ l.length) : kms_pick l (some i) none = l.drop a := by
  subst hi
  unfold kms_pick kms_lo kms_hi
  simp only
  rw [if_neg (by omega)]
  have : min (a : Int).toNat l.length = a := by omega
  rw [this]
  exact List.take_of_length_le (by simp)
theorem LL.take {value slice : Expr} {i : Int} {u : Tok} {a : Nat} {Q : Value → Shared → Prop} (F : Fr h₀ L s.heap m) (N : News h₀ L s.heap news) (hm : (l, W.listOf vs.toArray k) ∈ news) (hi : i = (a : Int)) (ha : a ≤ vs.length) (hz : vs.length ≤ 100)
    (h : ∀ D h', Fr h₀ L h' m → News h₀ L h' ((D, W.listOf (vs.take a).toArray 0) :: news) → (∀ p ∈ news, p.1 < D) → Q (.ref D) { s with heap := h' })
    (hs : subscripted slice false (.ref l) (.ref s.heap.objs.size) = operate [.ref s.heap.objs.size, .ref l] (getItem (.ref l) (.ref s.heap.objs.size))) (ht : ∀ r, letTemporaryGo value (.ref l) r = pure ()) :
    wpAny (model prog w) A (subscriptTail value slice (.ref l) (.ref s.heap.objs.size)) Q E { s with heap := s.heap.push { cls := .type "slice", data := .fields #[.none, .int i u, .none] } } :=
  kms_slice_lit (its := vs.toArray) F N (LL.is N hm) .none (.int _ _) (pick_take vs i a hi ha) h hs ht (by rw [sizeLine_eq, List.size_toArray]; omega)
theorem LL.drop {value slice : Expr} {i : Int} {u : Tok} {a : Nat} {Q : Value → Shared → Prop} (F : Fr h₀ L s.heap m) (N : News h₀ L s.heap news) (hm : (l, W.listOf vs.toArray k) ∈ news) (hi : i = (a : Int)) (ha : a ≤ vs.length) (hz : vs.length ≤ 100)
    (h : ∀ D h', Fr h₀ L h' m → News h₀ L h' ((D, W.listOf (vs.drop a).toArray 0) :: news) → (∀ p ∈ news, p.1 < D) → Q (.ref D) { s with heap := h' })
    (hs : subscripted slice false (.ref l) (.ref s.heap.objs.size) = operate [.ref s.heap.objs.size, .ref l] (getItem (.ref l) (.ref s.heap.objs.size))) (ht : ∀ r, letTemporaryGo value (.ref l) r = pure ()) :
    wpAny (model prog w) A (subscriptTail value slice (.ref l) (.ref s.heap.objs.size)) Q E { s with heap := s.heap.push { cls := .type "slice", data := .fields #[.int i u, .none, .none] } } :=
  kms_slice_lit (its := vs.toArray) F N (LL.is N hm) (.int _ _) .none (pick_drop vs i a hi ha) h hs ht (by rw [sizeLine_eq, List.size_toArray]; omega)
end
end
-- Acc7
section
open PySem PySem.W PyProof.Rows PySem.Calls
open PySem.Sem (wp)
noncomputable abbrev mwObj (x : Addr) : Obj := { cls := .type "method-wrapper", data := .fields #[.builtin "list.__init__", .ref x] }
noncomputable abbrev supObj (D x C : Addr) : Obj := { cls := .type "super", dict := none, data := .fields #[.ref D, .ref x, .ref C], slots := #[] }

theorem wd_slot : Slot "wrapper_descriptor" "__get__" "wrapper_descriptor.__get__" :=
  .of (owner := "wrapper_descriptor") (n := "__get__") (by rw [typeLookup_type, builtinLookup_eq_fast]; kernel_rfl) (by decide +kernel) (by decide +kernel) (by decide +kernel) (.inl (by decide +kernel)) (by rw [isSubtype_type]; kernel_rfl)
theorem wd_entry : entryFor table "wrapper_descriptor.__get__" = some Builtin.«wrapper_descriptor.__get__» := entryFor_of_tree (by kernel_rfl)
theorem wd_args (a b c : Value) : argsOk "wrapper_descriptor.__get__" ⟨[a, b, c], []⟩ := by unfold argsOk; kernel_rfl
theorem wd_type : typeOf (.builtin "list.__init__") = pure (.type "wrapper_descriptor") := by kernel_rfl

section
variable {prog : Program} {w : World} {A : Around} {K : Frag} {E : Value → Shared → Prop} {h : Heap} {g : Array GenState} {d : Drawn} {t : Nat} {os : OsState}
theorem acc_super_ga {so x : Addr} {ox : Obj} {odx : Option Obj} {name : Str} {tk : Tok} {Q : Fin → Shared → Prop} {cd : ClassData}
    (hso : h.get? so = some (supObj 99 x 99)) (hno : Looks (model prog w) h (opaqueClassAbove (.ref 99)) none)
    (X : K.In h) (hcd : clsIn K 99 = some cd) (hmro : cd.mro = [.ref 99, .type "list", .type "object"]) (I : InstAt h x ox 99 odx) (hx : x ≠ 99)
    (hf : alongIn K name [.type "list", .type "object"] = some (some (.builtin "list.__init__"))) (hn : (name == ("__class__" : Str)) = false)
    (hq : Q (.done (.ret (.ref h.objs.size))) ⟨h.push (mwObj x), g, d, t, os⟩) :
    wpAny (model prog w) A (Builtin.«super.__getattribute__» ⟨[.ref so, .str name tk], []⟩) Q E ⟨h, g, d, t, os⟩ := by
  have hlk := wd_slot.lookup
  have hty := wd_type
  have hne : (Value.ref x == Value.ref 99) = false := by simp [hx]
  have hTf : (⟨h, g, d, t, os⟩ : Shared).TypeIs (.builtin "list.__init__") "wrapper_descriptor" := wd_type
  have hdt : (supObj 99 x 99).data = .fields #[.ref 99, .ref x, .ref 99] := rfl
  have f0 : (#[.ref 99, .ref x, .ref 99] : Array Value)[0]? = some (.ref 99) := rfl
  have f1 : (#[.ref 99, .ref x, .ref 99] : Array Value)[1]? = some (.ref x) := rfl
  have f2 : (#[.ref 99, .ref x, .ref 99] : Array Value)[2]? = some (.ref 99) := rfl
  have hC : Looks (model prog w) h (mroOf (.ref 99)) [.ref 99, .type "list", .type "object"] := hmro ▸ (looks_clsIn X hcd).andThen .now
  have hl : (([.ref 99, .type "list", .type "object"] : List Value).dropWhile (· != .ref 99)).drop 1 = [.type "list", .type "object"] := by decide
  have hins : Looks (model prog w) h (isInstance (.ref x) (.type "list")) true := I.type.andThen (looks_mroIn X (by unfold mroIn; rw [hcd, Option.bind_some, hmro]; rfl))
  have hci : ".".intercalate ("list.__init__".cutAt '.').dropLast = "list" := by decide +kernel
  unfold Builtin.«super.__getattribute__»
  repeat (first
    | (with_reducible refine wpAny_field hso hdt f0 ?_) | (with_reducible refine wpAny_field hso hdt f1 ?_) | (with_reducible refine wpAny_field hso hdt f2 ?_)
    | (with_reducible refine ks_wpAny_notOpaque hno ?_)
    | (with_reducible refine Looks.at hC ?_; rw [hl])
    | (with_reducible refine Looks.at hins ?_)
    | (simp only [hci])
    | (refine ks_forIn_along X (fun _ _ => rfl) rfl ?_ hf)
    | (with_reducible refine wpAny_typeOf hTf ?_)
    | (with_reducible refine wpAny_call_entry wd_slot hTf wd_entry ?_ (wd_args _ _ _))
    | (with_reducible refine ⟨_, rfl, ?_⟩)
    | (simp only [hn, hne, Bool.or_false, Bool.false_eq_true, if_false])
    | (wp_step)
    | dsimp only)
  all_goals exact hq
end
end
-- Acc8
section
open PySem PySem.W PyProof.Rows PySem.Calls
open PySem.Sem (wp)
section
variable {prog : Program} {w : World} {A : Around} {K : Frag} {E : Value → Shared → Prop} {h : Heap} {g : Array GenState} {d : Drawn} {t : Nat} {os : OsState}
theorem acc_super_method {so x : Addr} {ox : Obj} {odx : Option Obj} {name : Str} {pl : Sem Bool} {Q : Value × List Value → Shared → Prop} {cd : ClassData}
    (hso : h.get? so = some (supObj 99 x 99)) (hno : Looks (model prog w) h (opaqueClassAbove (.ref 99)) none)
    (X : K.In h) (hcd : clsIn K 99 = some cd) (hmro : cd.mro = [.ref 99, .type "list", .type "object"]) (I : InstAt h x ox 99 odx) (hx : x ≠ 99)
    (hf : alongIn K name [.type "list", .type "object"] = some (some (.builtin "list.__init__"))) (hn : (name == ("__class__" : Str)) = false)
    (hq : Q (.ref h.objs.size, []) ⟨h.push (mwObj x), g, d, t + 1, os⟩) :
    wpAny (model prog w) A (getMethod (.ref so) name pl) Q E ⟨h, g, d, t, os⟩ := by
  have hlk := F.ks_slot_super_ga.lookup
  have hcan := F.ks_canon_super_ga
  have hT : ∀ t', (⟨h, g, d, t', os⟩ : Shared).TypeIs (.ref so) "super" := fun _ => ⟨_, hso, rfl⟩
  unfold getMethod
  refine wpAny_bind (wpAny_specialOf (hT _) hlk ?_)
  show wpAny _ _ (if (Manifest.canonical "super.__getattribute__" != "object.__getattribute__") = true then _ else _) _ _ _
  rw [if_pos hcan]
  unfold getAttr getAttrBy
  refine wpAny_bind (wpAny_bind (wpAny_mkText (wpAny_holding (wpAny_bind (wpAny_typeOf (hT _) (wpAny_bind (wpAny_of_eq hlk ?_)))))))
  show wpAny _ _ (getAttrByItsOwn (.ref so) (.str name t) (.type "super") (.builtin "super.__getattribute__") true false) _ _ _
  unfold getAttrByItsOwn hookBefore callGetattribute boundAndCalled
  refine wpAny_bind (wpAny_of_eq (show (if onTheHeap (.type "super") then typeLookup (.type "super") "__getattr__" else pure none) = pure none from rfl) ?_)
  refine wpAny_bind (wpAny_attempt (wpAny_holding ?_))
  show wpAny _ _ (bindSpecial (.builtin "super.__getattribute__") (.ref so) >>= _) _ _ _
  refine wpAny_bind (wpAny_of_eq (F.ks_slot_super_ga.bind _) ?_)
  refine wpAny_mono (Q := fun v s' => v = .ref h.objs.size ∧ s' = ⟨h.push (mwObj x), g, d, t + 1, os⟩) (E := fun _ _ => False)
    (wpAny_call_entry F.ks_slot_super_ga (hT _) F.ks_entry_super_ga (acc_super_ga hso hno X hcd hmro I hx hf hn ⟨_, rfl, rfl, rfl⟩) (F.ks_gaArgs_super _ _)) (fun v s' hv => ?_) fun _ _ z => z.elim
  obtain ⟨rfl, rfl⟩ := hv
  exact wpAny_pure (wpAny_pure hq)

theorem acc_list_init {q x dx : Addr} {n : Nat} {odx : Obj} {Q : Value → Shared → Prop} {cd : ClassData} (hq : h.get? q = some (mwObj x)) (X : K.In h) (hcd : clsIn K 99 = some cd) (hmro : cd.mro = [.ref 99, .type "list", .type "object"])
    (hx : h.get? x = some (accObj dx [] n)) (hdx : h.get? dx = some odx) (hQ : Q .none ⟨h.update x (Obj.mapSeq fun _ => #[]), g, d, t, os⟩) :
    wpAny (model prog w) A (call (.ref q) []) Q E ⟨h, g, d, t, os⟩ := by
  have I : InstAt h x (accObj dx [] n) 99 (some odx) := ⟨hx, rfl, rfl, hdx⟩
  have hins : Looks (model prog w) h (isInstance (.ref x) (.type "list")) true := I.type.andThen (looks_mroIn X (by unfold mroIn; rw [hcd, Option.bind_some, hmro]; rfl))
  have hck : checkBoundCall "list.__init__" ⟨[.ref x], []⟩ = pure () := by kernel_rfl
  refine wpAny_call (codeAny_of_tree ?_)
  show wpAny _ A.in1 (callAny (.ref q) _) _ _ _
  unfold callAny
  refine wpAny_bind (wpAny_load hq ?_)
  show wpAny _ A.in1 (checkBoundCall "list.__init__" ⟨[.ref x], []⟩ >>= fun _ => again (.builtin "list.__init__" ⟨[.ref x], []⟩)) _ _ _
  rw [hck]
  refine wpAny_bind (wpAny_pure (wpAny_pure ⟨plainId_quiet F.slot_list_init.plain _, ?_⟩))
  refine codeAny_builtin F.entry_list_init ?_
  unfold Builtin.«list.__init__»
  refine wpAny_bind (listItems_at hx rfl ?_)
  refine wpAny_bind (listUpdate_at hx rfl ?_ (by simp [sizeLine_eq]) (by simp [sizeLine_eq]))
  exact wpAny_bind (wpAny_letGo (wpAny_pure hQ))
end
end
-- Loop3
section
theorem kr_Loop3 : True := by
  k_with_none
  w_top off
  trivial
open PySem PySem.W PyProof.Rows PySem.Calls PySem.Spec
open PyProof.Rows.LCg
section
variable {prog : Program} {w : World} {A : Around} {E : Value → Shared → Prop} {s s₁ : Shared} {h₀ : Heap} {m : Str → Option Value} {env : Env} {target : Expr} {body orelse : List Stmt} {Q : Flow → Shared → Prop} {news : List (Addr × Obj)}

inductive TFin9 (h₀ : Heap) (L : Addr) (g₁ : Array GenState) (d₁ : Drawn) (o₁ : OsState) (I : Addr) (oI : Obj) (rest : Nat → (Str → Option Value) → List (Addr × Obj) → Prop) (s₂ : Shared) : Prop
  | mk (h' : Heap) (tk : Nat) (m' : Str → Option Value) (news' : List (Addr × Obj)) (x1 : s₂ = { heap := h', gens := g₁, drawn := d₁, toks := tk, os := o₁ }) (x2 : Fr h₀ L h' m') (x3 : News h₀ L h' ((I, oI) :: news')) (x4 : ∀ p ∈ news', p.1 ≠ I) (x5 : rest tk m' news') : TFin9 h₀ L g₁ d₁ o₁ I oI rest s₂
noncomputable def TFin (h₀ : Heap) (L : Addr) (s₁ : Shared) (I : Addr) (oI : Obj) (rest : Nat → (Str → Option Value) → List (Addr × Obj) → Prop) (s₂ : Shared) : Prop := TFin9 h₀ L s₁.gens s₁.drawn s₁.os I oI rest s₂
inductive TInv (h₀ : Heap) (L : Addr) (s₂ : Shared) (I : Addr) (n : Nat) (St : Nat → Heap → Prop) (J : Nat → Nat → (Str → Option Value) → List (Addr × Obj) → Prop) (k : Nat) (s' : Shared) : Prop
  | mk (h' : Heap) (tk i : Nat) (m' : Str → Option Value) (news' : List (Addr × Obj)) (x1 : s' = { s₂ with heap := h', toks := tk }) (x2 : s₂.toks ≤ tk) (x3 : i ≤ n) (x4 : k = n + 1 - i) (x5 : St i h') (x6 : Fr h₀ L h' m') (x7 : News h₀ L h' news') (x8 : ∀ p ∈ news', p.1 ≠ I) (x9 : J i tk m' news') : TInv h₀ L s₂ I n St J k s'
noncomputable def TEnd (h₀ : Heap) (L : Addr) (s₁ : Shared) (I : Addr) (oI : Obj) (rest : Nat → (Str → Option Value) → List (Addr × Obj) → Prop) (Q : Flow → Shared → Prop) (f : Flow) (s₂ : Shared) : Prop :=
  match f with
  | .ret v => Q (.ret v) s₂
  | .brk => Q .next s₂
  | _ => TFin h₀ L s₁ I oI rest s₂

noncomputable def TTurn (prog : Program) (w : World) (A : Around) (h₀ : Heap) (env : Env) (target : Expr) (body : List Stmt) (s : Shared) (Q : Flow → Shared → Prop)
    (J' : Nat → (Str → Option Value) → List (Addr × Obj) → Prop) (I : Addr) (v : Value) (m : Str → Option Value) (news : List (Addr × Obj)) : Prop :=
  ∀ oI h tk, Fr h₀ env.locals h m → News h₀ env.locals h ((I, oI) :: news) → (∀ p ∈ news, p.1 ≠ I) → s.toks ≤ tk →
    wpAny (model prog w) A (assign target env v) (fun _ s₃ => wpAny (model prog w) A (execs body env) (TEnd h₀ env.locals s I oI J' Q) (fun _ _ => False) s₃) (fun _ _ => False) { s with heap := h, toks := tk }

inductive TSrc (prog : Program) (w : World) (A : Around) (h₀ : Heap) (env : Env) (target : Expr) (body orelse : List Stmt) (Q : Flow → Shared → Prop) (it : Value) (s₂ : Shared) : Prop
  | mk (I : Addr) (fp : List Addr) (n : Nat) (P : Nat → Value → Prop) (St : Nat → Heap → Prop) (m : Str → Option Value) (news : List (Addr × Obj)) (J : Nat → Nat → (Str → Option Value) → List (Addr × Obj) → Prop)
    (x1 : it = .ref I)
    (x2 : Walks prog w A I fp [I] n P St)
    (x3 : (∀ i h, St i h → ∃ o, h.get? I = some o))
    (x4 : (∀ i h h' o nw, St i h → h.get? I = some o → h'.get? I = some o → (∀ b o, h₀.get? b = some o → h'.get? b = some o) → News h₀ env.locals h' nw → St i h'))
    (x5 : (∀ i v (s' : Shared) (Q : Unit → Shared → Prop) (E' : Value → Shared → Prop), St (i + 1) s'.heap → P i v → Q () s' → wpAny (model prog w) A (letOwnedTupleGo target (.ref I) v) Q E' s'))
    (x6 : St 0 s₂.heap)
    (x7 : Fr h₀ env.locals s₂.heap m)
    (x8 : News h₀ env.locals s₂.heap news)
    (x9 : env.locals ≠ I)
    (x10 : h₀.get? I = none)
    (x11 : (∀ p ∈ news, p.1 ≠ I))
    (x12 : J 0 s₂.toks m news)
    (x13 : (∀ i v m₁ news' tk₀, i < n → P i v → J i tk₀ m₁ news' → s₂.toks ≤ tk₀ → TTurn prog w A h₀ env target body { s₂ with toks := tk₀ } Q (J (i + 1)) I v m₁ news'))
    (x14 : ∀ m₁ news' h tk tk₀, J n tk₀ m₁ news' → Fr h₀ env.locals h m₁ → News h₀ env.locals h news' → (∀ p ∈ news', p.1 ≠ I) → s₂.toks ≤ tk₀ → tk₀ ≤ tk → wpAny (model prog w) A (execs orelse env) Q (fun _ _ => False) { s₂ with heap := h, toks := tk }) : TSrc prog w A h₀ env target body orelse Q it s₂

theorem forTG {iter : Expr} {pos : Pos} (h : wpAny (model prog w) A (eval iter env) (fun xv s₁ => wpAny (model prog w) A (pyIter xv) (TSrc prog w A h₀ env target body orelse Q) E s₁) E s)
    (hs : ∀ x, foldedSetIterable iter env x = pure x := by intro _; rfl) :
    wpAny (model prog w) A (exec (.For target iter body orelse pos) env) Q E s := by
  refine wpAny_For (wpAny_mono h (fun xv s₁ h₁ => wpAny_mono h₁ (fun it s₂ h₂ => ?_) fun _ _ e => e) fun _ _ e => e) hs
  obtain ⟨I, fp, n, P, St, m, news, J, rfl, W, hIo, hSt, hlet, hst, F, N, hLI, hI₀, off, hJ, step, done⟩ := h₂
  refine codeAny_loop' rfl
    (TInv h₀ env.locals s₂ I n St J) ?_ (n + 1)
    ⟨s₂.heap, s₂.toks, 0, m, news, rfl, Nat.le_refl _, Nat.zero_le _, rfl, hst, F, N, off, hJ⟩
  rintro k s' ⟨h', tk, i, m', news', rfl, tle, hi, rfl, hst', F', N', off', hJ'⟩
  show wpAny _ A ((forTurn target (.ref I) body orelse env).onRaise (fun x => do noteFrame x env; theTreesLotGoes x)) _ _ _
  refine wpAny_noted (wpAny_noRaise ?_)
  simp only [forTurn]
  refine wpAny_bind (wpAny_standAt (wpAny_bind (wpAny_onRaise (wpAny_mono (E := fun _ _ => False) ?_ (fun _ _ x => x) fun _ _ x => x.elim))))
  by_cases hlt : i < n
  · refine wpAny_toks (W.item i _ _ _ hlt hst' fun v h₂ tk₂ hPv hst₂ hk₂ tle₀ => ?_)
    have tle₂ := Nat.le_trans tle tle₀
    obtain ⟨oI, heI⟩ := hIo _ _ hst₂
    have F₂ := fr_but F' hk₂ hLI hI₀
    have N₂ : News h₀ env.locals h₂ ((I, oI) :: news') := fun p hp => by
      rcases List.mem_cons.mp hp with rfl | hp
      · exact ⟨heI, Ne.symm hLI, hI₀⟩
      · exact (news_but N' hk₂ off') p hp
    refine wpAny_toks ?_
    refine wpAny_bind (hlet i v _ _ _ hst₂ hPv ?_)
    refine wpAny_bind (wpAny_mono (step i v m' news' tk hlt hPv hJ' tle oI h₂ tk₂ F₂ N₂ off' tle₀) (fun _ s₃ h₃ => wpAny_bind (wpAny_mono h₃ (fun f s₄ h₄ => ?_) fun _ _ e => e.elim)) fun _ _ e => e.elim)
    have fin : tk₂ ≤ s₄.toks → TFin h₀ env.locals { s₂ with toks := tk } I oI (J (i + 1)) s₄ → ∃ k, k < n + 1 - i ∧ TInv h₀ env.locals s₂ I n St J k s₄ := by
      rintro tle₃ ⟨h₅, tk₅, m₅, news₅, rfl, F₅, N₅, off₅, hJ₅⟩
      have zI := (N₅ (I, oI) List.mem_cons_self).1
      have N₅' : News h₀ env.locals h₅ news₅ := fun p hp => N₅ p (List.mem_cons_of_mem _ hp)
      exact ⟨n + 1 - (i + 1), turn_lt hlt, h₅, tk₅, i + 1, m₅, news₅, rfl, Nat.le_trans tle₂ tle₃, hlt, rfl, hSt _ _ _ _ _ hst₂ heI zI F₅.keep N₅', F₅, N₅', off₅, hJ₅⟩
    cases f with
    | next => exact wpAny_pure fun t => .inl ⟨rfl, fin t h₄⟩
    | cont => exact wpAny_pure fun t => .inl ⟨rfl, fin t h₄⟩
    | brk => exact wpAny_pure fun _ => h₄
    | ret v => exact wpAny_pure fun _ => h₄
  · obtain rfl : i = n := Nat.le_antisymm hi (Nat.not_lt.mp hlt)
    refine wpAny_toks (W.done _ _ _ hst' fun h₂ tk₂ hk₂ tle₂ => ?_)
    refine wpAny_pure (.inr ⟨rfl, codeAny_block ?_⟩)
    exact wpAny_mono (done m' news' h₂ tk₂ tk hJ' (fr_but F' hk₂ hLI hI₀) (news_but N' hk₂ off') off' tle tle₂) (fun _ _ x => x) fun _ _ x => x.elim

theorem forT {iter : Expr} {pos : Pos} {L₀ : Addr} {hh : Heap} {m₀ : Str → Option Value} (_F : Fr h₀ L₀ hh m₀) (h : wpAny (model prog w) A (eval iter env) (fun xv s₁ => wpAny (model prog w) A (pyIter xv) (TSrc prog w A h₀ env target body orelse Q) E s₁) E s)
    (hs : ∀ x, foldedSetIterable iter env x = pure x := by intro _; rfl) :
    wpAny (model prog w) A (exec (.For target iter body orelse pos) env) Q E s := forTG h hs

theorem tsrc_range {r : Addr} {a b : Int} {t u v : Tok} {n : Nat} (J : Nat → Nat → (Str → Option Value) → List (Addr × Obj) → Prop) (hh : A.handled = none) (F : Fr h₀ env.locals s₁.heap m) (N : News h₀ env.locals s₁.heap news)
    (hr : IsRange s₁.heap r a b 1 t u v) (hsm : Builtin.Range.small a b 1 = true) (hn : Builtin.Range.rangeSize a b 1 = ((n : Nat) : Int)) (hlet : ∃ x px, target = .Name x px) (hJ : J 0 s₁.toks m news)
    (step : ∀ i t m₁ news' g I tk₀, i < n → J i tk₀ m₁ news' → s₁.toks ≤ tk₀ → TTurn prog w A h₀ env target body { s₁ with heap := g, toks := tk₀ } Q (J (i + 1)) I (.int (a + (i : Int)) t) m₁ news')
    (done : ∀ m₁ news' h tk tk₀, J n tk₀ m₁ news' → Fr h₀ env.locals h m₁ → News h₀ env.locals h news' → s₁.toks ≤ tk₀ → tk₀ ≤ tk → wpAny (model prog w) A (execs orelse env) Q (fun _ _ => False) { s₁ with heap := h, toks := tk }) :
    wpAny (model prog w) A (pyIter (.ref r)) (TSrc prog w A h₀ env target body orelse Q) E s₁ := by
  obtain ⟨x, px, rfl⟩ := hlet
  refine wpAny_pyIter_range hr hsm ?_
  refine ⟨s₁.heap.objs.size, [s₁.heap.objs.size], n, _, _, m, news, J, rfl, range_walks hh a n, fun i h st => ⟨_, st⟩, fun i h h' o nw a1 a2 a3 a4 a5 => range_st (h₀ := h₀) (L := env.locals) i h h' o nw a1 a2 a3 a4 a5 trivial, fun i v s' Q E' _ _ q => let_name q,
    by show IsRangeIter _ _ _ _ _; rw [hn]; simpa using Heap.get?_push_size _ rfl, F.keeps fun _ _ e => Heap.get?_push_of_some _ e, N.grown fun _ _ e => Heap.get?_push_of_some _ e, Nat.ne_of_lt F.ns.lt, next_is_new F,
    fun p hp => Nat.ne_of_lt (Heap.lt_size (N p hp).1), hJ, ?_, fun m₁ news' h tk tk₀ hJ' F' N' _ t t' => done m₁ news' h tk tk₀ hJ' F' N' t t'⟩
  rintro i v m₁ news' tk₀ hi ⟨t, rfl⟩ hJ' tl
  exact step i t m₁ news' _ _ tk₀ hi hJ' tl

theorem TTurn.name {x : Str} {px : Pos} {s : Shared} {J' : Nat → (Str → Option Value) → List (Addr × Obj) → Prop} {I : Addr} {v : Value} (hx : env.kindOf x = some .local)
    (hp : (env.scope.kind == .class || (env.scope.kind == .module && env.locals != env.globals)) = false)
    (h : ∀ oI h tk, Fr h₀ env.locals h (upd m x v) → News h₀ env.locals h ((I, oI) :: news) → (∀ p ∈ news, p.1 ≠ I) → s.toks < tk →
      wpAny (model prog w) A (execs body env) (TEnd h₀ env.locals s I oI J' Q) (fun _ _ => False) { s with heap := h, toks := tk }) :
    TTurn prog w A h₀ env (.Name x px) body s Q J' I v m news := by
  intro oI hp' tk F N off tle
  refine wpAny_assign_Name (wpAny_storeName_local hx F.ns (fun h₂ hn₂ hs₂ => ?_) hp)
  exact h oI h₂ _ (F.set hn₂ hs₂) (N.set hs₂) off (Nat.lt_succ_of_le tle)
theorem TEnd.intro {L I : Addr} {oI : Obj} {rest : Nat → (Str → Option Value) → List (Addr × Obj) → Prop} {h' : Heap} {tk : Nat} {m' : Str → Option Value} {all : List (Addr × Obj)} (F : Fr h₀ L h' m') (N : News h₀ L h' all)
    (news' : List (Addr × Obj)) (sub : ∀ p ∈ (I, oI) :: news', p ∈ all) (off : ∀ p ∈ news', p.1 ≠ I) (r : rest tk m' news') : TEnd h₀ L s₁ I oI rest Q .next { s₁ with heap := h', toks := tk } :=
  ⟨h', tk, m', news', rfl, F, fun p hp => N p (sub p hp), off, r⟩
theorem TEnd.ret {L I : Addr} {oI : Obj} {rest : Nat → (Str → Option Value) → List (Addr × Obj) → Prop} {v : Value} {s₂ : Shared} (h : Q (.ret v) s₂) : TEnd h₀ L s₁ I oI rest Q (.ret v) s₂ := h
end
end
-- EqData
section
open PySem PySem.W PyProof.Rows PySem.Calls PySem.Spec
section
variable {prog : Program} {w : World} {A : Around} {E : Value → Shared → Prop} {s : Shared} {Q : Value → Shared → Prop} {a b : Value} {d : PyData} {as bs : List Addr}
theorem ne_same (ra : Reads s.heap a d as) (rb : Reads s.heap b d bs) (hs : SeqAt.shaped d = true) (hu : A.units + 64 < cLine) (h : Q (.bool false) s) : wpAny (model prog w) A (compareOp .NotEq a b) Q E s :=
  ne_dataH ra rb hs hs hu (by rw [SeqAt.eqv_refl d (SeqAt.canLay_of_shaped hs)]; exact h)
theorem eq_same (ra : Reads s.heap a d as) (rb : Reads s.heap b d bs) (hs : SeqAt.shaped d = true) (hu : A.units + 64 < cLine) (h : Q (.bool true) s) : wpAny (model prog w) A (compareOp .Eq a b) Q E s :=
  eq_dataH ra rb hs hs hu (by rw [SeqAt.eqv_refl d (SeqAt.canLay_of_shaped hs)]; exact h)
end
theorem readsAll_of {h : Heap} : ∀ {vs : List Value} {ds : List PyData}, vs.length = ds.length → (∀ (i : Nat) (v : Value) (d : PyData), vs[i]? = some v → ds[i]? = some d → ∃ as, Reads h v d as) → ∃ bs, ReadsAll h vs ds bs
  | [], [], _, _ => ⟨_, .nil⟩
  | [], _ :: _, e, _ => by simp at e
  | _ :: _, [], e, _ => by simp at e
  | v :: vs, d :: ds, e, k => by
    obtain ⟨as, ra⟩ := k 0 v d rfl rfl
    obtain ⟨bs, rb⟩ := readsAll_of (vs := vs) (ds := ds) (by simpa using e) (fun i v' d' hv hd => k (i + 1) v' d' (by simpa using hv) (by simpa using hd))
    exact ⟨_, .cons ra rb⟩
theorem list_reads {h₀ h : Heap} {L l k : Addr} {news : List (Addr × Obj)} {vs : List Value} {ds : List PyData} (N : News h₀ L h news) (hm : (l, W.listOf vs.toArray k) ∈ news) (e : vs.length = ds.length)
    (r : ∀ (i : Nat) (v : Value) (d : PyData), vs[i]? = some v → ds[i]? = some d → ∃ as, Reads h v d as) : ∃ as, Reads h (.ref l) (.list ds) as := by
  obtain ⟨bs, rb⟩ := readsAll_of e r
  exact ⟨_, reads_list_at (N _ hm).1 rfl rfl rb⟩
theorem tup_reads {h₀ h : Heap} {L l k : Addr} {news : List (Addr × Obj)} {vs : List Value} {ds : List PyData} {as : List Addr} (N : News h₀ L h news) (hm : (l, tupN vs k) ∈ news) (r : ReadsAll h vs ds as) : Reads h (.ref l) (.tuple ds) as :=
  reads_tuple_at (N _ hm).1 rfl rfl r
end
-- Comp4
section
open PySem PySem.W PyProof.Rows PySem.Calls PySem.Spec
open PyProof.Rows.LCg
inductive GInv (s₂ : Shared) (C : Addr) (I n : Nat) (St : Nat → Heap → Prop) (h₀ : Heap) (L : Addr) (m : Str → Option Value) (S : List (Addr × Obj) → Prop) (J : Nat → Nat → List (Addr × Obj) → Prop) (k : Nat) (s' : Shared) : Prop
  | mk (h' : Heap) (tk i : Nat) (oC : Obj) (m' : Str → Option Value) (nw' : List (Addr × Obj))
    (x1 : s' = { s₂ with heap := h', toks := tk })
    (x2 : s₂.toks ≤ tk)
    (x3 : i ≤ n)
    (x4 : k = n + 1 - i)
    (x5 : St i h')
    (x6 : Fr h₀ L h' m)
    (x7 : NsObj oC m')
    (x8 : News h₀ L h' ((C, oC) :: nw'))
    (x9 : (∀ p ∈ nw', p.1 ≠ I ∧ p.1 ≠ C))
    (x10 : S nw')
    (x11 : J i tk nw') : GInv s₂ C I n St h₀ L m S J k s'
inductive GEnd9 (h₀ : Heap) (L : Addr) (m : Str → Option Value) (g₁ : Array GenState) (d₁ : Drawn) (o₁ : OsState) (I : Addr) (oI : Obj) (C : Addr) (S : List (Addr × Obj) → Prop) (rest : Nat → List (Addr × Obj) → Prop) (s₂ : Shared) : Prop
  | mk (h' : _) (tk : _) (nw : _) (oC : _) (m' : _)
    (x1 : s₂ = { heap := h', gens := g₁, drawn := d₁, toks := tk, os := o₁ })
    (x2 : Fr h₀ L h' m)
    (x3 : News h₀ L h' ((I, oI) :: (C, oC) :: nw))
    (x4 : NsObj oC m')
    (x5 : (∀ p ∈ nw, p.1 ≠ I ∧ p.1 ≠ C))
    (x6 : S nw)
    (x7 : rest tk nw) : GEnd9 h₀ L m g₁ d₁ o₁ I oI C S rest s₂
noncomputable def GEnd (h₀ : Heap) (L : Addr) (m : Str → Option Value) (s₁ : Shared) (I : Addr) (oI : Obj) (C : Addr) (S : List (Addr × Obj) → Prop) (rest : Nat → List (Addr × Obj) → Prop) (s₂ : Shared) : Prop := GEnd9 h₀ L m s₁.gens s₁.drawn s₁.os I oI C S rest s₂
theorem GEnd.intro {h₀ : Heap} {L : Addr} {m : Str → Option Value} {s₁ : Shared} {I C : Addr} {oI oC : Obj} {m' : Str → Option Value} {S : List (Addr × Obj) → Prop} {rest : Nat → List (Addr × Obj) → Prop} {h' : Heap} {tk : Nat} {all : List (Addr × Obj)} (F : Fr h₀ L h' m) (N : News h₀ L h' all)
    (nw : List (Addr × Obj)) (sub : ∀ p ∈ (I, oI) :: (C, oC) :: nw, p ∈ all) (hC : NsObj oC m') (off : ∀ p ∈ nw, p.1 ≠ I ∧ p.1 ≠ C) (hS : S nw) (r : rest tk nw) : GEnd h₀ L m s₁ I oI C S rest { s₁ with heap := h', toks := tk } :=
  ⟨h', tk, nw, oC, m', rfl, F, fun p hp => N p (sub p hp), hC, off, hS, r⟩

noncomputable def GTurn (prog : Program) (w : World) (A : Around) (h₀ : Heap) (L : Addr) (m : Str → Option Value) (env : Env) (target : Expr) (ifs : List Expr) (body : Addr → Env → Sem Unit) (scope : Scope) (cl : List (Str × Addr)) (s : Shared) (S : List (Addr × Obj) → Prop)
    (J' : Nat → List (Addr × Obj) → Prop) (D I : Addr) (v : Value) (nw : List (Addr × Obj)) : Prop :=
  ∀ oI C oC m₁ h tk (E' : Value → Shared → Prop), NsObj oC m₁ → Fr h₀ L h m → News h₀ L h ((I, oI) :: (C, oC) :: nw) → (∀ p ∈ nw, p.1 ≠ I ∧ p.1 ≠ C) → (@Ne Nat I C) → s.toks ≤ tk →
    wpAny (model prog w) A (assign target (compEnvC scope cl C env) v) (fun _ s₃ => wpAny (model prog w) A (testsOf ifs (compEnvC scope cl C env)) (fun ok s₄ =>
      if ok = true then wpAny (model prog w) A (body D (compEnvC scope cl C env)) (fun _ => GEnd h₀ L m s I oI C S J') E' s₄
      else GEnd h₀ L m s I oI C S J' s₄) E' s₃) E' { s with heap := h, toks := tk }

noncomputable abbrev TurnEq (e : Expr) (target iter : Expr) (ifs : List Expr) (body : Addr → Env → Sem Unit) : Prop :=
  ∀ (it : Value) (D : Addr) (cenv : Env), compTurn e 0 it (.ref D) cenv = (standAt iter.pos >>= fun _ => pyNext it >>= fun r => match r with
    | none => pure (.done .next)
    | some v => letOwnedTupleGo target it v >>= fun _ => assign target cenv v >>= fun _ => testsOf ifs cenv >>= fun ok =>
        if ok = true then (body D cenv >>= fun _ => again (.compLoop e 0 it (.ref D) cenv)) else again (.compLoop e 0 it (.ref D) cenv))
noncomputable abbrev StartOk (prog : Program) (w : World) (A : Around) (e : Expr) : Prop := ∀ (it acc : Value) (cenv : Env) (R : Result → Shared → Prop) (s : Shared), codeAny (model prog w) A (.compLoop e 0 it acc cenv) R s →
  wpAny (model prog w) A (pyIter it) (fun it' s' => codeAny (model prog w) A (.compLoop e 0 it' acc cenv) R s') (notedBy (model prog w) A cenv fun x s' => R (.error x) s') s → codeAny (model prog w) A (.compStart e 0 it acc cenv) R s

structure CompOk (prog : Program) (w : World) (A : Around) (e target iter : Expr) (ifs : List Expr) (body : Addr → Env → Sem Unit) : Prop where
  turn : TurnEq e target iter ifs body
  start : StartOk prog w A e
  quiet : ∀ (it : Value) (D : Addr) (cenv : Env), (Code.compLoop e 0 it (.ref D) cenv).quiet = true
  under : ∀ (it : Value) (D : Addr) (cenv : Env), A.under (Code.compLoop e 0 it (.ref D) cenv) = A
  den : ∀ (it : Value) (D : Addr) (cenv : Env), (model prog w).den (Code.compLoop e 0 it (.ref D) cenv) = ((compTurn e 0 it (.ref D) cenv).onRaise (fun x => do noteFrame x cenv; theTreesLotGoes x))
noncomputable def listBody (elt : Expr) (D : Addr) (cenv : Env) : Sem Unit := eval elt cenv >>= fun x => call (.builtin "list.append") [.ref D, x] >>= fun _ => pure ()
noncomputable def dictBody (kx vx : Expr) (D : Addr) (cenv : Env) : Sem Unit := eval kx cenv >>= fun kv => holding [kv] (eval vx cenv) >>= fun vv => standAt { kx.pos with endLine := vx.pos.endLine, endCol := vx.pos.endCol } >>= fun _ => holding [kv, vv] (dictSet D kv vv)
theorem turn_list {elt target iter : Expr} {ifs : List Expr} {scope : Scope} {pos : Pos} : TurnEq (.ListComp elt [⟨target, iter, ifs, 0⟩] scope pos) target iter ifs (listBody elt) := fun it D cenv => by rfl
theorem turn_dict {kx vx target iter : Expr} {ifs : List Expr} {scope : Scope} {pos : Pos} : TurnEq (.DictComp kx vx [⟨target, iter, ifs, 0⟩] scope pos) target iter ifs (dictBody kx vx) := fun it D cenv => by rfl
theorem start_list {prog : Program} {w : World} {A : Around} {elt target iter : Expr} {ifs : List Expr} {scope : Scope} {pos : Pos} : StartOk prog w A (.ListComp elt [⟨target, iter, ifs, 0⟩] scope pos) := fun _ _ _ _ _ => codeAny_compStart_list
theorem start_dict {prog : Program} {w : World} {A : Around} {kx vx target iter : Expr} {ifs : List Expr} {scope : Scope} {pos : Pos} : StartOk prog w A (.DictComp kx vx [⟨target, iter, ifs, 0⟩] scope pos) := fun _ _ _ _ _ => codeAny_compStart_dict

theorem ok_list {prog : Program} {w : World} {A : Around} {elt target iter : Expr} {ifs : List Expr} {scope : Scope} {pos : Pos} : CompOk prog w A (.ListComp elt [⟨target, iter, ifs, 0⟩] scope pos) target iter ifs (listBody elt) :=
  ⟨turn_list, start_list, fun _ _ _ => rfl, fun _ _ _ => rfl, fun _ _ _ => rfl⟩
theorem ok_dict {prog : Program} {w : World} {A : Around} {kx vx target iter : Expr} {ifs : List Expr} {scope : Scope} {pos : Pos} : CompOk prog w A (.DictComp kx vx [⟨target, iter, ifs, 0⟩] scope pos) target iter ifs (dictBody kx vx) :=
  ⟨turn_dict, start_dict, fun _ _ _ => rfl, fun _ _ _ => rfl, fun _ _ _ => rfl⟩

section
variable {prog : Program} {w : World} {A : Around} {E : Value → Shared → Prop} {s : Shared} {h₀ : Heap} {L : Addr} {m : Str → Option Value} {env : Env}

theorem coreG {e target iter : Expr} {ifs : List Expr} {body : Addr → Env → Sem Unit} {scope : Scope} {cl : List (Str × Addr)} {s₂ : Shared} {I D C : Addr} {oC : Obj} {mC : Str → Option Value} {fp : List Addr} {n : Nat} {P : Nat → Value → Prop} {St : Nat → Heap → Prop} {S : List (Addr × Obj) → Prop} {nw : List (Addr × Obj)}
    {R : Result → Shared → Prop} (J : Nat → Nat → List (Addr × Obj) → Prop) (K : CompOk prog w A e target iter ifs body)
    (W : Walks prog w A I fp [I] n P St) (hIo : ∀ i h, St i h → ∃ o, h.get? I = some o)
    (hSt : ∀ i h h' o nw, St i h → h.get? I = some o → h'.get? I = some o → (∀ b o, h₀.get? b = some o → h'.get? b = some o) → News h₀ L h' nw → S nw → St i h')
    (hlet : ∀ i v (s' : Shared) (Q : Unit → Shared → Prop) (E' : Value → Shared → Prop), St (i + 1) s'.heap → P i v → Q () s' → wpAny (model prog w) A (letOwnedTupleGo target (.ref I) v) Q E' s')
    (hst : St 0 s₂.heap) (F : Fr h₀ L s₂.heap m) (N : News h₀ L s₂.heap ((C, oC) :: nw)) (hC : NsObj oC mC) (hCI : I ≠ C) (hIL : L ≠ I) (hI₀ : h₀.get? I = none) (off : ∀ p ∈ nw, p.1 ≠ I ∧ p.1 ≠ C) (hS : S nw) (hJ : J 0 s₂.toks nw)
    (step : ∀ i v nw' tk₀, i < n → P i v → S nw' → J i tk₀ nw' → s₂.toks ≤ tk₀ → GTurn prog w A h₀ L m env target ifs body scope cl { s₂ with toks := tk₀ } S (J (i + 1)) D I v nw')
    (fin : ∀ h tk oC' m' nw', Fr h₀ L h m → News h₀ L h ((C, oC') :: nw') → NsObj oC' m' → (∀ p ∈ nw', p.1 ≠ C) → ∀ tk₀, J n tk₀ nw' → s₂.toks ≤ tk₀ → tk₀ ≤ tk → R (.ok .next) { s₂ with heap := h, toks := tk }) :
    codeAny (model prog w) A (.compLoop e 0 (.ref I) (.ref D) (compEnvC scope cl C env)) R s₂ := by
  obtain ⟨hT, _, hq, hU, hD⟩ := K
  refine codeAny_loop (hq _ _ _)
    (GInv s₂ C I n St h₀ L m S J) ?_ (n + 1)
    ⟨s₂.heap, s₂.toks, 0, oC, mC, nw, rfl, Nat.le_refl _, Nat.zero_le _, rfl, hst, F, hC, N, off, hS, hJ⟩
  rintro k s' ⟨h', tk, i, oC, m', nw', rfl, tle, hi, rfl, hst', F', hC', N', off', hS', hJ'⟩
  have offI : ∀ p ∈ (C, oC) :: nw', p.1 ≠ I := fun p hp => by
    rcases List.mem_cons.mp hp with rfl | hp
    · exact Ne.symm hCI
    · exact (off' p hp).1
  rw [hU, hD]
  show wpAny _ A ((compTurn e 0 (.ref I) (.ref D) (compEnvC scope cl C env)).onRaise (fun x => do noteFrame x (compEnvC scope cl C env); theTreesLotGoes x)) _ _ _
  refine wpAny_noted ?_
  rw [hT]
  refine wpAny_bind (wpAny_standAt (wpAny_bind ?_))
  by_cases hlt : i < n
  · refine wpAny_toks (W.item i _ _ _ hlt hst' fun v h₂ tk₂ hPv hst₂ hk₂ tle₀ => ?_)
    have tle₂ := Nat.le_trans tle tle₀
    obtain ⟨oI, heI⟩ := hIo _ _ hst₂
    have F₂ : Fr h₀ L h₂ m := fr_but F' hk₂ hIL hI₀
    have N₂ : News h₀ L h₂ ((I, oI) :: (C, oC) :: nw') := fun p hp => by
      rcases List.mem_cons.mp hp with rfl | hp
      · exact ⟨heI, Ne.symm hIL, hI₀⟩
      · exact (news_but N' hk₂ offI) p hp
    refine wpAny_toks ?_
    refine wpAny_bind (hlet i v _ _ _ hst₂ hPv ?_)
    refine wpAny_bind (wpAny_mono (step i v nw' tk hlt hPv hS' hJ' tle oI C oC m' h₂ tk₂ _ hC' F₂ N₂ off' hCI tle₀) (fun _ s₃ h₃ => wpAny_bind (wpAny_mono h₃ (fun ok s₄ h₄ => ?_) fun _ _ e => e)) fun _ _ e => e)
    cases ok with
    | false =>
      simp only [Bool.false_eq_true, if_false] at h₄ ⊢
      obtain ⟨h₅, tk₅, nw₅, oC₅, m₅, rfl, F₅, N₅, hC₅, off₅, hS₅, hJ₅⟩ := h₄
      have zI := (N₅ (I, oI) List.mem_cons_self).1
      refine wpAny_pure fun t => ⟨rfl, n + 1 - (i + 1), turn_lt hlt, h₅, tk₅, i + 1, oC₅, m₅, nw₅, rfl, Nat.le_trans tle₂ t, hlt, rfl, ?_, F₅, hC₅, fun p hp => N₅ p (List.mem_cons_of_mem _ hp), off₅, hS₅, hJ₅⟩
      exact hSt _ _ _ _ _ hst₂ heI zI F₅.keep (fun p hp => N₅ p (List.mem_cons_of_mem _ (List.mem_cons_of_mem _ hp))) hS₅
    | true =>
      simp only [if_true] at h₄ ⊢
      refine wpAny_bind (wpAny_mono h₄ (fun y s₅ h₅ => ?_) fun _ _ e => e)
      obtain ⟨h₅, tk₅, nw₅, oC₅, m₅, rfl, F₅, N₅, hC₅, off₅, hS₅, hJ₅⟩ := h₅
      have zI := (N₅ (I, oI) List.mem_cons_self).1
      refine wpAny_pure fun t => ⟨rfl, n + 1 - (i + 1), turn_lt hlt, h₅, tk₅, i + 1, oC₅, m₅, nw₅, rfl, Nat.le_trans tle₂ t, hlt, rfl, ?_, F₅, hC₅, fun p hp => N₅ p (List.mem_cons_of_mem _ hp), off₅, hS₅, hJ₅⟩
      exact hSt _ _ _ _ _ hst₂ heI zI F₅.keep (fun p hp => N₅ p (List.mem_cons_of_mem _ (List.mem_cons_of_mem _ hp))) hS₅
  · obtain rfl : i = n := Nat.le_antisymm hi (Nat.not_lt.mp hlt)
    refine wpAny_toks (W.done _ _ _ hst' fun h₂ tk₂ hk₂ tle₂ => wpAny_pure ?_)
    exact fin h₂ tk₂ oC m' nw' (fr_but F' hk₂ hIL hI₀) (news_but N' hk₂ offI) hC' (fun p hp => (off' p hp).2) tk hJ' tle tle₂
end
end
-- Comp5
section
open PySem PySem.W PyProof.Rows PySem.Calls PySem.Spec
open PyProof.Rows.LCg
noncomputable abbrev cellO (v : Option Value) : Obj := { cls := .type "cell", data := .cell v }
noncomputable abbrev dct0 : Obj := { cls := .type "dict", data := .dict #[] }
section
variable {prog : Program} {w : World} {A : Around} {E : Value → Shared → Prop} {s : Shared} {h₀ : Heap} {L : Addr} {m : Str → Option Value} {env : Env}

noncomputable def EnvOk (prog : Program) (w : World) (A : Around) (env : Env) (scope : Scope) (cl : List (Str × Addr)) (cx : Addr → List (Str × Addr)) (px : Addr → List (Addr × Obj)) : Prop :=
  ∀ (E : Value → Shared → Prop) (s : Shared) (Q : Env → Shared → Prop), (∀ cenv X h₁, { cenv with scope := relabel scope env } = compEnvC scope (cx X) s.heap.objs.size env → cenv.locals = s.heap.objs.size → s.heap.objs.size < X → (∀ b o, s.heap.get? b = some o → h₁.get? b = some o) →
    (∃ oC, h₁.get? s.heap.objs.size = some oC ∧ NsObj oC (fun _ => none)) → (∀ p ∈ px X, h₁.get? p.1 = some p.2 ∧ s.heap.objs.size < p.1) → Q cenv { s with heap := h₁ }) →
    wpAny (model prog w) A (newFunctionEnv scope env.globals cl [] env.qual none .none (some env)) Q E s

theorem env_plain {scope : Scope} {cl : List (Str × Addr)} (hcell : ∀ y ∈ scope.names, y.2 ≠ .cell) (hkind : scope.kind = .function) : EnvOk prog w A env scope cl (fun _ => cl) (fun _ => []) := by
  intro E s Q h
  refine wpAny_newFunctionEnv hcell (by intro y hy; simp at hy) (fun h₁ hns₁ hsb₁ => ?_) hkind
  refine h _ (s.heap.objs.size + 1) h₁ rfl rfl (Nat.lt_succ_self _) (fun b o e => hsb₁.extBut b o (Nat.ne_of_lt (Heap.lt_size e)) (Heap.get?_push_of_some _ e)) ?_ (fun _ hp => nomatch hp)
  obtain ⟨oC, e, n⟩ := ns_obj hns₁
  exact ⟨oC, e, n⟩

theorem env_cell {scope : Scope} {x : Str} {cl : List (Str × Addr)} (hcf : ∀ n, cellsFrom n scope.names cl = (x, n) :: cl) (hpc : ∀ h : Heap, pushCells h scope.names = h.push (cellO none)) :
    EnvOk prog w A env scope cl (fun X => (x, X) :: cl) (fun X => [(X, cellO none)]) := by
  intro E s Q h
  simp only [newFunctionEnv, Option.isSome_some, if_true]
  refine wpAny_bind (wpAny_alloc ?_)
  refine wpAny_bind (wpAny_layCells _ (fun name kind cells => by cases hkc : kind == NameKind.cell <;> simp [hkc]) _ _ _ _ ?_)
  dsimp only
  rw [hcf, hpc]
  refine wpAny_bind (wpAny_pure ?_)
  rw [Heap.size_push]
  refine wpAny_pure (h _ (s.heap.objs.size + 1) _ rfl rfl (Nat.lt_succ_self _) (fun b o e => Heap.get?_push_of_some _ (Heap.get?_push_of_some _ e)) ?_ (fun p hp => ?_))
  · obtain ⟨oC, e, n⟩ := ns_obj (Heap.Ns.new s.heap (.type "dict"))
    exact ⟨oC, Heap.get?_push_of_some _ e, n⟩
  · rcases List.mem_cons.mp hp with rfl | hp
    · refine ⟨?_, Nat.lt_succ_self _⟩
      have := Heap.get?_push_size (s.heap.push { cls := .type "dict", data := .dict #[] }) (o := cellO none) rfl
      rw [Heap.size_push] at this
      exact this
    · cases hp

inductive GSrc (prog : Program) (w : World) (A : Around) (h₀ : Heap) (L : Addr) (m : Str → Option Value) (env : Env) (target : Expr) (ifs : List Expr) (body : Addr → Env → Sem Unit) (scope : Scope) (cx : Addr → List (Str × Addr)) (px : Addr → List (Addr × Obj)) (o0 : Obj)
    (Fin : Shared → Addr → List (Addr × Obj) → Prop) (it : Value) (s₂ : Shared) : Prop
  | mk (I : Addr) (fp : List Addr) (n : Nat) (P : Nat → Value → Prop) (St : Nat → Heap → Prop) (S : List (Addr × Obj) → Prop) (news : List (Addr × Obj)) (J : Addr → Addr → Nat → Nat → List (Addr × Obj) → Prop)
    (x1 : it = .ref I)
    (x2 : Walks prog w A I fp [I] n P St)
    (x3 : (∀ i h, St i h → ∃ o, h.get? I = some o))
    (x4 : (∀ i h h' o nw, St i h → h.get? I = some o → h'.get? I = some o → (∀ b o, h₀.get? b = some o → h'.get? b = some o) → News h₀ L h' nw → S nw → St i h'))
    (x5 : (∀ i v (s' : Shared) (Q : Unit → Shared → Prop) (E' : Value → Shared → Prop), St (i + 1) s'.heap → P i v → Q () s' → wpAny (model prog w) A (letOwnedTupleGo target (.ref I) v) Q E' s'))
    (x6 : St 0 s₂.heap)
    (x7 : (∀ b ∈ fp, b < s₂.heap.objs.size))
    (x8 : Fr h₀ L s₂.heap m)
    (x9 : News h₀ L s₂.heap news)
    (x10 : L ≠ I)
    (x11 : h₀.get? I = none)
    (x12 : (∀ p ∈ news, p.1 ≠ I))
    (x13 : (∀ D X, (∀ p ∈ news, p.1 < D) → D < X → S ((D, o0) :: (px X ++ news)) ∧ J D X 0 s₂.toks ((D, o0) :: (px X ++ news))))
    (x14 : (∀ D X i v nw' tk₀, i < n → P i v → S nw' → J D X i tk₀ nw' → s₂.toks ≤ tk₀ → GTurn prog w A h₀ L m env target ifs body scope (cx X) { s₂ with toks := tk₀ } S (J D X (i + 1)) D I v nw'))
    (x15 : ∀ D X nw' tk₀, J D X n tk₀ nw' → s₂.toks ≤ tk₀ → Fin { s₂ with toks := tk₀ } D nw') : GSrc prog w A h₀ L m env target ifs body scope cx px o0 Fin it s₂

theorem blockX {e target iter : Expr} {ifs : List Expr} {body : Addr → Env → Sem Unit} {scope : Scope} {cl : List (Str × Addr)} {cx : Addr → List (Str × Addr)} {px : Addr → List (Addr × Obj)} {o0 : Obj} {newAcc : Sem Value} {s₂ : Shared} {it : Value} {Fin : Shared → Addr → List (Addr × Obj) → Prop}
    {RR : Value → Addr → Result → Shared → Prop} (K : CompOk prog w A e target iter ifs body) (O : EnvOk prog w A env scope cl cx px) (hacc : ∀ (Q : Value → Shared → Prop) (s : Shared), Q (.ref s.heap.objs.size) { s with heap := s.heap.push o0 } → wpAny (model prog w) A newAcc Q E s) (hf : o0.isFreed = false)
    (G : GSrc prog w A h₀ L m env target ifs body scope cx px o0 Fin it s₂)
    (hRR : ∀ D C h tk oC m' nw', Fr h₀ L h m → News h₀ L h ((C, oC) :: nw') → NsObj oC m' → (∀ p ∈ nw', p.1 ≠ C) → ∀ tk₀, Fin { s₂ with toks := tk₀ } D nw' → s₂.toks ≤ tk₀ → tk₀ ≤ tk → RR (.ref D) C (.ok .next) { s₂ with heap := h, toks := tk }) :
    wpAny (model prog w) A newAcc (fun acc s₃ => wpAny (model prog w) A (newFunctionEnv scope env.globals cl [] env.qual none .none (some env)) (fun cenv s₄ =>
      codeAny (model prog w) A (.compStart e 0 it acc { cenv with scope := relabel scope env }) (RR acc cenv.locals) s₄) E s₃) E s₂ := by
  obtain ⟨I, fp, n, P, St, S, news, J, rfl, W, hIo, hSt, hlet, hst, hfp, F, N, hIL, hI₀, off, start, step, fin⟩ := G
  refine hacc _ _ (O _ _ _ fun cenv X h₁ he hC hX old hc hp => ?_)
  dsimp only at he hC hX old hc hp ⊢
  rw [he, hC]
  have zC : (s₂.heap.push o0).objs.size = s₂.heap.objs.size + 1 := Heap.size_push ..
  generalize hCC : (s₂.heap.push o0).objs.size = C at *
  have old2 : ∀ b o, s₂.heap.get? b = some o → h₁.get? b = some o := fun b o e => old b o (Heap.get?_push_of_some _ e)
  have hD : h₁.get? s₂.heap.objs.size = some o0 := old _ _ (Heap.get?_push_size _ hf)
  obtain ⟨oC, heC, nC⟩ := hc
  have ltD : ∀ p ∈ news, p.1 < s₂.heap.objs.size := fun p hp => Heap.lt_size (N p hp).1
  have hIlt : I < s₂.heap.objs.size := hfp I (W.sub I (List.mem_singleton.mpr rfl))
  have hLlt : L < s₂.heap.objs.size := F.ns.lt
  have fresh₀ : ∀ a, s₂.heap.objs.size ≤ a → h₀.get? a = none := fun a ha => by
    cases e : h₀.get? a with
    | none => rfl
    | some o' => exact absurd (Heap.lt_size (F.keep a o' e)) (Nat.not_lt.mpr ha)
  have F₁ : Fr h₀ L h₁ m := F.keeps old2
  have all : ∀ p ∈ (s₂.heap.objs.size, o0) :: (px X ++ news), h₁.get? p.1 = some p.2 ∧ p.1 ≠ I ∧ p.1 ≠ C ∧ p.1 ≠ L ∧ h₀.get? p.1 = none := fun p hp' => by
    rcases List.mem_cons.mp hp' with rfl | hp'
    · refine ⟨hD, Nat.ne_of_gt hIlt, ?_, Nat.ne_of_gt hLlt, fresh₀ _ (Nat.le_refl _)⟩
      rw [zC]; exact Nat.ne_of_lt (Nat.lt_succ_self _)
    · rcases List.mem_append.mp hp' with hp' | hp'
      · obtain ⟨a, b⟩ := hp p hp'
        have b' : s₂.heap.objs.size < p.1 := Nat.lt_trans (by rw [zC]; exact Nat.lt_succ_self _) b
        exact ⟨a, Nat.ne_of_gt (Nat.lt_trans hIlt b'), Nat.ne_of_gt b, Nat.ne_of_gt (Nat.lt_trans hLlt b'), fresh₀ _ (Nat.le_of_lt b')⟩
      · have l := ltD p hp'
        exact ⟨old2 _ _ (N p hp').1, off p hp', Nat.ne_of_lt (Nat.lt_trans l (by rw [zC]; exact Nat.lt_succ_self _)), (N p hp').2.1, (N p hp').2.2⟩
  have hIC : I ≠ C := Nat.ne_of_lt (Nat.lt_trans hIlt (by rw [zC]; exact Nat.lt_succ_self _))
  have hDX : s₂.heap.objs.size < X := Nat.lt_trans (by rw [zC]; exact Nat.lt_succ_self _) hX
  obtain ⟨S₀, J₀⟩ := start _ X ltD hDX
  have N₁ : News h₀ L h₁ ((C, oC) :: (s₂.heap.objs.size, o0) :: (px X ++ news)) := fun p hp' => by
    rcases List.mem_cons.mp hp' with rfl | hp'
    · exact ⟨heC, Nat.ne_of_gt (Nat.lt_trans hLlt (by rw [zC]; exact Nat.lt_succ_self _)), fresh₀ _ (by rw [zC]; exact Nat.le_succ _)⟩
    · obtain ⟨a, _, _, b, c⟩ := all p hp'
      exact ⟨a, b, c⟩
  have hst₁ : St 0 h₁ := W.frame _ _ _ hst fun b hb o e => old2 b o e
  have loop : codeAny (model prog w) A (.compLoop e 0 (.ref I) (.ref s₂.heap.objs.size) (compEnvC scope (cx X) C env)) (RR (.ref s₂.heap.objs.size) C) { s₂ with heap := h₁ } :=
    coreG (s₂ := { s₂ with heap := h₁ }) (mC := fun _ => none) (J s₂.heap.objs.size X) K W hIo hSt hlet hst₁ F₁ N₁ nC hIC hIL hI₀ (fun p hp' => ⟨(all p hp').2.1, (all p hp').2.2.1⟩) S₀ J₀ (fun i v nw' tk₀ hi hP hS hJ t => step _ X i v nw' tk₀ hi hP hS hJ t)
      (fun h tk oC' m' nw' F' N' n' o' tk₀ j' t₀ t' => hRR _ C h tk oC' m' nw' F' N' n' o' tk₀ (fin _ X nw' tk₀ j' t₀) t₀ t')
  exact K.start _ _ _ _ _ loop (W.self 0 _ _ _ hst₁ loop)

noncomputable def FinG (h₀ : Heap) (L : Addr) (m : Str → Option Value) (Q : Value → Shared → Prop) (s : Shared) (D : Addr) (nw : List (Addr × Obj)) : Prop :=
  ∀ h tk, Fr h₀ L h m → News h₀ L h nw → s.toks ≤ tk → Q (.ref D) { s with heap := h, toks := tk }
noncomputable def FinGA (h₀ : Heap) (L : Addr) (m : Str → Option Value) (y : Str) (Q : Flow → Shared → Prop) (s : Shared) (D : Addr) (nw : List (Addr × Obj)) : Prop :=
  ∀ h tk, Fr h₀ L h (upd m y (.ref D)) → News h₀ L h nw → s.toks ≤ tk → Q .next { s with heap := h, toks := tk }

theorem evalX (_F : Fr h₀ L s.heap m) {e target iter : Expr} {ifs : List Expr} {body : Addr → Env → Sem Unit} {scope : Scope} {cl : List (Str × Addr)} {cx : Addr → List (Str × Addr)} {px : Addr → List (Addr × Obj)} {o0 : Obj} {newAcc : Sem Value} {gp : Pos} {Q : Value → Shared → Prop}
    (he : eval e env = comprehension e scope env gp newAcc false (eval iter env) none) (hc : clausesOf e = [⟨target, iter, ifs, 0⟩])
    (hclos : closureFor scope env = pure cl) (K : CompOk prog w A e target iter ifs body) (O : EnvOk prog w A env scope cl cx px) (hacc : ∀ (Q : Value → Shared → Prop) (s : Shared), Q (.ref s.heap.objs.size) { s with heap := s.heap.push o0 } → wpAny (model prog w) A newAcc Q E s) (hf : o0.isFreed = false)
    (hkind : scope.kind = .function) (hnames : ∀ y ∈ scope.names, y.2 = .local → scope.names.lookup y.1 = some .local)
    (h : wpAny (model prog w) A (eval iter env) (fun xv s₁ => wpAny (model prog w) A (pyIter xv) (GSrc prog w A h₀ L m env target ifs body scope cx px o0 (FinG h₀ L m Q)) E s₁) E s)
    (hs : ∀ x, foldedSetIterable iter env x = pure x := by intro _; rfl) : wpAny (model prog w) A (eval e env) Q E s := by
  rw [he]
  refine wpAny_comprehension_free (use := none) hc hs hclos hkind hnames (wpAny_mono h (fun xv s₁ h₁ => wpAny_mono h₁ (fun it s₂ h₂ => ?_) fun _ _ e => e) fun _ _ e => e)
  refine blockX K O hacc hf h₂ ?_
  intro D C h tk oC m' nw' F' N' nC offC tk₀ hF t₀ t
  have zC := N' (C, oC) List.mem_cons_self
  refine ⟨m', nC.ns zC.1, fun h'' hs'' => hF h'' tk (F'.change hs'' zC.2.1 zC.2.2) (fun p hp => ?_) t⟩
  have z := N' p (List.mem_cons_of_mem _ hp)
  exact ⟨hs''.extBut _ _ (offC p hp) z.1, z.2⟩
theorem assignX (_F : Fr h₀ L s.heap m) {e target iter : Expr} {ifs : List Expr} {body : Addr → Env → Sem Unit} {scope : Scope} {cl : List (Str × Addr)} {cx : Addr → List (Str × Addr)} {px : Addr → List (Addr × Obj)} {o0 : Obj} {newAcc : Sem Value} {gp py spos : Pos} {y : Str} {Q : Flow → Shared → Prop} (hLe : env.locals = L)
    (hsw : swapsWith e (some (.Name y py)) spos.line env = pure true) (he : evalThenUse e env (assign (.Name y py) env) = (comprehension e scope env gp newAcc false (eval iter env) (some (assign (.Name y py) env)) >>= fun _ => pure ())) (hc : clausesOf e = [⟨target, iter, ifs, 0⟩])
    (hclos : closureFor scope env = pure cl) (K : CompOk prog w A e target iter ifs body) (O : EnvOk prog w A env scope cl cx px) (hacc : ∀ (Q : Value → Shared → Prop) (s : Shared), Q (.ref s.heap.objs.size) { s with heap := s.heap.push o0 } → wpAny (model prog w) A newAcc Q E s) (hf : o0.isFreed = false)
    (hkind : scope.kind = .function) (hnames : ∀ y ∈ scope.names, y.2 = .local → scope.names.lookup y.1 = some .local)
    (hy : env.kindOf y = some .local) (hp : (env.scope.kind == .class || (env.scope.kind == .module && env.locals != env.globals)) = false)
    (h : wpAny (model prog w) A (eval iter env) (fun xv s₁ => wpAny (model prog w) A (pyIter xv) (GSrc prog w A h₀ L m env target ifs body scope cx px o0 (FinGA h₀ L m y Q)) E s₁) E s)
    (hs : ∀ x, foldedSetIterable iter env x = pure x := by intro _; rfl) : wpAny (model prog w) A (exec (.Assign [.Name y py] e spos) env) Q E s := by
  subst hLe
  rw [exec_Assign_Name_used _ _ _ _ hsw]
  refine wpAny_bind (wpAny_standAt (wpAny_bind ?_))
  rw [he]
  refine wpAny_bind (wpAny_mono (wpAny_comprehension_free (use := some (assign (.Name y py) env)) (Q := fun _ s' => Q .next s') hc hs hclos hkind hnames
    (wpAny_mono h (fun xv s₁ h₁ => wpAny_mono h₁ (fun it s₂ h₂ => ?_) fun _ _ e => e) fun _ _ e => e)) (fun _ s' hq => wpAny_pure (wpAny_pure hq)) fun _ _ e => e)
  refine blockX K O hacc hf h₂ ?_
  intro D C h' tk oC m' nw' F' N' nC offC tk₀ hF t₀ t
  have zC := N' (C, oC) List.mem_cons_self
  show wpAny _ A (assign (.Name y py) env (.ref D)) _ _ _
  refine wpAny_assign_Name (wpAny_storeName_local hy F'.ns (fun h₂ hn₂ hs₂ => ?_) hp)
  have hL₀ : h₀.get? env.locals = none := Heap.get?_none_of_le F'.above
  have F₂ : Fr h₀ env.locals h₂ (upd m y (.ref D)) := ⟨hn₂, fun b o e => hs₂.extBut b o (fun q => by rw [q, hL₀] at e; cases e) (F'.keep b o e), F'.above⟩
  refine ⟨m', (nC.ns zC.1).sameBut hs₂ zC.2.1, fun h'' hs'' => hF h'' _ (F₂.change hs'' zC.2.1 zC.2.2) (fun p hp => ?_) (Nat.le_succ_of_le t)⟩
  have z := N' p (List.mem_cons_of_mem _ hp)
  exact ⟨hs''.extBut _ _ (offC p hp) (hs₂.extBut _ _ z.2.1 z.1), z.2⟩
end
end
-- Comp6
section
theorem kr_Comp6 : True := by
  k_with_none
  w_top off
  trivial
open PySem PySem.W PyProof.Rows PySem.Calls PySem.Spec
open PyProof.Rows.LCg
section
variable {prog : Program} {w : World} {A : Around} {E : Value → Shared → Prop} {s s₁ : Shared} {h₀ : Heap} {L : Addr} {m : Str → Option Value} {env : Env} {target : Expr} {ifs : List Expr} {body : Addr → Env → Sem Unit} {scope : Scope} {cx : Addr → List (Str × Addr)} {px : Addr → List (Addr × Obj)} {o0 : Obj}
  {Fin : Shared → Addr → List (Addr × Obj) → Prop} {news : List (Addr × Obj)}
theorem srcAt_up {ax : Addr} {its : Array Value} {nw nw' : List (Addr × Obj)} (h : SrcAt h₀ ax its nw) (hs : ∀ p ∈ nw, p ∈ nw') : SrcAt h₀ ax its nw' := by
  rcases h with h | ⟨o, e, r⟩
  · exact .inl h
  · exact .inr ⟨o, hs _ e, r⟩
theorem gsrc_list {ax : Addr} {its : Array Value} (J : Addr → Addr → Nat → Nat → List (Addr × Obj) → Prop) (hh : A.handled = none) (F : Fr h₀ L s₁.heap m) (N : News h₀ L s₁.heap news)
    (S₀ : SrcAt h₀ ax its news) (hJ : ∀ D X, (∀ p ∈ news, p.1 < D) → D < X → J D X 0 s₁.toks ((D, o0) :: (px X ++ news)))
    (step : ∀ D X i v nw' g I tk₀, its[i]? = some v → SrcAt h₀ ax its nw' → J D X i tk₀ nw' → s₁.toks ≤ tk₀ → GTurn prog w A h₀ L m env target ifs body scope (cx X) { s₁ with heap := g, toks := tk₀ } (SrcAt h₀ ax its) (J D X (i + 1)) D I v nw')
    (fin : ∀ D X nw' g tk₀, J D X its.size tk₀ nw' → s₁.toks ≤ tk₀ → Fin { s₁ with heap := g, toks := tk₀ } D nw') :
    wpAny (model prog w) A (pyIter (.ref ax)) (GSrc prog w A h₀ L m env target ifs body scope cx px o0 Fin) E s₁ := by
  refine wpAny_pyIter_list (S₀.list F.keep N) ?_
  have hS : ∀ h nw, (∀ b o, h₀.get? b = some o → h.get? b = some o) → News h₀ L h nw → SrcAt h₀ ax its nw → SeqObj h ax its := fun _ _ k N' S' => by obtain ⟨o, e, c, n, d⟩ := S'.list k N'; exact ⟨o, n, e, d⟩
  have hl := hS _ _ F.keep N S₀
  have hlt : ax < s₁.heap.objs.size := by obtain ⟨_, _, e, _⟩ := hl; exact Heap.lt_size e
  have up : ∀ b o, s₁.heap.get? b = some o → (s₁.heap.push { cls := .type "list_iterator", data := .fields #[.ref ax, .int 0 0] }).get? b = some o := fun b o e => Heap.get?_push_of_some _ e
  refine ⟨s₁.heap.objs.size, [s₁.heap.objs.size, ax], its.size, _, _, SrcAt h₀ ax its, news, J, rfl, acc_walks hh s₁.heap.objs.size ax (Nat.ne_of_lt hlt) its, fun i h st => let ⟨o, e, _⟩ := st.1; ⟨o, e⟩, ?_, ?_,
    ⟨⟨_, Heap.get?_push_size _ rfl, rfl, rfl⟩, let ⟨o, n, e, d⟩ := hl; ⟨o, n, up _ _ e, d⟩⟩, ?_, F.keeps up, N.grown up, Nat.ne_of_lt F.ns.lt, next_is_new F, fun p hp => Nat.ne_of_lt (Heap.lt_size (N p hp).1),
    fun D X a b => ⟨srcAt_up S₀ fun p hp => List.mem_cons_of_mem _ (List.mem_append_right _ hp), hJ D X a b⟩, ?_, ?_⟩
  · intro i h h' o nw st e e' k N' S'
    refine ⟨?_, hS _ _ k N' S'⟩
    obtain ⟨o', q, r⟩ := st.1
    rw [e] at q; cases q; exact ⟨o, e', r⟩
  · intro i v s' Q E' st _ q
    obtain ⟨o', e, c, _⟩ := st.1
    exact let_plain e (.inl c) q
  · intro b hb
    show b < (s₁.heap.push _).objs.size
    rw [Heap.size_push]
    rcases List.mem_cons.mp hb with rfl | hb
    · exact Nat.lt_succ_self _
    · rw [List.mem_singleton.mp hb]; exact Nat.lt_succ_of_lt hlt
  · exact fun D X i v nw' tk₀ _ hv hS' hJ' t => step D X i v nw' _ _ tk₀ hv hS' hJ' t
  · exact fun D X nw' tk₀ hJ' t => fin D X nw' _ tk₀ hJ' t

theorem gsrc_range {r : Addr} {a b : Int} {t u v : Tok} {n : Nat} (J : Addr → Addr → Nat → Nat → List (Addr × Obj) → Prop) (hh : A.handled = none) (F : Fr h₀ L s₁.heap m) (N : News h₀ L s₁.heap news)
    (hr : IsRange s₁.heap r a b 1 t u v) (hsm : Builtin.Range.small a b 1 = true) (hn : Builtin.Range.rangeSize a b 1 = ((n : Nat) : Int)) (hlet : ∃ x px, target = .Name x px)
    (hJ : ∀ D X, (∀ p ∈ news, p.1 < D) → D < X → J D X 0 s₁.toks ((D, o0) :: (px X ++ news)))
    (step : ∀ D X i t nw' g I tk₀, i < n → J D X i tk₀ nw' → s₁.toks ≤ tk₀ → GTurn prog w A h₀ L m env target ifs body scope (cx X) { s₁ with heap := g, toks := tk₀ } (fun _ => True) (J D X (i + 1)) D I (.int (a + (i : Int)) t) nw')
    (fin : ∀ D X nw' g tk₀, J D X n tk₀ nw' → s₁.toks ≤ tk₀ → Fin { s₁ with heap := g, toks := tk₀ } D nw') :
    wpAny (model prog w) A (pyIter (.ref r)) (GSrc prog w A h₀ L m env target ifs body scope cx px o0 Fin) E s₁ := by
  obtain ⟨x, px', rfl⟩ := hlet
  refine wpAny_pyIter_range hr hsm ?_
  refine ⟨s₁.heap.objs.size, [s₁.heap.objs.size], n, _, _, fun _ => True, news, J, rfl, range_walks hh a n, fun i h st => ⟨_, st⟩, fun i h h' o nw => range_st (h₀ := h₀) (L := L) i h h' o nw, fun i v s' Q E' _ _ q => let_name q,
    by show IsRangeIter _ _ _ _ _; rw [hn]; simpa using Heap.get?_push_size _ rfl, ?_, F.keeps fun _ _ e => Heap.get?_push_of_some _ e, N.grown fun _ _ e => Heap.get?_push_of_some _ e, Nat.ne_of_lt F.ns.lt, next_is_new F,
    fun p hp => Nat.ne_of_lt (Heap.lt_size (N p hp).1), fun D X a b => ⟨trivial, hJ D X a b⟩, ?_, fun D X nw' tk₀ hJ' t => fin D X nw' _ tk₀ hJ' t⟩
  · intro b hb
    rw [List.mem_singleton.mp hb]
    show s₁.heap.objs.size < (s₁.heap.push _).objs.size
    rw [Heap.size_push]; exact Nat.lt_succ_self _
  · rintro D X i v nw' tk₀ hi ⟨t, rfl⟩ _ hJ' tl
    exact step D X i t nw' _ _ tk₀ hi hJ' tl

theorem gsrc_str {x : Str} {t : Tok} (hasc : x.cps.all (· < 128) = true) (J : Addr → Addr → Nat → Nat → List (Addr × Obj) → Prop) (hh : A.handled = none) (F : Fr h₀ L s₁.heap m) (N : News h₀ L s₁.heap news)
    (hlet : ∃ x px, target = .Name x px) (hJ : ∀ D X, (∀ p ∈ news, p.1 < D) → D < X → J D X 0 s₁.toks ((D, o0) :: (px X ++ news)))
    (step : ∀ D X i c u nw' g I tk₀, x.cps[i]? = some c → J D X i tk₀ nw' → s₁.toks ≤ tk₀ → GTurn prog w A h₀ L m env target ifs body scope (cx X) { s₁ with heap := g, toks := tk₀ } (fun _ => True) (J D X (i + 1)) D I (.str ⟨#[c]⟩ u) nw')
    (fin : ∀ D X nw' g tk₀, J D X x.cps.size tk₀ nw' → s₁.toks ≤ tk₀ → Fin { s₁ with heap := g, toks := tk₀ } D nw') :
    wpAny (model prog w) A (pyIter (.str x t)) (GSrc prog w A h₀ L m env target ifs body scope cx px o0 Fin) E s₁ := by
  obtain ⟨y, py, rfl⟩ := hlet
  refine wpAny_pyIter_ascii hasc ?_
  refine ⟨s₁.heap.objs.size, [s₁.heap.objs.size], x.cps.size, _, _, fun _ => True, news, J, rfl, Walks.strAscii hh _ x t, fun i h st => let ⟨o, e, _⟩ := st; ⟨o, e⟩, ?_, fun i v s' Q E' _ _ q => let_name q,
    ⟨_, Heap.get?_push_size _ rfl, rfl, rfl⟩, ?_, F.keeps fun _ _ e => Heap.get?_push_of_some _ e, N.grown fun _ _ e => Heap.get?_push_of_some _ e, Nat.ne_of_lt F.ns.lt, next_is_new F,
    fun p hp => Nat.ne_of_lt (Heap.lt_size (N p hp).1), fun D X a b => ⟨trivial, hJ D X a b⟩, ?_, fun D X nw' tk₀ hJ' t => fin D X nw' _ tk₀ hJ' t⟩
  · intro i h h' o nw st e e' _ _ _
    obtain ⟨o', q, r⟩ := st
    rw [e] at q; cases q; exact ⟨o, e', r⟩
  · intro b hb
    rw [List.mem_singleton.mp hb]
    show s₁.heap.objs.size < (s₁.heap.push _).objs.size
    rw [Heap.size_push]; exact Nat.lt_succ_self _
  · rintro D X i v nw' tk₀ hi ⟨c, u, hc, rfl⟩ _ hJ' tl
    exact step D X i c u nw' _ _ tk₀ hc hJ' tl

theorem GTurn.name {x : Str} {pn : Pos} {s : Shared} {cl : List (Str × Addr)} {S : List (Addr × Obj) → Prop} {J' : Nat → List (Addr × Obj) → Prop} {D I : Addr} {v : Value} {nw : List (Addr × Obj)} (hx : scope.names.lookup x = some .local) (hk : scope.kind = .function)
    (h : ∀ oI C oC m₁ h tk (E' : Value → Shared → Prop), NsObj oC m₁ → m₁ x = some v → Fr h₀ L h m → News h₀ L h ((I, oI) :: (C, oC) :: nw) → (∀ p ∈ nw, p.1 ≠ I ∧ p.1 ≠ C) → (@Ne Nat I C) → s.toks ≤ tk →
      wpAny (model prog w) A (testsOf ifs (compEnvC scope cl C env)) (fun ok s₄ =>
        if ok = true then wpAny (model prog w) A (body D (compEnvC scope cl C env)) (fun _ => GEnd h₀ L m s I oI C S J') E' s₄
        else GEnd h₀ L m s I oI C S J' s₄) E' { s with heap := h, toks := tk }) :
    GTurn prog w A h₀ L m env (.Name x pn) ifs body scope cl s S J' D I v nw := by
  intro oI C oC m₁ hh tk E' hC F N off ne tle
  have zC := N (C, oC) (List.mem_cons_of_mem _ List.mem_cons_self)
  refine wpAny_assign_Name (wpAny_storeName_local (lookup_relabel_local hx) (hC.ns zC.1) (fun h₃ hn₃ hs₃ => ?_) (by simp [compEnvC, relabel, hk]))
  obtain ⟨oC', heC', hoC'⟩ := ns_obj hn₃
  refine h oI C oC' _ h₃ _ E' hoC' (by simp) (F.change hs₃ zC.2.1 zC.2.2) (fun p hp => ?_) off ne (Nat.le_succ_of_le tle)
  rcases List.mem_cons.mp hp with rfl | hp
  · exact ⟨hs₃.extBut _ _ ne (N _ List.mem_cons_self).1, (N _ List.mem_cons_self).2⟩
  · rcases List.mem_cons.mp hp with rfl | hp
    · exact ⟨heC', zC.2⟩
    · have z := N p (List.mem_cons_of_mem _ (List.mem_cons_of_mem _ hp))
      exact ⟨hs₃.extBut _ _ (off p hp).2 z.1, z.2⟩

theorem GTurn.cell {x : Str} {pn : Pos} {s : Shared} {cl : List (Str × Addr)} {S : List (Addr × Obj) → Prop} {J' : Nat → List (Addr × Obj) → Prop} {D I X : Addr} {oD oX : Obj} {v₀ : Option Value} {v : Value} {nw : List (Addr × Obj)} (hx : ∀ C, (compEnvC scope cl C env).kindOf x = some .cell) (hk : scope.kind = .function) (hc : cl.lookup x = some X)
    (hd : oX.data = .cell v₀) (hDX : D ≠ X) (hX : ∀ p ∈ nw, p.1 ≠ X)
    (h : ∀ oI C oC oX' m₁ h tk (E' : Value → Shared → Prop), oX'.data = .cell (some v) → NsObj oC m₁ → Fr h₀ L h m → News h₀ L h ((I, oI) :: (C, oC) :: (D, oD) :: (X, oX') :: nw) → (∀ p ∈ (D, oD) :: (X, oX') :: nw, p.1 ≠ I ∧ p.1 ≠ C) → (@Ne Nat I C) → s.toks ≤ tk →
      wpAny (model prog w) A (testsOf ifs (compEnvC scope cl C env)) (fun ok s₄ =>
        if ok = true then wpAny (model prog w) A (body D (compEnvC scope cl C env)) (fun _ => GEnd h₀ L m s I oI C S J') E' s₄
        else GEnd h₀ L m s I oI C S J' s₄) E' { s with heap := h, toks := tk }) :
    GTurn prog w A h₀ L m env (.Name x pn) ifs body scope cl s S J' D I v ((D, oD) :: (X, oX) :: nw) := by
  intro oI C oC m₁ hh tk E' hC F N off ne tle
  have zX := N (X, oX) (List.mem_cons_of_mem _ (List.mem_cons_of_mem _ (List.mem_cons_of_mem _ List.mem_cons_self)))
  have oX9 := off (X, oX) (List.mem_cons_of_mem _ List.mem_cons_self)
  refine wpAny_assign_Name (wpAny_storeName_cell (by simp [compEnvC, relabel, hk]) (hx C) hc ⟨oX, zX.1, hd⟩ fun h₃ hv₃ hs₃ => ?_)
  obtain ⟨oX', heX', hdX'⟩ := hv₃
  refine h oI C oC oX' m₁ h₃ _ E' hdX' hC (F.change hs₃ zX.2.1 zX.2.2) (fun p hp => ?_) (fun p hp => ?_) ne tle
  · rcases List.mem_cons.mp hp with rfl | hp
    · exact ⟨hs₃.extBut _ _ (Ne.symm oX9.1) (N _ List.mem_cons_self).1, (N _ List.mem_cons_self).2⟩
    · rcases List.mem_cons.mp hp with rfl | hp
      · have z := N _ (List.mem_cons_of_mem _ List.mem_cons_self)
        exact ⟨hs₃.extBut _ _ (Ne.symm oX9.2) z.1, z.2⟩
      · rcases List.mem_cons.mp hp with rfl | hp
        · have z := N _ (List.mem_cons_of_mem _ (List.mem_cons_of_mem _ List.mem_cons_self))
          exact ⟨hs₃.extBut _ _ hDX z.1, z.2⟩
        · rcases List.mem_cons.mp hp with rfl | hp
          · exact ⟨heX', zX.2⟩
          · have z := N p (List.mem_cons_of_mem _ (List.mem_cons_of_mem _ (List.mem_cons_of_mem _ (List.mem_cons_of_mem _ hp))))
            exact ⟨hs₃.extBut _ _ (hX p hp) z.1, z.2⟩
  · rcases List.mem_cons.mp hp with rfl | hp
    · exact off _ List.mem_cons_self
    · rcases List.mem_cons.mp hp with rfl | hp
      · exact oX9
      · exact off p (List.mem_cons_of_mem _ (List.mem_cons_of_mem _ hp))

inductive LEnd9 (h₀ : Heap) (L : Addr) (m : Str → Option Value) (g₁ : Array GenState) (d₁ : Drawn) (o₁ : OsState) (I : Addr) (oI : Obj) (C D : Addr) (ys : List Value) (S : List (Addr × Obj) → Prop) (rest : Nat → List (Addr × Obj) → Prop) (y : Value) (s₂ : Shared) : Prop
  | mk (h' : _) (tk : _) (nw : _) (oC : _) (m' : _)
    (x1 : s₂ = { heap := h', gens := g₁, drawn := d₁, toks := tk, os := o₁ })
    (x2 : Fr h₀ L h' m)
    (x3 : News h₀ L h' ((I, oI) :: (C, oC) :: (D, lst ys) :: nw))
    (x4 : NsObj oC m')
    (x5 : (∀ p ∈ (D, lst ys) :: nw, p.1 ≠ I ∧ p.1 ≠ C))
    (x6 : (∀ p ∈ nw, p.1 ≠ D))
    (x7 : S ((D, lst (ys ++ [y])) :: nw))
    (x8 : rest tk ((D, lst (ys ++ [y])) :: nw)) : LEnd9 h₀ L m g₁ d₁ o₁ I oI C D ys S rest y s₂
noncomputable def LEnd (h₀ : Heap) (L : Addr) (m : Str → Option Value) (s₁ : Shared) (I : Addr) (oI : Obj) (C D : Addr) (ys : List Value) (S : List (Addr × Obj) → Prop) (rest : Nat → List (Addr × Obj) → Prop) (y : Value) (s₂ : Shared) : Prop := LEnd9 h₀ L m s₁.gens s₁.drawn s₁.os I oI C D ys S rest y s₂
theorem LEnd.intro {s₁ : Shared} {I C D : Addr} {oI oC : Obj} {m' : Str → Option Value} {ys : List Value} {S : List (Addr × Obj) → Prop} {rest : Nat → List (Addr × Obj) → Prop} {y : Value} {h' : Heap} {tk : Nat} {all : List (Addr × Obj)} (F : Fr h₀ L h' m) (N : News h₀ L h' all)
    (nw : List (Addr × Obj)) (sub : ∀ p ∈ (I, oI) :: (C, oC) :: (D, lst ys) :: nw, p ∈ all) (hC : NsObj oC m') (off : ∀ p ∈ (D, lst ys) :: nw, p.1 ≠ I ∧ p.1 ≠ C) (offD : ∀ p ∈ nw, p.1 ≠ D) (hS : S ((D, lst (ys ++ [y])) :: nw)) (r : rest tk ((D, lst (ys ++ [y])) :: nw)) :
    LEnd h₀ L m s₁ I oI C D ys S rest y { s₁ with heap := h', toks := tk } := ⟨h', tk, nw, oC, m', rfl, F, fun p hp => N p (sub p hp), hC, off, offD, hS, r⟩
theorem lbody {elt : Expr} {cenv : Env} {s₁ s : Shared} {I C D : Addr} {oI : Obj} {ys : List Value} {S : List (Addr × Obj) → Prop} {rest : Nat → List (Addr × Obj) → Prop} (hz : ys.length ≤ 100)
    (h : wpAny (model prog w) A (eval elt cenv) (LEnd h₀ L m s₁ I oI C D ys S rest) E s) : wpAny (model prog w) A (listBody elt D cenv) (fun _ => GEnd h₀ L m s₁ I oI C S rest) E s := by
  refine wpAny_bind (wpAny_mono h (fun y s₂ h₂ => ?_) fun _ _ e => e)
  obtain ⟨h', tk, nw, oC, m', rfl, F, N, hC, off, offD, hS, r⟩ := h₂
  have zD := N (D, lst ys) (List.mem_cons_of_mem _ (List.mem_cons_of_mem _ List.mem_cons_self))
  have oD := off (D, lst ys) List.mem_cons_self
  refine wpAny_bind (append_at (hsz := by show ys.toArray.size ≤ sizeLine; rw [List.size_toArray, sizeLine_eq]; omega) zD.1 fun h₆ hs₆ hD₆ => wpAny_pure ?_)
  refine GEnd.intro (F.change hs₆ zD.2.1 zD.2.2) (all := (I, oI) :: (C, oC) :: (D, lst (ys ++ [y])) :: nw) (fun p hp => ?_) _ (fun _ h => h) hC (fun p hp => ?_) hS r
  · rcases List.mem_cons.mp hp with rfl | hp
    · have z := N _ List.mem_cons_self
      exact ⟨hs₆.extBut _ _ (Ne.symm oD.1) z.1, z.2⟩
    · rcases List.mem_cons.mp hp with rfl | hp
      · have z := N _ (List.mem_cons_of_mem _ List.mem_cons_self)
        exact ⟨hs₆.extBut _ _ (Ne.symm oD.2) z.1, z.2⟩
      · rcases List.mem_cons.mp hp with rfl | hp
        · exact ⟨hD₆.trans (congrArg some (lst_snoc ys y)), zD.2⟩
        · have z := N p (List.mem_cons_of_mem _ (List.mem_cons_of_mem _ (List.mem_cons_of_mem _ hp)))
          exact ⟨hs₆.extBut _ _ (offD p hp) z.1, z.2⟩
  · rcases List.mem_cons.mp hp with rfl | hp
    · exact oD
    · exact off p (List.mem_cons_of_mem _ hp)

inductive DEnd9 (knd : KeyKind prog w PySem.Str) (h₀ : Heap) (L : Addr) (m : Str → Option Value) (g₁ : Array GenState) (d₁ : Drawn) (o₁ : OsState) (I : Addr) (oI : Obj) (C D : Addr) (S : List (Addr × Obj) → Prop) (rest : Nat → List (Addr × Obj) → Prop) (kv vv : Value) (s₂ : Shared) : Prop
  | mk (k : _) (kvs : _) (oD : _) (h' : _) (tk : _) (nw : _) (oC : _) (m' : _)
    (x1 : s₂ = { heap := h', gens := g₁, drawn := d₁, toks := tk, os := o₁ })
    (x2 : knd.is k kv = true)
    (x3 : oD.IsDictOf knd kvs)
    (x4 : kvs.length ≤ 100)
    (x5 : Fr h₀ L h' m)
    (x6 : News h₀ L h' ((I, oI) :: (C, oC) :: (D, oD) :: nw))
    (x7 : NsObj oC m')
    (x8 : (∀ p ∈ (D, oD) :: nw, p.1 ≠ I ∧ p.1 ≠ C))
    (x9 : (∀ p ∈ nw, p.1 ≠ D))
    (x10 : ∀ oD' tk', tk ≤ tk' → oD'.IsDictOf knd (stored kvs k vv) → S ((D, oD') :: nw) ∧ rest tk' ((D, oD') :: nw)) : DEnd9 knd h₀ L m g₁ d₁ o₁ I oI C D S rest kv vv s₂
noncomputable def DEnd (knd : KeyKind prog w PySem.Str) (h₀ : Heap) (L : Addr) (m : Str → Option Value) (s₁ : Shared) (I : Addr) (oI : Obj) (C D : Addr) (S : List (Addr × Obj) → Prop) (rest : Nat → List (Addr × Obj) → Prop) (kv vv : Value) (s₂ : Shared) : Prop := DEnd9 knd h₀ L m s₁.gens s₁.drawn s₁.os I oI C D S rest kv vv s₂
theorem DEnd.intro {knd : KeyKind prog w PySem.Str} {s₁ : Shared} {I C D : Addr} {oI oC oD : Obj} {k : PySem.Str} {kvs : List (PySem.Str × Value)} {m' : Str → Option Value} {S : List (Addr × Obj) → Prop} {rest : Nat → List (Addr × Obj) → Prop} {kv vv : Value} {h' : Heap} {tk : Nat} {all : List (Addr × Obj)} (F : Fr h₀ L h' m) (N : News h₀ L h' all)
    (hk : knd.is k kv = true) (hd : oD.IsDictOf knd kvs) (hz : kvs.length ≤ 100) (nw : List (Addr × Obj)) (sub : ∀ p ∈ (I, oI) :: (C, oC) :: (D, oD) :: nw, p ∈ all) (hC : NsObj oC m') (off : ∀ p ∈ (D, oD) :: nw, p.1 ≠ I ∧ p.1 ≠ C) (offD : ∀ p ∈ nw, p.1 ≠ D)
    (r : ∀ oD' tk', tk ≤ tk' → oD'.IsDictOf knd (stored kvs k vv) → S ((D, oD') :: nw) ∧ rest tk' ((D, oD') :: nw)) :
    DEnd knd h₀ L m s₁ I oI C D S rest kv vv { s₁ with heap := h', toks := tk } := ⟨k, kvs, oD, h', tk, nw, oC, m', rfl, hk, hd, hz, F, fun p hp => N p (sub p hp), hC, off, offD, r⟩
theorem dbody (knd : KeyKind prog w PySem.Str) {kx vx : Expr} {cenv : Env} {s₁ s : Shared} {I C D : Addr} {oI : Obj} {S : List (Addr × Obj) → Prop} {rest : Nat → List (Addr × Obj) → Prop}
    (h : wpAny (model prog w) A (eval kx cenv) (fun kv s₂ => wpAny (model prog w) A (eval vx cenv) (DEnd knd h₀ L m s₁ I oI C D S rest kv) E s₂) E s) : wpAny (model prog w) A (dictBody kx vx D cenv) (fun _ => GEnd h₀ L m s₁ I oI C S rest) E s := by
  refine wpAny_bind (wpAny_mono h (fun kv s₂ h₂ => wpAny_bind (wpAny_holding (wpAny_mono h₂ (fun vv s₃ h₃ => wpAny_bind (wpAny_standAt (wpAny_holding ?_))) fun _ _ e => e))) fun _ _ e => e)
  obtain ⟨k, kvs, oD, h', tk, nw, oC, m', rfl, hk, hd, hz, F, N, hC, off, offD, r⟩ := h₃
  have zD := N (D, oD) (List.mem_cons_of_mem _ (List.mem_cons_of_mem _ List.mem_cons_self))
  have oD9 := off (D, oD) List.mem_cons_self
  refine wpAny_dictSet_pairs (hsz := by rw [sizeLine_eq]; omega) hk (Heap.dictOf_iff.mpr ⟨oD, zD.1, hd⟩) fun h₆ hl₆ hs₆ => ?_
  obtain ⟨oD', heD', hdD'⟩ := Heap.dictOf_iff.mp hl₆
  obtain ⟨hS, hr⟩ := r oD' (tk + 1) (Nat.le_succ _) hdD'
  refine GEnd.intro (F.change hs₆ zD.2.1 zD.2.2) (all := (I, oI) :: (C, oC) :: (D, oD') :: nw) (fun p hp => ?_) _ (fun _ h => h) hC (fun p hp => ?_) hS hr
  · rcases List.mem_cons.mp hp with rfl | hp
    · have z := N _ List.mem_cons_self
      exact ⟨hs₆.extBut _ _ (Ne.symm oD9.1) z.1, z.2⟩
    · rcases List.mem_cons.mp hp with rfl | hp
      · have z := N _ (List.mem_cons_of_mem _ List.mem_cons_self)
        exact ⟨hs₆.extBut _ _ (Ne.symm oD9.2) z.1, z.2⟩
      · rcases List.mem_cons.mp hp with rfl | hp
        · exact ⟨heD', zD.2⟩
        · have z := N p (List.mem_cons_of_mem _ (List.mem_cons_of_mem _ (List.mem_cons_of_mem _ hp)))
          exact ⟨hs₆.extBut _ _ (offD p hp) z.1, z.2⟩
  · rcases List.mem_cons.mp hp with rfl | hp
    · exact oD9
    · exact off p (List.mem_cons_of_mem _ hp)
theorem dct0_is (knd : KeyKind prog w PySem.Str) : dct0.IsDictOf knd [] := by
  refine ⟨#[], 0, ?_, rfl, ?_, ?_, List.nodup_nil⟩
  · exact ⟨rfl, rfl, rfl⟩
  · intro e he; simp at he
  · exact .nil
theorem acc_list {Q : Value → Shared → Prop} (h : Q (.ref s.heap.objs.size) { s with heap := s.heap.push (lst []) }) : wpAny (model prog w) A (newList []) Q E s := wpAny_newObj_type h
theorem acc_dict {Q : Value → Shared → Prop} (h : Q (.ref s.heap.objs.size) { s with heap := s.heap.push dct0 }) : wpAny (model prog w) A newDict Q E s := wpAny_newObj_type h
end
end
-- TupLt
section
open PySem PySem.W PyProof.Rows PySem.Calls PySem.Spec
noncomputable def lexLt : List Int → List Int → Bool
  | x :: xs, y :: ys => if x = y then lexLt xs ys else decide (x < y)
  | xs, ys => decide (xs.length < ys.length)
theorem lexLt_nil_left (ys : List Int) : lexLt [] ys = decide (0 < ys.length) := by cases ys <;> rfl
section
variable {prog : Program} {w : World} {A : Around} {E : Value → Shared → Prop} {s : Shared} {h₀ : Heap} {L : Addr} {news : List (Addr × Obj)}
theorem tuple_lt_tree {a b : Addr} {oa ob : Obj} {xs ys : Array Value} {na nb : Nat} {ns ms : List Int} {P : Fin → Shared → Prop} (hoa : s.heap.get? a = some oa) (hda : oa.data = .seq xs na) (hob : s.heap.get? b = some ob) (hdb : ob.data = .seq ys nb) (hTb : s.TypeIs (.ref b) "tuple")
    (ia : IntsAre xs.toList ns) (ib : IntsAre ys.toList ms) (h : P (.done (.ret (.bool (lexLt ns ms)))) s) : wpAny (model prog w) A (Builtin.«tuple.__lt__» ⟨[.ref a, .ref b], []⟩) P E s := by
  show wpAny _ _ (isInstance (.ref b) (.type "tuple") >>= _) _ _ s
  refine wpAny_bind (wpAny_isInstance hTb isSubtype_tuple_tuple ?_)
  simp only [Bool.not_true, Bool.false_eq_true, if_false]
  refine wpAny_bind (wpAny_tupleItemsOf hoa hda ?_)
  refine wpAny_bind (wpAny_tupleItemsOf hob hdb ?_)
  refine wpAny_bind ?_
  refine wpAny_forIn_list _
    (fun rest r s' => s' = s ∧ ((r.1 = none ∧ ∃ x' y' xs' ys', rest = List.zip xs' ys' ∧ IntsAre xs' x' ∧ IntsAre ys' y' ∧ lexLt x' y' = lexLt ns ms ∧ (decide (xs'.length < ys'.length)) = decide (xs.size < ys.size)) ∨ (rest = [] ∧ r.1 = some (.done (.ret (.bool (lexLt ns ms)))))))
    _ ?_ ?_ _ _ ⟨rfl, .inl ⟨rfl, ns, ms, xs.toList, ys.toList, rfl, ia, ib, rfl, by simp⟩⟩
  · rintro ⟨u, v⟩ rest r s' ⟨rfl, ⟨hr, x', y', xs', ys', hz, hx', hy', hlex, hlen⟩ | ⟨hr, _⟩⟩
    · cases hx' with
      | nil => simp at hz
      | @cons k1 t1 xs'' x'' hx'' =>
        cases hy' with
        | nil => simp at hz
        | @cons k2 t2 ys'' y'' hy'' =>
          simp only [List.zip_cons_cons, List.cons.injEq, Prod.mk.injEq] at hz
          obtain ⟨⟨rfl, rfl⟩, rfl⟩ := hz
          refine wpAny_bind (wpAny_eqBool_int ?_)
          by_cases hk : k1 = k2
          · subst hk
            simp only [beq_self_eq_true, Bool.not_true, Bool.false_eq_true, if_false]
            refine wpAny_pure ⟨rfl, .inl ⟨rfl, _, _, _, _, rfl, hx'', hy'', ?_, ?_⟩⟩
            · rw [← hlex]; simp [lexLt]
            · simpa using hlen
          · have hb : (k1 == k2) = false := beq_eq_false_iff_ne.mpr hk
            rw [hb]
            simp only [Bool.not_false, if_true]
            have hl : lexLt ns ms = decide (k1 < k2) := by rw [← hlex]; simp [lexLt, hk]
            refine wpAny_bind (wpAny_rule ?_)
            refine wpAny_bind (show wpAny _ _ (compareOp .Lt _ _) _ _ _ from PySem.P.lt_int ?_)
            refine wpAny_bind (wpAny_pure (wpAny_pure ?_))
            show wpAny _ _ (pure _) _ _ _
            exact wpAny_pure (by rw [← hl]; exact h)
    · cases hr
  · rintro ⟨r1, r2⟩ s' ⟨rfl, hr⟩
    rcases hr with ⟨hr, x', y', xs', ys', hz, hx', hy', hlex, hlen⟩ | ⟨_, hr⟩
    · simp only at hr
      subst hr
      refine wpAny_pure ?_
      have hfin : decide (xs.size < ys.size) = lexLt ns ms := by
        rw [← hlex, ← hlen]
        cases hx' with
        | nil => rw [lexLt_nil_left, hy'.length]; rfl
        | cons _ _ _ =>
          cases hy' with
          | nil => simp [lexLt]
          | cons _ _ _ => simp at hz
      show P (.done (.ret (.bool (decide (xs.size < ys.size))))) s'
      rw [hfin]; exact h
    · simp only at hr
      subst hr
      exact wpAny_pure h
theorem tup_lt {a b : Addr} {xs ys : List Value} {ka kb : Nat} {ns ms : List Int} {Q : Value → Shared → Prop} (N : News h₀ L s.heap news) (ha : (a, tupN xs ka) ∈ news) (hb : (b, tupN ys kb) ∈ news) (ia : IntsAre xs ns) (ib : IntsAre ys ms) (hu : A.units < cLine)
    (h : Q (.bool (lexLt ns ms)) s) : wpAny (model prog w) A (compareOp .Lt (.ref a) (.ref b)) Q E s := by
  have ea := (N _ ha).1
  have eb := (N _ hb).1
  have Ta : s.TypeIs (.ref a) "tuple" := ⟨_, ea, rfl⟩
  have Tb : s.TypeIs (.ref b) "tuple" := ⟨_, eb, rfl⟩
  exact wpAny_richCompare_same_room (op := .Lt) Ta Tb F.slot_tuple_lt
    (wpAny_call_entry F.slot_tuple_lt Ta F.entry_tuple_lt (tuple_lt_tree ea rfl eb rfl Tb ia ib ⟨_, rfl, (fun e => nomatch e), h⟩) (F.args_tuple_lt_2 _ _)) hu
end
end
-- DictOne
section
theorem kr_DictOne : True := by
  k_with_none
  w_top off
  trivial
open PySem PySem.W PyProof.Rows PySem.Calls PySem.Spec
open PyProof.Rows.LCg
section
variable {prog : Program} {w : World} {A : Around} {E : Value → Shared → Prop} {s : Shared} {h₀ : Heap} {L : Addr} {m : Str → Option Value} {env : Env} {news : List (Addr × Obj)} {Q : Value → Shared → Prop}
noncomputable def OneEnd (knd : KeyKind prog w PySem.Str) (h₀ : Heap) (L : Addr) (m : Str → Option Value) (s : Shared) (D : Addr) (Q : Value → Shared → Prop) (kv vv : Value) (s₂ : Shared) : Prop :=
  ∃ kk h' tk' nw, s₂ = { s with heap := h', toks := tk' } ∧ knd.is kk kv = true ∧ Fr h₀ L h' m ∧ News h₀ L h' ((D, dct0) :: nw) ∧ (∀ p ∈ nw, p.1 ≠ D) ∧
    ∀ h'' oD, Fr h₀ L h'' m → News h₀ L h'' ((D, oD) :: nw) → oD.IsDictOf knd [(kk, vv)] → Q (.ref D) { s with heap := h'', toks := tk' + 1 }
theorem OneEnd.intro {knd : KeyKind prog w PySem.Str} {D : Addr} {kv vv : Value} {kk : PySem.Str} {h' : Heap} {tk' : Nat} {all : List (Addr × Obj)} (hk : knd.is kk kv = true) (F : Fr h₀ L h' m) (N : News h₀ L h' all) (nw : List (Addr × Obj)) (sub : ∀ p ∈ (D, dct0) :: nw, p ∈ all) (off : ∀ p ∈ nw, p.1 ≠ D)
    (h : ∀ h'' oD, Fr h₀ L h'' m → News h₀ L h'' ((D, oD) :: nw) → oD.IsDictOf knd [(kk, vv)] → Q (.ref D) { s with heap := h'', toks := tk' + 1 }) : OneEnd knd h₀ L m s D Q kv vv { s with heap := h', toks := tk' } :=
  ⟨kk, h', tk', nw, rfl, hk, F, fun p hp => N p (sub p hp), off, h⟩
theorem lo_of {w : World} {h₀ h : Heap} {L D : Addr} {m : Str → Option Value} (X : (Mine.hA.heap_1_39 w.params).In h₀) (F : Fr h₀ L h m) (hD : @LT.lt Nat _ L D) : (D == sysModules) = false := by
  have e : h₀.get? cStatics = some { cls := Value.none, data := Data.dict #[] } := X 2 _ rfl
  have h2 : 2 < h₀.objs.size := Heap.lt_size e
  have h3 := F.above
  have h4 : @LT.lt Nat _ 2 L := Nat.lt_of_lt_of_le h2 h3
  refine beq_eq_false_iff_ne.mpr fun q => ?_
  rw [q] at hD
  have : @LT.lt Nat _ 2 1 := Nat.lt_trans h4 hD
  omega
theorem dict_one (knd : KeyKind prog w PySem.Str) (F : Fr h₀ L s.heap m) (N : News h₀ L s.heap news) {k v : Expr} {pos : Pos}
    (h : ∀ D h₁, Fr h₀ L h₁ m → News h₀ L h₁ ((D, dct0) :: news) → (∀ p ∈ news, p.1 < D) → @LT.lt Nat _ L D → wpAny (model prog w) A (eval k env) (fun kv s₁ => wpAny (model prog w) A (eval v env) (OneEnd knd h₀ L m s D Q kv) E s₁) E { s with heap := h₁ }) :
    wpAny (model prog w) A (eval (.Dict [some k] [v] pos) env) Q E s := by
  refine wpAny_Dict_walk (knd := knd) rfl rfl (by simp) (show 1 ≤ 15 by decide) ?_
  refine pairTrees_cons_walk (wpAny_mono (h s.heap.objs.size _ (F.push dct0) (News.push F N dct0) (fun p hp => Heap.lt_size (N p hp).1) F.ns.lt) (fun kv s₁ h₁ => wpAny_mono h₁ (fun vv s₂ h₂ => pairTrees_nil_walk ?_) fun _ _ e => e) fun _ _ e => e)
  obtain ⟨kk, h', tk', nw, rfl, hk, F', N', off, fin⟩ := h₂
  have zD := N' _ List.mem_cons_self
  refine ⟨[(kk, vv)], ⟨hk, rfl, trivial⟩, Heap.dictOf_iff.mpr ⟨dct0, zD.1, dct0_is knd⟩, fun h'' hd hs => ?_⟩
  obtain ⟨oD, e, hoD⟩ := Heap.dictOf_iff.mp hd
  refine fin h'' oD (F'.change hs zD.2.1 zD.2.2) (fun p hp => ?_) hoD
  rcases List.mem_cons.mp hp with rfl | hp
  · exact ⟨e, zD.2⟩
  · have z := N' p (List.mem_cons_of_mem _ hp)
    exact ⟨hs.extBut _ _ (off p hp) z.1, z.2⟩
end
end
-- Loop4
section
theorem kr_Loop4 : True := by
  k_with_none
  w_top off
  trivial
open PySem PySem.W PyProof.Rows PySem.Calls PySem.Spec
open PyProof.Rows.LCg
section
variable {prog : Program} {w : World} {A : Around} {E : Value → Shared → Prop} {s s₁ : Shared} {h₀ : Heap} {m : Str → Option Value} {env : Env} {target : Expr} {body orelse : List Stmt} {Q : Flow → Shared → Prop} {news : List (Addr × Obj)}

noncomputable def KTurn (prog : Program) (w : World) (A : Around) (h₀ : Heap) (env : Env) (target : Expr) (body : List Stmt) (s : Shared) (Q : Flow → Shared → Prop)
    (J' : Nat → (Str → Option Value) → List (Addr × Obj) → Prop) (I : Addr) (v : Value) (m : Str → Option Value) (news : List (Addr × Obj)) : Prop :=
  ∀ oI h tk, oI.cls = .type "range_iterator" → Fr h₀ env.locals h m → News h₀ env.locals h ((I, oI) :: news) → (∀ p ∈ news, p.1 ≠ I) → s.toks ≤ tk →
    wpAny (model prog w) A (assign target env v) (fun _ s₃ => wpAny (model prog w) A (execs body env) (TEnd h₀ env.locals s I oI J' Q) (fun _ _ => False) s₃) (fun _ _ => False) { s with heap := h, toks := tk }

inductive KSrc (prog : Program) (w : World) (A : Around) (h₀ : Heap) (env : Env) (target : Expr) (body orelse : List Stmt) (Q : Flow → Shared → Prop) (it : Value) (s₂ : Shared) : Prop
  | mk (I : Addr) (fp : List Addr) (n : Nat) (P : Nat → Value → Prop) (St : Nat → Heap → Prop) (m : Str → Option Value) (news : List (Addr × Obj)) (J : Nat → Nat → (Str → Option Value) → List (Addr × Obj) → Prop)
    (x1 : it = .ref I)
    (x2 : Walks prog w A I fp [I] n P St)
    (x3 : (∀ i h, St i h → ∃ o, h.get? I = some o ∧ o.cls = .type "range_iterator"))
    (x4 : (∀ i h h' o nw, St i h → h.get? I = some o → h'.get? I = some o → (∀ b o, h₀.get? b = some o → h'.get? b = some o) → News h₀ env.locals h' nw → St i h'))
    (x5 : (∀ i v (s' : Shared) (Q : Unit → Shared → Prop) (E' : Value → Shared → Prop), St (i + 1) s'.heap → P i v → Q () s' → wpAny (model prog w) A (letOwnedTupleGo target (.ref I) v) Q E' s'))
    (x6 : St 0 s₂.heap)
    (x7 : Fr h₀ env.locals s₂.heap m)
    (x8 : News h₀ env.locals s₂.heap news)
    (x9 : env.locals ≠ I)
    (x10 : h₀.get? I = none)
    (x11 : (∀ p ∈ news, p.1 ≠ I))
    (x12 : J 0 s₂.toks m news)
    (x13 : (∀ i v m₁ news' tk₀, i < n → P i v → J i tk₀ m₁ news' → s₂.toks ≤ tk₀ → KTurn prog w A h₀ env target body { s₂ with toks := tk₀ } Q (J (i + 1)) I v m₁ news'))
    (x14 : ∀ m₁ news' h tk tk₀, J n tk₀ m₁ news' → Fr h₀ env.locals h m₁ → News h₀ env.locals h news' → (∀ p ∈ news', p.1 ≠ I) → s₂.toks ≤ tk₀ → tk₀ ≤ tk → wpAny (model prog w) A (execs orelse env) Q (fun _ _ => False) { s₂ with heap := h, toks := tk }) : KSrc prog w A h₀ env target body orelse Q it s₂

theorem forKG {iter : Expr} {pos : Pos} (h : wpAny (model prog w) A (eval iter env) (fun xv s₁ => wpAny (model prog w) A (pyIter xv) (KSrc prog w A h₀ env target body orelse Q) E s₁) E s)
    (hs : ∀ x, foldedSetIterable iter env x = pure x := by intro _; rfl) :
    wpAny (model prog w) A (exec (.For target iter body orelse pos) env) Q E s := by
  refine wpAny_For (wpAny_mono h (fun xv s₁ h₁ => wpAny_mono h₁ (fun it s₂ h₂ => ?_) fun _ _ e => e) fun _ _ e => e) hs
  obtain ⟨I, fp, n, P, St, m, news, J, rfl, W, hIo, hSt, hlet, hst, F, N, hLI, hI₀, off, hJ, step, done⟩ := h₂
  refine codeAny_loop' rfl
    (TInv h₀ env.locals s₂ I n St J) ?_ (n + 1)
    ⟨s₂.heap, s₂.toks, 0, m, news, rfl, Nat.le_refl _, Nat.zero_le _, rfl, hst, F, N, off, hJ⟩
  rintro k s' ⟨h', tk, i, m', news', rfl, tle, hi, rfl, hst', F', N', off', hJ'⟩
  show wpAny _ A ((forTurn target (.ref I) body orelse env).onRaise (fun x => do noteFrame x env; theTreesLotGoes x)) _ _ _
  refine wpAny_noted (wpAny_noRaise ?_)
  simp only [forTurn]
  refine wpAny_bind (wpAny_standAt (wpAny_bind (wpAny_onRaise (wpAny_mono (E := fun _ _ => False) ?_ (fun _ _ x => x) fun _ _ x => x.elim))))
  by_cases hlt : i < n
  · refine wpAny_toks (W.item i _ _ _ hlt hst' fun v h₂ tk₂ hPv hst₂ hk₂ tle₀ => ?_)
    have tle₂ := Nat.le_trans tle tle₀
    obtain ⟨oI, heI, hKI⟩ := hIo _ _ hst₂
    have F₂ := fr_but F' hk₂ hLI hI₀
    have N₂ : News h₀ env.locals h₂ ((I, oI) :: news') := fun p hp => by
      rcases List.mem_cons.mp hp with rfl | hp
      · exact ⟨heI, Ne.symm hLI, hI₀⟩
      · exact (news_but N' hk₂ off') p hp
    refine wpAny_toks ?_
    refine wpAny_bind (hlet i v _ _ _ hst₂ hPv ?_)
    refine wpAny_bind (wpAny_mono (step i v m' news' tk hlt hPv hJ' tle oI h₂ tk₂ hKI F₂ N₂ off' tle₀) (fun _ s₃ h₃ => wpAny_bind (wpAny_mono h₃ (fun f s₄ h₄ => ?_) fun _ _ e => e.elim)) fun _ _ e => e.elim)
    have fin : tk₂ ≤ s₄.toks → TFin h₀ env.locals { s₂ with toks := tk } I oI (J (i + 1)) s₄ → ∃ k, k < n + 1 - i ∧ TInv h₀ env.locals s₂ I n St J k s₄ := by
      rintro tle₃ ⟨h₅, tk₅, m₅, news₅, rfl, F₅, N₅, off₅, hJ₅⟩
      have zI := (N₅ (I, oI) List.mem_cons_self).1
      have N₅' : News h₀ env.locals h₅ news₅ := fun p hp => N₅ p (List.mem_cons_of_mem _ hp)
      exact ⟨n + 1 - (i + 1), turn_lt hlt, h₅, tk₅, i + 1, m₅, news₅, rfl, Nat.le_trans tle₂ tle₃, hlt, rfl, hSt _ _ _ _ _ hst₂ heI zI F₅.keep N₅', F₅, N₅', off₅, hJ₅⟩
    cases f with
    | next => exact wpAny_pure fun t => .inl ⟨rfl, fin t h₄⟩
    | cont => exact wpAny_pure fun t => .inl ⟨rfl, fin t h₄⟩
    | brk => exact wpAny_pure fun _ => h₄
    | ret v => exact wpAny_pure fun _ => h₄
  · obtain rfl : i = n := Nat.le_antisymm hi (Nat.not_lt.mp hlt)
    refine wpAny_toks (W.done _ _ _ hst' fun h₂ tk₂ hk₂ tle₂ => ?_)
    refine wpAny_pure (.inr ⟨rfl, codeAny_block ?_⟩)
    exact wpAny_mono (done m' news' h₂ tk₂ tk hJ' (fr_but F' hk₂ hLI hI₀) (news_but N' hk₂ off') off' tle tle₂) (fun _ _ x => x) fun _ _ x => x.elim

theorem forK {iter : Expr} {pos : Pos} {L₀ : Addr} {hh : Heap} {m₀ : Str → Option Value} (_F : Fr h₀ L₀ hh m₀) (h : wpAny (model prog w) A (eval iter env) (fun xv s₁ => wpAny (model prog w) A (pyIter xv) (KSrc prog w A h₀ env target body orelse Q) E s₁) E s)
    (hs : ∀ x, foldedSetIterable iter env x = pure x := by intro _; rfl) :
    wpAny (model prog w) A (exec (.For target iter body orelse pos) env) Q E s := forKG h hs

theorem ksrc_range {r : Addr} {a b : Int} {t u v : Tok} {n : Nat} (J : Nat → Nat → (Str → Option Value) → List (Addr × Obj) → Prop) (hh : A.handled = none) (F : Fr h₀ env.locals s₁.heap m) (N : News h₀ env.locals s₁.heap news)
    (hr : IsRange s₁.heap r a b 1 t u v) (hsm : Builtin.Range.small a b 1 = true) (hn : Builtin.Range.rangeSize a b 1 = ((n : Nat) : Int)) (hlet : ∃ x px, target = .Name x px) (hJ : J 0 s₁.toks m news)
    (step : ∀ i t m₁ news' g I tk₀, i < n → J i tk₀ m₁ news' → s₁.toks ≤ tk₀ → KTurn prog w A h₀ env target body { s₁ with heap := g, toks := tk₀ } Q (J (i + 1)) I (.int (a + (i : Int)) t) m₁ news')
    (done : ∀ m₁ news' h tk tk₀, J n tk₀ m₁ news' → Fr h₀ env.locals h m₁ → News h₀ env.locals h news' → s₁.toks ≤ tk₀ → tk₀ ≤ tk → wpAny (model prog w) A (execs orelse env) Q (fun _ _ => False) { s₁ with heap := h, toks := tk }) :
    wpAny (model prog w) A (pyIter (.ref r)) (KSrc prog w A h₀ env target body orelse Q) E s₁ := by
  obtain ⟨x, px, rfl⟩ := hlet
  refine wpAny_pyIter_range hr hsm ?_
  refine ⟨s₁.heap.objs.size, [s₁.heap.objs.size], n, _, _, m, news, J, rfl, range_walks hh a n, fun i h st => ⟨_, st, rfl⟩, fun i h h' o nw a1 a2 a3 a4 a5 => range_st (h₀ := h₀) (L := env.locals) i h h' o nw a1 a2 a3 a4 a5 trivial, fun i v s' Q E' _ _ q => let_name q,
    by show IsRangeIter _ _ _ _ _; rw [hn]; simpa using Heap.get?_push_size _ rfl, F.keeps fun _ _ e => Heap.get?_push_of_some _ e, N.grown fun _ _ e => Heap.get?_push_of_some _ e, Nat.ne_of_lt F.ns.lt, next_is_new F,
    fun p hp => Nat.ne_of_lt (Heap.lt_size (N p hp).1), hJ, ?_, fun m₁ news' h tk tk₀ hJ' F' N' _ t t' => done m₁ news' h tk tk₀ hJ' F' N' t t'⟩
  rintro i v m₁ news' tk₀ hi ⟨t, rfl⟩ hJ' tl
  exact step i t m₁ news' _ _ tk₀ hi hJ' tl

theorem KTurn.name {x : Str} {px : Pos} {s : Shared} {J' : Nat → (Str → Option Value) → List (Addr × Obj) → Prop} {I : Addr} {v : Value} (hx : env.kindOf x = some .local)
    (hp : (env.scope.kind == .class || (env.scope.kind == .module && env.locals != env.globals)) = false)
    (h : ∀ oI h tk, oI.cls = .type "range_iterator" → Fr h₀ env.locals h (upd m x v) → News h₀ env.locals h ((I, oI) :: news) → (∀ p ∈ news, p.1 ≠ I) → s.toks < tk →
      wpAny (model prog w) A (execs body env) (TEnd h₀ env.locals s I oI J' Q) (fun _ _ => False) { s with heap := h, toks := tk }) :
    KTurn prog w A h₀ env (.Name x px) body s Q J' I v m news := by
  intro oI hp' tk hKI F N off tle
  refine wpAny_assign_Name (wpAny_storeName_local hx F.ns (fun h₂ hn₂ hs₂ => ?_) hp)
  exact h oI h₂ _ hKI (F.set hn₂ hs₂) (N.set hs₂) off (Nat.lt_succ_of_le tle)
end
end
-- Zip1
section
open PySem PySem.W PyProof.Rows PySem.Calls PySem.Spec
open PyProof.Rows.LCg
section
variable {prog : Program} {w : World} {A : Around} {E : Value → Shared → Prop} {s : Shared} {h₀ : Heap} {L : Addr} {m : Str → Option Value} {env : Env}

noncomputable def ZFin (s₂ : Shared) (h : Heap) (P : Nat → Value → Prop) (i : Nat) (y : Value) (s' : Shared) : Prop := (∃ tk', s' = { s₂ with heap := h, toks := tk' }) ∧ P i y
noncomputable def ZElt (prog : Program) (w : World) (A : Around) (h₀ : Heap) (L : Addr) (m : Str → Option Value) (env : Env) (elt : Expr) (x x₂ : Str) (scope : Scope) (cl : List (Str × Addr)) (s₂ : Shared) (n : Nat) (Pt : Nat → Array Value → Prop) (P : Nat → Value → Prop) (base : List (Addr × Obj)) : Prop :=
  ∀ i v₁ v₂ C oC m₁ (own : List (Addr × Obj)) D ys h tk (E' : Value → Shared → Prop), i < n → Pt i #[v₁, v₂] → NsObj oC m₁ → m₁ x = some v₁ → m₁ x₂ = some v₂ → Fr h₀ L h m → News h₀ L h ((C, oC) :: (D, lst ys) :: (own ++ base)) →
    wpAny (model prog w) A (eval elt (compEnvC scope cl C env)) (ZFin s₂ h P i) E' { s₂ with heap := h, toks := tk }

inductive ZInv (s₂ : Shared) (C D : Addr) (n : Nat) (St : Nat → Heap → Prop) (h₀ : Heap) (L : Addr) (m : Str → Option Value) (base : List (Addr × Obj)) (P : Nat → Value → Prop) (k : Nat) (s' : Shared) : Prop
  | mk (h' : Heap) (tk i : Nat) (ys : List Value) (oC' : Obj) (m' : Str → Option Value)
    (x1 : s' = { s₂ with heap := h', toks := tk })
    (x2 : i ≤ n)
    (x3 : k = n + 1 - i)
    (x4 : St i h')
    (x5 : Fr h₀ L h' m)
    (x6 : NsObj oC' m')
    (x7 : News h₀ L h' ((C, oC') :: (D, lst ys) :: base))
    (x8 : ys.length = i)
    (x9 : ∀ j y, ys[j]? = some y → P j y) : ZInv s₂ C D n St h₀ L m base P k s'
theorem coreZ {elt iter : Expr} {x x₂ : Str} {px px₂ tp : Pos} {tk0} {scope : Scope} {cl : List (Str × Addr)} {pos : Pos} {s₂ : Shared} {I D C : Addr} {oC : Obj} {mC : Str → Option Value} {fp wr : List Addr} {n : Nat} {Pt : Nat → Array Value → Prop} {St : Nat → Heap → Prop} {Mid : Nat → Addr → Heap → Prop} {base : List (Addr × Obj)} {R : Result → Shared → Prop} (P : Nat → Value → Prop)
    (W : WalksU prog w A I fp wr n Pt St Mid) (hPt : ∀ i vals, Pt i vals → ∃ v₁ v₂, vals = #[v₁, v₂]) (hsz : n ≤ 100) (hh : A.handled = none) (hkind : scope.kind = .function) (hx : scope.names.lookup x = some .local) (hx₂ : scope.names.lookup x₂ = some .local) (hxx : x ≠ x₂)
    (hst : St 0 s₂.heap) (F : Fr h₀ L s₂.heap m) (N : News h₀ L s₂.heap ((C, oC) :: (D, lst []) :: base)) (hC : NsObj oC mC)
    (hfp : ∀ b ∈ fp, b ≠ C ∧ b ≠ D) (hwr : ∀ b ∈ wr, b ≠ L ∧ h₀.get? b = none ∧ ∀ p ∈ base, p.1 ≠ b) (hDC : D ≠ C) (hb : ∀ p ∈ base, p.1 ≠ C ∧ p.1 ≠ D)
    (helt : ZElt prog w A h₀ L m env elt x x₂ scope cl s₂ n Pt P base)
    (fin : ∀ h tk oC' m' ys, Fr h₀ L h m → News h₀ L h ((C, oC') :: (D, lst ys) :: base) → NsObj oC' m' → ys.length = n → (∀ i y, ys[i]? = some y → P i y) → R (.ok .next) { s₂ with heap := h, toks := tk }) :
    codeAny (model prog w) A (.compLoop (.ListComp elt [⟨.Tuple [.Name x px, .Name x₂ px₂] tk0 tp, iter, [], 0⟩] scope pos) 0 (.ref I) (.ref D) (compEnvC scope cl C env)) R s₂ := by
  refine LCp.codeAny_compLoop_pair
    (ZInv s₂ C D n St h₀ L m base P) ?_ (n + 1)
    ⟨s₂.heap, s₂.toks, 0, [], oC, mC, rfl, Nat.zero_le _, rfl, hst, F, hC, N, rfl, fun j y h => by simp at h⟩
  rintro k s' ⟨h', tk, i, ys, oC', m', rfl, hi, rfl, hst', F', hC', N', hyl, hys⟩
  have nwr : ∀ p ∈ (C, oC') :: (D, lst ys) :: base, p.1 ∉ wr := fun p hp hw => by
    rcases List.mem_cons.mp hp with rfl | hp
    · exact (hfp _ (W.sub _ hw)).1 rfl
    · rcases List.mem_cons.mp hp with rfl | hp
      · exact (hfp _ (W.sub _ hw)).2 rfl
      · exact (hwr _ hw).2.2 p hp rfl
  have oldF : ∀ {h h'' : Heap}, Fr h₀ L h m → (∀ b o, b ∉ wr → h.get? b = some o → h''.get? b = some o) → Fr h₀ L h'' m := fun {h h''} F hk =>
    ⟨F.ns.at fun o e => hk L o (fun hw => (hwr L hw).1 rfl) e, fun b o e => hk b o (fun hw => by rw [(hwr b hw).2.1] at e; cases e) (F.keep b o e), F.above⟩
  by_cases hlt : i < n
  · refine W.item i _ _ _ hlt hst' fun T vals h₂ tk₂ hP₂ hT₂ hM₂ hk₂ => ?_
    refine W.go _ _ _ i T _ _ _ hM₂ fun h₃ hst₃ hk₃ => ?_
    dsimp only at hst₃ hk₃ ⊢
    obtain ⟨v₁, v₂, rfl⟩ := hPt _ _ hP₂
    have F₃ : Fr h₀ L h₃ m := oldF (oldF F' hk₂) hk₃
    have N₃ : News h₀ L h₃ ((C, oC') :: (D, lst ys) :: base) := fun p hp => ⟨hk₃ _ _ (nwr p hp) (hk₂ _ _ (nwr p hp) (N' p hp).1), (N' p hp).2⟩
    have zC := N₃ (C, oC') List.mem_cons_self
    have zD := N₃ (D, lst ys) (List.mem_cons_of_mem _ List.mem_cons_self)
    have ht : IsTup h₃ T #[v₁, v₂] := by
      obtain ⟨o, e, c, k, d⟩ := hT₂
      exact ⟨o, hk₃ _ _ (W.apart _ _ _ hM₂) e, c, k, d⟩
    refine assign_Tuple_tuple hh ht rfl rfl fun h₅ he => ?_
    have he' : ∀ b o, h₃.get? b = some o → h₅.get? b = some o := fun b o e => he b o (Nat.ne_of_lt (Heap.lt_size e)) e
    refine assignInOrder_cons (wpAny_assign_Name (wpAny_storeName_local (lookup_relabel_local hx) ((hC'.ns zC.1).at' fun o e => he' _ o e) (fun h₆ hn₆ hs₆ => ?_) (by simp [compEnvC, relabel, hkind])))
    refine assignInOrder_cons (wpAny_assign_Name (wpAny_storeName_local (lookup_relabel_local hx₂) hn₆ (fun h₇ hn₇ hs₇ => ?_) (by simp [compEnvC, relabel, hkind])))
    refine assignInOrder_nil ?_
    have old7 : ∀ b o, b ≠ C → h₃.get? b = some o → h₇.get? b = some o := fun b o hb e => hs₇.extBut b o hb (hs₆.extBut b o hb (he' b o e))
    have hst₇ : St (i + 1) h₇ := W.frame _ _ _ hst₃ fun b hb o e => old7 b o (hfp b hb).1 e
    obtain ⟨oC₇, heC, hoC⟩ := ns_obj hn₇
    have F₇ : Fr h₀ L h₇ m := ((F₃.keeps he').change hs₆ zC.2.1 zC.2.2).change hs₇ zC.2.1 zC.2.2
    have N₇ : News h₀ L h₇ ((C, oC₇) :: (D, lst ys) :: ([] ++ base)) := fun p hp => by
      rcases List.mem_cons.mp hp with rfl | hp
      · exact ⟨heC, zC.2⟩
      · have z := N₃ p (List.mem_cons_of_mem _ hp)
        refine ⟨old7 _ _ ?_ z.1, z.2⟩
        rcases List.mem_cons.mp hp with rfl | hp
        · exact hDC
        · exact (hb p hp).1
    refine wpAny_mono (helt i v₁ v₂ C oC₇ _ [] D ys h₇ _ _ hlt hP₂ hoC (by simp [hxx]) (by simp) F₇ N₇) (fun y s₄ h₄ => ?_) fun _ _ e => e
    obtain ⟨⟨tk₄, rfl⟩, hy⟩ := h₄
    have zD₇ := N₇ (D, lst ys) (List.mem_cons_of_mem _ List.mem_cons_self)
    refine append_at (hsz := by show ys.toArray.size ≤ sizeLine; rw [List.size_toArray, hyl, sizeLine_eq]; omega) zD₇.1 fun h₈ hs₈ hD₈ => ?_
    refine ⟨n + 1 - (i + 1), turn_lt hlt, h₈, tk₄, i + 1, ys ++ [y], oC₇, _, rfl, hlt, rfl, W.frame _ _ _ hst₇ fun b hbf o e => hs₈.extBut b o (hfp b hbf).2 e, F₇.change hs₈ zD.2.1 zD.2.2, hoC, fun p hp => ?_, by simp [hyl], fun j y' hj => ?_⟩
    · rcases List.mem_cons.mp hp with rfl | hp
      · exact ⟨hs₈.extBut _ _ (Ne.symm hDC) heC, zC.2⟩
      · rcases List.mem_cons.mp hp with rfl | hp
        · exact ⟨hD₈.trans (congrArg some (lst_snoc ys y)), zD.2⟩
        · have z := N₇ p (List.mem_cons_of_mem _ (List.mem_cons_of_mem _ hp))
          exact ⟨hs₈.extBut _ _ (hb p hp).2 z.1, z.2⟩
    · rcases Nat.lt_trichotomy j i with q | q | q
      · rw [List.getElem?_append_left (by omega)] at hj; exact hys j y' hj
      · subst q
        rw [List.getElem?_append_right (by omega), hyl, Nat.sub_self] at hj
        cases hj; exact hy
      · rw [List.getElem?_eq_none (by simp [hyl]; omega)] at hj; cases hj
  · obtain rfl : i = n := Nat.le_antisymm hi (Nat.not_lt.mp hlt)
    refine W.done _ _ _ hst' fun h₂ tk₂ hk₂ => ?_
    exact fin h₂ tk₂ oC' m' ys (oldF F' hk₂) (fun p hp => ⟨hk₂ _ _ (nwr p hp) (N' p hp).1, (N' p hp).2⟩) hC' hyl hys

inductive ZSrc (prog : Program) (w : World) (A : Around) (h₀ : Heap) (L : Addr) (m : Str → Option Value) (env : Env) (elt : Expr) (x x₂ : Str) (scope : Scope) (cl : List (Str × Addr)) (Q : Value → Shared → Prop) (xv : Value) (s₁ : Shared) : Prop
  | mk (z TI TO i1 i2 l1 l2 : Addr) (xs ys : List Value) (base : List (Addr × Obj)) (P : Nat → Value → Prop)
    (x1 : xv = .ref z)
    (x2 : A.handled = none)
    (x3 : ZipApart z TI TO i1 i2 l1 l2)
    (x4 : (IsZip s₁.heap z TI TO .none ∧ IsPair s₁.heap TI (.ref i1) (.ref i2) ∧ (∃ a b, IsPair s₁.heap TO a b) ∧ s₁.heap.IsListIter i1 l1 0 ∧ s₁.heap.IsListIter i2 l2 0 ∧ s₁.heap.IsList l1 xs.toArray ∧ s₁.heap.IsList l2 ys.toArray))
    (x5 : Fr h₀ L s₁.heap m)
    (x6 : News h₀ L s₁.heap base)
    (x7 : (∀ b ∈ [z, TO, i1, i2], b ≠ L ∧ h₀.get? b = none ∧ ∀ p ∈ base, p.1 ≠ b))
    (x8 : min xs.length ys.length ≤ 100)
    (x9 : (∀ g, ZElt prog w A h₀ L m env elt x x₂ scope cl { s₁ with heap := g } (min xs.length ys.length) (fun i vals => ∃ x y, xs.toArray[i]? = some x ∧ ys.toArray[i]? = some y ∧ vals = #[x, y]) P base))
    (x10 : ∀ h tk D zs, Fr h₀ L h m → News h₀ L h ((D, lst zs) :: base) → zs.length = min xs.length ys.length → (∀ i y, zs[i]? = some y → P i y) → Q (.ref D) { s₁ with heap := h, toks := tk }) : ZSrc prog w A h₀ L m env elt x x₂ scope cl Q xv s₁

theorem evalZ {elt iter : Expr} {x x₂ : Str} {px px₂ tp : Pos} {tk0} {scope : Scope} {cl : List (Str × Addr)} {pos : Pos} {Q : Value → Shared → Prop} (_F : Fr h₀ L s.heap m)
    (hclos : closureFor scope env = pure cl) (hcell : ∀ y ∈ scope.names, y.2 ≠ .cell) (hkind : scope.kind = .function)
    (hnames : ∀ y ∈ scope.names, y.2 = .local → scope.names.lookup y.1 = some .local) (hx : scope.names.lookup x = some .local) (hx₂ : scope.names.lookup x₂ = some .local) (hxx : x ≠ x₂)
    (h : wpAny (model prog w) A (eval iter env) (ZSrc prog w A h₀ L m env elt x x₂ scope cl Q) E s)
    (hs : ∀ x, foldedSetIterable iter env x = pure x := by intro _; rfl) :
    wpAny (model prog w) A (eval (.ListComp elt [⟨.Tuple [.Name x px, .Name x₂ px₂] tk0 tp, iter, [], 0⟩] scope pos) env) Q E s := by
  rw [eval_ListComp]
  refine wpAny_comprehension_free (use := none) rfl hs hclos hkind hnames (wpAny_mono h (fun xv s₁ h₁ => ?_) fun _ _ e => e)
  obtain ⟨z, TI, TO, i1, i2, l1, l2, xs, ys, base, P, rfl, hh, D0, hst, F, N, hwr, hsz, helt, fin⟩ := h₁
  have W := (WalksT.zip2 (prog := prog) (w := w) hh z TI TO i1 i2 l1 l2 D0 xs.toArray ys.toArray).toU
  refine W.self 0 _ _ _ hst ?_
  have hfpl : ∀ b ∈ [z, TI, TO, i1, i2, l1, l2], b < s₁.heap.objs.size := by
    obtain ⟨a1, a2, ⟨_, _, a3⟩, ⟨_, a4, _⟩, ⟨_, a5, _⟩, ⟨_, a6, _⟩, ⟨_, a7, _⟩⟩ := hst
    intro b hb
    simp only [List.mem_cons, List.mem_nil_iff, or_false] at hb
    rcases hb with rfl | rfl | rfl | rfl | rfl | rfl | rfl
    · exact Heap.lt_size a1
    · exact Heap.lt_size a2
    · exact Heap.lt_size a3
    · exact Heap.lt_size a4
    · exact Heap.lt_size a5
    · exact Heap.lt_size a6
    · exact Heap.lt_size a7
  refine wpAny_newObj_type (wpAny_newFunctionEnv hcell (by intro y hy; simp at hy) (fun h₁ hns₁ hsb₁ => ?_) hkind)
  dsimp only at hns₁ hsb₁ ⊢
  generalize hH2 : s₁.heap.push { cls := .type "list", dict := none, data := .seq ([] : List Value).toArray } = H2 at hns₁ hsb₁ ⊢
  have hC : H2.objs.size = s₁.heap.objs.size + 1 := by rw [← hH2, Heap.size_push]
  have hDC : s₁.heap.objs.size ≠ H2.objs.size := by rw [hC]; exact Nat.ne_of_lt (Nat.lt_succ_self _)
  have below : ∀ b, b < s₁.heap.objs.size → b ≠ H2.objs.size ∧ b ≠ s₁.heap.objs.size := fun b hb => ⟨by rw [hC]; exact Nat.ne_of_lt (Nat.lt_succ_of_lt hb), Nat.ne_of_lt hb⟩
  have old : ∀ b o, s₁.heap.get? b = some o → h₁.get? b = some o := fun b o e => hsb₁.extBut b o (below b (Heap.lt_size e)).1 (Heap.get?_push_of_some _ (hH2 ▸ Heap.get?_push_of_some _ e))
  have hacc : h₁.get? s₁.heap.objs.size = some (lst []) := hsb₁.extBut _ _ hDC (Heap.get?_push_of_some _ (hH2 ▸ Heap.get?_push_size _ rfl))
  have fresh₀ : ∀ a, s₁.heap.objs.size ≤ a → h₀.get? a = none := fun a ha => by
    cases e : h₀.get? a with
    | none => rfl
    | some o' => exact absurd (Heap.lt_size (F.keep a o' e)) (Nat.not_lt.mpr ha)
  have hLlt : L < s₁.heap.objs.size := F.ns.lt
  obtain ⟨oC, heC, hoC⟩ := ns_obj hns₁
  have hst₁ := W.frame 0 _ h₁ hst fun b _ o e => old b o e
  have N₁ : News h₀ L h₁ ((H2.objs.size, oC) :: (s₁.heap.objs.size, lst []) :: base) := fun p hp => by
    rcases List.mem_cons.mp hp with rfl | hp
    · exact ⟨heC, Ne.symm (below L hLlt).1, fresh₀ _ (by rw [hC]; exact Nat.le_succ _)⟩
    · rcases List.mem_cons.mp hp with rfl | hp
      · exact ⟨hacc, Ne.symm (below L hLlt).2, fresh₀ _ (Nat.le_refl _)⟩
      · exact ⟨old _ _ (N p hp).1, (N p hp).2⟩
  have loop : ∀ s₃ : Shared, s₃ = { s₁ with heap := h₁, toks := s₁.toks + ([] : List (Str × Value)).length } →
      codeAny (model prog w) A (.compLoop (.ListComp elt [⟨.Tuple [.Name x px, .Name x₂ px₂] tk0 tp, iter, [], 0⟩] scope pos) 0 (.ref z) (.ref s₁.heap.objs.size) (compEnvC scope cl H2.objs.size env))
        (compPost (model prog w) A E none Q (.ref s₁.heap.objs.size) H2.objs.size) s₃ := by
    rintro s₃ rfl
    refine coreZ (s₂ := { s₁ with heap := h₁ }) P W (fun i vals h => by obtain ⟨a, b, _, _, e⟩ := h; exact ⟨a, b, e⟩) (by simpa using hsz) hh hkind hx hx₂ hxx hst₁ (F.keeps old) N₁ hoC (fun b hb => below b (hfpl b hb)) hwr hDC (fun p hp => below _ (Heap.lt_size (N p hp).1)) (by simpa using helt h₁) ?_
    intro h tk oC' m' zs F' N' hC' hzl hz
    have zC := N' (H2.objs.size, oC') List.mem_cons_self
    refine ⟨m', hC'.ns zC.1, fun h'' hs'' => fin h'' tk _ zs (F'.change hs'' zC.2.1 zC.2.2) (fun p hp => ?_) (by simpa using hzl) hz⟩
    have z := N' p (List.mem_cons_of_mem _ hp)
    refine ⟨hs''.extBut _ _ ?_ z.1, z.2⟩
    rcases List.mem_cons.mp hp with rfl | hp
    · exact hDC
    · exact (below _ (Heap.lt_size (N p hp).1)).1
  exact codeAny_compStart_list (loop _ rfl) (W.self 0 _ _ _ hst₁ (loop _ rfl))
end
end
section
local macro_rules | `(tactic| k_all) => `(tactic| assumption)
local macro_rules | `(tactic| k_mem) => `(tactic| assumption)
-- Fn3
section
theorem kr_Fn3 : True := by
  k_with_none
  w_top off
  trivial
open PySem PySem.W PyProof.Rows PySem.Calls
structure WsSt where
  b : Int
  n : Int
  nt : Int
  cs : List Int

noncomputable def wsTab (st : WsSt) : WsSt :=
  let cs := if (st.cs.length : Int) ≤ st.b then st.cs ++ List.replicate (st.b - st.cs.length + 1).toNat 0 else st.cs
  ⟨0, st.n + 1, st.nt + 1, cs.set st.b.toNat (cs.getD st.b.toNat 0 + 1)⟩

noncomputable def wsRun : List Nat → WsSt → WsSt
  | [], st => st
  | k :: l, st => if k = 32 then wsRun l ⟨st.b + 1, st.n + 1, st.nt, st.cs⟩ else if k = 9 then wsRun l (wsTab st) else st

inductive WsEx (x' : Addr) (d' : Addr) (od : Obj) (news : List (Addr × Obj)) (ok : WsSt → Prop) (m : Str → Option Value) (nw : List (Addr × Obj)) : Prop
  | mk (st : _) (cnt : _) (kk : _) (vs : _) (tb : _) (tn : _) (tnt : _)
    (x1 : IntsAre vs st.cs)
    (x2 : m (Str.ofString "b") = some (.int st.b tb))
    (x3 : m (Str.ofString "n") = some (.int st.n tn))
    (x4 : m (Str.ofString "nt") = some (.int st.nt tnt))
    (x5 : m (Str.ofString "count") = some (.ref cnt))
    (x6 : nw = (cnt, W.listOf vs.toArray kk) :: (x', instObj 263 d') :: (d', od) :: news)
    (x7 : cnt ≠ x')
    (x8 : cnt ≠ d')
    (x9 : (∀ p ∈ news, p.1 ≠ cnt))
    (x10 : ok st) : WsEx x' d' od news ok m nw

structure WsAt (x' d' : Addr) (od : Obj) (news : List (Addr × Obj)) (ok : WsSt → Prop) (m : Str → Option Value) (nw : List (Addr × Obj)) : Prop where
  ex : WsEx x' d' od news ok m nw
  S : ∃ t, m (Str.ofString "S") = some (.str (Str.ofString " ") t)
  T : ∃ t, m (Str.ofString "T") = some (.str (Str.ofString "\t") t)
  self : m (Str.ofString "self") = some (.ref x')

noncomputable def wsOk (all : List Nat) (i : Nat) (st : WsSt) : Prop := wsRun (all.drop i) st = wsRun all ⟨0, 0, 0, []⟩ ∧ 0 ≤ st.b ∧ st.b ≤ i ∧ 0 ≤ st.n ∧ st.n ≤ i ∧ 0 ≤ st.nt ∧ st.nt ≤ i ∧ st.cs.length ≤ i

theorem allLt_ne {d : Addr} : ∀ {l : List (Addr × Obj)}, AllLt d l → ∀ p ∈ l, p.1 ≠ d
  | [], _, _, h => nomatch h
  | _ :: _, x, p, h => by
    rcases List.mem_cons.mp h with rfl | h
    · exact Nat.ne_of_lt x.1
    · exact allLt_ne x.2 p h

theorem sgn_blank (c : Nat) : ((⟨#[c]⟩ : PySem.Str) == Str.ofString " ") = decide (c = 32) := by
  rw [show Str.ofString " " = (⟨#[32]⟩ : PySem.Str) from by decide +kernel]
  by_cases h : c = 32
  · subst h; decide
  · rw [decide_eq_false h]
    exact beq_eq_false_iff_ne.mpr fun q => h (by cases q; rfl)
theorem sgn_tab (c : Nat) : ((⟨#[c]⟩ : PySem.Str) == Str.ofString "\t") = decide (c = 9) := by
  rw [show Str.ofString "\t" = (⟨#[9]⟩ : PySem.Str) from by decide +kernel]
  by_cases h : c = 9
  · subst h; decide
  · rw [decide_eq_false h]
    exact beq_eq_false_iff_ne.mpr fun q => h (by cases q; rfl)
theorem drop_at {x : PySem.Str} {i c : Nat} (h : x.cps[i]? = some c) : x.cps.toList.drop i = c :: x.cps.toList.drop (i + 1) := by
  rw [← Array.getElem?_toList] at h
  obtain ⟨hi, rfl⟩ := List.getElem?_eq_some_iff.mp h
  exact List.drop_eq_getElem_cons hi

theorem ok_blank {x : PySem.Str} {i c : Nat} {st : WsSt} (hc : x.cps[i]? = some c) (q : ((⟨#[c]⟩ : PySem.Str) == Str.ofString " ") = true) (h : wsOk x.cps.toList i st) : wsOk x.cps.toList (i + 1) ⟨st.b + 1, st.n + 1, st.nt, st.cs⟩ := by
  rw [sgn_blank, decide_eq_true_eq] at q
  obtain ⟨h1, h2, h3, h4, h5, h6, h7, h8⟩ := h
  rw [drop_at hc, wsRun, if_pos q] at h1
  refine ⟨h1, ?_, ?_, ?_, ?_, ?_, ?_, ?_⟩ <;> dsimp only <;> omega
theorem ok_tab {x : PySem.Str} {i c : Nat} {st : WsSt} (hc : x.cps[i]? = some c) (q1 : ((⟨#[c]⟩ : PySem.Str) == Str.ofString " ") = false) (q : ((⟨#[c]⟩ : PySem.Str) == Str.ofString "\t") = true) (h : wsOk x.cps.toList i st) : wsOk x.cps.toList (i + 1) (wsTab st) := by
  rw [sgn_blank, decide_eq_false_iff_not] at q1
  rw [sgn_tab, decide_eq_true_eq] at q
  obtain ⟨h1, h2, h3, h4, h5, h6, h7, h8⟩ := h
  rw [drop_at hc, wsRun, if_neg q1, if_pos q] at h1
  refine ⟨h1, Int.le_refl _, by show (0 : Int) ≤ _; omega, ?_, ?_, ?_, ?_, ?_⟩
  · show 0 ≤ st.n + 1; omega
  · show st.n + 1 ≤ _; omega
  · show 0 ≤ st.nt + 1; omega
  · show st.nt + 1 ≤ _; omega
  · unfold wsTab
    split <;> simp only [List.length_set, List.length_append, List.length_replicate] <;> omega
theorem ok_break {x : PySem.Str} {i c : Nat} {st : WsSt} (hc : x.cps[i]? = some c) (q1 : ((⟨#[c]⟩ : PySem.Str) == Str.ofString " ") = false) (q : ((⟨#[c]⟩ : PySem.Str) == Str.ofString "\t") = false) (h : wsOk x.cps.toList i st) : st = wsRun x.cps.toList ⟨0, 0, 0, []⟩ := by
  rw [sgn_blank, decide_eq_false_iff_not] at q1
  rw [sgn_tab, decide_eq_false_iff_not] at q
  have h1 := h.1
  rw [drop_at hc, wsRun, if_neg q1, if_neg q] at h1
  exact h1
theorem ok_end {x : PySem.Str} {st : WsSt} (h : wsOk x.cps.toList x.cps.size st) : st = wsRun x.cps.toList ⟨0, 0, 0, []⟩ := by
  have h1 := h.1
  rw [List.drop_eq_nil_of_le (by simp)] at h1
  exact h1

inductive WsObj (nw : List (Addr × Obj)) (x : Addr) (st : WsSt) : Prop
  | mk (d : _) (h1 : _) (k1 : _) (v1 : _) (h2 : _) (k2 : _) (v2 : _) (h3 : _) (k3 : _) (tnt : _) (h4 : _) (k4 : _) (nm : _) (h5 : _) (k5 : _) (v5 : _) (ct : _) (vs : _) (tb : _)
    (x1 : (x, instObj 263 d) ∈ nw)
    (x2 : (d, dictOf [⟨h1, .str (Str.ofString "raw") k1, v1⟩, ⟨h2, .str (Str.ofString "n") k2, v2⟩, ⟨h3, .str (Str.ofString "nt") k3, .int st.nt tnt⟩, ⟨h4, .str (Str.ofString "norm") k4, .ref nm⟩, ⟨h5, .str (Str.ofString "is_simple") k5, v5⟩] 5) ∈ nw)
    (x3 : (nm, tupO [.ref ct, .int st.b tb]) ∈ nw)
    (x4 : (ct, tupO vs) ∈ nw)
    (x5 : IntsAre vs st.cs) : WsObj nw x st
theorem WsObj.mono {nw nw' : List (Addr × Obj)} {x : Addr} {st : WsSt} (h : WsObj nw x st) (hs : ∀ p ∈ nw, p ∈ nw') : WsObj nw' x st := by
  obtain ⟨d, h1, k1, v1, h2, k2, v2, h3, k3, tnt, h4, k4, nm, h5, k5, v5, ct, vs, tb, a, b, c, e, f⟩ := h
  exact ⟨d, h1, k1, v1, h2, k2, v2, h3, k3, tnt, h4, k4, nm, h5, k5, v5, ct, vs, tb, hs _ a, hs _ b, hs _ c, hs _ e, f⟩

theorem kw_659363_1 : True := by
  k_with "eval Name" => (k_here; k_dflt (refine' nameX_L (by k_asm) (by first | rfl | assumption) ?_ (by rfl) (by rfl); k_whole))
  k_with "loadName" => (k_here; k_dflt (refine' loadX_L (by k_asm) (by first | rfl | assumption) ?_ (by rfl) (by rfl); k_whole))
  k_with "storeName" => (k_here; k_dflt (refine' storeX_U (by k_asm) (by k_asm) ?_ (by rfl) (by rfl); k_whole); intro _ _ _; (try k_sweep))
  k_with "call type:tuple" => (k_here; (with_reducible show wpAny _ _ (call (Value.type _) [Value.ref _]) _ _ _); k_dflt (refine' kde_tupleOf (by k_asm) (by k_asm) (LL.is (by k_asm) (by k_mem)) (by (simp only [List.size_toArray]; omega)) rfl ?_; k_whole); intro D' h' F' N' l1'; (have l2' := allp_of l1'); (try k_lt l1'); revert D' h' F' N' l1'; intros)
  k_with "subscriptTail" => (k_here; (with_reducible show wpAny _ _ (subscriptTail _ _ (Value.ref _) (Value.int _ _)) _ _ _); k_dflt (refine' ksa_sub (by k_asm) (by k_mem) (by first | with_reducible assumption | exact IntsAre.append (by assumption) (ints_replicate _ _ _ rfl _)) (by ((try simp only [List.length_replicate, List.length_append, List.length_set]); omega)) (by ((try simp only [List.length_replicate, List.length_append, List.length_set]); omega)) (by ((try simp only [List.length_replicate, List.length_append, List.length_set]); omega)) ?_ (by with_unfolding_all rfl); k_whole); intro _)
  k_with "setItem ref int" => (k_here; (with_reducible show wpAny _ _ (setItem (Value.ref _) (Value.int _ _) (Value.int _ _)) _ _ _); k_dflt (refine' ksa_set (by k_asm) (by k_asm) (by k_upd) (by first | with_reducible assumption | exact IntsAre.append (by assumption) (ints_replicate _ _ _ rfl _)) (by ((try simp only [List.length_replicate, List.length_append, List.length_set]); omega)) (by ((try simp only [List.length_replicate, List.length_append, List.length_set]); omega)) (by ((try simp only [List.length_replicate, List.length_append, List.length_set]); omega)) ?_; k_whole); intro _ _ _ _ _ _)
  k_with "call builtin:len" => (k_here; (with_reducible show wpAny _ _ (call (Value.builtin "len") [Value.ref _]) _ _ _); k_dflt (refine' LL.len (by assumption) (by k_mem) (by first | assumption | omega) ?_; k_whole); intro _ _)
  k_with "binaryOp Add ref ref" => (k_here; (with_reducible show wpAny _ _ (binaryOp Operator.Add (Value.ref _) (Value.ref _)) _ _ _); k_dflt (refine' LL.add (by k_asm) (by k_asm) (by k_mem) (by k_mem) (by ((try simp only [List.length_replicate, List.length_append, List.length_cons, List.length_nil]); (try rw [sizeLine_eq]); omega)) ?_; k_whole); intro D' h' F' N' l1'; (have l2' := allp_of l1'); (try k_lt l1'); revert D' h' F' N' l1'; intros)
  k_with "binaryOp Mult ref int" => (k_here; (with_reducible show wpAny _ _ (binaryOp Operator.Mult (Value.ref _) (Value.int _ _)) _ _ _); k_dflt (refine' LL.rep (by k_asm) (by k_asm) (by k_mem) (by omega) (by omega) ?_; k_whole); intro D' h' F' N' l1'; (have l2' := allp_of l1'); (try k_lt l1'); revert D' h' F' N' l1'; intros)
  trivial

theorem ws_spec {w : World} {p : Program} {loose : List Str} {mean : ExcName → Option Value} {mg mb : Str → Option Value} {dp un : Nat} {gd : Option (List Code)} {cn : Str} {cs : Scope} {a : Addr} {ccd : Value} {cl : List (Str × Addr)} {outer : List Env} {A₀ : Around} {base h₀ : Heap} {L : Addr} {m : Str → Option Value} {news : List (Addr × Obj)} {s : Shared} {Q E : Value → Shared → Prop} {x : Str} {tx : Tok} (B : Below A₀ base outer h₀) (F : Fr h₀ L s.heap m) (X : (Mine.hA.heap_1_39 w.params).In h₀) (N : News h₀ L s.heap news) (T : Top p loose mean mg mb h₀) (hk : cs.kind = .function) (hd : dp + 2 < recursionLimit) (hasc : x.cps.all (· < 128) = true) (hlen : x.cps.size ≤ 100)
    (hret : ∀ x' tl h' tk', Fr h₀ L h' m → News h₀ L h' (news ++ tl) → WsObj tl x' (wsRun x.cps.toList ⟨0, 0, 0, []⟩) → (∀ q ∈ news, ∀ p ∈ tl, q.1 < p.1) → Q (.ref x') { s with heap := h', toks := tk' }) :
    wpAny (model Challenge.rw_xg0084_01.row.toRowW.prog w) (ktrTop dp un gd cn cs L a ccd cl outer) (call (.ref 263) [.str x tx]) Q E s := by
  have _q : Challenge.rw_xg0084_01 = Challenge.rw_xg0084_01 ∧ Mine.hA.heap_1_39 = Mine.hA.heap_1_39 := by (k_fill; exact ⟨rfl, rfl⟩)
  refine' call_cls ?k1 ?k2 ?k3 ?k4 ?k5 ?k6 ?_; (case k1 => k_asm); (case k2 => k_asm); (case k3 => k_asm); (case k4 => k_is); (case k5 => k_is); (case k6 => k_is); k_whole; intro x' d' h' F' N' l1 l2; (try k_lt l1); (try k_lt2 l2); (try k_sweep)
  k_dflt (refine' code_def ?k1 ?k2 ?k3 ?k4 ?k5 ?kA ?kF ?kK ?k6 ?k7 ?k8 ?k9 ?kB ?_ ?c2 ?c3 ?c4 ?c5; (case kA => exact rfl); (case kF => exact rfl); (case kK => assumption); (case k1 => k_asm); (case k2 => k_asm); (case k3 => k_asm); (case k4 => k_asm); (case k5 => k_asm); (case k6 => k_is); (case k7 => k_is); (case k8 => ktr_room); (case k9 => first | exact BindsTo.of_eq rfl | exact binds_K (by k_in) rfl (by k_is) rfl rfl rfl); (case c5 => decide); (case kB => exact locs rfl); (case c2 => exact rfl); (case c3 => exact rfl); (case c4 => exact rfl); k_whole; intro g' L' h' FG' F' N' B' X' T'; (try dsimp only); (try k_fold))
  repeat' ((fail_if_success (with_reducible show wpAny _ _ (exec (PySem.Stmt.For _ _ _ _ _) _) _ _ _)); (fail_if_success (with_reducible show wpAny _ _ (exec (PySem.Stmt.While _ _ _ _) _) _ _ _)); (fail_if_success (with_reducible show wpAny _ _ (eval (PySem.Expr.ListComp _ _ _ _) _) _ _ _)); (fail_if_success (with_reducible show wpAny _ _ (eval (PySem.Expr.DictComp _ _ _ _ _) _) _ _ _)); (fail_if_success (with_reducible show wpAny _ _ (exec (PySem.Stmt.Assign _ (PySem.Expr.ListComp _ _ _ _) _) _) _ _ _)); (fail_if_success (with_reducible show wpAny _ _ (exec (PySem.Stmt.Assign _ (PySem.Expr.DictComp _ _ _ _ _) _) _) _ _ _)); (first | ((with_reducible show wpAny _ _ _ _ _ _); dsimp only) | (k_unfold; (try dsimp only)) | (k_end; wrow_close) | walk1 | (dsimp only; walk1) | (leave1; walk_say "STEP leave1"; try dsimp only) | fail "no step"))
  rename_i l9 h9a l1b h9b _ h9c h9d h9e fF fN
  generalize hod : dictOf [_] 1 = od at fN
  have fN2 : News g' L' h9e ((l9, W.listOf #[] 0) :: (x', instObj 263 d') :: (d', od) :: news) := cb_drop fN (by ((repeat (refine List.forall_mem_cons.mpr ⟨by k_mem, ?_⟩)); first | exact List.forall_mem_nil _ | (intro p9 hp9; k_mem)))
  refine forCut (WsAt x' d' od news fun st => st = wsRun x.cps.toList ⟨0, 0, 0, []⟩ ∧ st.cs.length ≤ 100) fF ?_ ?_
  · clear fN
    have fN3 := fN2
    rw [← hod] at fN3
    repeat' (first | ((with_reducible show wpAny _ _ _ _ _ _); dsimp only) | (k_unfold; (try dsimp only)) | (k_end; wrow_close) | walk1 | (dsimp only; walk1) | (leave1; walk_say "STEP leave1"; try dsimp only) | fail "no step")
    clear fN3
    refine fsrc_str (m := _) (news := _) hasc (fun i => WsAt x' d' od news (wsOk x.cps.toList i)) rfl fF fN2 ⟨_, _, rfl⟩ ?_ ?_ ?_
    · refine ⟨⟨⟨0, 0, 0, []⟩, l9, 0, [], _, _, _, .nil, rfl, rfl, rfl, rfl, rfl, (by k_ne), (by k_ne), allLt_ne l1b.2.2.2, rfl, ?_⟩, ⟨_, rfl⟩, ⟨_, rfl⟩, rfl⟩
      exact ⟨Int.le_refl _, Int.le_refl _, Int.le_refl _, Int.le_refl _, Int.le_refl _, Int.le_refl _, Nat.le_refl _⟩
    · intro i c u m₁ news' g I hc hJ
      obtain ⟨⟨st, cnt, kk, vs, tb, tn, tnt, hvs, hb, hn, hnt, hcnt, rfl, h1, h2, h3, hok⟩, ⟨tS, hS⟩, ⟨tT, hT⟩, hself⟩ := hJ
      refine FTurn.name (by rfl) (by rfl) ?_
      intro oI h tk F N off tle
      have hok' := hok
      obtain ⟨hrun, b0, bi, n0, ni, nt0, nti, li⟩ := hok'
      have o1 := neN (a := cnt) (b := I) <| off (cnt, _) List.mem_cons_self
      have o2 := neN (a := x') (b := I) <| off (x', _) (List.mem_cons_of_mem _ List.mem_cons_self)
      have o3 := neN (a := d') (b := I) <| off (d', _) (List.mem_cons_of_mem _ (List.mem_cons_of_mem _ List.mem_cons_self))
      have h1n := neN h1
      have h2n := neN h2
      have hlv := hvs.length
      have hi9 : i < x.cps.size := by
        rcases Nat.lt_or_ge i x.cps.size with q | q
        · exact q
        · rw [Array.getElem?_eq_none q] at hc; cases hc
      have hz9 : vs.length < 2 ^ 62 := by omega
      have offN : ∀ p ∈ news, p.1 ≠ I := fun p hp => off p (List.mem_cons_of_mem _ (List.mem_cons_of_mem _ (List.mem_cons_of_mem _ hp)))
      repeat' (first | ((with_reducible show wpAny _ _ _ _ _ _); dsimp only) | (k_unfold; (try dsimp only)) | (k_end; wrow_close) | walk1 | (dsimp only; walk1) | (leave1; walk_say "STEP leave1"; try dsimp only) | fail "no step")
      · rename_i q _ _ _ fF' fN'
        exact FEnd.intro fF' fN' _ (by ((repeat (refine List.forall_mem_cons.mpr ⟨by k_mem, ?_⟩)); first | exact List.forall_mem_nil _ | (intro p9 hp9; k_mem))) off trivial ⟨⟨⟨st.b + 1, st.n + 1, st.nt, st.cs⟩, cnt, kk, vs, _, _, tnt, hvs, rfl, rfl, hnt, hcnt, rfl, h1, h2, h3, ok_blank hc q hok⟩, ⟨tS, hS⟩, ⟨tT, hT⟩, hself⟩
      · rename_i q1 q2 ha _ hb9 _ t1 tk1 q3 l8 h8 l18 t2 tk2 D1 h81 l28 l38 D2 h82 l29 l39 h83 _ t3 h84 hi8 hl8 hs8 _ h85 fF' fN'
        have e : (wsTab st).cs = (st.cs ++ List.replicate (st.b - vs.length + 1).toNat 0).set st.b.toNat ((st.cs ++ List.replicate (st.b - vs.length + 1).toNat 0).getD st.b.toNat 0 + 1) := by
          unfold wsTab
          rw [hlv] at q3 ⊢
          simp only [if_pos q3]
        refine FEnd.intro fF' fN' _ (by ((repeat (refine List.forall_mem_cons.mpr ⟨by k_mem, ?_⟩)); first | exact List.forall_mem_nil _ | (intro p9 hp9; k_mem))) ?_ trivial ⟨⟨wsTab st, D2, 0, _, _, _, _, e.symm ▸ hi8, rfl, rfl, rfl, rfl, rfl, (by k_ne), (by k_ne), fun p hp => l29 p (by k_mem), ok_tab hc q1 q2 hok⟩, ⟨tS, hS⟩, ⟨tT, hT⟩, hself⟩
        exact List.forall_mem_cons.mpr ⟨by k_ne, fun p hp => off p (List.mem_cons_of_mem _ hp)⟩
      · rename_i q1 q2 ha _ hb9 _ t1 tk1 q3 t3 h84 hi8 hl8 hs8 _ h85 fF' fN'
        have e : (wsTab st).cs = st.cs.set st.b.toNat (st.cs.getD st.b.toNat 0 + 1) := by
          unfold wsTab
          rw [hlv] at q3
          simp only [if_neg q3]
        refine FEnd.intro fF' fN' _ (by ((repeat (refine List.forall_mem_cons.mpr ⟨by k_mem, ?_⟩)); first | exact List.forall_mem_nil _ | (intro p9 hp9; k_mem))) ?_ trivial ⟨⟨wsTab st, cnt, kk, _, _, _, _, e.symm ▸ hi8, rfl, rfl, rfl, hcnt, rfl, h1, h2, h3, ok_tab hc q1 q2 hok⟩, ⟨tS, hS⟩, ⟨tT, hT⟩, hself⟩
        exact List.forall_mem_cons.mpr ⟨o1, fun p hp => off p (List.mem_cons_of_mem _ hp)⟩
      · rename_i q1 q2
        exact FCut.intro F N _ (by ((repeat (refine List.forall_mem_cons.mpr ⟨by k_mem, ?_⟩)); first | exact List.forall_mem_nil _ | (intro p9 hp9; k_mem))) ⟨⟨st, cnt, kk, vs, tb, tn, tnt, hvs, hb, hn, hnt, hcnt, rfl, h1, h2, h3, ok_break hc q1 q2 hok, by omega⟩, ⟨tS, hS⟩, ⟨tT, hT⟩, hself⟩
    · intro m₁ news' h tk hJ F N tle
      obtain ⟨⟨st, cnt, kk, vs, tb, tn, tnt, hvs, hb, hn, hnt, hcnt, rfl, h1, h2, h3, hok⟩, hS, hT, hself⟩ := hJ
      exact wpAny_execs_nil (FCut.intro F N _ (fun _ h => h) ⟨⟨st, cnt, kk, vs, tb, tn, tnt, hvs, hb, hn, hnt, hcnt, rfl, h1, h2, h3, ok_end hok, by have := hok.2.2.2.2.2.2.2; omega⟩, hS, hT, hself⟩)
  · clear fF fN fN2
    intro h tk m₁ nw F N hJ tle
    obtain ⟨⟨st, cnt, kk, vs, tb, tn, tnt, hvs, hb, hn, hnt, hcnt, rfl, h1, h2, h3, hst, hl100⟩, ⟨tS, hS⟩, ⟨tT, hT⟩, hself⟩ := hJ
    subst hod
    have h1n := neN h1
    have h2n := neN h2
    have hlv := hvs.length
    repeat' (first | ((with_reducible show wpAny _ _ _ _ _ _); dsimp only) | (k_unfold; (try dsimp only)) | (k_end; wrow_close) | walk1 | (dsimp only; walk1) | (leave1; walk_say "STEP leave1"; try dsimp only) | fail "no step")
    rename_i D1 h31 l21 l31 D2 h32 l32 h33 _ t1 tk1 h34 fF1 fN1 kF kN _ kX
    have a1 : AllLt D1 news := l31.2.2.2
    have a2 : AllLt D2 news := l32.2.2.2.2
    have e9 : ∀ {a b e c d : Addr × Obj}, News h₀ L h34 (a :: b :: e :: c :: d :: news) → News h₀ L h34 (news ++ [c, d, a, b]) := fun h => cb_drop h fun p hp => by
      simp only [List.mem_append, List.mem_cons, List.not_mem_nil, or_false] at hp ⊢
      rcases hp with hp | rfl | rfl | rfl | rfl <;> simp [*]
    refine hret x' _ h34 _ kF (e9 kN) ?_ ?_
    · rw [← hst]
      exact ⟨d', _, _, _, _, _, _, _, _, _, _, _, _, _, _, _, _, _, _, .head _, .tail _ (.head _), .tail _ (.tail _ (.head _)), .tail _ (.tail _ (.tail _ (.head _))), hvs⟩
    · intro q hq p hp
      have b1 := l1 q hq
      have b2 := ltN l2
      simp only [List.mem_cons, List.not_mem_nil, or_false] at hp
      rcases hp with rfl | rfl | rfl | rfl
      · exact Nat.lt_trans b1 b2
      · exact b1
      · exact allLt_of a2 q hq
      · exact allLt_of a1 q hq
end
-- Fn4
section
theorem kr_Fn4 : True := by
  k_with_none
  w_top off
  trivial
open PySem PySem.W PyProof.Rows PySem.Calls
theorem kw_950126_1 : True := by
  k_with "eval Name" => (k_here; k_dflt (refine' nameX_L (by k_asm) (by first | rfl | assumption) ?_ (by rfl) (by rfl); k_whole))
  k_with "loadName" => (k_here; k_dflt (refine' loadX_L (by k_asm) (by first | rfl | assumption) ?_ (by rfl) (by rfl); k_whole))
  k_with "storeName" => (k_here; k_dflt (refine' storeX_U (by k_asm) (by k_asm) ?_ (by rfl) (by rfl); k_whole); intro _ _ _; (try k_sweep))
  k_with "subscriptTail" => (k_here; (with_reducible show wpAny _ _ (subscriptTail _ _ (Value.ref _) (Value.int _ _)) _ _ _); k_dflt (first | (refine' TT.item (by k_asm) (by k_mem) (by omega) (by first | assumption | rfl) (by first | assumption | ((try simp only [List.length_cons, List.length_nil, List.length_append, List.length_map, List.length_range]); omega)) ?_ (by with_unfolding_all rfl); k_whole) | (refine' LL.item (by k_asm) (by k_mem) (by omega) (by first | assumption | rfl) (by first | assumption | ((try simp only [List.length_cons, List.length_nil, List.length_append, List.length_map, List.length_range]); omega)) (by with_unfolding_all rfl) ?_; k_whole)))
  k_with "subscriptTail" => (k_here; (with_reducible show wpAny _ _ (subscriptTail _ _ (Value.ref _) (Value.int _ _)) _ _ _); k_dflt (first | (refine' TT.int (by k_asm) (by k_mem) (by with_reducible assumption) (by omega) (by omega) (by omega) ?_ (by with_unfolding_all rfl); k_whole) | (refine' LL.int (by k_asm) (by k_mem) (by with_reducible assumption) (by omega) (by omega) (by omega) ?_ (by with_unfolding_all rfl); k_whole)); intro _)
  k_with "call builtin:len" => (k_here; (with_reducible show wpAny _ _ (call (Value.builtin "len") [Value.ref _]) _ _ _); k_dflt (first | (refine' LL.len (by assumption) (by k_mem) (by first | assumption | ((try simp only [List.length_cons, List.length_nil, List.length_append, List.length_map, List.length_range]); omega)) ?_; k_whole) | (refine' TT.len (by assumption) (by k_mem) (by first | assumption | ((try simp only [List.length_cons, List.length_nil, List.length_append, List.length_map, List.length_range]); omega)) ?_; k_whole)); intro _ _)
  trivial

noncomputable def levPart (size : Int) (cs : List Int) : Nat → Int
  | 0 => 0
  | n + 1 => levPart size cs n + (size + (n : Int)).fdiv size * cs.getD (size + (n : Int)).toNat 0
noncomputable def levF (size : Int) (st : WsSt) : Int := st.b + size * (levPart size st.cs (st.cs.length - size.toNat) + st.nt)

theorem lev_spec {w : World} {p : Program} {loose : List Str} {mean : ExcName → Option Value} {mg mb : Str → Option Value} {dp un : Nat} {gd : Option (List Code)} {cn : Str} {cs : Scope} {a : Addr} {ccd : Value} {cl : List (Str × Addr)} {outer : List Env} {A₀ : Around} {base h₀ : Heap} {L : Addr} {m : Str → Option Value} {news : List (Addr × Obj)} {s : Shared} {Q E : Value → Shared → Prop} {x : Addr} {ts : Tok} {size : Int} {st : WsSt} (B : Below A₀ base outer h₀) (F : Fr h₀ L s.heap m) (X : (Mine.hA.heap_1_39 w.params).In h₀) (N : News h₀ L s.heap news) (T : Top p loose mean mg mb h₀) (hk : cs.kind = .function) (hd : dp + 1 < recursionLimit) (hx : WsObj news x st) (hl : st.cs.length ≤ 100) (hc : ∀ i, 0 ≤ st.cs.getD i 0 ∧ st.cs.getD i 0 ≤ 100) (h1 : 1 ≤ size) (h4 : size ≤ 4)
    (hret : ∀ t h' tk', Fr h₀ L h' m → News h₀ L h' news → Q (.int (levF size st) t) { s with heap := h', toks := tk' }) :
    wpAny (model Challenge.rw_xg0084_01.row.toRowW.prog w) (ktrTop dp un gd cn cs L a ccd cl outer) (call (.ref 232) [.ref x, .int size ts]) Q E s := by
  have _q : Challenge.rw_xg0084_01 = Challenge.rw_xg0084_01 ∧ Mine.hA.heap_1_39 = Mine.hA.heap_1_39 := by (k_fill; exact ⟨rfl, rfl⟩)
  refine wpAny_call ?_
  k_dflt (refine' code_def ?k1 ?k2 ?k3 ?k4 ?k5 ?kA ?kF ?kK ?k6 ?k7 ?k8 ?k9 ?kB ?_ ?c2 ?c3 ?c4 ?c5; (case kA => exact rfl); (case kF => exact rfl); (case kK => assumption); (case k1 => k_asm); (case k2 => k_asm); (case k3 => k_asm); (case k4 => k_asm); (case k5 => k_asm); (case k6 => k_is); (case k7 => k_is); (case k8 => ktr_room); (case k9 => first | exact BindsTo.of_eq rfl | exact binds_K (by k_in) rfl (by k_is) rfl rfl rfl); (case c5 => decide); (case kB => exact locs rfl); (case c2 => exact rfl); (case c3 => exact rfl); (case c4 => exact rfl); k_whole; intro g' L' h' FG' F' N' B' X' T'; (try dsimp only); (try k_fold))
  obtain ⟨d, h1', k1, v1, h2', k2, v2, h3', k3, tnt, h4', k4, nm, h5', k5, v5, ct, vs, tb, m1, m2, m3, m4, hvs⟩ := hx
  have hlv := hvs.length
  repeat' ((fail_if_success (with_reducible show wpAny _ _ (exec (PySem.Stmt.For _ _ _ _ _) _) _ _ _)); (fail_if_success (with_reducible show wpAny _ _ (exec (PySem.Stmt.While _ _ _ _) _) _ _ _)); (fail_if_success (with_reducible show wpAny _ _ (eval (PySem.Expr.ListComp _ _ _ _) _) _ _ _)); (fail_if_success (with_reducible show wpAny _ _ (eval (PySem.Expr.DictComp _ _ _ _ _) _) _ _ _)); (fail_if_success (with_reducible show wpAny _ _ (exec (PySem.Stmt.Assign _ (PySem.Expr.ListComp _ _ _ _) _) _) _ _ _)); (fail_if_success (with_reducible show wpAny _ _ (exec (PySem.Stmt.Assign _ (PySem.Expr.DictComp _ _ _ _ _) _) _) _ _ _)); (first | (k_unfold; (try dsimp only)) | (k_end; wrow_close) | walk1 | (dsimp only; walk1) | (leave1; walk_say "STEP leave1"; try dsimp only) | fail "no step"))
  rename_i hz F1 N1
  refine forCut (fun m₁ nw => nw = news ∧ (∃ t, m₁ (Str.ofString "il") = some (.int (levPart size st.cs (st.cs.length - size.toNat)) t)) ∧ m₁ (Str.ofString "tabsize") = some (.int size ts) ∧ m₁ (Str.ofString "trailing") = some (.int st.b tb) ∧ m₁ (Str.ofString "self") = some (.ref x)) F1 ?_ ?_
  · k_steps
    rename_i hR FR NR _
    refine fsrc_range (n := st.cs.length - size.toNat) (m := _) (news := news) (fun i m₁ nw => nw = news ∧ (∃ t, m₁ (Str.ofString "il") = some (.int (levPart size st.cs i) t)) ∧ m₁ (Str.ofString "tabsize") = some (.int size ts) ∧ m₁ (Str.ofString "trailing") = some (.int st.b tb) ∧ m₁ (Str.ofString "self") = some (.ref x) ∧ m₁ (Str.ofString "count") = some (.ref ct)) rfl FR NR hR (small_one (by omega) (by omega) (by omega) (by omega)) (by rw [rangeSize_nat]; omega) ⟨_, _, rfl⟩ ⟨rfl, ⟨_, rfl⟩, rfl, rfl, rfl, rfl⟩ ?_ ?_
    · rintro i tI m₁ nw' g I hi ⟨rfl, ⟨tL, hL⟩, hts, htr, hse, hct⟩
      refine FTurn.name (by rfl) (by rfl) ?_
      intro oI h tk F N off tle
      have hsz : size ≠ 0 := by omega
      have hcb := hc (size + (i : Int)).toNat
      k_steps
      rename_i F2 N2
      exact FEnd.intro F2 N2 _ (by ((repeat (refine List.forall_mem_cons.mpr ⟨by k_mem, ?_⟩)); first | exact List.forall_mem_nil _ | (intro p9 hp9; k_mem))) off trivial ⟨rfl, ⟨_, rfl⟩, hts, htr, hse, hct⟩
    · rintro m₁ nw' h tk ⟨rfl, hL, hts, htr, hse, hct⟩ F N tle
      exact wpAny_execs_nil (FCut.intro F N _ (fun _ h => h) ⟨rfl, hL, hts, htr, hse⟩)
  · clear F1 N1
    intro h tk m₁ nw F N hJ tle
    obtain ⟨rfl, ⟨tI, hI⟩, hts, htr, hse⟩ := hJ
    k_steps
    exact hret _ _ _ (by assumption) (by assumption)
end
-- Fn2
section
theorem kr_Fn2 : True := by
  k_with_none
  w_top off
  trivial
open PySem PySem.W PyProof.Rows PySem.Calls
theorem kw_859530_1 : True := by
  k_with "eval Name" => (k_here; k_dflt (refine' nameX_L (by k_asm) (by first | rfl | assumption) ?_ (by rfl) (by rfl); k_whole))
  k_with "loadName" => (k_here; k_dflt (refine' loadX_L (by k_asm) (by first | rfl | assumption) ?_ (by rfl) (by rfl); k_whole))
  k_with "storeName" => (k_here; k_dflt (refine' storeX_U (by k_asm) (by k_asm) ?_ (by rfl) (by rfl); k_whole); intro _ _ _; (try k_sweep))
  trivial

theorem colF_append (size : Int) : ∀ (l : List Nat) (c : Int) (k : Nat), colF size c (l ++ [k]) = if k = 9 then ((colF size c l).fdiv size + 1) * size else colF size c l + 1
  | [], c, k => rfl
  | a :: l, c, k => by simp only [List.cons_append, colF]; exact colF_append size l _ k

theorem col_fold (size : Int) : ∀ (l : List Nat) (c : Int), (List.foldl (fun (σ : Int × Unit) (k : PySem.Str) => if (k == Str.ofString "\t") = true then ((σ.fst.fdiv size + 1) * size, ()) else (σ.fst + 1, ())) (c, ()) (l.map fun k => (⟨#[k]⟩ : PySem.Str))).fst = colF size c l
  | [], c => rfl
  | k :: l, c => by
    have hk : ((⟨#[k]⟩ : PySem.Str) == Str.ofString "\t") = decide (k = 9) := by
      have : Str.ofString "\t" = (⟨#[9]⟩ : PySem.Str) := by decide +kernel
      rw [this]
      by_cases h : k = 9
      · subst h; decide
      · rw [decide_eq_false h]
        refine beq_eq_false_iff_ne.mpr fun q => h ?_
        cases q; rfl
    simp only [List.map_cons, List.foldl_cons, hk, colF, decide_eq_true_eq]
    by_cases h : k = 9
    · simp only [if_pos h]; exact col_fold size l _
    · simp only [if_neg h]; exact col_fold size l _

theorem column_spec {w : World} {p : Program} {loose : List Str} {mean : ExcName → Option Value} {mg mb : Str → Option Value} {dp un : Nat} {gd : Option (List Code)} {cn : Str} {cs : Scope} {a : Addr} {ccd : Value} {cl : List (Str × Addr)} {outer : List Env} {A₀ : Around} {base h₀ : Heap} {L : Addr} {m : Str → Option Value} {news : List (Addr × Obj)} {s : Shared} {Q E : Value → Shared → Prop} {x : Str} {tx ts : Tok} {size : Int} (B : Below A₀ base outer h₀) (F : Fr h₀ L s.heap m) (X : (Mine.hA.heap_1_39 w.params).In h₀) (N : News h₀ L s.heap news) (T : Top p loose mean mg mb h₀) (hk : cs.kind = .function) (hd : dp + 1 < recursionLimit) (hasc : x.cps.all (· < 128) = true) (hlen : x.cps.size ≤ 100) (h1 : 1 ≤ size) (h4 : size ≤ 4)
    (hret : ∀ t h' tk', Fr h₀ L h' m → News h₀ L h' news → Q (.int (colF size 0 x.cps.toList) t) { s with heap := h', toks := tk' }) :
    wpAny (model Challenge.rw_xg0084_01.row.toRowW.prog w) (ktrTop dp un gd cn cs L a ccd cl outer) (call (.ref 281) [.str x tx, .int size ts]) Q E s := by
  have _q : Challenge.rw_xg0084_01 = Challenge.rw_xg0084_01 ∧ Mine.hA.heap_1_39 = Mine.hA.heap_1_39 := by (k_fill; exact ⟨rfl, rfl⟩)
  refine wpAny_call ?_
  k_dflt (refine' code_def ?k1 ?k2 ?k3 ?k4 ?k5 ?kA ?kF ?kK ?k6 ?k7 ?k8 ?k9 ?kB ?_ ?c2 ?c3 ?c4 ?c5; (case kA => exact rfl); (case kF => exact rfl); (case kK => assumption); (case k1 => k_asm); (case k2 => k_asm); (case k3 => k_asm); (case k4 => k_asm); (case k5 => k_asm); (case k6 => k_is); (case k7 => k_is); (case k8 => ktr_room); (case k9 => first | exact BindsTo.of_eq rfl | exact binds_K (by k_in) rfl (by k_is) rfl rfl rfl); (case c5 => decide); (case kB => exact locs rfl); (case c2 => exact rfl); (case c3 => exact rfl); (case c4 => exact rfl); k_whole; intro g' L' h' FG' F' N' B' X' T'; (try dsimp only); (try k_fold))
  k_steps
  have e := col_fold size x.cps.toList 0
  rw [show x.cps.toList.map (fun k => (⟨#[k]⟩ : PySem.Str)) = signs x from rfl] at e
  refine (congrArg (fun z => Q (Value.int z _) _) e).mpr ?_
  exact hret _ _ _ (by assumption) (by assumption)
end
-- Fn9
section
theorem kr_Fn9 : True := by
  k_with_none
  w_top off
  trivial
open PySem PySem.W PyProof.Rows PySem.Calls
section
theorem kw_476912_1 : True := by
  k_with "eval Name" => (k_here; k_dflt (refine' nameX_L (by k_asm) (by first | rfl | assumption) ?_ (by rfl) (by rfl); k_whole))
  k_with "loadName" => (k_here; k_dflt (refine' loadX_L (by k_asm) (by first | rfl | assumption) ?_ (by rfl) (by rfl); k_whole))
  k_with "storeName" => (k_here; k_dflt (refine' storeX_U (by k_asm) (by k_asm) ?_ (by rfl) (by rfl); k_whole); intro _ _ _; (try k_sweep))
  k_with "call type:tuple" => (k_here; (with_reducible show wpAny _ _ (call (Value.type _) [Value.ref _]) _ _ _); k_dflt (refine' kde_tupleOf (by k_asm) (by k_asm) (LL.is (by k_asm) (by k_mem)) (by (simp only [List.size_toArray]; omega)) rfl ?_; k_whole); intro D' h' F' N' l1'; (have l2' := allp_of l1'); (try k_lt l1'); revert D' h' F' N' l1'; intros)
  k_with "subscriptTail" => (k_here; (with_reducible show wpAny _ _ (subscriptTail _ _ (Value.ref _) (Value.int _ _)) _ _ _); k_dflt (refine' ksa_sub (by k_asm) (by k_mem) (by first | with_reducible assumption | exact IntsAre.append (by assumption) (ints_replicate _ _ _ rfl _)) (by ((try simp only [List.length_replicate, List.length_append, List.length_set]); omega)) (by ((try simp only [List.length_replicate, List.length_append, List.length_set]); omega)) (by ((try simp only [List.length_replicate, List.length_append, List.length_set]); omega)) ?_ (by with_unfolding_all rfl); k_whole); intro _)
  k_with "setItem ref int" => (k_here; (with_reducible show wpAny _ _ (setItem (Value.ref _) (Value.int _ _) (Value.int _ _)) _ _ _); k_dflt (refine' ksa_set (by k_asm) (by k_asm) (by k_upd) (by first | with_reducible assumption | exact IntsAre.append (by assumption) (ints_replicate _ _ _ rfl _)) (by ((try simp only [List.length_replicate, List.length_append, List.length_set]); omega)) (by ((try simp only [List.length_replicate, List.length_append, List.length_set]); omega)) (by ((try simp only [List.length_replicate, List.length_append, List.length_set]); omega)) ?_; k_whole); intro _ _ _ _ _ _)
  k_with "call builtin:len" => (k_here; (with_reducible show wpAny _ _ (call (Value.builtin "len") [Value.ref _]) _ _ _); k_dflt (refine' LL.len (by assumption) (by k_mem) (by first | assumption | omega) ?_; k_whole); intro _ _)
  k_with "binaryOp Add ref ref" => (k_here; (with_reducible show wpAny _ _ (binaryOp Operator.Add (Value.ref _) (Value.ref _)) _ _ _); k_dflt (refine' LL.add (by k_asm) (by k_asm) (by k_mem) (by k_mem) (by ((try simp only [List.length_replicate, List.length_append, List.length_cons, List.length_nil]); (try rw [sizeLine_eq]); omega)) ?_; k_whole); intro D' h' F' N' l1'; (have l2' := allp_of l1'); (try k_lt l1'); revert D' h' F' N' l1'; intros)
  k_with "binaryOp Mult ref int" => (k_here; (with_reducible show wpAny _ _ (binaryOp Operator.Mult (Value.ref _) (Value.int _ _)) _ _ _); k_dflt (refine' LL.rep (by k_asm) (by k_asm) (by k_mem) (by omega) (by omega) ?_; k_whole); intro D' h' F' N' l1'; (have l2' := allp_of l1'); (try k_lt l1'); revert D' h' F' N' l1'; intros)
  k_with "call builtin:hasattr" => (k_here; k_dflt (refine' LL.has (by k_asm) (by k_asm) (by k_mem) ?_; k_whole); intro _ _ _ _)
  trivial

theorem concat_spec {w : World} {p : Program} {loose : List Str} {mean : ExcName → Option Value} {mg mb : Str → Option Value} {dp un : Nat} {gd : Option (List Code)} {cn : Str} {cs : Scope} {a : Addr} {ccd : Value} {cl : List (Str × Addr)} {outer : List Env} {A₀ : Around} {base h₀ : Heap} {L : Addr} {m : Str → Option Value} {news : List (Addr × Obj)} {s : Shared} {Q E : Value → Shared → Prop} {l1 l2 : Addr} {vs ws : List Value} {k1 k2 : Nat} (B : Below A₀ base outer h₀) (F : Fr h₀ L s.heap m) (X : (Mine.hA.heap_1_39 w.params).In h₀) (N : News h₀ L s.heap news) (T : Top p loose mean mg mb h₀) (hk : cs.kind = .function) (hd : dp + 1 < recursionLimit) (m1 : (l1, W.listOf vs.toArray k1) ∈ news) (m2 : (l2, W.listOf ws.toArray k2) ∈ news) (z1 : vs.length ≤ 100) (z2 : ws.length ≤ 100)
    (hret : ∀ D h' tk', Fr h₀ L h' m → News h₀ L h' ((D, W.listOf (vs ++ ws).toArray 0) :: news) → (∀ p ∈ news, p.1 < D) → Q (.ref D) { s with heap := h', toks := tk' }) :
    wpAny (model Challenge.rw_xg0084_01.row.toRowW.prog w) (ktrTop dp un gd cn cs L a ccd cl outer) (call (.ref 131) [.ref l1, .ref l2]) Q E s := by
  have _q : Challenge.rw_xg0084_01 = Challenge.rw_xg0084_01 ∧ Mine.hA.heap_1_39 = Mine.hA.heap_1_39 := by (k_fill; exact ⟨rfl, rfl⟩)
  refine wpAny_call ?_
  k_dflt (refine' code_def ?k1 ?k2 ?k3 ?k4 ?k5 ?kA ?kF ?kK ?k6 ?k7 ?k8 ?k9 ?kB ?_ ?c2 ?c3 ?c4 ?c5; (case kA => exact rfl); (case kF => exact rfl); (case kK => assumption); (case k1 => k_asm); (case k2 => k_asm); (case k3 => k_asm); (case k4 => k_asm); (case k5 => k_asm); (case k6 => k_is); (case k7 => k_is); (case k8 => ktr_room); (case k9 => first | exact BindsTo.of_eq rfl | exact binds_K (by k_in) rfl (by k_is) rfl rfl rfl); (case c5 => decide); (case kB => exact locs rfl); (case c2 => exact rfl); (case c3 => exact rfl); (case c4 => exact rfl); k_whole; intro g' L' h' FG' F' N' B' X' T'; (try dsimp only); (try k_fold))
  k_steps
  rename_i D h9 _ _ lD _ kF kN _ kX
  exact hret D _ _ kF kN lD

theorem kw_476912_2 : True := by
  k_with "compareOp Is int int" => (k_here; k_dflt (first | (refine is_int_same (by assumption) (by assumption) (by assumption) (by assumption) ?_) | (refine is_int_other (by assumption) (by assumption) (by assumption) (by assumption) ?_)))
  trivial
theorem countOf_spec {w : World} {p : Program} {loose : List Str} {mean : ExcName → Option Value} {mg mb : Str → Option Value} {dp un : Nat} {gd : Option (List Code)} {cn : Str} {cs : Scope} {a : Addr} {ccd : Value} {cl : List (Str × Addr)} {outer : List Env} {A₀ : Around} {base h₀ : Heap} {L : Addr} {m : Str → Option Value} {news : List (Addr × Obj)} {s : Shared} {Q E : Value → Shared → Prop} {l1 : Addr} {vs : List Value} {ns : List Int} {k1 : Nat} {b : Int} {tb : Tok} (B : Below A₀ base outer h₀) (F : Fr h₀ L s.heap m) (X : (Mine.hA.heap_1_39 w.params).In h₀) (N : News h₀ L s.heap news) (T : Top p loose mean mg mb h₀) (hk : cs.kind = .function) (hd : dp + 1 < recursionLimit) (m1 : (l1, W.listOf vs.toArray k1) ∈ news) (i1 : IntsAre vs ns) (z1 : vs.length ≤ 100) (htb : tb ≠ 0) (hsm : smallInt b = true) (hsep : ∀ (i : Nat) (x : Int) (t : Tok), vs[i]? = some (Value.int x t) → t ≠ 0 ∧ t ≠ tb)
    (hret : ∀ t h' tk', Fr h₀ L h' m → News h₀ L h' news → Q (.int ((ns.filter fun x => x = b).length : Nat) t) { s with heap := h', toks := tk' }) :
    wpAny (model Challenge.rw_xg0084_01.row.toRowW.prog w) (ktrTop dp un gd cn cs L a ccd cl outer) (call (.ref 138) [.ref l1, .int b tb]) Q E s := by
  have _q : Challenge.rw_xg0084_01 = Challenge.rw_xg0084_01 ∧ Mine.hA.heap_1_39 = Mine.hA.heap_1_39 := by (k_fill; exact ⟨rfl, rfl⟩)
  refine wpAny_call ?_
  k_dflt (refine' code_def ?k1 ?k2 ?k3 ?k4 ?k5 ?kA ?kF ?kK ?k6 ?k7 ?k8 ?k9 ?kB ?_ ?c2 ?c3 ?c4 ?c5; (case kA => exact rfl); (case kF => exact rfl); (case kK => assumption); (case k1 => k_asm); (case k2 => k_asm); (case k3 => k_asm); (case k4 => k_asm); (case k5 => k_asm); (case k6 => k_is); (case k7 => k_is); (case k8 => ktr_room); (case k9 => first | exact BindsTo.of_eq rfl | exact binds_K (by k_in) rfl (by k_is) rfl rfl rfl); (case c5 => decide); (case kB => exact locs rfl); (case c2 => exact rfl); (case c3 => exact rfl); (case c4 => exact rfl); k_whole; intro g' L' h' FG' F' N' B' X' T'; (try dsimp only); (try k_fold))
  repeat' ((fail_if_success (with_reducible show wpAny _ _ (exec (PySem.Stmt.For _ _ _ _ _) _) _ _ _)); (fail_if_success (with_reducible show wpAny _ _ (exec (PySem.Stmt.While _ _ _ _) _) _ _ _)); (fail_if_success (with_reducible show wpAny _ _ (eval (PySem.Expr.ListComp _ _ _ _) _) _ _ _)); (fail_if_success (with_reducible show wpAny _ _ (eval (PySem.Expr.DictComp _ _ _ _ _) _) _ _ _)); (fail_if_success (with_reducible show wpAny _ _ (exec (PySem.Stmt.Assign _ (PySem.Expr.ListComp _ _ _ _) _) _) _ _ _)); (fail_if_success (with_reducible show wpAny _ _ (exec (PySem.Stmt.Assign _ (PySem.Expr.DictComp _ _ _ _ _) _) _) _ _ _)); (first | (k_unfold; (try dsimp only)) | (k_end; wrow_close) | walk1 | (dsimp only; walk1) | (leave1; walk_say "STEP leave1"; try dsimp only) | fail "no step"))
  rename_i h9 F9 N9
  refine forF F9 ?_
  k_steps
  refine fsrc_list (its := vs.toArray) (m := _) (news := news) (fun i m₁ nw => nw = news ∧ m₁ (Str.ofString "b") = some (.int b tb) ∧ ∃ t, m₁ (Str.ofString "count") = some (.int (((ns.take i).filter fun x => x = b).length : Nat) t)) rfl F9 N9 ?_ ⟨rfl, rfl, _, rfl⟩ ?_ ?_
  · exact .inr ⟨_, m1, rfl, _, rfl⟩
  · rintro i v m₁ nw g I hv hS ⟨rfl, hb, tc, hc⟩
    have hv' : vs[i]? = some v := by simpa using hv
    have hi : i < ns.length := by rw [← i1.length]; exact (List.getElem?_eq_some_iff.mp hv').1
    obtain ⟨t, e9⟩ := ints_at i1 hi
    obtain rfl : v = .int (ns.getD i 0) t := Option.some.inj (hv'.symm.trans e9)
    obtain ⟨q1, q2⟩ := hsep _ _ _ hv'
    have en : ns[i]? = some (ns.getD i 0) := by simp [List.getD, List.getElem?_eq_getElem hi]
    have et : ns.take (i + 1) = ns.take i ++ [ns.getD i 0] := by rw [List.take_add_one, en]; rfl
    have hS9 := hS
    refine FTurn.name (by rfl) (by rfl) ?_
    intro oI h tk F N off tle
    generalize ns.getD i 0 = x at *
    by_cases hxb : x = b
    · have hsx : smallInt x = true := by rw [hxb]; exact hsm
      k_steps
      rename_i F2 N2
      refine FEnd.intro F2 N2 nw (by ((repeat (refine List.forall_mem_cons.mpr ⟨by k_mem, ?_⟩)); first | exact List.forall_mem_nil _ | (intro p9 hp9; k_mem))) off hS9 ⟨rfl, hb, ?_⟩
      have e8 : ((ns.take (i + 1)).filter fun x => x = b).length = ((ns.take i).filter fun x => x = b).length + 1 := by
        rw [et, List.filter_append]
        simp [hxb]
      rw [e8]
      exact ⟨_, rfl⟩
    · k_steps
      try exact absurd (by assumption) hxb
      refine FEnd.intro F N nw (by ((repeat (refine List.forall_mem_cons.mpr ⟨by k_mem, ?_⟩)); first | exact List.forall_mem_nil _ | (intro p9 hp9; k_mem))) off hS9 ⟨rfl, hb, ?_⟩
      have e8 : ((ns.take (i + 1)).filter fun x => x = b).length = ((ns.take i).filter fun x => x = b).length := by
        rw [et, List.filter_append]
        simp [hxb]
      rw [e8]
      exact ⟨_, hc⟩
  · rintro m₁ nw h tk ⟨rfl, hb, tc, hc⟩ - F N tle
    rw [List.size_toArray, i1.length, List.take_length] at hc
    k_steps
    exact hret _ _ _ (by assumption) (by assumption)
end
end
-- Fn10
section
theorem kr_Fn10 : True := by
  k_with_none
  w_top off
  trivial
open PySem PySem.W PyProof.Rows PySem.Calls
section
theorem kw_31440_1 : True := by
  k_with "eval Name" => (k_here; k_dflt (refine' nameX_L (by k_asm) (by first | rfl | assumption) ?_ (by rfl) (by rfl); k_whole))
  k_with "loadName" => (k_here; k_dflt (refine' loadX_L (by k_asm) (by first | rfl | assumption) ?_ (by rfl) (by rfl); k_whole))
  k_with "storeName" => (k_here; k_dflt (refine' storeX_U (by k_asm) (by k_asm) ?_ (by rfl) (by rfl); k_whole); intro _ _ _; (try k_sweep))
  k_with "call type:enumerate" => (k_here; k_dflt (refine' LL.enum (by k_asm) (by k_asm) (by k_mem) ?_; k_whole); intro _ _ _ _ _ _ _ _ _ _ _ _)
  k_with "compareOp Is str str" => (k_here; k_dflt (first | (refine is_str_other (by assumption) (by assumption) (by assumption) (by assumption) ?_) | (refine is_str_any (by assumption) (by assumption) (by assumption) ?_; intro _)))
  trivial

theorem indexOfS_spec {w : World} {p : Program} {loose : List Str} {mean : ExcName → Option Value} {mg mb : Str → Option Value} {dp un : Nat} {gd : Option (List Code)} {cn : Str} {cs : Scope} {a : Addr} {ccd : Value} {cl : List (Str × Addr)} {outer : List Env} {A₀ : Around} {base h₀ : Heap} {L : Addr} {m : Str → Option Value} {news : List (Addr × Obj)} {s : Shared} {Q E : Value → Shared → Prop} {l1 : Addr} {vs : List Value} {xs : List PySem.Str} {k1 n : Nat} {x : PySem.Str} {tb : Tok} (B : Below A₀ base outer h₀) (F : Fr h₀ L s.heap m) (X : (Mine.hA.heap_1_39 w.params).In h₀) (N : News h₀ L s.heap news) (T : Top p loose mean mg mb h₀) (hk : cs.kind = .function) (hd : dp + 1 < recursionLimit) (m1 : (l1, W.listOf vs.toArray k1) ∈ news) (z1 : vs.length ≤ 100) (htb : tb ≠ 0)
    (hxs : ∀ (i : Nat) (y : PySem.Str), xs[i]? = some y → ∃ t, vs[i]? = some (Value.str y t) ∧ t ≠ 0 ∧ t ≠ tb) (hl : vs.length = xs.length) (hn : xs[n]? = some x) (hf : ∀ j, j < n → xs[j]? ≠ some x)
    (hret : ∀ t h' tk', Fr h₀ L h' m → News h₀ L h' news → Q (.int (n : Nat) t) { s with heap := h', toks := tk' }) :
    wpAny (model Challenge.rw_xg0084_01.row.toRowW.prog w) (ktrTop dp un gd cn cs L a ccd cl outer) (call (.ref 145) [.ref l1, .str x tb]) Q E s := by
  have _q : Challenge.rw_xg0084_01 = Challenge.rw_xg0084_01 ∧ Mine.hA.heap_1_39 = Mine.hA.heap_1_39 := by (k_fill; exact ⟨rfl, rfl⟩)
  refine wpAny_call ?_
  k_dflt (refine' code_def ?k1 ?k2 ?k3 ?k4 ?k5 ?kA ?kF ?kK ?k6 ?k7 ?k8 ?k9 ?kB ?_ ?c2 ?c3 ?c4 ?c5; (case kA => exact rfl); (case kF => exact rfl); (case kK => assumption); (case k1 => k_asm); (case k2 => k_asm); (case k3 => k_asm); (case k4 => k_asm); (case k5 => k_asm); (case k6 => k_is); (case k7 => k_is); (case k8 => ktr_room); (case k9 => first | exact BindsTo.of_eq rfl | exact binds_K (by k_in) rfl (by k_is) rfl rfl rfl); (case c5 => decide); (case kB => exact locs rfl); (case c2 => exact rfl); (case c3 => exact rfl); (case c4 => exact rfl); k_whole; intro g' L' h' FG' F' N' B' X' T'; (try dsimp only); (try k_fold))
  repeat' ((fail_if_success (with_reducible show wpAny _ _ (exec (PySem.Stmt.For _ _ _ _ _) _) _ _ _)); (fail_if_success (with_reducible show wpAny _ _ (exec (PySem.Stmt.While _ _ _ _) _) _ _ _)); (fail_if_success (with_reducible show wpAny _ _ (eval (PySem.Expr.ListComp _ _ _ _) _) _ _ _)); (fail_if_success (with_reducible show wpAny _ _ (eval (PySem.Expr.DictComp _ _ _ _ _) _) _ _ _)); (fail_if_success (with_reducible show wpAny _ _ (exec (PySem.Stmt.Assign _ (PySem.Expr.ListComp _ _ _ _) _) _) _ _ _)); (fail_if_success (with_reducible show wpAny _ _ (exec (PySem.Stmt.Assign _ (PySem.Expr.DictComp _ _ _ _ _) _) _) _ _ _)); (first | (k_unfold; (try dsimp only)) | (k_end; wrow_close) | walk1 | (dsimp only; walk1) | (leave1; walk_say "STEP leave1"; try dsimp only) | fail "no step"))
  refine forEnum (h₀ := g') rfl rfl rfl rfl ?_
  k_steps
  rename_i e9 I9 h9 hen9 hit9 a9 b9 c9 d9 e9' F9 N9
  refine fenum_src (m := _) (fun i m₁ nw => nw = news ∧ m₁ (Str.ofString "b") = some (.str x tb) ∧ i ≤ n) hen9 hit9 m1 F9 N9 a9 b9 c9 d9 e9' ⟨rfl, rfl, Nat.zero_le _⟩ ?_ ?_
  · rintro i v m₁ nw hv hm' ⟨rfl, hb, hin⟩ oE oI h tk ti F N off tle
    have hi : i < xs.length := by rw [← hl]; exact (List.getElem?_eq_some_iff.mp hv).1
    obtain ⟨t, e1, e2, e3⟩ := hxs i xs[i] (by simp [hi])
    obtain rfl : v = .str xs[i] t := Option.some.inj (hv.symm.trans e1)
    have hB : NoneBooked h := noneBooked (X'.keeps F.keep)
    by_cases hxb : xs[i] = x
    · have hin' : i = n := by
        rcases Nat.lt_or_ge i n with q | q
        · exact absurd (by simp [hi, hxb]) (hf i q)
        · exact Nat.le_antisymm hin q
      subst hin'
      k_steps
      all_goals first
        | (rename_i q; rw [hxb, beq_self_eq_true] at q; exact absurd q.symm Bool.false_ne_true)
        | (dsimp only; refine EEnd.ret ?_; dsimp only; k_steps; exact hret _ _ _ (by assumption) (cb_drop (by assumption) (by ((repeat (refine List.forall_mem_cons.mpr ⟨by k_mem, ?_⟩)); first | exact List.forall_mem_nil _ | (intro p9 hp9; k_mem)))))
    · k_steps
      try (rename_i q; exact absurd (eq_of_beq q) hxb)
      refine EEnd.intro F N nw (by ((repeat (refine List.forall_mem_cons.mpr ⟨by k_mem, ?_⟩)); first | exact List.forall_mem_nil _ | (intro p9 hp9; k_mem))) off hm' ⟨rfl, hb, ?_⟩
      rcases Nat.lt_or_ge i n with q | q
      · exact q
      · have e0 : i = n := Nat.le_antisymm hin q
        subst e0
        rw [List.getElem?_eq_getElem hi] at hn
        exact absurd (Option.some.inj hn) hxb
  · rintro m₁ nw h tk ⟨rfl, hb, hin⟩ hm' F N
    have := (List.getElem?_eq_some_iff.mp hn).1
    omega
theorem kw_31440_2 : True := by
  k_with "compareOp Is int int" => (k_here; k_dflt (first | (refine is_int_same (by assumption) (by assumption) (by assumption) (by assumption) ?_) | (refine is_int_other (by assumption) (by assumption) (by assumption) (by assumption) ?_)))
  trivial
theorem indexOfI_spec {w : World} {p : Program} {loose : List Str} {mean : ExcName → Option Value} {mg mb : Str → Option Value} {dp un : Nat} {gd : Option (List Code)} {cn : Str} {cs : Scope} {a : Addr} {ccd : Value} {cl : List (Str × Addr)} {outer : List Env} {A₀ : Around} {base h₀ : Heap} {L : Addr} {m : Str → Option Value} {news : List (Addr × Obj)} {s : Shared} {Q E : Value → Shared → Prop} {l1 : Addr} {vs : List Value} {xs : List Int} {k1 n : Nat} {x : Int} {tb : Tok} (B : Below A₀ base outer h₀) (F : Fr h₀ L s.heap m) (X : (Mine.hA.heap_1_39 w.params).In h₀) (N : News h₀ L s.heap news) (T : Top p loose mean mg mb h₀) (hk : cs.kind = .function) (hd : dp + 1 < recursionLimit) (m1 : (l1, W.listOf vs.toArray k1) ∈ news) (z1 : vs.length ≤ 100) (htb : tb ≠ 0)
    (hxs : ∀ (i : Nat) (y : Int), xs[i]? = some y → ∃ t, vs[i]? = some (Value.int y t) ∧ t ≠ 0 ∧ (y ≠ x → t ≠ tb)) (hl : vs.length = xs.length) (hsm : smallInt x = true) (hn : xs[n]? = some x) (hf : ∀ j, j < n → xs[j]? ≠ some x)
    (hret : ∀ t h' tk', Fr h₀ L h' m → News h₀ L h' news → Q (.int (n : Nat) t) { s with heap := h', toks := tk' }) :
    wpAny (model Challenge.rw_xg0084_01.row.toRowW.prog w) (ktrTop dp un gd cn cs L a ccd cl outer) (call (.ref 145) [.ref l1, .int x tb]) Q E s := by
  have _q : Challenge.rw_xg0084_01 = Challenge.rw_xg0084_01 ∧ Mine.hA.heap_1_39 = Mine.hA.heap_1_39 := by (k_fill; exact ⟨rfl, rfl⟩)
  refine wpAny_call ?_
  k_dflt (refine' code_def ?k1 ?k2 ?k3 ?k4 ?k5 ?kA ?kF ?kK ?k6 ?k7 ?k8 ?k9 ?kB ?_ ?c2 ?c3 ?c4 ?c5; (case kA => exact rfl); (case kF => exact rfl); (case kK => assumption); (case k1 => k_asm); (case k2 => k_asm); (case k3 => k_asm); (case k4 => k_asm); (case k5 => k_asm); (case k6 => k_is); (case k7 => k_is); (case k8 => ktr_room); (case k9 => first | exact BindsTo.of_eq rfl | exact binds_K (by k_in) rfl (by k_is) rfl rfl rfl); (case c5 => decide); (case kB => exact locs rfl); (case c2 => exact rfl); (case c3 => exact rfl); (case c4 => exact rfl); k_whole; intro g' L' h' FG' F' N' B' X' T'; (try dsimp only); (try k_fold))
  repeat' ((fail_if_success (with_reducible show wpAny _ _ (exec (PySem.Stmt.For _ _ _ _ _) _) _ _ _)); (fail_if_success (with_reducible show wpAny _ _ (exec (PySem.Stmt.While _ _ _ _) _) _ _ _)); (fail_if_success (with_reducible show wpAny _ _ (eval (PySem.Expr.ListComp _ _ _ _) _) _ _ _)); (fail_if_success (with_reducible show wpAny _ _ (eval (PySem.Expr.DictComp _ _ _ _ _) _) _ _ _)); (fail_if_success (with_reducible show wpAny _ _ (exec (PySem.Stmt.Assign _ (PySem.Expr.ListComp _ _ _ _) _) _) _ _ _)); (fail_if_success (with_reducible show wpAny _ _ (exec (PySem.Stmt.Assign _ (PySem.Expr.DictComp _ _ _ _ _) _) _) _ _ _)); (first | (k_unfold; (try dsimp only)) | (k_end; wrow_close) | walk1 | (dsimp only; walk1) | (leave1; walk_say "STEP leave1"; try dsimp only) | fail "no step"))
  refine forEnum (h₀ := g') rfl rfl rfl rfl ?_
  k_steps
  rename_i e9 I9 h9 hen9 hit9 a9 b9 c9 d9 e9' F9 N9
  refine fenum_src (m := _) (fun i m₁ nw => nw = news ∧ m₁ (Str.ofString "b") = some (.int x tb) ∧ i ≤ n) hen9 hit9 m1 F9 N9 a9 b9 c9 d9 e9' ⟨rfl, rfl, Nat.zero_le _⟩ ?_ ?_
  · rintro i v m₁ nw hv hm' ⟨rfl, hb, hin⟩ oE oI h tk ti F N off tle
    have hi : i < xs.length := by rw [← hl]; exact (List.getElem?_eq_some_iff.mp hv).1
    obtain ⟨t, e1, e2, e3⟩ := hxs i xs[i] (by simp [hi])
    obtain rfl : v = .int xs[i] t := Option.some.inj (hv.symm.trans e1)
    by_cases hxb : xs[i] = x
    · have hin' : i = n := by
        rcases Nat.lt_or_ge i n with q | q
        · exact absurd (by simp [hi, hxb]) (hf i q)
        · exact Nat.le_antisymm hin q
      subst hin'
      have hsx : smallInt xs[i] = true := by rw [hxb]; exact hsm
      k_steps
      dsimp only
      refine EEnd.ret ?_
      dsimp only
      k_steps
      exact hret _ _ _ (by assumption) (cb_drop (by assumption) (by ((repeat (refine List.forall_mem_cons.mpr ⟨by k_mem, ?_⟩)); first | exact List.forall_mem_nil _ | (intro p9 hp9; k_mem))))
    · have e4 := e3 hxb
      k_steps
      try exact absurd (by assumption) hxb
      refine EEnd.intro F N nw (by ((repeat (refine List.forall_mem_cons.mpr ⟨by k_mem, ?_⟩)); first | exact List.forall_mem_nil _ | (intro p9 hp9; k_mem))) off hm' ⟨rfl, hb, ?_⟩
      rcases Nat.lt_or_ge i n with q | q
      · exact q
      · have e0 : i = n := Nat.le_antisymm hin q
        subst e0
        rw [List.getElem?_eq_getElem hi] at hn
        exact absurd (Option.some.inj hn) hxb
  · rintro m₁ nw h tk ⟨rfl, hb, hin⟩ hm' F N
    have := (List.getElem?_eq_some_iff.mp hn).1
    omega
end
end
-- Fn11
section
theorem kr_Fn11 : True := by
  k_with_none
  w_top off
  trivial
open PySem PySem.W PyProof.Rows PySem.Calls
section
theorem kw_274607_1 : True := by
  k_with "eval Name" => (k_here; k_dflt (refine' nameX_L (by k_asm) (by first | rfl | assumption) ?_ (by rfl) (by rfl); k_whole))
  k_with "loadName" => (k_here; k_dflt (refine' loadX_L (by k_asm) (by first | rfl | assumption) ?_ (by rfl) (by rfl); k_whole))
  k_with "storeName" => (k_here; k_dflt (refine' storeX_U (by k_asm) (by k_asm) ?_ (by rfl) (by rfl); k_whole); intro _ _ _; (try k_sweep))
  k_with "call type:tuple" => (k_here; (with_reducible show wpAny _ _ (call (Value.type _) [Value.ref _]) _ _ _); k_dflt (refine' kde_tupleOf (by k_asm) (by k_asm) (LL.is (by k_asm) (by k_mem)) (by (simp only [List.size_toArray]; omega)) rfl ?_; k_whole); intro D' h' F' N' l1'; (have l2' := allp_of l1'); (try k_lt l1'); revert D' h' F' N' l1'; intros)
  k_with "subscriptTail" => (k_here; (with_reducible show wpAny _ _ (subscriptTail _ _ (Value.ref _) (Value.int _ _)) _ _ _); k_dflt (refine' ksa_sub (by k_asm) (by k_mem) (by first | with_reducible assumption | exact IntsAre.append (by assumption) (ints_replicate _ _ _ rfl _)) (by ((try simp only [List.length_replicate, List.length_append, List.length_set]); omega)) (by ((try simp only [List.length_replicate, List.length_append, List.length_set]); omega)) (by ((try simp only [List.length_replicate, List.length_append, List.length_set]); omega)) ?_ (by with_unfolding_all rfl); k_whole); intro _)
  k_with "setItem ref int" => (k_here; (with_reducible show wpAny _ _ (setItem (Value.ref _) (Value.int _ _) (Value.int _ _)) _ _ _); k_dflt (refine' ksa_set (by k_asm) (by k_asm) (by k_upd) (by first | with_reducible assumption | exact IntsAre.append (by assumption) (ints_replicate _ _ _ rfl _)) (by ((try simp only [List.length_replicate, List.length_append, List.length_set]); omega)) (by ((try simp only [List.length_replicate, List.length_append, List.length_set]); omega)) (by ((try simp only [List.length_replicate, List.length_append, List.length_set]); omega)) ?_; k_whole); intro _ _ _ _ _ _)
  k_with "call builtin:len" => (k_here; (with_reducible show wpAny _ _ (call (Value.builtin "len") [Value.ref _]) _ _ _); k_dflt (refine' LL.len (by assumption) (by k_mem) (by first | assumption | omega) ?_; k_whole); intro _ _)
  k_with "binaryOp Add ref ref" => (k_here; (with_reducible show wpAny _ _ (binaryOp Operator.Add (Value.ref _) (Value.ref _)) _ _ _); k_dflt (refine' LL.add (by k_asm) (by k_asm) (by k_mem) (by k_mem) (by ((try simp only [List.length_replicate, List.length_append, List.length_cons, List.length_nil]); (try rw [sizeLine_eq]); omega)) ?_; k_whole); intro D' h' F' N' l1'; (have l2' := allp_of l1'); (try k_lt l1'); revert D' h' F' N' l1'; intros)
  k_with "binaryOp Mult ref int" => (k_here; (with_reducible show wpAny _ _ (binaryOp Operator.Mult (Value.ref _) (Value.int _ _)) _ _ _); k_dflt (refine' LL.rep (by k_asm) (by k_asm) (by k_mem) (by omega) (by omega) ?_; k_whole); intro D' h' F' N' l1'; (have l2' := allp_of l1'); (try k_lt l1'); revert D' h' F' N' l1'; intros)
  k_with "call builtin:len" => (k_here; k_dflt (refine' GL.len (by k_asm) (by assumption) (by assumption) ?_; k_whole); intro _ _)
  k_with "subscriptTail" => (k_here; k_dflt (refine' GL.int (by k_asm) (by assumption) (by assumption) (by omega) (by omega) (by omega) ?_ (by with_unfolding_all rfl); k_whole); intro _)
  trivial

theorem set_bound {cs : List Int} {a : Nat} {x B : Int} (h0 : 0 ≤ x) (h1 : x ≤ 1000000) (hb : ∀ j, 0 ≤ cs.getD j 0 ∧ cs.getD j 0 ≤ B) (j : Nat) : 0 ≤ (cs.set a (cs.getD a 0 + x)).getD j 0 ∧ (cs.set a (cs.getD a 0 + x)).getD j 0 ≤ B + 1000000 := by
  have ha := hb a
  have hj := hb j
  by_cases e : j = a
  · subst e
    by_cases hl : j < cs.length
    · rw [show (cs.set j (cs.getD j 0 + x)).getD j 0 = cs.getD j 0 + x from by simp [List.getD, List.getElem?_set, hl]]
      omega
    · rw [show (cs.set j (cs.getD j 0 + x)).getD j 0 = 0 from by simp [List.getD, List.getElem?_set, hl]]
      omega
  · rw [show (cs.set a (cs.getD a 0 + x)).getD j 0 = cs.getD j 0 from by simp [List.getD, List.getElem?_set, Ne.symm e]]
    omega
inductive CLo (D : Addr) (news : List (Addr × Obj)) (m₁ : Str → Option Value) (nw : List (Addr × Obj)) : Prop
  | mk (vs' : List Value) (kk : Nat) (cs : List Int)
    (x1 : nw = (D, W.listOf vs'.toArray kk) :: news)
    (x2 : IntsAre vs' cs)
    (x3 : cs.length = 6)
    (x4 : (∀ j, 0 ≤ cs.getD j 0 ∧ cs.getD j 0 ≤ 100000000))
    (x5 : m₁ (Str.ofString "cells") = some (.ref D)) : CLo D news m₁ nw
inductive CLi (D l1 : Addr) (news : List (Addr × Obj)) (i : Nat) (m₁ : Str → Option Value) (nw : List (Addr × Obj)) : Prop
  | mk (vs' : List Value) (kk : Nat) (cs : List Int)
    (x1 : nw = (D, W.listOf vs'.toArray kk) :: news)
    (x2 : IntsAre vs' cs)
    (x3 : cs.length = 6)
    (x4 : (∀ j, 0 ≤ cs.getD j 0 ∧ cs.getD j 0 ≤ 32 + i * 1000000))
    (x5 : m₁ (Str.ofString "cells") = some (.ref D))
    (x6 : m₁ (Str.ofString "script") = some (.ref l1)) : CLi D l1 news i m₁ nw
theorem cells_spec {w : World} {p : Program} {loose : List Str} {mean : ExcName → Option Value} {mg mb : Str → Option Value} {dp un : Nat} {gd : Option (List Code)} {cn : Str} {cs : Scope} {a : Addr} {ccd : Value} {cl : List (Str × Addr)} {outer : List Env} {A₀ : Around} {base h₀ : Heap} {L : Addr} {m : Str → Option Value} {news : List (Addr × Obj)} {s : Shared} {Q E : Value → Shared → Prop} {l1 : Addr} {vs : List Value} {ns : List Int} (B : Below A₀ base outer h₀) (F : Fr h₀ L s.heap m) (X : (Mine.hA.heap_1_39 w.params).In h₀) (N : News h₀ L s.heap news) (T : Top p loose mean mg mb h₀) (hk : cs.kind = .function) (hd : dp + 1 < recursionLimit) (hL : h₀.IsList l1 vs.toArray) (i1 : IntsAre vs ns) (z1 : vs.length ≤ 63)
    (hret : ∀ D vs' k cs h' tk', Fr h₀ L h' m → News h₀ L h' ((D, W.listOf vs'.toArray k) :: news) → (∀ p ∈ news, p.1 < D) → IntsAre vs' cs → cs.length = 6 → (∀ j, 0 ≤ cs.getD j 0 ∧ cs.getD j 0 ≤ 100000000) → Q (.ref D) { s with heap := h', toks := tk' }) :
    wpAny (model Challenge.rw_xg0084_01.row.toRowW.prog w) (ktrTop dp un gd cn cs L a ccd cl outer) (call (.ref 274) [.ref l1]) Q E s := by
  have _q : Challenge.rw_xg0084_01 = Challenge.rw_xg0084_01 ∧ Mine.hA.heap_1_39 = Mine.hA.heap_1_39 := by (k_fill; exact ⟨rfl, rfl⟩)
  refine wpAny_call ?_
  k_dflt (refine' code_def ?k1 ?k2 ?k3 ?k4 ?k5 ?kA ?kF ?kK ?k6 ?k7 ?k8 ?k9 ?kB ?_ ?c2 ?c3 ?c4 ?c5; (case kA => exact rfl); (case kF => exact rfl); (case kK => assumption); (case k1 => k_asm); (case k2 => k_asm); (case k3 => k_asm); (case k4 => k_asm); (case k5 => k_asm); (case k6 => k_is); (case k7 => k_is); (case k8 => ktr_room); (case k9 => first | exact BindsTo.of_eq rfl | exact binds_K (by k_in) rfl (by k_is) rfl rfl rfl); (case c5 => decide); (case kB => exact locs rfl); (case c2 => exact rfl); (case c3 => exact rfl); (case c4 => exact rfl); k_whole; intro g' L' h' FG' F' N' B' X' T'; (try dsimp only); (try k_fold))
  have hL' : g'.IsList l1 vs.toArray := by
    obtain ⟨o, e, r⟩ := hL
    exact ⟨o, FG'.keep _ _ e, r⟩
  have e9 : vs.length = ns.length := i1.length
  have i2 := i1
  have hz62 : vs.length < 2 ^ 62 := by omega
  repeat' ((fail_if_success (with_reducible show wpAny _ _ (exec (PySem.Stmt.For _ _ _ _ _) _) _ _ _)); (fail_if_success (with_reducible show wpAny _ _ (exec (PySem.Stmt.While _ _ _ _) _) _ _ _)); (fail_if_success (with_reducible show wpAny _ _ (eval (PySem.Expr.ListComp _ _ _ _) _) _ _ _)); (fail_if_success (with_reducible show wpAny _ _ (eval (PySem.Expr.DictComp _ _ _ _ _) _) _ _ _)); (fail_if_success (with_reducible show wpAny _ _ (exec (PySem.Stmt.Assign _ (PySem.Expr.ListComp _ _ _ _) _) _) _ _ _)); (fail_if_success (with_reducible show wpAny _ _ (exec (PySem.Stmt.Assign _ (PySem.Expr.DictComp _ _ _ _ _) _) _) _ _ _)); (first | (k_unfold; (try dsimp only)) | (k_end; wrow_close) | walk1 | (dsimp only; walk1) | (leave1; walk_say "STEP leave1"; try dsimp only) | fail "no step"))
  rename_i D h1 lD h2 F2 N2
  have hlD := allp_of lD
  refine forCut (CLo D news) F2 ?_ ?_
  · k_steps
    rename_i hR F3 N3 _
    have hn : (if 24 < (ns.length : Int) then (24 : Int) else (ns.length : Int)) = ((min ns.length 24 : Nat) : Int) := by split <;> omega
    (try rw [e9] at hR)
    rw [hn] at hR
    refine fsrc_range (n := min ns.length 24) (m := _) (CLi D l1 news) rfl F3 N3 hR (small_one (by omega) (by omega) (by omega) (by omega)) (by rw [rangeSize_nat]; omega) ⟨_, _, rfl⟩ ⟨_, _, _, rfl, .cons _ _ (.cons _ _ (.cons _ _ (.cons _ _ (.cons _ _ (.cons _ _ .nil))))), rfl, ?_, rfl, rfl⟩ ?_ ?_
    · intro j
      match j with
      | 0 | 1 | 2 | 3 | 4 | 5 => decide
      | j + 6 => simp
    · rintro i t m₁ nw g I hi ⟨vs', kk, cs, rfl, hI, hl, hb, hc, hs⟩
      refine FTurn.name (by rfl) (by rfl) ?_
      intro oI h tk F N off tle
      have hDI := neN (off _ List.mem_cons_self)
      have hnI : ∀ p ∈ news, p.1 ≠ I := fun p hp => off p (List.mem_cons_of_mem _ hp)
      k_steps
      rename_i F2' N2' hi2 hl2 hs2
      refine FEnd.intro F2' N2' _ (fun _ h => h) (List.forall_mem_cons.mpr ⟨hDI, hnI⟩) trivial ⟨_, _, _, rfl, hi2, ?_, fun j => ?_, hc, hs⟩
      · rw [List.length_set]; exact hl
      · have q := set_bound (a := ((0 : Int) + (i : Int)).fmod 6 |>.toNat) (x := (ns.getD ((0 : Int) + (i : Int)).toNat 0).fmod 1000000) (Int.fmod_nonneg_of_pos _ (by decide)) (Int.le_of_lt (Int.fmod_lt_of_pos _ (by decide))) hb j
        refine ⟨q.1, Int.le_trans q.2 ?_⟩
        have : ((i + 1 : Nat) : Int) = (i : Int) + 1 := rfl
        omega
    · rintro m₁ nw h tk ⟨vs', kk, cs, rfl, hI, hl, hb, hc, hs⟩ F N tle
      refine wpAny_execs_nil (FCut.intro F N _ (fun _ h => h) ⟨vs', kk, cs, rfl, hI, hl, fun j => ⟨(hb j).1, ?_⟩, hc⟩)
      have := (hb j).2
      omega
  · clear F2 N2
    intro h tk m₁ nw F N hJ tle
    obtain ⟨vs', kk, cs, rfl, hI, hl, hb, hc⟩ := hJ
    k_steps
    exact hret _ _ _ _ _ _ (by assumption) (by assumption) lD hI hl hb
end
end
-- Acc6
section
theorem kr_Acc6 : True := by
  k_with_none
  w_top off
  trivial
open PySem PySem.W PyProof.Rows PySem.Calls
theorem acc_makes {w : World} {h : Heap} (X : (Mine.hA.heap_1_39 w.params).In h) : AccMakes (model Challenge.rw_xg0084_01.row.toRowW.prog w) h 99 := by
  have _q : Challenge.rw_xg0084_01 = Challenge.rw_xg0084_01 ∧ Mine.hA.heap_1_39 = Mine.hA.heap_1_39 := by (k_fill; exact ⟨rfl, rfl⟩)
  refine accMakes_of X (by k_is) rfl rfl rfl rfl rfl (by k_is) (by k_is) (by k_is)

theorem acc_cd (w : World) : ∃ cd, clsIn (Mine.hA.heap_1_39 w.params) 99 = some cd ∧ cd.mro = [.ref 99, .type "list", .type "object"] ∧ cd.hasDict = true := by
  have _q : Challenge.rw_xg0084_01 = Challenge.rw_xg0084_01 ∧ Mine.hA.heap_1_39 = Mine.hA.heap_1_39 := by (k_fill; exact ⟨rfl, rfl⟩)
  refine ⟨_, by k_is, rfl, rfl⟩
theorem kw_601434_1 : True := by
  k_with "setAttr ref" => (k_here;    k_dflt (refine' acc_setattr (its := []) (n := 0) (by assumption) (by assumption) (by assumption) (by k_is) (by rfl) (by rfl) (by k_is) (by k_is) (by k_ne) (by exact allp_of (by assumption)) ?_; k_whole); intro _ _ _ _ _ _)
  trivial

theorem acc_new {w : World} {p : Program} {loose : List Str} {mean : ExcName → Option Value} {mg mb : Str → Option Value} {dp un : Nat} {gd : Option (List Code)} {cn : Str} {cs : Scope} {a : Addr} {ccd : Value} {cl : List (Str × Addr)} {outer : List Env} {A₀ : Around} {base h₀ : Heap} {L : Addr} {m : Str → Option Value} {news : List (Addr × Obj)} {s : Shared} {Q E : Value → Shared → Prop} 
    (B : Below A₀ base outer h₀) (F : Fr h₀ L s.heap m) (X : (Mine.hA.heap_1_39 w.params).In h₀) (N : News h₀ L s.heap news) (T : Top p loose mean mg mb h₀) (hk : cs.kind = .function) (hd : dp + 5 < recursionLimit) (hu : un + 50 < cLine)
    (hret : ∀ pg dpg od n h' tk', Fr h₀ L h' m → News h₀ L h' ((pg, accObj dpg [] n) :: (dpg, od) :: news) → IsAccD od → (∀ p ∈ news, p.1 < dpg) → dpg < pg → Q (.ref pg) { s with heap := h', toks := tk' }) :
    wpAny (model Challenge.rw_xg0084_01.row.toRowW.prog w) (ktrTop dp un gd cn cs L a ccd cl outer) (call (.ref 99) []) Q E s := by
  have _q : Challenge.rw_xg0084_01 = Challenge.rw_xg0084_01 ∧ Mine.hA.heap_1_39 = Mine.hA.heap_1_39 := by (k_fill; exact ⟨rfl, rfl⟩)
  refine wpAny_call ?_
  obtain ⟨hp, g, d, tk, os⟩ := s
  dsimp only at F N hret
  have X₁ := X.keeps F.keep
  refine acc_make_core (acc_makes X₁) (looks_findIn X₁ (by k_is)) (fun self => bind_fn X₁ self (by k_is)) ?_
  have F₂ := (F.push emptyDict).push (accNew 99 hp.objs.size)
  have N₂ := (N.push F emptyDict).push (F.push _) (accNew 99 hp.objs.size)
  rw [Heap.size_push] at N₂
  have l₂ : ∀ p ∈ news, p.1 < hp.objs.size := fun p hp => Heap.lt_size (N p hp).1
  generalize hH : (hp.push emptyDict).push (accNew 99 hp.objs.size) = H at F₂ N₂ ⊢
  generalize hp.objs.size = dx at N₂ l₂ ⊢
  clear hH F N X₁
  k_dflt (refine' ks_code_super ?k1 ?k2 ?k3 ?k4 ?k5 ?kA ?kF ?kK ?k6 ?k7 ?k8 ?k9 ?kB ?_ ?c1 ?c2 ?c3 ?c4; (case kA => exact rfl); (case kF => exact rfl); (case kK => assumption); (case k1 => k_asm); (case k2 => k_asm); (case k3 => k_asm); (case k4 => k_asm); (case k5 => k_asm); (case k6 => k_is); (case k7 => k_is); (case k8 => ktr_room); (case k9 => first | exact BindsTo.of_eq rfl | exact binds_K (by k_in) rfl (by k_is) rfl rfl rfl); (case kB => exact locs rfl); (case c1 => decide); (case c2 => exact rfl); (case c3 => exact rfl); (case c4 => exact rfl); intro g' L' h' FG' F' N' B' X' T' l1; (try k_lt l1); (try dsimp only); (try k_lift B'))
  refine ks_wpAt_execs_cons ?_
  refine wpAt_of_wpAny ?_
  walk1
  walk1
  walk1
  walk1
  dsimp only
  refine ks_wpAt_execs_cons ?_
  refine ks_wpAt_Expr_any ?_
  refine ks_wpAt_MethodCall ?_
  k_dflt (refine ks_node (by k_asm) (by k_asm) (by k_asm) (by k_asm) (by k_is) (by rfl) (by rfl) (acc_inst (by assumption) (by k_mem) (by k_mem)) (by k_is) (by rfl) (by first | rfl | decide +kernel) (by k_is) (by k_is) (by k_is) (by k_is) (by decide) (by rfl) (by rfl) (by rfl) (by rfl) (by decide +kernel) (by first | boot_by_name | rfl | kernel_rfl) ?_; intro so' h' F' N' l1; (try k_lt l1))
  have Xh := Frag.In.keeps X' (Fr.keep F')
  have I : InstAt h' _ _ 99 _ := acc_inst N' (List.mem_cons_of_mem _ (List.mem_cons_self)) (List.mem_cons_of_mem _ (List.mem_cons_of_mem _ List.mem_cons_self))
  obtain ⟨cd, hcd, hmro, _⟩ := acc_cd w
  have hne := ks_ne Xh I hcd
  refine acc_super_method (N' _ List.mem_cons_self).1 (looks_opaque Xh (by k_is)) Xh hcd hmro I hne (by kernel_rfl) (by decide) ?_
  dsimp only
  have F₃ := F'.push (mwObj (dx + 1))
  have N₃ := News.push F' N' (mwObj (dx + 1))
  have hlt : ∀ p ∈ (so', supObj 99 (dx + 1) 99) :: (dx + 1, accObj dx [] 0) :: _, p.1 < h'.objs.size := fun p hp => Heap.lt_size (N' p hp).1
  refine callWith_of (P := fun h => h = h'.push (mwObj (dx + 1))) rfl (fun hh e => ⟨.machine, .inr (.inl rfl), ?_⟩) (evalArgs_nil3 ⟨rfl, ?_⟩)
  · subst e
    exact Looks.andThen (Looks.ld (part := none) (N₃ _ List.mem_cons_self).1) .now
  refine acc_list_init (N₃ _ List.mem_cons_self).1 (Xh.keeps fun b o e => Heap.get?_push_of_some _ e) hcd hmro (N₃ _ (List.mem_cons_of_mem _ (List.mem_cons_of_mem _ List.mem_cons_self))).1 (N₃ _ (List.mem_cons_of_mem _ (List.mem_cons_of_mem _ (List.mem_cons_of_mem _ List.mem_cons_self)))).1 ?_
  have hs1 : so' < h'.objs.size := hlt _ List.mem_cons_self
  have hs2 : dx + 1 < h'.objs.size := hlt _ (List.mem_cons_of_mem _ List.mem_cons_self)
  obtain ⟨F₄, N₄⟩ := news_upd (pre := [(_, mwObj (dx + 1)), (so', supObj 99 (dx + 1) 99)]) (f := Obj.mapSeq fun _ => #[]) F₃ N₃ (fun p hp => by
    simp only [List.mem_cons, List.not_mem_nil, or_false] at hp
    rcases hp with rfl | rfl
    · exact Nat.ne_of_gt hs2
    · exact Nat.ne_of_gt l1.1) (fun p hp => by
    rcases List.mem_cons.mp hp with rfl | hp
    · exact Nat.ne_of_lt (Nat.lt_succ_self _)
    · exact Nat.ne_of_lt (Nat.lt_succ_of_lt (l₂ p hp))) (mapSeq_acc (zs := []) rfl) rfl
  simp only [List.cons_append, List.nil_append] at N₄
  clear F₃ N₃ F' N'
  refine wpAt_of_wpAny ?_
  k_steps
  exact hret _ _ _ _ _ _ (by assumption) (cb_drop (by assumption) (by ((repeat (refine List.forall_mem_cons.mpr ⟨by k_mem, ?_⟩)); first | exact List.forall_mem_nil _ | (intro p9 hp9; k_mem)))) ⟨_, _, _, _, rfl⟩ l₂ (Nat.lt_succ_self _)
end
-- Fn5
section
theorem kr_Fn5 : True := by
  k_with_none
  w_top off
  trivial
open PySem PySem.W PyProof.Rows PySem.Calls
theorem kw_340677_1 : True := by
  k_with "eval Name" => (k_here; k_dflt (refine' nameX_L (by k_asm) (by first | rfl | assumption) ?_ (by rfl) (by rfl); k_whole))
  k_with "loadName" => (k_here; k_dflt (refine' loadX_L (by k_asm) (by first | rfl | assumption) ?_ (by rfl) (by rfl); k_whole))
  k_with "storeName" => (k_here; k_dflt (refine' storeX_U (by k_asm) (by k_asm) ?_ (by rfl) (by rfl); k_whole); intro _ _ _; (try k_sweep))
  k_with "subscriptTail" => (k_here; (with_reducible show wpAny _ _ (subscriptTail _ _ (Value.ref _) (Value.int _ _)) _ _ _); k_dflt (first | (refine' TT.item (by k_asm) (by k_mem) (by omega) (by first | assumption | rfl) (by first | assumption | ((try simp only [List.length_cons, List.length_nil, List.length_append, List.length_map, List.length_range]); omega)) ?_ (by with_unfolding_all rfl); k_whole) | (refine' LL.item (by k_asm) (by k_mem) (by omega) (by first | assumption | rfl) (by first | assumption | ((try simp only [List.length_cons, List.length_nil, List.length_append, List.length_map, List.length_range]); omega)) (by with_unfolding_all rfl) ?_; k_whole)))
  k_with "subscriptTail" => (k_here; (with_reducible show wpAny _ _ (subscriptTail _ _ (Value.ref _) (Value.int _ _)) _ _ _); k_dflt (first | (refine' TT.int (by k_asm) (by k_mem) (by with_reducible assumption) (by omega) (by omega) (by omega) ?_ (by with_unfolding_all rfl); k_whole) | (refine' LL.int (by k_asm) (by k_mem) (by with_reducible assumption) (by omega) (by omega) (by omega) ?_ (by with_unfolding_all rfl); k_whole)); intro _)
  k_with "call builtin:len" => (k_here; (with_reducible show wpAny _ _ (call (Value.builtin "len") [Value.ref _]) _ _ _); k_dflt (first | (refine' LL.len (by assumption) (by k_mem) (by first | assumption | ((try simp only [List.length_cons, List.length_nil, List.length_append, List.length_map, List.length_range]); omega)) ?_; k_whole) | (refine' TT.len (by assumption) (by k_mem) (by first | assumption | ((try simp only [List.length_cons, List.length_nil, List.length_append, List.length_map, List.length_range]); omega)) ?_; k_whole)); intro _ _)
  trivial


theorem tc_new {w : World} {p : Program} {loose : List Str} {mean : ExcName → Option Value} {mg mb : Str → Option Value} {dp un : Nat} {gd : Option (List Code)} {cn : Str} {cs : Scope} {a : Addr} {ccd : Value} {cl : List (Str × Addr)} {outer : List Env} {A₀ : Around} {base h₀ : Heap} {L : Addr} {m : Str → Option Value} {news : List (Addr × Obj)} {s : Shared} {Q E : Value → Shared → Prop} {sel : Addr} (B : Below A₀ base outer h₀) (F : Fr h₀ L s.heap m) (X : (Mine.hA.heap_1_39 w.params).In h₀) (N : News h₀ L s.heap news) (T : Top p loose mean mg mb h₀) (hk : cs.kind = .function) (hd : dp + 2 < recursionLimit)
    (hret : ∀ x d hh kk h' tk', Fr h₀ L h' m → News h₀ L h' ((x, instObj 169 d) :: (d, dictOf [⟨hh, .str (Str.ofString "comp_select_list") kk, .ref sel⟩] 1) :: news) → (∀ p ∈ news, p.1 < d) → d < x → Q (.ref x) { s with heap := h', toks := tk' }) :
    wpAny (model Challenge.rw_xg0084_01.row.toRowW.prog w) (ktrTop dp un gd cn cs L a ccd cl outer) (call (.ref 169) [.ref sel]) Q E s := by
  have _q : Challenge.rw_xg0084_01 = Challenge.rw_xg0084_01 ∧ Mine.hA.heap_1_39 = Mine.hA.heap_1_39 := by (k_fill; exact ⟨rfl, rfl⟩)
  refine' call_cls ?k1 ?k2 ?k3 ?k4 ?k5 ?k6 ?_; (case k1 => k_asm); (case k2 => k_asm); (case k3 => k_asm); (case k4 => k_is); (case k5 => k_is); (case k6 => k_is); k_whole; intro x' d' h' F' N' l1 l2; (try k_lt l1); (try k_lt2 l2); (try k_sweep)
  k_dflt (refine' code_def ?k1 ?k2 ?k3 ?k4 ?k5 ?kA ?kF ?kK ?k6 ?k7 ?k8 ?k9 ?kB ?_ ?c2 ?c3 ?c4 ?c5; (case kA => exact rfl); (case kF => exact rfl); (case kK => assumption); (case k1 => k_asm); (case k2 => k_asm); (case k3 => k_asm); (case k4 => k_asm); (case k5 => k_asm); (case k6 => k_is); (case k7 => k_is); (case k8 => ktr_room); (case k9 => first | exact BindsTo.of_eq rfl | exact binds_K (by k_in) rfl (by k_is) rfl rfl rfl); (case c5 => decide); (case kB => exact locs rfl); (case c2 => exact rfl); (case c3 => exact rfl); (case c4 => exact rfl); k_whole; intro g' L' h' FG' F' N' B' X' T'; (try dsimp only); (try k_fold))
  k_steps
  exact hret _ _ _ _ _ _ (by assumption) (cb_drop (by assumption) (by ((repeat (refine List.forall_mem_cons.mpr ⟨by k_mem, ?_⟩)); first | exact List.forall_mem_nil _ | (intro p9 hp9; k_mem)))) l1 l2
noncomputable def cmpF : List (Int × Int × Int) → Int
  | [] => 0
  | (d, a, b) :: l => if a < b then -d else if a > b then d else cmpF l

theorem cmp_spec {w : World} {p : Program} {loose : List Str} {mean : ExcName → Option Value} {mg mb : Str → Option Value} {dp un : Nat} {gd : Option (List Code)} {cn : Str} {cs : Scope} {a : Addr} {ccd : Value} {cl : List (Str × Addr)} {outer : List Env} {A₀ : Around} {base h₀ : Heap} {L : Addr} {m : Str → Option Value} {news : List (Addr × Obj)} {s : Shared} {Q E : Value → Shared → Prop} {x d sel p0 p1 p2 l r : Addr} {hh : Int} {kk t0 t1 t2 u0 u1 u2 e0 e1 e2 f0 f1 f2 : Tok} {one two a0 a1 a2 b0 b1 b2 : Int} (B : Below A₀ base outer h₀) (F : Fr h₀ L s.heap m) (X : (Mine.hA.heap_1_39 w.params).In h₀) (N : News h₀ L s.heap news) (T : Top p loose mean mg mb h₀) (hk : cs.kind = .function) (hd : dp + 1 < recursionLimit) (m1 : (x, instObj 169 d) ∈ news) (m2 : (d, dictOf [⟨hh, .str (Str.ofString "comp_select_list") kk, .ref sel⟩] 1) ∈ news)
    (m3 : (sel, tupO [.ref p0, .ref p1, .ref p2]) ∈ news) (m4 : (p0, tupO [.int 0 t0, .int one u0]) ∈ news) (m5 : (p1, tupO [.int 1 t1, .int two u1]) ∈ news) (m6 : (p2, tupO [.int 2 t2, .int 1 u2]) ∈ news)
    (ml : (l, tupO [.int a0 e0, .int a1 e1, .int a2 e2]) ∈ news) (mr : (r, tupO [.int b0 f0, .int b1 f1, .int b2 f2]) ∈ news)
    (hts : @LT.lt Nat _ 0 s.toks) (hu0 : @LT.lt Nat _ 0 u0 ∧ @LT.lt Nat _ u0 s.toks) (hu1 : @LT.lt Nat _ 0 u1 ∧ @LT.lt Nat _ u1 s.toks) (hu2 : @LT.lt Nat _ 0 u2 ∧ @LT.lt Nat _ u2 s.toks)
    (hret : ∀ t h' tk', Fr h₀ L h' m → News h₀ L h' news → @LT.lt Nat _ 0 t → @LT.lt Nat _ t tk' → Q (.int (cmpF [(one, a0, b0), (two, a1, b1), (1, a2, b2)]) t) { s with heap := h', toks := tk' }) :
    wpAny (model Challenge.rw_xg0084_01.row.toRowW.prog w) (ktrTop dp un gd cn cs L a ccd cl outer) (call (.ref 166) [.ref x, .ref l, .ref r]) Q E s := by
  have _q : Challenge.rw_xg0084_01 = Challenge.rw_xg0084_01 ∧ Mine.hA.heap_1_39 = Mine.hA.heap_1_39 := by (k_fill; exact ⟨rfl, rfl⟩)
  refine wpAny_toks ?_
  refine wpAny_call ?_
  k_dflt (refine' code_def ?k1 ?k2 ?k3 ?k4 ?k5 ?kA ?kF ?kK ?k6 ?k7 ?k8 ?k9 ?kB ?_ ?c2 ?c3 ?c4 ?c5; (case kA => exact rfl); (case kF => exact rfl); (case kK => assumption); (case k1 => k_asm); (case k2 => k_asm); (case k3 => k_asm); (case k4 => k_asm); (case k5 => k_asm); (case k6 => k_is); (case k7 => k_is); (case k8 => ktr_room); (case k9 => first | exact BindsTo.of_eq rfl | exact binds_K (by k_in) rfl (by k_is) rfl rfl rfl); (case c5 => decide); (case kB => exact locs rfl); (case c2 => exact rfl); (case c3 => exact rfl); (case c4 => exact rfl); k_whole; intro g' L' h' FG' F' N' B' X' T'; (try dsimp only); (try k_fold))
  repeat' ((fail_if_success (with_reducible show wpAny _ _ (exec (PySem.Stmt.For _ _ _ _ _) _) _ _ _)); (fail_if_success (with_reducible show wpAny _ _ (exec (PySem.Stmt.While _ _ _ _) _) _ _ _)); (fail_if_success (with_reducible show wpAny _ _ (eval (PySem.Expr.ListComp _ _ _ _) _) _ _ _)); (fail_if_success (with_reducible show wpAny _ _ (eval (PySem.Expr.DictComp _ _ _ _ _) _) _ _ _)); (fail_if_success (with_reducible show wpAny _ _ (exec (PySem.Stmt.Assign _ (PySem.Expr.ListComp _ _ _ _) _) _) _ _ _)); (fail_if_success (with_reducible show wpAny _ _ (exec (PySem.Stmt.Assign _ (PySem.Expr.DictComp _ _ _ _ _) _) _) _ _ _)); (first | (k_unfold; (try dsimp only)) | (k_end; wrow_close) | walk1 | (dsimp only; walk1) | (leave1; walk_say "STEP leave1"; try dsimp only) | fail "no step"))
  refine forF F' ?_
  k_steps
  refine fsrc_tuple (m := _) (news := news) (its := [.ref p0, .ref p1, .ref p2]) (fun i m₁ nw => nw = news ∧ m₁ (Str.ofString "left") = some (.ref l) ∧ m₁ (Str.ofString "right") = some (.ref r) ∧ cmpF [(one, a0, b0), (two, a1, b1), (1, a2, b2)] = cmpF ([(one, a0, b0), (two, a1, b1), (1, a2, b2)].drop i)) rfl F' N' ⟨_, m3⟩ ⟨rfl, rfl, rfl, rfl⟩ ?_ ?_
  · rintro i v m₁ nw g I hv - ⟨rfl, hl, hr, hc⟩
    rcases i with _ | _ | _ | i
    · cases hv
      refine FTurn.pair rfl rfl rfl rfl ⟨_, m4⟩ ?_
      intro oI h tk F N off tle
      k_steps
      · rename_i q
        dsimp only
        have e9 : cmpF [(one, a0, b0), (two, a1, b1), (1, a2, b2)] = -one := by rw [hc]; simp [cmpF, q]
        rw [e9] at hret
        refine FEnd.ret ?_
        dsimp only
        k_steps
        exact hret _ _ _ (by assumption) (cb_drop (by assumption) (by ((repeat (refine List.forall_mem_cons.mpr ⟨by k_mem, ?_⟩)); first | exact List.forall_mem_nil _ | (intro p9 hp9; k_mem)))) (by (dsimp only at *; omega)) (by (dsimp only at *; omega))
      · rename_i q2 q1
        dsimp only
        have e9 : cmpF [(one, a0, b0), (two, a1, b1), (1, a2, b2)] = one := by rw [hc]; simp [cmpF, q1, q2]
        rw [e9] at hret
        refine FEnd.ret ?_
        dsimp only
        k_steps
        exact hret _ _ _ (by assumption) (cb_drop (by assumption) (by ((repeat (refine List.forall_mem_cons.mpr ⟨by k_mem, ?_⟩)); first | exact List.forall_mem_nil _ | (intro p9 hp9; k_mem)))) (by (dsimp only at *; omega)) (by (dsimp only at *; omega))
      · rename_i F2 N2 q1 q2
        exact FEnd.intro F2 N2 _ (by ((repeat (refine List.forall_mem_cons.mpr ⟨by k_mem, ?_⟩)); first | exact List.forall_mem_nil _ | (intro p9 hp9; k_mem))) off ⟨_, m3⟩ ⟨rfl, hl, hr, by rw [hc]; simp [cmpF, q1, q2]⟩
    · cases hv
      refine FTurn.pair rfl rfl rfl rfl ⟨_, m5⟩ ?_
      intro oI h tk F N off tle
      k_steps
      · rename_i q
        dsimp only
        have e9 : cmpF [(one, a0, b0), (two, a1, b1), (1, a2, b2)] = -two := by rw [hc]; simp [cmpF, q]
        rw [e9] at hret
        refine FEnd.ret ?_
        dsimp only
        k_steps
        exact hret _ _ _ (by assumption) (cb_drop (by assumption) (by ((repeat (refine List.forall_mem_cons.mpr ⟨by k_mem, ?_⟩)); first | exact List.forall_mem_nil _ | (intro p9 hp9; k_mem)))) (by (dsimp only at *; omega)) (by (dsimp only at *; omega))
      · rename_i q2 q1
        dsimp only
        have e9 : cmpF [(one, a0, b0), (two, a1, b1), (1, a2, b2)] = two := by rw [hc]; simp [cmpF, q1, q2]
        rw [e9] at hret
        refine FEnd.ret ?_
        dsimp only
        k_steps
        exact hret _ _ _ (by assumption) (cb_drop (by assumption) (by ((repeat (refine List.forall_mem_cons.mpr ⟨by k_mem, ?_⟩)); first | exact List.forall_mem_nil _ | (intro p9 hp9; k_mem)))) (by (dsimp only at *; omega)) (by (dsimp only at *; omega))
      · rename_i F2 N2 q1 q2
        exact FEnd.intro F2 N2 _ (by ((repeat (refine List.forall_mem_cons.mpr ⟨by k_mem, ?_⟩)); first | exact List.forall_mem_nil _ | (intro p9 hp9; k_mem))) off ⟨_, m3⟩ ⟨rfl, hl, hr, by rw [hc]; simp [cmpF, q1, q2]⟩
    · cases hv
      refine FTurn.pair rfl rfl rfl rfl ⟨_, m6⟩ ?_
      intro oI h tk F N off tle
      k_steps
      · rename_i q
        dsimp only
        have e9 : cmpF [(one, a0, b0), (two, a1, b1), (1, a2, b2)] = -1 := by rw [hc]; simp [cmpF, q]
        rw [e9] at hret
        refine FEnd.ret ?_
        dsimp only
        k_steps
        exact hret _ _ _ (by assumption) (cb_drop (by assumption) (by ((repeat (refine List.forall_mem_cons.mpr ⟨by k_mem, ?_⟩)); first | exact List.forall_mem_nil _ | (intro p9 hp9; k_mem)))) (by (dsimp only at *; omega)) (by (dsimp only at *; omega))
      · rename_i q2 q1
        dsimp only
        have e9 : cmpF [(one, a0, b0), (two, a1, b1), (1, a2, b2)] = 1 := by rw [hc]; simp [cmpF, q1, q2]
        rw [e9] at hret
        refine FEnd.ret ?_
        dsimp only
        k_steps
        exact hret _ _ _ (by assumption) (cb_drop (by assumption) (by ((repeat (refine List.forall_mem_cons.mpr ⟨by k_mem, ?_⟩)); first | exact List.forall_mem_nil _ | (intro p9 hp9; k_mem)))) (by (dsimp only at *; omega)) (by (dsimp only at *; omega))
      · rename_i F2 N2 q1 q2
        exact FEnd.intro F2 N2 _ (by ((repeat (refine List.forall_mem_cons.mpr ⟨by k_mem, ?_⟩)); first | exact List.forall_mem_nil _ | (intro p9 hp9; k_mem))) off ⟨_, m3⟩ ⟨rfl, hl, hr, by rw [hc]; simp [cmpF, q1, q2]⟩
    · simp at hv
  · rintro m₁ nw h tk ⟨rfl, hl, hr, hc⟩ - F N tle
    rw [hc] at hret
    k_steps
    exact hret _ _ _ (by assumption) (by assumption) (by (dsimp only at *; omega)) (by (dsimp only at *; omega))
end
-- Fn12
section
theorem kr_Fn12 : True := by
  k_with_none
  w_top off
  trivial
open PySem PySem.W PyProof.Rows PySem.Calls
section
theorem kw_286102_1 : True := by
  k_with "eval Name" => (k_here; k_dflt (refine' nameX_L (by k_asm) (by first | rfl | assumption) ?_ (by rfl) (by rfl); k_whole))
  k_with "loadName" => (k_here; k_dflt (refine' loadX_L (by k_asm) (by first | rfl | assumption) ?_ (by rfl) (by rfl); k_whole))
  k_with "storeName" => (k_here; k_dflt (refine' storeX_U (by k_asm) (by k_asm) ?_ (by rfl) (by rfl); k_whole); intro _ _ _; (try k_sweep))
  k_with "call type:tuple" => (k_here; (with_reducible show wpAny _ _ (call (Value.type _) [Value.ref _]) _ _ _); k_dflt (refine' kde_tupleOf (by k_asm) (by k_asm) (LL.is (by k_asm) (by k_mem)) (by (simp only [List.size_toArray]; omega)) rfl ?_; k_whole); intro D' h' F' N' l1'; (have l2' := allp_of l1'); (try k_lt l1'); revert D' h' F' N' l1'; intros)
  k_with "subscriptTail" => (k_here; (with_reducible show wpAny _ _ (subscriptTail _ _ (Value.ref _) (Value.int _ _)) _ _ _); k_dflt (refine' ksa_sub (by k_asm) (by k_mem) (by first | with_reducible assumption | exact IntsAre.append (by assumption) (ints_replicate _ _ _ rfl _)) (by ((try simp only [List.length_replicate, List.length_append, List.length_set]); omega)) (by ((try simp only [List.length_replicate, List.length_append, List.length_set]); omega)) (by ((try simp only [List.length_replicate, List.length_append, List.length_set]); omega)) ?_ (by with_unfolding_all rfl); k_whole); intro _)
  k_with "setItem ref int" => (k_here; (with_reducible show wpAny _ _ (setItem (Value.ref _) (Value.int _ _) (Value.int _ _)) _ _ _); k_dflt (refine' ksa_set (by k_asm) (by k_asm) (by k_upd) (by first | with_reducible assumption | exact IntsAre.append (by assumption) (ints_replicate _ _ _ rfl _)) (by ((try simp only [List.length_replicate, List.length_append, List.length_set]); omega)) (by ((try simp only [List.length_replicate, List.length_append, List.length_set]); omega)) (by ((try simp only [List.length_replicate, List.length_append, List.length_set]); omega)) ?_; k_whole); intro _ _ _ _ _ _)
  k_with "call builtin:len" => (k_here; (with_reducible show wpAny _ _ (call (Value.builtin "len") [Value.ref _]) _ _ _); k_dflt (refine' LL.len (by assumption) (by k_mem) (by first | assumption | omega) ?_; k_whole); intro _ _)
  k_with "binaryOp Add ref ref" => (k_here; (with_reducible show wpAny _ _ (binaryOp Operator.Add (Value.ref _) (Value.ref _)) _ _ _); k_dflt (refine' LL.add (by k_asm) (by k_asm) (by k_mem) (by k_mem) (by ((try simp only [List.length_replicate, List.length_append, List.length_cons, List.length_nil]); (try rw [sizeLine_eq]); omega)) ?_; k_whole); intro D' h' F' N' l1'; (have l2' := allp_of l1'); (try k_lt l1'); revert D' h' F' N' l1'; intros)
  k_with "binaryOp Mult ref int" => (k_here; (with_reducible show wpAny _ _ (binaryOp Operator.Mult (Value.ref _) (Value.int _ _)) _ _ _); k_dflt (refine' LL.rep (by k_asm) (by k_asm) (by k_mem) (by omega) (by omega) ?_; k_whole); intro D' h' F' N' l1'; (have l2' := allp_of l1'); (try k_lt l1'); revert D' h' F' N' l1'; intros)
  k_with "subscriptTail" => (k_here; (with_reducible show wpAny _ _ (subscriptTail _ _ (Value.ref _) (Value.int _ _)) _ _ _); k_dflt (first | (refine' TT.item (by k_asm) (by k_mem) (by omega) (by first | assumption | rfl) (by first | assumption | ((try simp only [List.length_cons, List.length_nil, List.length_append, List.length_map, List.length_range]); omega)) ?_ (by with_unfolding_all rfl); k_whole) | (refine' LL.item (by k_asm) (by k_mem) (by omega) (by first | assumption | rfl) (by first | assumption | ((try simp only [List.length_cons, List.length_nil, List.length_append, List.length_map, List.length_range]); omega)) (by with_unfolding_all rfl) ?_; k_whole)))
  k_with "subscriptTail" => (k_here; (with_reducible show wpAny _ _ (subscriptTail _ _ (Value.ref _) (Value.int _ _)) _ _ _); k_dflt (first | (refine' TT.int (by k_asm) (by k_mem) (by with_reducible assumption) (by omega) (by omega) (by omega) ?_ (by with_unfolding_all rfl); k_whole) | (refine' LL.int (by k_asm) (by k_mem) (by with_reducible assumption) (by omega) (by omega) (by omega) ?_ (by with_unfolding_all rfl); k_whole)); intro _)
  k_with "call builtin:len" => (k_here; (with_reducible show wpAny _ _ (call (Value.builtin "len") [Value.ref _]) _ _ _); k_dflt (first | (refine' LL.len (by assumption) (by k_mem) (by first | assumption | ((try simp only [List.length_cons, List.length_nil, List.length_append, List.length_map, List.length_range]); omega)) ?_; k_whole) | (refine' TT.len (by assumption) (by k_mem) (by first | assumption | ((try simp only [List.length_cons, List.length_nil, List.length_append, List.length_map, List.length_range]); omega)) ?_; k_whole)); intro _ _)
  trivial

theorem kw_286102_2 : True := by
  k_with "subscriptTail Name Slice ref ref" => (k_here; k_dflt (first | (refine' LL.take (by k_asm) (by k_asm) (by k_mem) (by first | exact (Int.natCast_succ _).symm | exact rfl | assumption) (by omega) (by omega) ?_ (by with_unfolding_all rfl) (by (intro _; with_unfolding_all rfl)); k_whole) | (refine' LL.drop (by k_asm) (by k_asm) (by k_mem) (by first | exact (Int.natCast_succ _).symm | exact rfl | assumption) (by omega) (by omega) ?_ (by with_unfolding_all rfl) (by (intro _; with_unfolding_all rfl)); k_whole)); intro D' h' F' N' l1'; (have l2' := allp_of l1'); (try k_lt l1'); revert D' h' F' N' l1'; intros)
  k_with "call builtin:max" => (k_here; k_dflt (refine' LL.max (by k_asm) (by k_asm) (by k_mem) (by assumption) (by first | assumption | omega) (by with_unfolding_all rfl) ?_; k_whole); intro _ _ _ _ _ _ _ _)
  k_with "getMethod ref" => (k_here; k_dflt (refine' LL.method (by k_asm) (by k_mem) ?_; k_whole))
  k_with "compareOp In int ref" => (k_here; k_dflt (refine' LL.isIn (by k_asm) (by k_mem) (by assumption) ?_; k_whole))
  trivial


noncomputable def IsRow (nw : List (Addr × Obj)) (l : Addr) (row : List Nat) : Prop := ∃ vs k, (l, W.listOf vs.toArray k) ∈ nw ∧ IntsAre vs (row.map fun (x : Nat) => (x : Int))

noncomputable def ArrClaim (w : World) (n : Nat) : Prop :=
  ∀ {p : Program} {loose : List Str} {mean : ExcName → Option Value} {mg mb : Str → Option Value} {dp un : Nat} {gd : Option (List Code)} {cn : Str} {cs : Scope} {a : Addr} {ccd : Value} {cl : List (Str × Addr)} {outer : List Env} {A₀ : Around}   {base h₀ : Heap} {L : Addr} {m : Str → Option Value} {news : List (Addr × Obj)} {s : Shared} {Q E : Value → Shared → Prop} {l lt : Addr} {row turned : List Nat} (B : Below A₀ base outer h₀) (F : Fr h₀ L s.heap m) (X : (Mine.hA.heap_1_39 w.params).In h₀) (N : News h₀ L s.heap news) (T : Top p loose mean mg mb h₀) (hk : cs.kind = .function) (hd : dp + n + 1 < recursionLimit) (hu : un + 8 * n + 90 < cLine)
    (hr : IsRow news l row) (ht : IsRow news lt turned) (hl : row.length ≤ n) (hl6 : row.length ≤ 6) (ht6 : turned.length ≤ 6)
    (hret : ∀ D tl h' tk', Fr h₀ L h' m → News h₀ L h' (news ++ tl) → IsRow (news ++ tl) D (arr turned n row) → (∀ q ∈ news, ∀ p ∈ tl, q.1 < p.1) → Q (.ref D) { s with heap := h', toks := tk' }),
    wpAny (model Challenge.rw_xg0084_01.row.toRowW.prog w) (ktrTop dp un gd cn cs L a ccd cl outer) (call (.ref 288) [.ref l, .ref lt]) Q E s

theorem arr_step {w : World} {n : Nat} (C : ArrClaim w n) : ArrClaim w (n + 1) := by
  intro p loose mean mg mb dp un gd cn cs a ccd cl outer A₀ base h₀ L m news s Q E l lt row turned B F X N T hk hd hu hr ht hl hl6 ht6 hret
  have _q : Challenge.rw_xg0084_01 = Challenge.rw_xg0084_01 ∧ Mine.hA.heap_1_39 = Mine.hA.heap_1_39 := by (k_fill; exact ⟨rfl, rfl⟩)
  refine wpAny_call ?_
  k_dflt (refine' code_def ?k1 ?k2 ?k3 ?k4 ?k5 ?kA ?kF ?kK ?k6 ?k7 ?k8 ?k9 ?kB ?_ ?c2 ?c3 ?c4 ?c5; (case kA => exact rfl); (case kF => exact rfl); (case kK => assumption); (case k1 => k_asm); (case k2 => k_asm); (case k3 => k_asm); (case k4 => k_asm); (case k5 => k_asm); (case k6 => k_is); (case k7 => k_is); (case k8 => ktr_room); (case k9 => first | exact BindsTo.of_eq rfl | exact binds_K (by k_in) rfl (by k_is) rfl rfl rfl); (case c5 => decide); (case kB => exact locs rfl); (case c2 => exact rfl); (case c3 => exact rfl); (case c4 => exact rfl); k_whole; intro g' L' h' FG' F' N' B' X' T'; (try dsimp only); (try k_fold))
  obtain ⟨vs, k1, m1, i1⟩ := id hr
  obtain ⟨ws, k2, m2, i2⟩ := id ht
  have e1 := i1.length
  have e2 : (row.map fun (x : Nat) => (x : Int)).length = row.length := List.length_map _
  rw [e2] at e1
  have e2' : turned.length = ws.length := by rw [i2.length, List.length_map]
  k_steps
  · rename_i a0 kF kN _ kX
    refine hret l [] _ _ kF (by rw [List.append_nil]; exact kN) ?_ (fun _ _ _ h => nomatch h)
    rw [List.append_nil]
    have e9 : arr turned (n + 1) row = row := by
      unfold arr
      rw [if_pos (by omega)]
    rw [e9]
    exact hr
  · rename_i _ _ a0 h9 M tM kM F9 N9 aM bM
    have hpos : 0 < row.length := by omega
    obtain ⟨mx1, mx2⟩ := maxL_spec hpos
    obtain rfl : M = ((maxL row : Nat) : Int) := by
      obtain ⟨b, hb, rfl⟩ := List.mem_map.mp aM
      have q1 := mx2 b hb
      have q2 := bM ((maxL row : Nat) : Int) (List.mem_map_of_mem mx1)
      have : b = maxL row := by omega
      rw [this]
    obtain ⟨t1, t2, t3⟩ := idxL_spec mx1
    generalize hx : maxL row = x at *
    generalize htop : idxL x row = top at *
    refine LL.index (j := top) N9 m1 i1 (by rw [List.getElem?_map, t2]; rfl) (fun i hi q => t3 i hi ?_) (by omega) ?_
    · rw [List.getElem?_map] at q
      cases e9 : row[i]? with
      | none => rw [e9] at q; cases q
      | some y =>
        rw [e9] at q
        have : (y : Int) = (x : Int) := Option.some.inj q
        have : y = x := by omega
        rw [this]
    k_steps
    rename_i _ _ D1 h1 F1 N1 l1 l1'
    have i1t : IntsAre (vs.take top) ((row.take top).map fun (x : Nat) => (x : Int)) := by rw [List.map_take]; exact ints_take i1 top
    have i1d : IntsAre (vs.drop (top + 1)) ((row.drop (top + 1)).map fun (x : Nat) => (x : Int)) := by rw [List.map_drop]; exact ints_drop i1 (top + 1)
    refine C B' F1 X' N1 T' rfl (by dsimp only [ktrTop, Around.deeper] at *; omega) (by dsimp only [ktrTop, Around.deeper] at *; omega) ⟨_, 0, List.mem_cons_self, i1t⟩ ⟨ws, k2, List.mem_cons_of_mem _ m2, i2⟩ (by rw [List.length_take]; omega) (by rw [List.length_take]; omega) ht6 ?_
    intro D2 tl2 h2 tk2 F2 N2 hR2 fr2
    have sub1 : ∀ p ∈ news, p ∈ ((D1, W.listOf (vs.take top).toArray 0) :: news) ++ tl2 := fun p hp => List.mem_append_left _ (List.mem_cons_of_mem _ hp)
    generalize ((D1, W.listOf (vs.take top).toArray 0) :: news) ++ tl2 = news1 at N2 hR2 sub1
    clear F1 N1 l1 l1' fr2
    have m1' := sub1 _ m1
    have m2' := sub1 _ m2
    have hv : ∃ tv, vs[((top : Nat) : Int).toNat]? = some (Value.int (x : Int) tv) := by
      obtain ⟨tv, e⟩ := ints_at i1 (i := top) (by omega)
      refine ⟨tv, ?_⟩
      rw [Int.toNat_natCast, e]
      have : (row.map fun (x : Nat) => (x : Int)).getD top 0 = (x : Int) := by rw [List.getD, List.getElem?_map, t2]; rfl
      rw [this]
    obtain ⟨tv, hv⟩ := hv
    k_steps
    rename_i D3 h3 F3 N3 l3 l3'
    refine C B' F3 X' N3 T' rfl (by dsimp only [ktrTop, Around.deeper] at *; omega) (by dsimp only [ktrTop, Around.deeper] at *; omega) ⟨_, 0, List.mem_cons_self, i1d⟩ ⟨ws, k2, List.mem_cons_of_mem _ m2', i2⟩ (by rw [List.length_drop]; omega) (by rw [List.length_drop]; omega) ht6 ?_
    intro D4 tl4 h4 tk4 F4 N4 hR4 fr4
    have sub2 : ∀ p ∈ news1, p ∈ ((D3, W.listOf (vs.drop (top + 1)).toArray 0) :: news1) ++ tl4 := fun p hp => List.mem_append_left _ (List.mem_cons_of_mem _ hp)
    generalize ((D3, W.listOf (vs.drop (top + 1)).toArray 0) :: news1) ++ tl4 = news2 at N4 hR4 sub2
    clear F3 N3 l3 l3' fr4
    have m1'' := sub2 _ m1'
    have m2'' := sub2 _ m2'
    have sub3 : ∀ p ∈ news, p ∈ news2 := fun p hp => sub2 p (sub1 p hp)
    obtain ⟨vs2, c2, q2, j2⟩ := hR2
    obtain ⟨vs4, c4, q4, j4⟩ := hR4
    have q2' := sub2 _ q2
    clear sub1 sub2 q2 m1' m2'
    have z2 : vs2.length ≤ 6 := by
      have q := arr_length turned n (row.take top)
      rw [j2.length, List.length_map]
      rw [List.length_take] at q
      omega
    have z4 : vs4.length ≤ 6 := by
      have q := arr_length turned n (row.drop (top + 1))
      rw [j4.length, List.length_map]
      rw [List.length_drop] at q
      omega
    have ex : (row.map fun (x : Nat) => (x : Int)).getD ((top : Nat) : Int).toNat 0 = (x : Int) := by
      rw [Int.toNat_natCast, List.getD, List.getElem?_map, t2]; rfl
    have eA := arr_at (turned := turned) (n := n) (by omega) hx htop t2
    have fin : ∀ {D : Addr} {zs : List Value} {h' : Heap} {tk' : Nat} {zl : List Nat} {all : List (Addr × Obj)}, Fr h₀ L h' m → News h₀ L h' all → (D, W.listOf zs.toArray 0) ∈ all → (∀ p ∈ news, p ∈ all) → (∀ p ∈ news, p.1 < D) → IntsAre zs (zl.map fun (x : Nat) => (x : Int)) → arr turned (n + 1) row = zl → Q (.ref D) { s with heap := h', toks := tk' } := by
      intro D zs h' tk' zl all f nn mm ss ll ii ee
      refine hret D [(D, W.listOf zs.toArray 0)] h' tk' f (fun p hp => ?_) ⟨zs, 0, List.mem_append_right _ List.mem_cons_self, by rw [ee]; exact ii⟩ fun q hq p hp => ?_
      · rcases List.mem_append.mp hp with hp | hp
        · exact nn p (ss p hp)
        · rcases List.mem_cons.mp hp with rfl | hp
          · exact nn _ mm
          · cases hp
      · rcases List.mem_cons.mp hp with rfl | hp
        · exact ll q hq
        · cases hp
    k_steps
    · rename_i q _ _ _ _ _ _ _ _ _ _ _ _ _ _ _ _ _ l9 kF kN _ kX
      have l9' := allLt_of l9.2.2
      refine fin kF kN List.mem_cons_self (fun p hp => List.mem_cons_of_mem _ (List.mem_cons_of_mem _ (List.mem_cons_of_mem _ (sub3 p hp)))) (fun p hp => l9' p (sub3 p hp)) (zl := arr turned n (row.drop (top + 1)) ++ [x] ++ arr turned n (row.take top)) ?_ ?_
      · rw [List.map_append, List.map_append]
        exact IntsAre.append (IntsAre.append j4 (by rw [ex]; exact .cons _ _ .nil)) j2
      · rw [eA, if_pos]
        rw [ex] at q
        obtain ⟨b, hb, e9⟩ := List.mem_map.mp q
        have : b = x := by omega
        rw [← this]; exact hb
    · rename_i q _ _ _ _ _ _ _ _ _ _ _ _ _ _ _ _ _ l9 kF kN _ kX
      have l9' := allLt_of l9.2.2
      refine fin kF kN List.mem_cons_self (fun p hp => List.mem_cons_of_mem _ (List.mem_cons_of_mem _ (List.mem_cons_of_mem _ (sub3 p hp)))) (fun p hp => l9' p (sub3 p hp)) (zl := arr turned n (row.take top) ++ [x] ++ arr turned n (row.drop (top + 1))) ?_ ?_
      · rw [List.map_append, List.map_append]
        exact IntsAre.append (IntsAre.append j2 (by rw [ex]; exact .cons _ _ .nil)) j4
      · rw [eA, if_neg]
        intro hb
        rw [ex] at q
        exact q (List.mem_map_of_mem hb)
theorem arr_zero {w : World} : ArrClaim w 0 := by
  intro p loose mean mg mb dp un gd cn cs a ccd cl outer A₀ base h₀ L m news s Q E l lt row turned B F X N T hk hd hu hr ht hl hl6 ht6 hret
  have _q : Challenge.rw_xg0084_01 = Challenge.rw_xg0084_01 ∧ Mine.hA.heap_1_39 = Mine.hA.heap_1_39 := by (k_fill; exact ⟨rfl, rfl⟩)
  refine wpAny_call ?_
  k_dflt (refine' code_def ?k1 ?k2 ?k3 ?k4 ?k5 ?kA ?kF ?kK ?k6 ?k7 ?k8 ?k9 ?kB ?_ ?c2 ?c3 ?c4 ?c5; (case kA => exact rfl); (case kF => exact rfl); (case kK => assumption); (case k1 => k_asm); (case k2 => k_asm); (case k3 => k_asm); (case k4 => k_asm); (case k5 => k_asm); (case k6 => k_is); (case k7 => k_is); (case k8 => ktr_room); (case k9 => first | exact BindsTo.of_eq rfl | exact binds_K (by k_in) rfl (by k_is) rfl rfl rfl); (case c5 => decide); (case kB => exact locs rfl); (case c2 => exact rfl); (case c3 => exact rfl); (case c4 => exact rfl); k_whole; intro g' L' h' FG' F' N' B' X' T'; (try dsimp only); (try k_fold))
  obtain ⟨vs, k1, m1, i1⟩ := id hr
  have e1 := i1.length
  have e2 : (row.map fun (x : Nat) => (x : Int)).length = row.length := List.length_map _
  rw [e2] at e1
  k_steps
  · rename_i a0 kF kN _ kX
    refine hret l [] _ _ kF (by rw [List.append_nil]; exact kN) ?_ (fun _ _ _ h => nomatch h)
    rw [List.append_nil]
    exact hr
theorem arr_spec (w : World) : ∀ n, ArrClaim w n
  | 0 => arr_zero
  | n + 1 => arr_step (arr_spec w n)
end
end
-- Fn6
section
theorem kr_Fn6 : True := by
  k_with_none
  w_top off
  trivial
open PySem PySem.W PyProof.Rows PySem.Calls
theorem kw_336739_1 : True := by
  k_with "eval Name" => (k_here; k_dflt (refine' nameX_L (by k_asm) (by first | rfl | assumption) ?_ (by rfl) (by rfl); k_whole))
  k_with "loadName" => (k_here; k_dflt (refine' loadX_L (by k_asm) (by first | rfl | assumption) ?_ (by rfl) (by rfl); k_whole))
  k_with "storeName" => (k_here; k_dflt (refine' storeX_U (by k_asm) (by k_asm) ?_ (by rfl) (by rfl); k_whole); intro _ _ _; (try k_sweep))
  k_with "subscriptTail" => (k_here; (with_reducible show wpAny _ _ (subscriptTail _ _ (Value.ref _) (Value.int _ _)) _ _ _); k_dflt (first | (refine' TT.item (by k_asm) (by k_mem) (by omega) (by first | assumption | rfl) (by first | assumption | ((try simp only [List.length_cons, List.length_nil, List.length_append, List.length_map, List.length_range]); omega)) ?_ (by with_unfolding_all rfl); k_whole) | (refine' LL.item (by k_asm) (by k_mem) (by omega) (by first | assumption | rfl) (by first | assumption | ((try simp only [List.length_cons, List.length_nil, List.length_append, List.length_map, List.length_range]); omega)) (by with_unfolding_all rfl) ?_; k_whole)))
  k_with "subscriptTail" => (k_here; (with_reducible show wpAny _ _ (subscriptTail _ _ (Value.ref _) (Value.int _ _)) _ _ _); k_dflt (first | (refine' TT.int (by k_asm) (by k_mem) (by with_reducible assumption) (by omega) (by omega) (by omega) ?_ (by with_unfolding_all rfl); k_whole) | (refine' LL.int (by k_asm) (by k_mem) (by with_reducible assumption) (by omega) (by omega) (by omega) ?_ (by with_unfolding_all rfl); k_whole)); intro _)
  k_with "call builtin:len" => (k_here; (with_reducible show wpAny _ _ (call (Value.builtin "len") [Value.ref _]) _ _ _); k_dflt (first | (refine' LL.len (by assumption) (by k_mem) (by first | assumption | ((try simp only [List.length_cons, List.length_nil, List.length_append, List.length_map, List.length_range]); omega)) ?_; k_whole) | (refine' TT.len (by assumption) (by k_mem) (by first | assumption | ((try simp only [List.length_cons, List.length_nil, List.length_append, List.length_map, List.length_range]); omega)) ?_; k_whole)); intro _ _)
  trivial

theorem kw_336739_2 : True := by
  k_with "subscriptTail Name Slice ref ref" => (k_here; k_dflt (refine' TT.upto (by k_asm) (by k_asm) (by k_mem) (by rfl) (by (simp only [List.length_cons, List.length_nil]; omega)) (by (simp only [List.length_cons, List.length_nil]; rw [sizeLine_eq]; omega)) ?_ (by with_unfolding_all rfl) (by (intro _; with_unfolding_all rfl)); k_whole); intro D' h' F' N' l1'; (have l2' := allp_of l1'); (try k_lt l1'); revert D' h' F' N' l1'; intros)
  trivial

noncomputable def pfName (f : Int) : PySem.Str := Str.ofString "page" ++ Str.ofString ":" ++ Str.ofString (toString f) ++ Str.ofString "(" ++ Str.ofString "falls" ++ Str.ofString ")"
theorem fss_spec {w : World} {p : Program} {loose : List Str} {mean : ExcName → Option Value} {mg mb : Str → Option Value} {dp un : Nat} {gd : Option (List Code)} {cn : Str} {cs : Scope} {a : Addr} {ccd : Value} {cl : List (Str × Addr)} {outer : List Env} {A₀ : Around} {base h₀ : Heap} {L : Addr} {m : Str → Option Value} {news : List (Addr × Obj)} {s : Shared} {Q E : Value → Shared → Prop} {pp : Addr} {f : Int} {t0 t1 t2 : Tok} (B : Below A₀ base outer h₀) (F : Fr h₀ L s.heap m) (X : (Mine.hA.heap_1_39 w.params).In h₀) (N : News h₀ L s.heap news) (T : Top p loose mean mg mb h₀) (hk : cs.kind = .function) (hd : dp + 1 < recursionLimit) (hu : un + 90 < cLine) (m1 : (pp, tupO [.str (Str.ofString "page") t0, .int f t1, .str (Str.ofString "falls") t2]) ∈ news)
    (h0 : 0 ≤ f) (h9 : f ≤ 9)
    (hret : ∀ t h' tk', Fr h₀ L h' m → News h₀ L h' news → Q (.str (pfName f) t) { s with heap := h', toks := tk' }) :
    wpAny (model Challenge.rw_xg0084_01.row.toRowW.prog w) (ktrTop dp un gd cn cs L a ccd cl outer) (call (.ref 180) [.ref pp]) Q E s := by
  have _q : Challenge.rw_xg0084_01 = Challenge.rw_xg0084_01 ∧ Mine.hA.heap_1_39 = Mine.hA.heap_1_39 := by (k_fill; exact ⟨rfl, rfl⟩)
  refine wpAny_call ?_
  k_dflt (refine' code_def ?k1 ?k2 ?k3 ?k4 ?k5 ?kA ?kF ?kK ?k6 ?k7 ?k8 ?k9 ?kB ?_ ?c2 ?c3 ?c4 ?c5; (case kA => exact rfl); (case kF => exact rfl); (case kK => assumption); (case k1 => k_asm); (case k2 => k_asm); (case k3 => k_asm); (case k4 => k_asm); (case k5 => k_asm); (case k6 => k_is); (case k7 => k_is); (case k8 => ktr_room); (case k9 => first | exact BindsTo.of_eq rfl | exact binds_K (by k_in) rfl (by k_is) rfl rfl rfl); (case c5 => decide); (case kB => exact locs rfl); (case c2 => exact rfl); (case c3 => exact rfl); (case c4 => exact rfl); k_whole; intro g' L' h' FG' F' N' B' X' T'; (try dsimp only); (try k_fold))
  k_steps
  · rename_i q _ _ _ _ _ _ _ _
    exfalso
    rw [show (Str.ofString "page" == Str.ofString "~") = false from by decide] at q
    exact Bool.false_ne_true q
  · rename_i kF kN _ kX
    exact hret _ _ _ kF (cb_drop kN (by ((repeat (refine List.forall_mem_cons.mpr ⟨by k_mem, ?_⟩)); first | exact List.forall_mem_nil _ | (intro p9 hp9; k_mem))))
end
-- Fn7
section
theorem kr_Fn7 : True := by
  k_with_none
  w_top off
  trivial
open PySem PySem.W PyProof.Rows PySem.Calls
theorem kw_812409_1 : True := by
  k_with "eval Name" => (k_here; k_dflt (refine' nameX_L (by k_asm) (by first | rfl | assumption) ?_ (by rfl) (by rfl); k_whole))
  k_with "loadName" => (k_here; k_dflt (refine' loadX_L (by k_asm) (by first | rfl | assumption) ?_ (by rfl) (by rfl); k_whole))
  k_with "storeName" => (k_here; k_dflt (refine' storeX_U (by k_asm) (by k_asm) ?_ (by rfl) (by rfl); k_whole); intro _ _ _; (try k_sweep))
  k_with "getMethod ref" => (k_here; k_dflt (refine' DD.method (by rfl) (by k_asm) (by k_mem) (by assumption) (by assumption) (by assumption) ?_; k_whole))
  k_with "call builtin:dict.items" => (k_here; k_dflt (refine' DD.items (by k_asm) (by k_asm) (by k_mem) (by assumption) (by assumption) (by assumption) ?_; k_whole); intro _ _ _ _ _)
  trivial

theorem kw_812409_2 : True := by
  k_with "setItem ref str" => (k_here; k_dflt (refine' kda_set (knd := PySem.strKind _ _) (by k_asm) (by k_asm) (by k_updF) (by assumption) (strKind_is _ _ _ _) (by rw [sizeLine_eq]; omega) ?_; k_whole); intro _ _ _ _ _)
  k_with "compareOp In str ref" => (k_here; k_dflt (refine' kda_in (knd := PySem.strKind _ _) (by k_asm) (by k_mem) (by assumption) (by assumption) (strKind_is _ _ _ _) _ (IntsD.value (by assumption) _).1 ?_; k_whole))
  trivial
inductive ACi (w : World) (D d2 : Addr) (P1 : List (PySem.Str × Int)) (news : List (Addr × Obj)) (i : Nat) (m₁ : Str → Option Value) (nw : List (Addr × Obj)) : Prop
  | mk (oD : Obj) (kvs : List (PySem.Str × Value))
    (x1 : nw = (D, oD) :: news)
    (x2 : oD.IsDictOf (PySem.strKind Challenge.rw_xg0084_01.row.prog w) kvs)
    (x3 : kvs.length ≤ i)
    (x4 : IntsD kvs ((P1.take i).foldl (fun a q => putS q.1 q.2 a) []))
    (x5 : m₁ (Str.ofString "new_callers") = some (.ref D))
    (x6 : m₁ (Str.ofString "source") = some (.ref d2)) : ACi w D d2 P1 news i m₁ nw
inductive ACj (w : World) (D : Addr) (kl : Nat) (P1 P2 : List (PySem.Str × Int)) (news : List (Addr × Obj)) (i : Nat) (m₁ : Str → Option Value) (nw : List (Addr × Obj)) : Prop
  | mk (oD : Obj) (kvs' : List (PySem.Str × Value))
    (x1 : nw = (D, oD) :: news)
    (x2 : oD.IsDictOf (PySem.strKind Challenge.rw_xg0084_01.row.prog w) kvs')
    (x3 : kvs'.length ≤ kl + i)
    (x4 : IntsD kvs' ((P2.take i).foldl (fun a q => addS q.1 q.2 a) P1))
    (x5 : m₁ (Str.ofString "new_callers") = some (.ref D)) : ACj w D kl P1 P2 news i m₁ nw
theorem addc_spec {w : World} {p : Program} {loose : List Str} {mean : ExcName → Option Value} {mg mb : Str → Option Value} {dp un : Nat} {gd : Option (List Code)} {cn : Str} {cs : Scope} {a : Addr} {ccd : Value} {cl : List (Str × Addr)} {outer : List Env} {A₀ : Around} {base h₀ : Heap} {L : Addr} {m : Str → Option Value} {news : List (Addr × Obj)} {s : Shared} {Q E : Value → Shared → Prop} {d1 d2 : Addr} {o1 o2 : Obj} {kvs1 kvs2 : List (PySem.Str × Value)} {P1 P2 : List (PySem.Str × Int)} (B : Below A₀ base outer h₀) (F : Fr h₀ L s.heap m) (X : (Mine.hA.heap_1_39 w.params).In h₀) (N : News h₀ L s.heap news) (T : Top p loose mean mg mb h₀) (hk : cs.kind = .function) (hd : dp + 1 < recursionLimit) (m1 : (d1, o1) ∈ news) (i1 : o1.IsDictOf (PySem.strKind Challenge.rw_xg0084_01.row.prog w) kvs1) (a1 : IntsD kvs1 P1)
    (m2 : (d2, o2) ∈ news) (i2 : o2.IsDictOf (PySem.strKind Challenge.rw_xg0084_01.row.prog w) kvs2) (a2 : IntsD kvs2 P2) (lo1 : (d1 == sysModules) = false) (lo2 : (d2 == sysModules) = false) (z1 : P1.length ≤ 100) (z2 : P2.length ≤ 100)
    (hret : ∀ D oD kvs h' tk', Fr h₀ L h' m → News h₀ L h' ((D, oD) :: news) → (∀ p ∈ news, p.1 < D) → (D == sysModules) = false → oD.IsDictOf (PySem.strKind Challenge.rw_xg0084_01.row.prog w) kvs → IntsD kvs (P2.foldl (fun a q => addS q.1 q.2 a) P1) → Q (.ref D) { s with heap := h', toks := tk' }) :
    wpAny (model Challenge.rw_xg0084_01.row.toRowW.prog w) (ktrTop dp un gd cn cs L a ccd cl outer) (call (.ref 194) [.ref d1, .ref d2]) Q E s := by
  have _q : Challenge.rw_xg0084_01 = Challenge.rw_xg0084_01 ∧ Mine.hA.heap_1_39 = Mine.hA.heap_1_39 := by (k_fill; exact ⟨rfl, rfl⟩)
  refine wpAny_call ?_
  k_dflt (refine' code_def ?k1 ?k2 ?k3 ?k4 ?k5 ?kA ?kF ?kK ?k6 ?k7 ?k8 ?k9 ?kB ?_ ?c2 ?c3 ?c4 ?c5; (case kA => exact rfl); (case kF => exact rfl); (case kK => assumption); (case k1 => k_asm); (case k2 => k_asm); (case k3 => k_asm); (case k4 => k_asm); (case k5 => k_asm); (case k6 => k_is); (case k7 => k_is); (case k8 => ktr_room); (case k9 => first | exact BindsTo.of_eq rfl | exact binds_K (by k_in) rfl (by k_is) rfl rfl rfl); (case c5 => decide); (case kB => exact locs rfl); (case c2 => exact rfl); (case c3 => exact rfl); (case c4 => exact rfl); k_whole; intro g' L' h' FG' F' N' B' X' T'; (try dsimp only); (try k_fold))
  repeat' ((fail_if_success (with_reducible show wpAny _ _ (exec (PySem.Stmt.For _ _ _ _ _) _) _ _ _)); (fail_if_success (with_reducible show wpAny _ _ (exec (PySem.Stmt.While _ _ _ _) _) _ _ _)); (fail_if_success (with_reducible show wpAny _ _ (eval (PySem.Expr.ListComp _ _ _ _) _) _ _ _)); (fail_if_success (with_reducible show wpAny _ _ (eval (PySem.Expr.DictComp _ _ _ _ _) _) _ _ _)); (fail_if_success (with_reducible show wpAny _ _ (exec (PySem.Stmt.Assign _ (PySem.Expr.ListComp _ _ _ _) _) _) _ _ _)); (fail_if_success (with_reducible show wpAny _ _ (exec (PySem.Stmt.Assign _ (PySem.Expr.DictComp _ _ _ _ _) _) _) _ _ _)); (first | (k_unfold; (try dsimp only)) | (k_end; wrow_close) | walk1 | (dsimp only; walk1) | (leave1; walk_say "STEP leave1"; try dsimp only) | fail "no step"))
  rename_i D h1 oD lD lo hs fs hi fi h2 F2 N2
  clear hi fi fs
  refine forItems (h₀ := g') (PySem.strKind _ _) rfl rfl rfl rfl ?_
  k_steps
  rename_i vw h3 hv F3 N3
  have dn := keysNodup_of_isDictOf i1
  rw [a1.keys] at dn
  have hlD := allp_of lD
  refine fitems_src (m := _) (ACi w D d2 P1 news)      hv i1 (by k_mem) F3 N3 ⟨oD, [], rfl, hs, Nat.le_refl _, .nil, rfl, rfl⟩ ?_ ?_
  · rintro i k v key m₁ nw g I hx hkey hm' ⟨oD', kvs, rfl, hD, hz, hI, hnc, hso⟩ oI h tk F N off
    obtain ⟨tkey, rfl⟩ := str_key hkey
    obtain ⟨x, t, rfl, hP⟩ := a1.at hx
    have e1 := (a1.at hx)
    have hi : i < kvs1.length := (List.getElem?_eq_some_iff.mp hx).1
    rw [a1.length] at hi
    have hDI := neN (off _ List.mem_cons_self)
    have hnI : ∀ p ∈ news, p.1 ≠ I := fun p hp => off p (List.mem_cons_of_mem _ hp)
    k_steps
    rename_i o2' F2' N2' hd2
    refine FEnd.intro F2' N2' ((D, o2') :: news) (by ((repeat (refine List.forall_mem_cons.mpr ⟨by k_mem, ?_⟩)); first | exact List.forall_mem_nil _ | (intro p9 hp9; k_mem))) (List.forall_mem_cons.mpr ⟨hDI, hnI⟩) (by k_mem) ⟨_, _, rfl, hd2, Nat.le_trans (stored_length _ _ _) (by omega), ?_, hnc, hso⟩
    rw [take_fold hP]
    exact hI.stored k x t
  · rintro m₁ nw h tk ⟨oD', kvs, rfl, hD, hz, hI, hnc, hso⟩ hm' F N
    rw [a1.length, List.take_length, put_copy P1 [] (by simpa using dn), List.nil_append] at hI
    have hz1 := a1.length
    have hz2 := a2.length
    clear F2 N2 F3 N3
    repeat' ((fail_if_success (with_reducible show wpAny _ _ (exec (PySem.Stmt.For _ _ _ _ _) _) _ _ _)); (fail_if_success (with_reducible show wpAny _ _ (exec (PySem.Stmt.While _ _ _ _) _) _ _ _)); (fail_if_success (with_reducible show wpAny _ _ (eval (PySem.Expr.ListComp _ _ _ _) _) _ _ _)); (fail_if_success (with_reducible show wpAny _ _ (eval (PySem.Expr.DictComp _ _ _ _ _) _) _ _ _)); (fail_if_success (with_reducible show wpAny _ _ (exec (PySem.Stmt.Assign _ (PySem.Expr.ListComp _ _ _ _) _) _) _ _ _)); (fail_if_success (with_reducible show wpAny _ _ (exec (PySem.Stmt.Assign _ (PySem.Expr.DictComp _ _ _ _ _) _) _) _ _ _)); (first | (k_unfold; (try dsimp only)) | (k_end; wrow_close) | walk1 | (dsimp only; walk1) | (leave1; walk_say "STEP leave1"; try dsimp only) | fail "no step"))
    refine forItems (h₀ := g') (PySem.strKind _ _) rfl rfl rfl rfl ?_
    k_steps
    rename_i vw2 h4 hv2 F4 N4
    refine fitems_src (m := _) (ACj w D kvs.length P1 P2 news)        hv2 i2 (by k_mem) F4 N4 ⟨oD', kvs, rfl, hD, by omega, hI, hnc⟩ ?_ ?_
    · rintro i k v key m₁ nw g I hx hkey hm' ⟨oD', kvs', rfl, hD, hz, hI, hnc⟩ oI h tk F N off
      obtain ⟨tkey, rfl⟩ := str_key hkey
      obtain ⟨x, t, rfl, hP⟩ := a2.at hx
      have hi : i < kvs2.length := (List.getElem?_eq_some_iff.mp hx).1
      have hDI := neN (off _ List.mem_cons_self)
      have hnI : ∀ p ∈ news, p.1 ≠ I := fun p hp => off p (List.mem_cons_of_mem _ hp)
      clear a1 a2 i1 i2
      have hval := hI.value k
      k_steps
      · rename_i q _
        obtain ⟨tv, hv'⟩ := hval.2 q
        refine DD.get (by assumption) (by k_mem) hD hv' ?_
        k_steps
        rename_i o2' F2' N2' hd2
        refine FEnd.intro F2' N2' ((D, o2') :: news) (by ((repeat (refine List.forall_mem_cons.mpr ⟨by k_mem, ?_⟩)); first | exact List.forall_mem_nil _ | (intro p9 hp9; k_mem))) (List.forall_mem_cons.mpr ⟨hDI, hnI⟩) (by k_mem) ⟨_, _, rfl, hd2, Nat.le_trans (stored_length _ _ _) (by omega), ?_, hnc⟩
        rw [take_fold hP]
        have e9 : addS k x ((P2.take i).foldl (fun a q => addS q.1 q.2 a) P1) = putS k (getS k ((P2.take i).foldl (fun a q => addS q.1 q.2 a) P1) + x) ((P2.take i).foldl (fun a q => addS q.1 q.2 a) P1) := by rw [addS, if_pos q]
        show IntsD _ (addS k x _)
        rw [e9]
        exact hI.stored k _ _
      · rename_i q _ o2' F2' N2' hd2
        refine FEnd.intro F2' N2' ((D, o2') :: news) (by ((repeat (refine List.forall_mem_cons.mpr ⟨by k_mem, ?_⟩)); first | exact List.forall_mem_nil _ | (intro p9 hp9; k_mem))) (List.forall_mem_cons.mpr ⟨hDI, hnI⟩) (by k_mem) ⟨_, _, rfl, hd2, Nat.le_trans (stored_length _ _ _) (by omega), ?_, hnc⟩
        rw [take_fold hP]
        have e9 : addS k x ((P2.take i).foldl (fun a q => addS q.1 q.2 a) P1) = putS k x ((P2.take i).foldl (fun a q => addS q.1 q.2 a) P1) := by rw [addS, q]; rfl
        show IntsD _ (addS k x _)
        rw [e9]
        exact hI.stored k _ _
    · rintro m₁ nw h tk ⟨oD', kvs', rfl, hD, hz, hI, hnc⟩ hm' F N
      rw [a2.length, List.take_length] at hI
      k_steps
      exact hret _ _ _ _ _ (by assumption) (by assumption) lD lo hD hI
end
-- Fn8
section
theorem kr_Fn8 : True := by
  k_with_none
  w_top off
  trivial
open PySem PySem.W PyProof.Rows PySem.Calls
theorem kw_508108_1 : True := by
  k_with "eval Name" => (k_here; k_dflt (refine' nameX_L (by k_asm) (by first | rfl | assumption) ?_ (by rfl) (by rfl); k_whole))
  k_with "loadName" => (k_here; k_dflt (refine' loadX_L (by k_asm) (by first | rfl | assumption) ?_ (by rfl) (by rfl); k_whole))
  k_with "storeName" => (k_here; k_dflt (refine' storeX_U (by k_asm) (by k_asm) ?_ (by rfl) (by rfl); k_whole); intro _ _ _; (try k_sweep))
  k_with "call ref" => (k_here; (with_reducible show wpAny _ _ (call (Value.ref 194) _) _ _ _); k_dflt (refine' addc_spec (m := _) (by assumption) (by assumption) (by assumption) (by assumption) (by assumption) (by first | exact rfl | assumption) (by (dsimp only [ktrTop, Around.deeper] at *; omega)) (by k_mem) (by assumption) (by assumption) (by k_mem) (by assumption) (by assumption) (by assumption) (by assumption) (by assumption) (by assumption) ?_; k_whole); intro _ _ _ _ _ _ _ _ _ _ _)
  trivial

theorem addf_spec {w : World} {p : Program} {loose : List Str} {mean : ExcName → Option Value} {mg mb : Str → Option Value} {dp un : Nat} {gd : Option (List Code)} {cn : Str} {cs : Scope} {a : Addr} {ccd : Value} {cl : List (Str × Addr)} {outer : List Env} {A₀ : Around} {base h₀ : Heap} {L : Addr} {m : Str → Option Value} {news : List (Addr × Obj)} {s : Shared} {Q E : Value → Shared → Prop} {A1 A2 d1 d2 : Addr} {o1 o2 : Obj} {kvs1 kvs2 : List (PySem.Str × Value)} {P1 P2 : List (PySem.Str × Int)} {a1 b1 a2 b2 a3 b3 a4 b4 : Int} {t1 t2 t3 t4 u1 u2 u3 u4 : Tok} (B : Below A₀ base outer h₀) (F : Fr h₀ L s.heap m) (X : (Mine.hA.heap_1_39 w.params).In h₀) (N : News h₀ L s.heap news) (T : Top p loose mean mg mb h₀) (hk : cs.kind = .function) (hd : dp + 2 < recursionLimit)
    (mA : (A1, tupO [.int a1 t1, .int a2 t2, .int a3 t3, .int a4 t4, .ref d1]) ∈ news) (mB : (A2, tupO [.int b1 u1, .int b2 u2, .int b3 u3, .int b4 u4, .ref d2]) ∈ news)
    (m1 : (d1, o1) ∈ news) (m2 : (d2, o2) ∈ news) (i1 : o1.IsDictOf (PySem.strKind Challenge.rw_xg0084_01.row.prog w) kvs1) (i2 : o2.IsDictOf (PySem.strKind Challenge.rw_xg0084_01.row.prog w) kvs2) (e1 : IntsD kvs1 P1) (e2 : IntsD kvs2 P2) (lo1 : (d1 == sysModules) = false) (lo2 : (d2 == sysModules) = false) (z1 : P1.length ≤ 100) (z2 : P2.length ≤ 100)
    (hret : ∀ T t1 t2 t3 t4 D oD kvs h' tk', Fr h₀ L h' m → News h₀ L h' ((T, tupO [.int (b1 + a1) t1, .int (b2 + a2) t2, .int (b3 + a3) t3, .int (b4 + a4) t4, .ref D]) :: (D, oD) :: news) → (∀ p ∈ news, p.1 < D) → D < T → (D == sysModules) = false → oD.IsDictOf (PySem.strKind Challenge.rw_xg0084_01.row.prog w) kvs → IntsD kvs (P2.foldl (fun a q => addS q.1 q.2 a) P1) → Q (.ref T) { s with heap := h', toks := tk' }) :
    wpAny (model Challenge.rw_xg0084_01.row.toRowW.prog w) (ktrTop dp un gd cn cs L a ccd cl outer) (call (.ref 187) [.ref A1, .ref A2]) Q E s := by
  have _q : Challenge.rw_xg0084_01 = Challenge.rw_xg0084_01 ∧ Mine.hA.heap_1_39 = Mine.hA.heap_1_39 := by (k_fill; exact ⟨rfl, rfl⟩)
  refine wpAny_call ?_
  k_dflt (refine' code_def ?k1 ?k2 ?k3 ?k4 ?k5 ?kA ?kF ?kK ?k6 ?k7 ?k8 ?k9 ?kB ?_ ?c2 ?c3 ?c4 ?c5; (case kA => exact rfl); (case kF => exact rfl); (case kK => assumption); (case k1 => k_asm); (case k2 => k_asm); (case k3 => k_asm); (case k4 => k_asm); (case k5 => k_asm); (case k6 => k_is); (case k7 => k_is); (case k8 => ktr_room); (case k9 => first | exact BindsTo.of_eq rfl | exact binds_K (by k_in) rfl (by k_is) rfl rfl rfl); (case c5 => decide); (case kB => exact locs rfl); (case c2 => exact rfl); (case c3 => exact rfl); (case c4 => exact rfl); k_whole; intro g' L' h' FG' F' N' B' X' T'; (try dsimp only); (try k_fold))
  repeat' ((fail_if_success (with_reducible show wpAny _ _ (exec (PySem.Stmt.For _ _ _ _ _) _) _ _ _)); (fail_if_success (with_reducible show wpAny _ _ (exec (PySem.Stmt.While _ _ _ _) _) _ _ _)); (fail_if_success (with_reducible show wpAny _ _ (eval (PySem.Expr.ListComp _ _ _ _) _) _ _ _)); (fail_if_success (with_reducible show wpAny _ _ (eval (PySem.Expr.DictComp _ _ _ _ _) _) _ _ _)); (fail_if_success (with_reducible show wpAny _ _ (exec (PySem.Stmt.Assign _ (PySem.Expr.ListComp _ _ _ _) _) _) _ _ _)); (fail_if_success (with_reducible show wpAny _ _ (exec (PySem.Stmt.Assign _ (PySem.Expr.DictComp _ _ _ _ _) _) _) _ _ _)); (first | (k_unfold; (try dsimp only)) | (k_end; wrow_close) | walk1 | (dsimp only; walk1) | (leave1; walk_say "STEP leave1"; try dsimp only) | fail "no step"))
  rename_i D oD kvs _ _ lD lo hD hI T h9 _ _ lT kF kN _ kX
  exact hret T _ _ _ _ D oD kvs _ _ kF kN lD lT.1 lo hD hI

theorem kw_508108_2 : True := by
  k_with "getMethod ref" => (k_here; k_dflt (refine' DD.method (by rfl) (by k_asm) (by k_mem) (by assumption) (by assumption) (by assumption) ?_; k_whole))
  k_with "call builtin:dict.values" => (k_here; k_dflt (refine' DD.values (by k_asm) (by k_asm) (by k_mem) (by assumption) (by assumption) (by assumption) ?_; k_whole); intro _ _ _ _ _)
  trivial
theorem cnt_spec {w : World} {p : Program} {loose : List Str} {mean : ExcName → Option Value} {mg mb : Str → Option Value} {dp un : Nat} {gd : Option (List Code)} {cn : Str} {cs : Scope} {a : Addr} {ccd : Value} {cl : List (Str × Addr)} {outer : List Env} {A₀ : Around} {base h₀ : Heap} {L : Addr} {m : Str → Option Value} {news : List (Addr × Obj)} {s : Shared} {Q E : Value → Shared → Prop} {d1 : Addr} {o1 : Obj} {kvs1 : List (PySem.Str × Value)} {P1 : List (PySem.Str × Int)} (B : Below A₀ base outer h₀) (F : Fr h₀ L s.heap m) (X : (Mine.hA.heap_1_39 w.params).In h₀) (N : News h₀ L s.heap news) (T : Top p loose mean mg mb h₀) (hk : cs.kind = .function) (hd : dp + 1 < recursionLimit) (m1 : (d1, o1) ∈ news) (i1 : o1.IsDictOf (PySem.strKind Challenge.rw_xg0084_01.row.prog w) kvs1) (e1 : IntsD kvs1 P1) (lo1 : (d1 == sysModules) = false)
    (hret : ∀ t h' tk', Fr h₀ L h' m → News h₀ L h' news → Q (.int (P1.map (·.2)).sum t) { s with heap := h', toks := tk' }) :
    wpAny (model Challenge.rw_xg0084_01.row.toRowW.prog w) (ktrTop dp un gd cn cs L a ccd cl outer) (call (.ref 201) [.ref d1]) Q E s := by
  have _q : Challenge.rw_xg0084_01 = Challenge.rw_xg0084_01 ∧ Mine.hA.heap_1_39 = Mine.hA.heap_1_39 := by (k_fill; exact ⟨rfl, rfl⟩)
  refine wpAny_call ?_
  k_dflt (refine' code_def ?k1 ?k2 ?k3 ?k4 ?k5 ?kA ?kF ?kK ?k6 ?k7 ?k8 ?k9 ?kB ?_ ?c2 ?c3 ?c4 ?c5; (case kA => exact rfl); (case kF => exact rfl); (case kK => assumption); (case k1 => k_asm); (case k2 => k_asm); (case k3 => k_asm); (case k4 => k_asm); (case k5 => k_asm); (case k6 => k_is); (case k7 => k_is); (case k8 => ktr_room); (case k9 => first | exact BindsTo.of_eq rfl | exact binds_K (by k_in) rfl (by k_is) rfl rfl rfl); (case c5 => decide); (case kB => exact locs rfl); (case c2 => exact rfl); (case c3 => exact rfl); (case c4 => exact rfl); k_whole; intro g' L' h' FG' F' N' B' X' T'; (try dsimp only); (try k_fold))
  repeat' ((fail_if_success (with_reducible show wpAny _ _ (exec (PySem.Stmt.For _ _ _ _ _) _) _ _ _)); (fail_if_success (with_reducible show wpAny _ _ (exec (PySem.Stmt.While _ _ _ _) _) _ _ _)); (fail_if_success (with_reducible show wpAny _ _ (eval (PySem.Expr.ListComp _ _ _ _) _) _ _ _)); (fail_if_success (with_reducible show wpAny _ _ (eval (PySem.Expr.DictComp _ _ _ _ _) _) _ _ _)); (fail_if_success (with_reducible show wpAny _ _ (exec (PySem.Stmt.Assign _ (PySem.Expr.ListComp _ _ _ _) _) _) _ _ _)); (fail_if_success (with_reducible show wpAny _ _ (exec (PySem.Stmt.Assign _ (PySem.Expr.DictComp _ _ _ _ _) _) _) _ _ _)); (first | (k_unfold; (try dsimp only)) | (k_end; wrow_close) | walk1 | (dsimp only; walk1) | (leave1; walk_say "STEP leave1"; try dsimp only) | fail "no step"))
  rename_i h9 F9 N9
  refine forF F9 ?_
  k_steps
  rename_i vw h3 hv F3 N3
  refine fsrc_values (knd := PySem.strKind _ _) (m := _) (news := news) (fun i m₁ nw => nw = news ∧ ∃ t, m₁ (Str.ofString "nc") = some (.int ((P1.map (·.2)).take i).sum t)) rfl F3 N3 hv i1 m1 ⟨_, _, rfl⟩ ⟨rfl, _, rfl⟩ ?_ ?_
  · rintro i k v m₁ nw g I hx hm' ⟨rfl, tn, hnc⟩
    obtain ⟨x, t, rfl, hP⟩ := e1.at hx
    refine FTurn.name (by rfl) (by rfl) ?_
    intro oI h tk F N off tle
    k_steps
    rename_i F2 N2
    have e9 : (P1.map (·.2))[i]? = some x := by rw [List.getElem?_map, hP]; rfl
    exact FEnd.intro F2 N2 nw (by ((repeat (refine List.forall_mem_cons.mpr ⟨by k_mem, ?_⟩)); first | exact List.forall_mem_nil _ | (intro p9 hp9; k_mem))) off (by k_mem) ⟨rfl, _, by rw [take_sum e9]; rfl⟩
  · rintro m₁ nw h tk ⟨rfl, tn, hnc⟩ hm' F N tle
    rw [e1.length, ← List.length_map (as := P1) (fun x => x.2), List.take_length] at hnc
    k_steps
    exact hret _ _ _ (by assumption) (by assumption)
end
end
-- Page1
section
open PySem PySem.W PyProof.Rows PySem.Calls PySem.Spec
theorem news_ne {h₀ h : Heap} {L : Addr} {l : List (Addr × Obj)} (N : News h₀ L h l) {a b : Addr} {oa ob : Obj} (ha : (a, oa) ∈ l) (hb : (b, ob) ∈ l) (hne : oa ≠ ob) : a ≠ b := by
  intro e
  subst e
  have h1 := (N _ ha).1
  rw [(N _ hb).1] at h1
  exact hne (Option.some.inj h1).symm

theorem ex_int {o : Option Value} {a b : Int} {t : Tok} (h : o = some (.int a t)) (e : a = b) : ∃ t, o = some (.int b t) := ⟨t, e ▸ h⟩
noncomputable def letter (i : Nat) : PySem.Str := ⟨#[97 + i]⟩
theorem letter_inj {i j : Nat} (h : letter i = letter j) : i = j := by
  unfold letter at h
  have : (#[97 + i] : Array Nat) = #[97 + j] := by injection h
  have : 97 + i = 97 + j := by simpa using this
  omega

inductive PageIs (leadV : Nat → Value) (tokL : Nat → Tok) (nw : List (Addr × Obj)) : List Value → List Nat → Prop
  | nil : PageIs leadV tokL nw [] []
  | cons {T : Addr} {k : Nat} {its : List Value} {i : Nat} {s : List Nat} : (T, tupN [leadV i, .str (letter i) (tokL i)] k) ∈ nw → PageIs leadV tokL nw its s → PageIs leadV tokL nw (.ref T :: its) (i :: s)
section
variable {leadV : Nat → Value} {tokL : Nat → Tok} {nw nw' : List (Addr × Obj)}
theorem PageIs.mono {its : List Value} {s : List Nat} (h : PageIs leadV tokL nw its s) (hs : ∀ p ∈ nw, p ∈ nw') : PageIs leadV tokL nw' its s := by
  induction h with
  | nil => exact .nil
  | cons m _ ih => exact .cons (hs _ m) ih
theorem PageIs.length {its : List Value} {s : List Nat} (h : PageIs leadV tokL nw its s) : its.length = s.length := by
  induction h with
  | nil => rfl
  | cons m _ ih => simp [ih]
theorem PageIs.take {its : List Value} {s : List Nat} (h : PageIs leadV tokL nw its s) : ∀ n, PageIs leadV tokL nw (its.take n) (s.take n) := by
  induction h with
  | nil => intro n; simp; exact .nil
  | cons m _ ih =>
    intro n
    cases n with
    | zero => exact .nil
    | succ n => exact .cons m (ih n)
theorem PageIs.drop {its : List Value} {s : List Nat} (h : PageIs leadV tokL nw its s) : ∀ n, PageIs leadV tokL nw (its.drop n) (s.drop n) := by
  induction h with
  | nil => intro n; simp; exact .nil
  | cons m r ih =>
    intro n
    cases n with
    | zero => exact .cons m r
    | succ n => exact ih n
theorem PageIs.append {its its2 : List Value} {s s2 : List Nat} (h : PageIs leadV tokL nw its s) (h2 : PageIs leadV tokL nw its2 s2) : PageIs leadV tokL nw (its ++ its2) (s ++ s2) := by
  induction h with
  | nil => exact h2
  | cons m _ ih => exact .cons m ih
theorem PageIs.at {its : List Value} {s : List Nat} (h : PageIs leadV tokL nw its s) : ∀ {i : Nat} {v : Value}, its[i]? = some v → ∃ T k j, v = .ref T ∧ s[i]? = some j ∧ (T, tupN [leadV j, .str (letter j) (tokL j)] k) ∈ nw := by
  induction h with
  | nil => intro i v q; simp at q
  | @cons T k its j s m _ ih =>
    intro i v q
    cases i with
    | zero => cases q; exact ⟨T, k, j, rfl, rfl, m⟩
    | succ i => simpa using ih (by simpa using q)
end
noncomputable def DeepIs (prog : Program) (w : World) (val : Nat → Nat → Int) (T : Tok) (nw : List (Addr × Obj)) (dd : Addr) : Prop :=
  ∃ od kvs, (dd, od) ∈ nw ∧ od.IsDictOf (PySem.strKind prog w) kvs ∧ ∀ i, i < 6 → ∃ di odi kvi, valueAt kvs (letter i) = some (.ref di) ∧ (di, odi) ∈ nw ∧ odi.IsDictOf (PySem.strKind prog w) kvi ∧
    ∀ j, j < 6 → ∃ t, valueAt kvi (letter j) = some (.int (val i j) t) ∧ 0 < t ∧ t < T
section
variable {prog : Program} {w : World} {A : Around} {E : Value → Shared → Prop} {Q : Flow → Shared → Prop} {s : Shared} {env : Env} {h₀ : Heap} {L : Addr}
noncomputable def XEnd (h₀ : Heap) (L : Addr) (s : Shared) (Jf : (Str → Option Value) → List (Addr × Obj) → Prop) (f : Flow) (s' : Shared) : Prop :=
  f = .next ∧ ∃ h' tk m' nw, s' = { s with heap := h', toks := tk } ∧ Fr h₀ L h' m' ∧ News h₀ L h' nw ∧ Jf m' nw
theorem execCut {st : Stmt} {L₀ : Addr} {hh : Heap} {m₀ : Str → Option Value} (Jf : (Str → Option Value) → List (Addr × Obj) → Prop) (_F : Fr h₀ L₀ hh m₀)
    (h : wpAny (model prog w) A (exec st env) (XEnd h₀ L₀ s Jf) E s)
    (rest : ∀ h' tk m' nw, Fr h₀ L₀ h' m' → News h₀ L₀ h' nw → Jf m' nw → s.toks ≤ tk → Q .next { s with heap := h', toks := tk }) :
    wpAny (model prog w) A (exec st env) Q E s :=
  wpAny_toks (wpAny_mono h (fun f s' x t => by obtain ⟨rfl, h', tk, m', nw, rfl, F, N, j⟩ := x; exact rest h' tk m' nw F N j t) fun _ _ x _ => x)
theorem XCut.intro {s₁ : Shared} {Jf : (Str → Option Value) → List (Addr × Obj) → Prop} {h' : Heap} {tk : Nat} {m' : Str → Option Value} {all : List (Addr × Obj)} (F : Fr h₀ L h' m') (N : News h₀ L h' all)
    (nw : List (Addr × Obj)) (sub : ∀ p ∈ nw, p ∈ all) (j : Jf m' nw) : XEnd h₀ L s₁ Jf .next { s₁ with heap := h', toks := tk } :=
  ⟨rfl, h', tk, m', nw, rfl, F, fun p hp => N p (sub p hp), j⟩
end
section
variable {prog : Program} {w : World} {K : Type} [DecidableEq K] {knd : KeyKind prog w K} {A : Around} {E : Value → Shared → Prop} {s : Shared} {h₀ : Heap} {L d : Addr} {news : List (Addr × Obj)} {o : Obj} {kvs : List (K × Value)} {k : K} {key v : Value}
theorem DK.item {value slice : PySem.Expr} {Q : Value → Shared → Prop} (N : News h₀ L s.heap news) (hp : (d, o) ∈ news) (hd : o.IsDictOf knd kvs) (hkey : knd.is k key = true) (hl : valueAt kvs k = some v) (h : Q v { s with toks := s.toks + 1 })
    (hs : subscripted slice false (.ref d) key = operate [.ref d, key] (getItem (.ref d) key) := by with_unfolding_all rfl) : wpAny (model prog w) A (subscriptTail value slice (.ref d) key) Q E s :=
  have hD := kda_dict N hp hd
  tail_any hD.typeIs slot_dict_getitem.lookup (wpAny_getItem_of hkey hD.mapOf hl h) hs
end
end
-- Page2
section
open PySem PySem.W PyProof.Rows PySem.Calls
theorem pop2_spec {w : World} {p : Program} {loose : List Str} {mean : ExcName → Option Value} {mg mb : Str → Option Value} {dp un : Nat} {gd : Option (List Code)} {cn : Str} {cs : Scope} {a : Addr} {ccd : Value} {cl : List (Str × Addr)} {outer : List Env} {A₀ : Around} {base h₀ : Heap} {L : Addr} {m : Str → Option Value} {news : List (Addr × Obj)} {s : Shared} {Q E : Value → Shared → Prop} {pg dpg : Addr} {its : List Value} {n : Nat} {i : Int} {t : Tok} {od : Obj} {mid : List (Addr × Obj)} {k : Nat}
    (B : Below A₀ base outer h₀) (F : Fr h₀ L s.heap m) (X : (Mine.hA.heap_1_39 w.params).In h₀) (N : News h₀ L s.heap news) (T : Top p loose mean mg mb h₀) (hk : cs.kind = .function) (hd : dp + 1 < recursionLimit) (hz : its.length ≤ 100) (hi : i = (k : Int)) (hk2 : k ≤ its.length)
    (hn : news = (pg, accObj dpg its n) :: (dpg, od) :: mid) (hoff : ∀ p ∈ (dpg, od) :: mid, p.1 ≠ pg)
    (hret : ∀ D h' tk' n', Fr h₀ L h' m → News h₀ L h' ((pg, accObj dpg (its.take k) n') :: (dpg, od) :: (D, W.listOf (its.drop k).toArray 0) :: mid) → (∀ p ∈ (dpg, od) :: (D, W.listOf (its.drop k).toArray 0) :: mid, p.1 ≠ pg) → Q (.ref D) { s with heap := h', toks := tk' }) :
    wpAny (model Challenge.rw_xg0084_01.row.toRowW.prog w) (ktrTop dp un gd cn cs L a ccd cl outer) (call (.ref 53) [.ref pg, .int i t]) Q E s := by
  subst hi
  refine pop_from_spec B F X N T hk hd (by rw [sizeLine_eq]; omega) (by rw [sizeLine_eq, List.size_toArray]; omega) (by omega) hn hoff ?_
  intro D h' tk' n' F' N' ne
  have e : slicePick its.toArray (some (k : Int)) none none = (its.drop k).toArray := by
    rw [kms_pick_eq, pick_drop _ _ k rfl (by simpa using hk2)]
  rw [e, Int.toNat_natCast] at N'
  refine hret D h' tk' n' F' (cb_drop N' fun p hp => ?_) (fun p hp => ?_)
  · (revert p; (repeat' (first | refine List.forall_mem_cons.mpr ⟨?_, ?_⟩ | refine List.forall_mem_append.mpr ⟨?_, ?_⟩ | exact List.forall_mem_nil _)); all_goals (first | (intro p9 hp9; solve_by_elim (maxDepth := 24) only [hp9, List.mem_cons_of_mem, List.mem_append_left, List.mem_append_right]) | solve_by_elim (maxDepth := 24) only [List.mem_cons_self, List.mem_cons_of_mem, List.mem_append_left, List.mem_append_right]))
  · rcases List.mem_cons.mp hp with rfl | hp
    · exact hoff _ List.mem_cons_self
    · rcases List.mem_cons.mp hp with rfl | hp
      · exact ne
      · exact hoff p (List.mem_cons_of_mem _ hp)
theorem push2_spec {w : World} {p : Program} {loose : List Str} {mean : ExcName → Option Value} {mg mb : Str → Option Value} {dp un : Nat} {gd : Option (List Code)} {cn : Str} {cs : Scope} {a : Addr} {ccd : Value} {cl : List (Str × Addr)} {outer : List Env} {A₀ : Around} {base h₀ : Heap} {L : Addr} {m : Str → Option Value} {news : List (Addr × Obj)} {s : Shared} {Q E : Value → Shared → Prop} {pg dpg : Addr} {its : List Value} {n : Nat} {v1 v2 : Value} {od : Obj} {mid : List (Addr × Obj)}
    (B : Below A₀ base outer h₀) (F : Fr h₀ L s.heap m) (X : (Mine.hA.heap_1_39 w.params).In h₀) (N : News h₀ L s.heap news) (T : Top p loose mean mg mb h₀) (hk : cs.kind = .function) (hod : IsAccD od) (hd : dp + 1 < recursionLimit) (hz : its.length ≤ 100)
    (hn : news = (pg, accObj dpg its n) :: (dpg, od) :: mid) (hoff : ∀ p ∈ (dpg, od) :: mid, p.1 ≠ pg)
    (hret : ∀ D h' tk' n', Fr h₀ L h' m → News h₀ L h' ((pg, accObj dpg (its ++ [.ref D]) n') :: (dpg, od) :: (D, tupO [v1, v2]) :: mid) → (∀ p ∈ (dpg, od) :: (D, tupO [v1, v2]) :: mid, p.1 ≠ pg) → (∀ p ∈ mid, p.1 ≠ D) → Q .none { s with heap := h', toks := tk' }) :
    wpAny (model Challenge.rw_xg0084_01.row.toRowW.prog w) (ktrTop dp un gd cn cs L a ccd cl outer) (call (.ref 45) [.ref pg, v1, v2]) Q E s := by
  refine push_spec B F X N T hk hod hd (by rw [sizeLine_eq]; omega) (by rw [sizeLine_eq, List.size_toArray]; omega) hn hoff ?_
  intro D h' tk' n' F' N' ne nD
  refine hret D h' tk' n' F' (cb_drop N' fun p hp => ?_) (fun p hp => ?_) nD
  · (revert p; (repeat' (first | refine List.forall_mem_cons.mpr ⟨?_, ?_⟩ | refine List.forall_mem_append.mpr ⟨?_, ?_⟩ | exact List.forall_mem_nil _)); all_goals (first | (intro p9 hp9; solve_by_elim (maxDepth := 24) only [hp9, List.mem_cons_of_mem, List.mem_append_left, List.mem_append_right]) | solve_by_elim (maxDepth := 24) only [List.mem_cons_self, List.mem_cons_of_mem, List.mem_append_left, List.mem_append_right]))
  · rcases List.mem_cons.mp hp with rfl | hp
    · exact hoff _ List.mem_cons_self
    · rcases List.mem_cons.mp hp with rfl | hp
      · exact ne
      · exact hoff p (List.mem_cons_of_mem _ hp)
theorem hop_base {h₀ h : Heap} {L pg dpg D1 D2 D3 : Addr} {oP od o1 o2 o3 : Obj} {t mid : List (Addr × Obj)} (N : News h₀ L h ((D3, o3) :: (D2, o2) :: (D1, o1) :: (pg, oP) :: (dpg, od) :: t)) (l1 : pg ≠ D1) (l2 : pg ≠ D2) (l3 : pg ≠ D3)
    (o : ∀ p ∈ (dpg, od) :: t, p.1 ≠ pg) (sub : ∀ p ∈ mid, p ∈ t) : ∃ base, News h₀ L h ((pg, oP) :: (dpg, od) :: base) ∧ (D3, o3) ∈ base ∧ (∀ p ∈ mid, p ∈ base) ∧ ∀ p ∈ (dpg, od) :: base, p.1 ≠ pg := by
  refine ⟨(D3, o3) :: (D2, o2) :: (D1, o1) :: t, cb_drop N fun p hp => ?_, List.mem_cons_self, fun p hp => List.mem_cons_of_mem _ (List.mem_cons_of_mem _ (List.mem_cons_of_mem _ (sub p hp))), fun p hp => ?_⟩
  · (revert p; (repeat' (first | refine List.forall_mem_cons.mpr ⟨?_, ?_⟩ | refine List.forall_mem_append.mpr ⟨?_, ?_⟩ | exact List.forall_mem_nil _)); all_goals (first | (intro p9 hp9; solve_by_elim (maxDepth := 24) only [hp9, List.mem_cons_of_mem, List.mem_append_left, List.mem_append_right]) | solve_by_elim (maxDepth := 24) only [List.mem_cons_self, List.mem_cons_of_mem, List.mem_append_left, List.mem_append_right]))
  · simp only [List.mem_cons] at hp
    rcases hp with rfl | rfl | rfl | rfl | hp
    · exact o _ List.mem_cons_self
    · exact Ne.symm l3
    · exact Ne.symm l2
    · exact Ne.symm l1
    · exact o p (List.mem_cons_of_mem _ hp)
end
-- Law1
section
open PySem PySem.W PyProof.Rows PySem.Calls PySem.Spec
theorem cells_get {mc : Str → Option Value} : ∀ {cl : List (Str × Addr)} {cells : List (Addr × Obj)}, CellsAre mc cl cells → ∀ {x : Str} {c : Addr}, cl.lookup x = some c → ∃ o, (c, o) ∈ cells ∧ o.data = .cell (mc x)
  | _, _, .nil, x, c, h => by simp at h
  | _, _, .cons (n := n) (c := c') (o := o) hd r, x, c, h => by
    rw [List.lookup_cons] at h
    cases e : x == n with
    | true =>
      rw [e] at h
      cases h
      have : x = n := eq_of_beq e
      subst this
      exact ⟨o, List.mem_cons_self, hd⟩
    | false =>
      rw [e] at h
      obtain ⟨o', m', d'⟩ := cells_get r h
      exact ⟨o', List.mem_cons_of_mem _ m', d'⟩
section
variable {M : Model} {A : Around} {E : Value → Shared → Prop} {s : Shared} {h₀ : Heap} {L a C : Addr} {mc : Str → Option Value} {cn : Str} {cs scope : Scope} {ccd : Value} {cl cl' : List (Str × Addr)} {env : Env}
  {x : Str} {pos : Pos} {v : Value} {Q : Value → Shared → Prop} {news cells : List (Addr × Obj)} {c : Addr}
theorem lw_name (N : News h₀ L s.heap news) (CA : CellsAre mc cl cells) (hs : ∀ p ∈ cells, p ∈ news) (hc : cl.lookup x = some c) (hv : mc x = some v) (h : Q v s)
    (hk : cs.kind = .function) (hx : (envX cn cs L a ccd cl).kindOf x = some .cell) (hb : (x == ("__debug__" : Str)) = false) : wpAny M A (eval (.Name x pos) (envX cn cs L a ccd cl)) Q E s := by
  obtain ⟨o, m, d⟩ := cells_get CA hc
  exact nameX_C N hc (hs _ m) (by rw [d, hv]) h hk hx hb
theorem lw_comp (N : News h₀ L s.heap news) (CA : CellsAre mc cl cells) (hs : ∀ p ∈ cells, p ∈ news) (hc : cl.lookup x = some c) (hc' : cl'.lookup x = some c) (hv : mc x = some v) (h : Q v s)
    (hk : (compEnvC scope cl' C env).scope.kind = .function) (hx : (compEnvC scope cl' C env).kindOf x = some .cell ∨ (compEnvC scope cl' C env).kindOf x = some .free) (hb : (x == ("__debug__" : Str)) = false) (hn : (x == ("__classdict__" : Str)) = false) :
    wpAny M A (eval (.Name x pos) (compEnvC scope cl' C env)) Q E s := by
  obtain ⟨o, m, d⟩ := cells_get CA hc
  rcases hx with hx | hx
  · exact lcf_cell N hc' (hs _ m) (by rw [d, hv]) h hk hx hb
  · exact lcf_free N hc' (hs _ m) (by rw [d, hv]) h hk hx hb hn
end
theorem cells_same {mc mc' : Str → Option Value} : ∀ {cl : List (Str × Addr)} {cells : List (Addr × Obj)}, CellsAre mc cl cells → (∀ n ∈ cl.map (·.1), mc' n = mc n) → CellsAre mc' cl cells
  | _, _, .nil, _ => .nil
  | _, _, .cons hd r, h => .cons (by rw [hd, h _ List.mem_cons_self]) (cells_same r fun n hn => h n (List.mem_cons_of_mem _ hn))
theorem cells_split {mc : Str → Option Value} {x : Str} {v : Value} : ∀ {cl : List (Str × Addr)} {cells : List (Addr × Obj)} {c : Addr}, CellsAre mc cl cells → (cl.map (·.1)).Nodup → cl.lookup x = some c →
    ∃ pre o post, cells = pre ++ (c, o) :: post ∧ o.data = .cell (mc x) ∧ ∀ o', o'.data = .cell (some v) → CellsAre (fun y => if y = x then some v else mc y) cl (pre ++ (c, o') :: post)
  | _, _, c, .nil, _, h => by simp at h
  | _, _, c, .cons (n := n) (c := c') (o := o) (cs := cs) (cells := cells) hd r, nd, h => by
    rw [List.lookup_cons] at h
    rw [List.map_cons, List.nodup_cons] at nd
    cases e : x == n with
    | true =>
      rw [e] at h
      cases h
      have : x = n := eq_of_beq e
      subst this
      refine ⟨[], o, cells, rfl, hd, fun o' h' => .cons (by rw [h']; simp) (cells_same r fun n hn => ?_)⟩
      rw [if_neg]
      rintro rfl
      exact nd.1 hn
    | false =>
      rw [e] at h
      obtain ⟨pre, o2, post, e1, e2, e3⟩ := cells_split (v := v) r nd.2 h
      refine ⟨(c', o) :: pre, o2, post, by rw [e1]; rfl, e2, fun o' h' => .cons ?_ (e3 o' h')⟩
      have hne : n ≠ x := by
        rintro rfl
        simp at e
      rw [hd]; simp [hne]
section
variable {M : Model} {A : Around} {E : Value → Shared → Prop} {s : Shared} {h₀ : Heap} {L a : Addr} {m mc : Str → Option Value} {cn : Str} {cs : Scope} {ccd : Value} {cl : List (Str × Addr)}
  {x : Str} {v : Value} {Q : Unit → Shared → Prop} {cells rest : List (Addr × Obj)} {c : Addr}
theorem lw_store (F : Fr h₀ L s.heap m) (N : News h₀ L s.heap (cells ++ rest)) (CA : CellsAre mc cl cells) (nd : (cl.map (·.1)).Nodup) (nc : (cells.map (·.1)).Nodup) (off : ∀ p ∈ rest, ∀ q ∈ cells, p.1 ≠ q.1) (hc : cl.lookup x = some c)
    (h : ∀ h' cells', Fr h₀ L h' m → News h₀ L h' (cells' ++ rest) → CellsAre (upd mc x v) cl cells' → cells'.map (·.1) = cells.map (·.1) → Heap.SameBut c s.heap h' → Q () { s with heap := h' })
    (hk : cs.kind = .function) (hx : (envX cn cs L a ccd cl).kindOf x = some .cell) : wpAny M A (storeName (envX cn cs L a ccd cl) x v) Q E s := by
  obtain ⟨pre, o, post, rfl, hd, mk⟩ := cells_split (v := v) CA nd hc
  have hmem := N (c, o) (List.mem_append_left _ (List.mem_append_right _ List.mem_cons_self))
  refine wpAny_storeName_cell hk hx hc ⟨o, hmem.1, hd⟩ fun h' hv hs => ?_
  obtain ⟨o', ho', hd'⟩ := hv
  have hs' : ∀ b ob, b ≠ c → s.heap.get? b = some ob → h'.get? b = some ob := fun b ob hb e => (hs.2 b hb).trans e
  refine h h' (pre ++ (c, o') :: post) ⟨F.ns.sameBut hs (Ne.symm hmem.2.1), fun b ob e => hs' b ob (fun q => ?_) (F.keep b ob e), F.above⟩ (fun p hp => ?_) (mk o' hd') (by simp) hs
  · rw [q, hmem.2.2] at e; cases e
  · have key : ∀ p, p ∈ (pre ++ (c, o) :: post) ++ rest → p.1 ≠ c → h'.get? p.1 = some p.2 ∧ p.1 ≠ L ∧ h₀.get? p.1 = none := fun p hp hne => ⟨hs' _ _ hne (N p hp).1, (N p hp).2⟩
    rw [List.map_append, List.map_cons, List.nodup_append] at nc
    rcases List.mem_append.mp hp with hp | hp
    · rcases List.mem_append.mp hp with hp | hp
      · exact key p (List.mem_append_left _ (List.mem_append_left _ hp)) fun e => nc.2.2 p.1 (List.mem_map_of_mem hp) c List.mem_cons_self e
      · rcases List.mem_cons.mp hp with rfl | hp
        · exact ⟨ho', hmem.2⟩
        · refine key p (List.mem_append_left _ (List.mem_append_right _ (List.mem_cons_of_mem _ hp))) fun e => ?_
          have := (List.nodup_cons.mp nc.2.1).1
          have q := List.mem_map_of_mem (f := fun p : Addr × Obj => p.1) hp
          rw [e] at q
          exact this q
    · exact key p (List.mem_append_right _ hp) (off p hp (c, o) (List.mem_append_right _ List.mem_cons_self))
end
end
-- Law2
section
open PySem PySem.W PyProof.Rows PySem.Calls PySem.Spec
open PyProof.Rows.LCg
theorem off1_mem {D : Addr} : ∀ {l : List (Addr × Obj)}, Off1 D l → ∀ p ∈ l, p.1 ≠ D
  | [], _, _, h => nomatch h
  | _ :: _, x, p, h => by
    rcases List.mem_cons.mp h with rfl | h
    · exact x.1
    · exact off1_mem x.2 p h
section
variable {prog : Program} {w : World} {A : Around} {E : Value → Shared → Prop} {s : Shared} {h₀ : Heap} {L a : Addr} {m : Str → Option Value} {cn : Str} {cs : Scope} {ccd : Value} {clL : List (Str × Addr)}
noncomputable def FinC (h₀ : Heap) (L : Addr) (m : Str → Option Value) (clL : List (Str × Addr)) (s : Shared) (y : Str) (Q : Flow → Shared → Prop) (ys : List Value) (news : List (Addr × Obj)) : Prop :=
  ∃ (mc : Str → Option Value) (cells rest : List (Addr × Obj)), (∀ p ∈ cells ++ rest, p ∈ news) ∧ CellsAre mc clL cells ∧ (cells.map (·.1)).Nodup ∧ (∀ p ∈ rest, ∀ q ∈ cells, p.1 ≠ q.1) ∧
    ∀ D h tk cells', Fr h₀ L h m → News h₀ L h (cells' ++ (D, lst ys) :: rest) → CellsAre (upd mc y (.ref D)) clL cells' → cells'.map (·.1) = cells.map (·.1) → (∀ p ∈ cells ++ rest, p.1 ≠ D) → Q .next { s with heap := h, toks := tk }

theorem assignCompC (_F : Fr h₀ L s.heap m) {elt target iter : Expr} {ifs : List Expr} {y : Str} {py : Pos} {scope : Scope} {cl : List (Str × Addr)} {pos spos : Pos} {c : Addr} {Q : Flow → Shared → Prop}
    (hsw : swapsWith (.ListComp elt [⟨target, iter, ifs, 0⟩] scope pos) (some (.Name y py)) spos.line (envX cn cs L a ccd clL) = pure true)
    (hclos : closureFor scope (envX cn cs L a ccd clL) = pure cl) (hcell : ∀ y ∈ scope.names, y.2 ≠ .cell) (hkind : scope.kind = .function)
    (hnames : ∀ y ∈ scope.names, y.2 = .local → scope.names.lookup y.1 = some .local)
    (hk : cs.kind = .function) (hy : (envX cn cs L a ccd clL).kindOf y = some .cell) (nd : (clL.map (·.1)).Nodup) (hc : clL.lookup y = some c)
    (h : wpAny (model prog w) A (eval iter (envX cn cs L a ccd clL)) (fun xv s₁ => wpAny (model prog w) A (pyIter xv) (CSrc prog w A h₀ L m (envX cn cs L a ccd clL) target ifs elt scope cl (fun s₂ => FinC h₀ L m clL s₂ y Q)) E s₁) E s)
    (hs : ∀ x, foldedSetIterable iter (envX cn cs L a ccd clL) x = pure x := by intro _; rfl) :
    wpAny (model prog w) A (exec (.Assign [.Name y py] (.ListComp elt [⟨target, iter, ifs, 0⟩] scope pos) spos) (envX cn cs L a ccd clL)) Q E s := by
  rw [exec_Assign_Name_used _ _ _ _ hsw]
  refine wpAny_bind (wpAny_standAt (wpAny_bind ?_))
  show wpAny _ A (do let _ ← comprehension (.ListComp elt [⟨target, iter, ifs, 0⟩] scope pos) scope (envX cn cs L a ccd clL) _ (newList []) false (eval iter (envX cn cs L a ccd clL)) (some (assign (.Name y py) (envX cn cs L a ccd clL)))) _ _ s
  refine wpAny_bind (wpAny_mono (wpAny_comprehension_free (use := some (assign (.Name y py) (envX cn cs L a ccd clL))) (Q := fun _ s' => Q .next s') rfl hs hclos hkind hnames
    (wpAny_mono h (fun xv s₁ h₁ => wpAny_mono h₁ (fun it s₂ h₂ => ?_) fun _ _ e => e) fun _ _ e => e)) (fun _ s' hq => wpAny_pure (wpAny_pure hq)) fun _ _ e => e)
  obtain ⟨I, fp, n, P, St, S, news, J, rfl, W, hsz, hIo, hSt, hlet, hst, hfp, F, N, hIL, hI₀, off, hS, hJ, step, fin⟩ := h₂
  refine blockG J W hsz hIo hSt hlet hcell hkind hst hfp F N hIL hI₀ off hS hJ step ?_
  intro D C h' tk m' ys news' F' N' o1 hn hC₀ hD₀ hCL hDL hCD offC hJ'
  obtain ⟨mc, cells, rest, sub, CA, nc, offr, go⟩ := fin ys news' hJ'
  show wpAny _ A (assign (.Name y py) (envX cn cs L a ccd clL) (.ref D)) _ _ _
  have oD : ∀ p ∈ cells ++ rest, p.1 ≠ D := fun p hp => off1_mem o1 p (sub p hp)
  have N1 : News h₀ L h' (cells ++ (D, lst ys) :: rest) := fun p hp => by
    rcases List.mem_append.mp hp with hp | hp
    · exact N' p (List.mem_cons_of_mem _ (sub p (List.mem_append_left _ hp)))
    · rcases List.mem_cons.mp hp with rfl | hp
      · exact N' _ List.mem_cons_self
      · exact N' p (List.mem_cons_of_mem _ (sub p (List.mem_append_right _ hp)))
  refine wpAny_assign_Name (lw_store F' N1 CA nd nc (fun p hp q hq => ?_) hc (fun h₂ cells' F₂ N₂ CA₂ ad hs₂ => ?_) hk hy)
  · rcases List.mem_cons.mp hp with rfl | hp
    · exact Ne.symm (oD q (List.mem_append_left _ hq))
    · exact offr p hp q hq
  have offC' : ∀ p ∈ cells' ++ (D, lst ys) :: rest, p.1 ≠ C := fun p hp => by
    rcases List.mem_append.mp hp with hp | hp
    · have q := List.mem_map_of_mem (f := fun p : Addr × Obj => p.1) hp
      rw [ad] at q
      obtain ⟨r, hr, e⟩ := List.mem_map.mp q
      rw [← e]
      exact offC r (sub r (List.mem_append_left _ hr))
    · rcases List.mem_cons.mp hp with rfl | hp
      · exact Ne.symm hCD
      · exact offC p (sub p (List.mem_append_right _ hp))
  obtain ⟨oc, mcell, _⟩ := cells_get CA hc
  have hcC : C ≠ c := Ne.symm (offC (c, oc) (sub _ (List.mem_append_left _ mcell)))
  refine ⟨m', hn.sameBut hs₂ hcC, fun h'' hs'' => go D h'' _ cells' (F₂.change hs'' hCL hC₀) (fun p hp => ⟨hs''.extBut _ _ (offC' p hp) (N₂ p hp).1, (N₂ p hp).2⟩) CA₂ ad oD⟩
end
end
-- Law3
section
open PySem PySem.W PyProof.Rows PySem.Calls
noncomputable def lawScope : Scope := (stmtScope lawDef).getD default
theorem lawScope_kind : lawScope.kind = .function := by rfl
theorem law_nd (L : Nat) : ((cellsFrom (L + 1) lawScope.names []).map (·.1)).Nodup := by
  rw [cellsFrom_names lawScope.names (L + 1) 0 [] [] rfl]
  decide +kernel
end
-- Law5
section
open PySem PySem.W PyProof.Rows PySem.Calls PySem.Spec
noncomputable def NC (o : Obj) : Prop := ∀ v, o.data ≠ .cell v
theorem cells_addr {mc : Str → Option Value} : ∀ {cl : List (Str × Addr)} {cells : List (Addr × Obj)}, CellsAre mc cl cells → cells.map (·.1) = cl.map (·.2)
  | _, _, .nil => rfl
  | _, _, .cons _ r => congrArg (_ :: ·) (cells_addr r)
theorem cells_cell {mc : Str → Option Value} : ∀ {cl : List (Str × Addr)} {cells : List (Addr × Obj)}, CellsAre mc cl cells → ∀ p ∈ cells, ∃ v, p.2.data = .cell v
  | _, _, .nil, _, h => nomatch h
  | _, _, .cons hd r, p, h => by
    rcases List.mem_cons.mp h with rfl | h
    · exact ⟨_, hd⟩
    · exact cells_cell r p h
theorem law_addrs (L : Nat) : (((cellsFrom (L + 1) lawScope.names [])).map (·.2)).Nodup := by
  have e : ((cellsFrom (L + 1) lawScope.names [])).map (·.2) = (List.range 19).map (fun i => L + 1 + (18 - i)) := by
    show List.map _ (cellsFrom (L + 1) (lawScope.names) []) = _
    rfl
  rw [e]
  refine List.pairwise_map.mpr (List.Pairwise.imp_of_mem (fun {a b} ha hb hne => ?_) (List.nodup_range (n := 19)))
  have ha' := List.mem_range.mp ha
  have hb' := List.mem_range.mp hb
  show L + 1 + (18 - a) ≠ L + 1 + (18 - b)
  omega
section
variable {M : Model} {A : Around} {E : Value → Shared → Prop} {s : Shared} {h₀ : Heap} {L a : Addr} {m mc : Str → Option Value} {cn : Str} {cs : Scope} {ccd : Value}
  {x : Str} {v : Value} {Q : Unit → Shared → Prop} {cells rest : List (Addr × Obj)} {c : Addr}
theorem lw_put (F : Fr h₀ L s.heap m) (N : News h₀ L s.heap (rest ++ cells)) (CA : CellsAre mc (cellsFrom (L + 1) lawScope.names []) cells) (hr : ∀ p ∈ rest, NC p.2) (hc : ((cellsFrom (L + 1) lawScope.names [])).lookup x = some c)
    (h : ∀ h' cells', Fr h₀ L h' m → News h₀ L h' (rest ++ cells') → CellsAre (upd mc x v) (cellsFrom (L + 1) lawScope.names []) cells' → Q () { s with heap := h' })
    (hx : ((envX cn lawScope L a ccd (cellsFrom (L + 1) lawScope.names []))).kindOf x = some .cell) : wpAny M A (storeName (envX cn lawScope L a ccd (cellsFrom (L + 1) lawScope.names [])) x v) Q E s := by
  have nc : (cells.map (·.1)).Nodup := by rw [cells_addr CA]; exact law_addrs L
  have off : ∀ p ∈ rest, ∀ q ∈ cells, p.1 ≠ q.1 := fun p hp q hq e => by
    have e1 := (N p (List.mem_append_left _ hp)).1
    have e2 := (N q (List.mem_append_right _ hq)).1
    rw [e, e2] at e1
    obtain ⟨v, hv⟩ := cells_cell CA q hq
    exact hr p hp v (by rw [← Option.some.inj e1]; exact hv)
  refine lw_store F (cb_drop N fun p hp => ?_) CA (law_nd L) nc off hc (fun h' cells' F' N' CA' _ _ => h h' cells' F' (cb_drop N' fun p hp => ?_) CA') lawScope_kind hx
  · rcases List.mem_append.mp hp with hp | hp
    · exact List.mem_append_right _ hp
    · exact List.mem_append_left _ hp
  · rcases List.mem_append.mp hp with hp | hp
    · exact List.mem_append_right _ hp
    · exact List.mem_append_left _ hp
end
end
-- KeyRow
section
open PySem PySem.W PyProof.Rows PySem.Calls PySem.Spec
noncomputable def KeyRow (key : Nat → PySem.Str) (kvs : List (PySem.Str × Value)) (n : Nat) : Prop := kvs.map (·.1) = (List.range n).map key
theorem KeyRow.length {key : Nat → PySem.Str} {kvs : List (PySem.Str × Value)} {n : Nat} (h : KeyRow key kvs n) : kvs.length = n := by
  have := congrArg List.length h
  simpa using this
theorem KeyRow.snoc {key : Nat → PySem.Str} {kvs : List (PySem.Str × Value)} {n : Nat} (h : KeyRow key kvs n) (hk : ∀ i j, key i = key j → i = j) (v : Value) : stored kvs (key n) v = kvs ++ [(key n, v)] ∧ KeyRow key (kvs ++ [(key n, v)]) (n + 1) := by
  refine ⟨?_, ?_⟩
  · unfold stored
    rw [if_neg]
    rw [List.any_eq_true]
    rintro ⟨kv, hm, e⟩
    have e' : kv.1 = key n := of_decide_eq_true e
    have : kv.1 ∈ kvs.map (·.1) := List.mem_map_of_mem hm
    rw [h, e'] at this
    obtain ⟨j, hj, ej⟩ := List.mem_map.mp this
    have := hk _ _ ej
    have := List.mem_range.mp hj
    omega
  · unfold KeyRow at h ⊢
    rw [List.map_append, h, List.range_succ, List.map_append]
    rfl
theorem value_find {key : Nat → PySem.Str} (hk : ∀ i j, key i = key j → i = j) : ∀ {kvs : List (PySem.Str × Value)} {s a : Nat} {v : Value}, kvs.map (·.1) = (List.range' s kvs.length).map key → kvs[a]? = some (key (s + a), v) → valueAt kvs (key (s + a)) = some v
  | [], s, a, v, _, h => by simp at h
  | (k, x) :: kvs, s, 0, v, h, e => by
    have : (k, x) = (key (s + 0), v) := by simpa using e
    cases this
    simp [valueAt]
  | (k, x) :: kvs, s, a + 1, v, h, e => by
    rw [List.length_cons, List.range'_succ, List.map_cons, List.map_cons] at h
    injection h with h1 h2
    have ne : ¬ k = key (s + (a + 1)) := by
      rw [show k = key s from h1]
      intro q
      have := hk _ _ q
      omega
    have ih := value_find hk (kvs := kvs) (s := s + 1) (a := a) (v := v) h2 (by rw [show s + 1 + a = s + (a + 1) from by omega]; simpa using e)
    rw [show s + 1 + a = s + (a + 1) from by omega] at ih
    rw [← ih]
    simp [valueAt, List.find?_cons, ne]
theorem KeyRow.value {key : Nat → PySem.Str} {kvs : List (PySem.Str × Value)} {n a : Nat} {v : Value} (h : KeyRow key kvs n) (hk : ∀ i j, key i = key j → i = j) (e : kvs[a]? = some (key a, v)) : valueAt kvs (key a) = some v := by
  have h' : kvs.map (·.1) = (List.range' 0 kvs.length).map key := by
    rw [← List.range_eq_range', h.length]; exact h
  have := value_find hk (s := 0) (a := a) h' (by simpa using e)
  simpa using this
end
-- LoopP
section
open PySem PySem.W PyProof.Rows PySem.Calls PySem.Spec
theorem fallsF_le (rl σ : List Nat) : fallsF rl σ ≤ 5 := by
  unfold fallsF
  exact Nat.le_trans (List.length_filter_le _ _) (by simp)
theorem freeF_lt {rl : List Nat} : ∀ x ∈ freeF rl, x < 6 := by
  intro x hx
  exact List.mem_range.mp (List.mem_filter.mp hx).1
theorem hoppedF_le (rl fl : List Nat) (t : Nat) : (hoppedF rl fl t).length ≤ fl.length := by
  unfold hoppedF
  rw [List.length_map]
  exact Nat.le_trans (List.length_filter_le _ _) (by simp)
theorem hop_cut {α : Type} (s : List α) {a b c : Nat} (h1 : a ≤ b) (h2 : b + 1 ≤ c) :
    s = (s.take a ++ ((s.take b).drop a ++ ((s.take (b + 1)).drop b ++ ((s.take c).drop (b + 1) ++ s.drop c)))) := by
  have e : ∀ {i j : Nat}, i ≤ j → s.take j = s.take i ++ (s.take j).drop i := fun {i j} h => by
    have q := List.take_append_drop i (s.take j)
    rw [List.take_take, Nat.min_eq_left h] at q
    exact q.symm
  have q1 := e h1
  have q2 := e (Nat.le_succ b)
  have q3 := e h2
  have q4 := (List.take_append_drop c s).symm
  calc s = s.take c ++ s.drop c := q4
    _ = (s.take (b + 1) ++ (s.take c).drop (b + 1)) ++ s.drop c := by rw [← q3]
    _ = ((s.take b ++ (s.take (b + 1)).drop b) ++ (s.take c).drop (b + 1)) ++ s.drop c := by rw [← q2]
    _ = (((s.take a ++ (s.take b).drop a) ++ (s.take (b + 1)).drop b) ++ (s.take c).drop (b + 1)) ++ s.drop c := by rw [← q1]
    _ = _ := by simp only [List.append_assoc]
theorem hop_five {α : Type} (A B C D E : List α) : (A ++ ((D ++ C) ++ (B ++ E))).length = (A ++ (B ++ (C ++ (D ++ E)))).length ∧ ∀ x, x ∈ A ++ ((D ++ C) ++ (B ++ E)) ↔ x ∈ A ++ (B ++ (C ++ (D ++ E))) := by
  refine ⟨?_, fun x => ?_⟩
  · simp only [List.length_append]; omega
  · simp only [List.mem_append]
    constructor
    · rintro (h | (h | h) | h | h) <;> simp [h]
    · rintro (h | h | h | h | h) <;> simp [h]
theorem hop_same (r : Nat → Nat) (s : List Nat) (x : Nat) : (hopL r s x).length = s.length ∧ ∀ y, y ∈ hopL r s x ↔ y ∈ s := by
  have h1 := lowF_le r s x (idxL x s)
  have h2 := highF_ge r s x s.length (idxL x s + 1)
  have e := hop_cut s h1 h2
  have q := hop_five (s.take (lowF r s x (idxL x s))) ((s.take (idxL x s)).drop (lowF r s x (idxL x s))) ((s.take (idxL x s + 1)).drop (idxL x s)) ((s.take (highF r s x s.length (idxL x s + 1))).drop (idxL x s + 1)) (s.drop (highF r s x s.length (idxL x s + 1)))
  rw [← e] at q
  exact q
noncomputable def numS (P : List (Nat × Nat)) : List (PySem.Str × Int) := P.map fun q => (pfName (q.1 : Nat), ((q.2 : Nat) : Int))
theorem pf_inj : ∀ a b : Nat, a ≤ 5 → b ≤ 5 → pfName (a : Nat) = pfName (b : Nat) → a = b := by
  have h : ∀ a : Fin 6, ∀ b : Fin 6, pfName ((a : Nat) : Int) = pfName ((b : Nat) : Int) → a = b := by decide +kernel
  intro a b ha hb e
  have := h ⟨a, by omega⟩ ⟨b, by omega⟩ e
  exact congrArg Fin.val this
theorem addK_len (f c : Nat) : ∀ P : List (Nat × Nat), (addK f c P).length ≤ P.length + 1
  | [] => Nat.le_refl _
  | (g, d) :: l => by
    unfold addK
    split
    · simp
    · have := addK_len f c l
      simp only [List.length_cons]; omega
theorem addK_le {f c : Nat} (hf : f ≤ 5) : ∀ {P : List (Nat × Nat)}, (∀ p ∈ P, p.1 ≤ 5) → ∀ p ∈ addK f c P, p.1 ≤ 5
  | [], _, p, hp => by
    rcases List.mem_singleton.mp hp with rfl
    exact hf
  | (g, d) :: l, h, p, hp => by
    unfold addK at hp
    split at hp
    · rcases List.mem_cons.mp hp with rfl | hp
      · exact h (g, d) List.mem_cons_self
      · exact h p (List.mem_cons_of_mem _ hp)
    · rcases List.mem_cons.mp hp with rfl | hp
      · exact h (g, d) List.mem_cons_self
      · exact addK_le hf (fun p hp => h p (List.mem_cons_of_mem _ hp)) p hp
theorem memK_hasS {f : Nat} (hf : f ≤ 5) : ∀ {P : List (Nat × Nat)}, (∀ p ∈ P, p.1 ≤ 5) → (hasS (pfName (f : Nat)) (numS P) = true ↔ f ∈ P.map (·.1)) := by
  intro P
  induction P with
  | nil => intro _; simp [hasS, numS]
  | cons q l ih =>
    intro h
    have := ih fun p hp => h p (List.mem_cons_of_mem _ hp)
    simp only [hasS, numS, List.map_cons, List.any_cons, Bool.or_eq_true, decide_eq_true_eq, List.mem_cons] at this ⊢
    rw [this]
    constructor
    · rintro (e | e)
      · exact .inl (pf_inj _ _ (h _ List.mem_cons_self) hf e).symm
      · exact .inr e
    · rintro (e | e)
      · exact .inl (by rw [e])
      · exact .inr e
theorem addS_addK {f c : Nat} (hf : f ≤ 5) : ∀ {P : List (Nat × Nat)}, (∀ p ∈ P, p.1 ≤ 5) → ((numS P).map (·.1)).Nodup → addS (pfName (f : Nat)) ((c : Nat) : Int) (numS P) = numS (addK f c P) := by
  intro P
  have key : ∀ {P : List (Nat × Nat)}, (∀ p ∈ P, p.1 ≤ 5) → ((numS P).map (·.1)).Nodup → (hasS (pfName (f : Nat)) (numS P) = true → ((numS P).map fun q => if q.1 = pfName (f : Nat) then (q.1, getS (pfName (f : Nat)) (numS P) + (c : Int)) else q) = numS (addK f c P)) ∧ (hasS (pfName (f : Nat)) (numS P) = false → numS P ++ [(pfName (f : Nat), (c : Int))] = numS (addK f c P)) := by
    intro P
    induction P with
    | nil => intro _ _; exact ⟨fun h => by simp [hasS, numS] at h, fun _ => rfl⟩
    | cons q l ih =>
      obtain ⟨g, d⟩ := q
      intro hP hn
      have hg : g ≤ 5 := hP (g, d) List.mem_cons_self
      have e1 : numS ((g, d) :: l) = (pfName (g : Nat), ((d : Nat) : Int)) :: numS l := rfl
      rw [e1] at hn ⊢
      rw [List.map_cons, List.nodup_cons] at hn
      obtain ⟨i1, i2⟩ := ih (fun p hp => hP p (List.mem_cons_of_mem _ hp)) hn.2
      by_cases e : g = f
      · subst e
        refine ⟨fun _ => ?_, fun h => by simp [hasS] at h⟩
        have e2 : addK g c ((g, d) :: l) = (g, d + c) :: l := by simp [addK]
        have e3 : getS (pfName (g : Nat)) ((pfName (g : Nat), ((d : Nat) : Int)) :: numS l) = (d : Int) := by simp [getS]
        rw [e2, e3, List.map_cons, if_pos rfl]
        have e4 : (numS l).map (fun q => if q.1 = pfName (g : Nat) then (q.1, (d : Int) + (c : Int)) else q) = numS l := by
          conv => rhs; rw [← List.map_id (numS l)]
          refine List.map_congr_left fun q hq => ?_
          have : q.1 ≠ pfName (g : Nat) := fun e' => hn.1 (List.mem_map.mpr ⟨q, hq, e'⟩)
          simp [this]
        rw [e4]
        show _ = (pfName (g : Nat), ((d + c : Nat) : Int)) :: numS l
        rw [Int.natCast_add]
      · have ne : pfName (g : Nat) ≠ pfName (f : Nat) := fun h => e (pf_inj _ _ hg hf h)
        have e2 : addK f c ((g, d) :: l) = (g, d) :: addK f c l := by simp [addK, e]
        have e3 : getS (pfName (f : Nat)) ((pfName (g : Nat), ((d : Nat) : Int)) :: numS l) = getS (pfName (f : Nat)) (numS l) := by simp [getS, ne]
        have e4 : hasS (pfName (f : Nat)) ((pfName (g : Nat), ((d : Nat) : Int)) :: numS l) = hasS (pfName (f : Nat)) (numS l) := by simp [hasS, ne]
        rw [e2, e3, e4]
        refine ⟨fun h => ?_, fun h => ?_⟩
        · rw [List.map_cons, if_neg ne, i1 h]; rfl
        · rw [List.cons_append, i2 h]; rfl
  intro hP hn
  obtain ⟨k1, k2⟩ := key hP hn
  unfold addS putS
  cases h : hasS (pfName (f : Nat)) (numS P) with
  | true => simpa using k1 h
  | false => simpa using k2 h
end
-- EndP
section
open PySem PySem.W PyProof.Rows PySem.Calls PySem.Spec
noncomputable def dueS (p : Nat) (wl : List Nat) (n : Nat) : List (PySem.Str × Int) := (List.range n).map fun j => (pfName ((p + j : Nat) : Int), ((wl.getD j 0 : Nat) : Int))
theorem pigeon : ∀ {A B : List Nat}, A.Nodup → (∀ a ∈ A, a ∈ B) → B.length ≤ A.length → ∀ b ∈ B, b ∈ A
  | [], B, _, _, hl, b, hb => by
    have : B = [] := List.length_eq_zero_iff.mp (Nat.le_zero.mp hl)
    rw [this] at hb; exact hb
  | a :: A, B, hn, hs, hl, b, hb => by
    rw [List.nodup_cons] at hn
    have ha := hs a List.mem_cons_self
    have hlen := List.length_erase_of_mem ha
    have ih := pigeon (A := A) (B := B.erase a) hn.2 (fun x hx => (List.mem_erase_of_ne (fun (e : x = a) => hn.1 (by rw [← e]; exact hx))).mpr (hs x (List.mem_cons_of_mem _ hx))) (by rw [hlen]; simp at hl; omega)
    by_cases e : b = a
    · rw [e]; exact List.mem_cons_self
    · exact List.mem_cons_of_mem _ (ih b ((List.mem_erase_of_ne e).mpr hb))
theorem lookK_mem {g d : Nat} : ∀ {cs : List (Nat × Nat)}, (cs.map (·.1)).Nodup → (g, d) ∈ cs → lookK g cs = d
  | [], _, h => nomatch h
  | (g', d') :: l, hn, h => by
    rw [List.map_cons, List.nodup_cons] at hn
    unfold lookK
    rcases List.mem_cons.mp h with e | h
    · cases e; rw [if_pos rfl]
    · rw [if_neg, lookK_mem hn.2 h]
      intro e
      exact hn.1 (e ▸ List.mem_map.mpr ⟨(g, d), h, rfl⟩)
theorem valueAt_nodup {k : PySem.Str} {v : Value} : ∀ {l : List (PySem.Str × Value)}, (l.map (·.1)).Nodup → (k, v) ∈ l → valueAt l k = some v
  | [], _, h => nomatch h
  | (k', v') :: l, hn, h => by
    rw [List.map_cons, List.nodup_cons] at hn
    rcases List.mem_cons.mp h with e | h
    · cases e; simp [valueAt]
    · have ne : k' ≠ k := fun e => hn.1 (e ▸ List.mem_map.mpr ⟨(k, v), h, rfl⟩)
      have e1 : valueAt ((k', v') :: l) k = valueAt l k := by simp [valueAt, List.find?_cons, ne]
      rw [e1, valueAt_nodup hn.2 h]
theorem hits_of {A : Around} {s : Shared} {kb : List (PySem.Str × Value)} : ∀ {ka : List (PySem.Str × Value)}, (∀ q ∈ ka, ∃ y, valueAt kb q.1 = some y ∧ SeqAt.EqAt A s q.2 y true) → KeqHits A s kb ka true
  | [], _ => .nil
  | (k, v) :: l, h => by
    obtain ⟨y, e, q⟩ := h (k, v) List.mem_cons_self
    exact KeqHits.hit e q (hits_of fun q hq => h q (List.mem_cons_of_mem _ hq))
theorem book_hits {A : Around} {s : Shared} {kvs kvsU : List (PySem.Str × Value)} {cs : List (Nat × Nat)} {p : Nat} {wl : List Nat} (h1 : IntsD kvs (numS cs)) (h2 : IntsD kvsU (dueS p wl wl.length)) (nd1 : (kvs.map (·.1)).Nodup) (nd2 : (kvsU.map (·.1)).Nodup)
    (hl : cs.length = wl.length) (hall : ∀ j, j < wl.length → lookK (p + j) cs = wl.getD j 0 ∧ p + j ∈ cs.map (·.1)) : KeqHits A s kvsU kvs true := by
  have nd : (cs.map (·.1)).Nodup := by
    rw [h1.keys, show (numS cs).map (·.1) = (cs.map (·.1)).map (fun g => pfName (g : Nat)) from by simp [numS]] at nd1
    exact (List.pairwise_map.mp nd1).imp fun h e => h (by rw [e])
  refine hits_of fun q hq => ?_
  obtain ⟨i, hi, e⟩ := List.getElem_of_mem hq
  have hqi : kvs[i]? = some (q.1, q.2) := by rw [List.getElem?_eq_getElem hi, e]
  obtain ⟨x, t, hv, hn⟩ := h1.at hqi
  rw [numS, List.getElem?_map] at hn
  cases hc : cs[i]? with
  | none => rw [hc] at hn; cases hn
  | some gd =>
    obtain ⟨g, d⟩ := gd
    rw [hc] at hn
    simp only [Option.map_some, Option.some.injEq, Prod.mk.injEq] at hn
    obtain ⟨hk, hd⟩ := hn
    have hm : (g, d) ∈ cs := List.mem_of_getElem? hc
    have hg := pigeon (A := (List.range wl.length).map (p + ·)) (B := cs.map (·.1)) (List.pairwise_map.mpr (List.nodup_range.imp fun h e => h (by omega)))
      (fun a ha => by obtain ⟨j, hj, e⟩ := List.mem_map.mp ha; rw [← e]; exact (hall j (List.mem_range.mp hj)).2) (by simp [hl]) g (List.mem_map.mpr ⟨(g, d), hm, rfl⟩)
    obtain ⟨j, hj, rfl⟩ := List.mem_map.mp hg
    have hj' := List.mem_range.mp hj
    have hlook := lookK_mem nd hm
    rw [(hall j hj').1] at hlook
    have hjU : j < kvsU.length := by rw [h2.length]; simpa [dueS] using hj'
    obtain ⟨x', u, hv', hn2⟩ := h2.at (i := j) (k := kvsU[j].1) (v := kvsU[j].2) (by rw [List.getElem?_eq_getElem hjU])
    rw [dueS, List.getElem?_map, List.getElem?_range hj'] at hn2
    simp only [Option.map_some, Option.some.injEq, Prod.mk.injEq] at hn2
    obtain ⟨hk2, hd2⟩ := hn2
    refine ⟨.int x' u, ?_, ?_⟩
    · refine valueAt_nodup nd2 ?_
      rw [← hk, hk2, ← hv']
      exact List.getElem_mem hjU
    · have : x = x' := by rw [← hd, ← hd2, hlook]
      rw [hv, this]
      have := SeqAt.EqAt.int_int (A := A) (s := s) x' t x' u
      rw [beq_self_eq_true] at this
      exact this
theorem numS_sum : ∀ cs : List (Nat × Nat), ((numS cs).map (·.2)).sum = (((cs.map (·.2)).sum : Nat) : Int)
  | [] => rfl
  | (g, d) :: l => by
    have := numS_sum l
    simp only [numS, List.map_cons, List.sum_cons] at this ⊢
    rw [this]; omega
end
section
local macro_rules | `(tactic| k_all) => `(tactic| assumption)
local macro_rules | `(tactic| k_mem) => `(tactic| assumption)
-- Law7
section
theorem kr_Law7 : True := by
  k_with_none
  w_top off
  trivial
open PySem PySem.W PyProof.Rows PySem.Calls
noncomputable def leadS (c : Int) : PySem.Str := Txt.mul (Str.ofString " ") (c.fmod 4) ++ Txt.mul (Str.ofString "\t") ((c.fdiv 4).fmod 3) ++ Txt.mul (Str.ofString " ") ((c.fdiv 12).fmod 3)
noncomputable def LeadsAre (vs : List Value) (cs : List Int) : Prop := vs.length = cs.length ∧ ∀ (i : Nat) (c : Int), cs[i]? = some c → ∃ t, vs[i]? = some (.str (leadS c) t)
theorem LeadsAre.snoc {vs : List Value} {cs : List Int} (h : LeadsAre vs cs) (c : Int) (t : Tok) : LeadsAre (vs ++ [.str (leadS c) t]) (cs ++ [c]) := by
  obtain ⟨h1, h2⟩ := h
  refine ⟨by simp [h1], fun i c' e => ?_⟩
  rcases Nat.lt_trichotomy i cs.length with q | q | q
  · rw [List.getElem?_append_left q] at e
    rw [List.getElem?_append_left (by omega)]
    exact h2 i c' e
  · subst q
    rw [List.getElem?_append_right (Nat.le_refl _)] at e
    rw [List.getElem?_append_right (by omega), h1]
    simp at e ⊢
    rw [e]
  · rw [List.getElem?_eq_none (by simp; omega)] at e
    cases e
section
theorem kw_971730_1 : True := by
  k_with "eval Name" => (k_here; k_dflt (refine' lw_name (by k_asm) (by assumption) (by (intro q9 hq9; (repeat (refine List.mem_cons_of_mem _ ?_)); first | exact List.mem_append_right _ hq9 | solve_by_elim)) (by rfl) (by first | rfl | assumption) ?_ (by exact lawScope_kind) (by rfl) (by rfl); k_whole))
  k_with "eval Name" => (k_here; k_dflt (refine' nameX_L (by k_asm) (by first | rfl | assumption) ?_ (by exact lawScope_kind) (by rfl); k_whole))
  k_with "storeName" => (k_here; k_dflt (first | (refine' lw_put (by k_asm) (by first | assumption | exact (show News _ _ _ ((_ :: _) ++ _) from by assumption) | exact (show News _ _ _ ((_ :: _ :: _) ++ _) from by assumption) | exact (show News _ _ _ ((_ :: _ :: _ :: _) ++ _) from by assumption) | exact (show News _ _ _ ((_ :: _ :: _ :: _ :: _) ++ _) from by assumption) | exact (show News _ _ _ ((_ :: _ :: _ :: _ :: _ :: _) ++ _) from by assumption) | exact (show News _ _ _ ((_ :: _ :: _ :: _ :: _ :: _ :: _) ++ _) from by assumption)) (by assumption) (by ((repeat (refine List.forall_mem_cons.mpr ⟨by first | (intro v9 h9; cases h9; done) | assumption, ?_⟩)); first | assumption | exact (fun _ h => nomatch h))) (by rfl) ?_ (by rfl); k_whole)); intro _ _ _ _ _)
  trivial

theorem partB {w : World} {p : Program} {loose : List Str} {mean : ExcName → Option Value} {mg mb : Str → Option Value} {dp un : Nat} {gd : Option (List Code)} {cn : Str} {a : Addr} {ccd : Value} {outer : List Env} {A₀ : Around} {base h₀ : Heap} {L : Addr} {m mc : Str → Option Value} {rest cells : List (Addr × Obj)} {s : Shared} {Q : Flow → Shared → Prop} {E : Value → Shared → Prop} {D : Addr} {vs : List Value} {k : Nat} {cs : List Int} (B : Below A₀ base outer h₀) (X : (Mine.hA.heap_1_39 w.params).In h₀) (T : Top p loose mean mg mb h₀) (hd : dp + 20 < recursionLimit) (hu : un + 300 < cLine) (F : Fr h₀ L s.heap m) (N : News h₀ L s.heap (rest ++ cells)) (CA : CellsAre mc (cellsFrom (L + 1) lawScope.names []) cells) (hr : ∀ p ∈ rest, NC p.2) (mD : (D, W.listOf vs.toArray k) ∈ rest) (i1 : IntsAre vs cs) (z1 : cs.length = 6) (hb : ∀ j, 0 ≤ cs.getD j 0 ∧ cs.getD j 0 ≤ 100000000) (hm : m (Str.ofString "cells") = some (.ref D))
    (hret : ∀ DL ys h' tk' cells', Fr h₀ L h' m → News h₀ L h' (((DL, LCg.lst ys) :: rest) ++ cells') → CellsAre (upd mc (Str.ofString "leads") (.ref DL)) (cellsFrom (L + 1) lawScope.names []) cells' → LeadsAre ys cs → s.toks ≤ tk' → wpAny (model Challenge.rw_xg0084_01.row.toRowW.prog w) (ktrTop dp un gd cn lawScope L a ccd (cellsFrom (L + 1) lawScope.names []) outer) (execs (lawBody.drop 8) (envX cn lawScope L a ccd (cellsFrom (L + 1) lawScope.names []))) Q E { s with heap := h', toks := tk' }) :
    wpAny (model Challenge.rw_xg0084_01.row.toRowW.prog w) (ktrTop dp un gd cn lawScope L a ccd (cellsFrom (L + 1) lawScope.names []) outer) (execs (lawBody.drop 7) (envX cn lawScope L a ccd (cellsFrom (L + 1) lawScope.names []))) Q E s := by
  have _q : Challenge.rw_xg0084_01 = Challenge.rw_xg0084_01 ∧ Mine.hA.heap_1_39 = Mine.hA.heap_1_39 := by (k_fill; exact ⟨rfl, rfl⟩)
  show wpAny _ _ (execs (_ :: _) _) _ _ _
  repeat' ((fail_if_success (with_reducible show wpAny _ _ (exec (PySem.Stmt.For _ _ _ _ _) _) _ _ _)); (fail_if_success (with_reducible show wpAny _ _ (exec (PySem.Stmt.While _ _ _ _) _) _ _ _)); (fail_if_success (with_reducible show wpAny _ _ (eval (PySem.Expr.ListComp _ _ _ _) _) _ _ _)); (fail_if_success (with_reducible show wpAny _ _ (eval (PySem.Expr.DictComp _ _ _ _ _) _) _ _ _)); (fail_if_success (with_reducible show wpAny _ _ (exec (PySem.Stmt.Assign _ (PySem.Expr.ListComp _ _ _ _) _) _) _ _ _)); (fail_if_success (with_reducible show wpAny _ _ (exec (PySem.Stmt.Assign _ (PySem.Expr.DictComp _ _ _ _ _) _) _) _ _ _)); (first | (k_unfold; (try dsimp only)) | (k_end; wrow_close) | walk1 | (dsimp only; walk1) | (leave1; walk_say "STEP leave1"; try dsimp only) | fail "no step"))
  refine wpAny_toks ?_
  refine PySem.wpAny_Assign_Name ?_ (by rfl)
  refine compG F (by with_unfolding_all rfl) (by decide) (by rfl) (by decide) ?_
  k_steps
  refine src_list (its := vs.toArray) (fun i ys nw => nw = rest ++ cells ∧ LeadsAre ys (cs.take i)) rfl F N (.inr ⟨_, List.mem_append_left _ mD, rfl, _, rfl⟩) (by rw [sizeLine_eq, List.size_toArray, i1.length]; omega) ⟨rfl, rfl, fun i c h => by simp at h⟩ ?_ ?_
  · rintro i v ys nw g I hv hly hS ⟨rfl, hL1, hL2⟩
    have hv' : vs[i]? = some v := by simpa using hv
    have hi : i < cs.length := by rw [← i1.length]; exact (List.getElem?_eq_some_iff.mp hv').1
    obtain ⟨t, e9⟩ := ints_at i1 hi
    obtain rfl : v = .int (cs.getD i 0) t := Option.some.inj (hv'.symm.trans e9)
    have hbi := hb i
    have ei : cs[i]? = some (cs.getD i 0) := by simp [List.getD, List.getElem?_eq_getElem hi]
    generalize cs.getD i 0 = c at *
    refine CTurn.name rfl rfl ?_
    intro oI C oC D2 m₁ h tk E' hC hmv F N off ne tle
    refine tests0 ?_
    rw [if_pos rfl]
    k_steps
    rename_i t9 _ _
    refine CEnd.intro F N _ (fun _ h => h) hC off hS ⟨rfl, ?_⟩
    have := (show LeadsAre ys (cs.take i) from ⟨hL1, hL2⟩).snoc c t9
    rw [List.take_add_one, ei]
    exact this
  · rintro ys nw g ⟨rfl, hLL⟩ D2 h tk F N o1
    rw [List.size_toArray, i1.length, List.take_length] at hLL
    repeat' ((fail_if_success (with_reducible show wpAny _ _ (execs (PySem.Stmt.Assign [PySem.Expr.Name (PySem.Str.ofString "page") _] _ _ :: _) _) _ _ _)); (fail_if_success (with_reducible show wpAny _ _ (exec (PySem.Stmt.For _ _ _ _ _) _) _ _ _)); (fail_if_success (with_reducible show wpAny _ _ (exec (PySem.Stmt.While _ _ _ _) _) _ _ _)); (fail_if_success (with_reducible show wpAny _ _ (eval (PySem.Expr.ListComp _ _ _ _) _) _ _ _)); (fail_if_success (with_reducible show wpAny _ _ (eval (PySem.Expr.DictComp _ _ _ _ _) _) _ _ _)); (fail_if_success (with_reducible show wpAny _ _ (exec (PySem.Stmt.Assign _ (PySem.Expr.ListComp _ _ _ _) _) _) _ _ _)); (fail_if_success (with_reducible show wpAny _ _ (exec (PySem.Stmt.Assign _ (PySem.Expr.DictComp _ _ _ _ _) _) _) _ _ _)); (first | (k_unfold; (try dsimp only)) | (k_end; wrow_close) | walk1 | (dsimp only; walk1) | (leave1; walk_say "STEP leave1"; try dsimp only) | fail "no step"))
    rename_i h9 cells9 F9 N9 CA9 tz
    exact hret D2 ys h9 _ cells9 F9 N9 CA9 hLL tz
end
end
-- Fn13
section
theorem kr_Fn13 : True := by
  k_with_none
  w_top off
  trivial
open PySem PySem.W PyProof.Rows PySem.Calls
inductive HLa (led : List (Addr × Obj)) (r : Nat → Nat) (σ : List Nat) (x place : Nat) (D dd pg : Addr) (tx : Tok) (m₁ : Str → Option Value) (nw' : List (Addr × Obj)) : Prop
  | mk
    (x1 : nw' = led)
    (x2 : (∃ t, m₁ (Str.ofString "low") = some (.int (lowF r σ x place : Nat) t)))
    (x3 : (∃ t, m₁ (Str.ofString "place") = some (.int (place : Nat) t)))
    (x4 : m₁ (Str.ofString "names") = some (.ref D))
    (x5 : m₁ (Str.ofString "deeper") = some (.ref dd))
    (x6 : m₁ (Str.ofString "name") = some (.str (letter x) tx))
    (x7 : m₁ (Str.ofString "page") = some (.ref pg)) : HLa led r σ x place D dd pg tx m₁ nw'
inductive HLb (led : List (Addr × Obj)) (r : Nat → Nat) (σ : List Nat) (x place : Nat) (D dd pg : Addr) (tx : Tok) (k : Nat) (m₁ : Str → Option Value) (nw' : List (Addr × Obj)) : Prop
  | mk
    (x1 : nw' = led)
    (x2 : k ≤ place)
    (x3 : lowF r σ x place = lowF r σ x k)
    (x4 : (∃ t, m₁ (Str.ofString "low") = some (.int (k : Nat) t)))
    (x5 : (∃ t, m₁ (Str.ofString "place") = some (.int (place : Nat) t)))
    (x6 : m₁ (Str.ofString "names") = some (.ref D))
    (x7 : m₁ (Str.ofString "deeper") = some (.ref dd))
    (x8 : m₁ (Str.ofString "name") = some (.str (letter x) tx))
    (x9 : m₁ (Str.ofString "page") = some (.ref pg)) : HLb led r σ x place D dd pg tx k m₁ nw'
inductive HLc (nw' : List (Addr × Obj)) (r : Nat → Nat) (σ : List Nat) (x place low : Nat) (pg : Addr) (m₁ : Str → Option Value) (nw : List (Addr × Obj)) : Prop
  | mk
    (x1 : nw = nw')
    (x2 : (∃ t, m₁ (Str.ofString "high") = some (.int (highF r σ x 6 (place + 1) : Nat) t)))
    (x3 : (∃ t, m₁ (Str.ofString "low") = some (.int (low : Nat) t)))
    (x4 : (∃ t, m₁ (Str.ofString "place") = some (.int (place : Nat) t)))
    (x5 : m₁ (Str.ofString "page") = some (.ref pg)) : HLc nw' r σ x place low pg m₁ nw
inductive HLd (nw' : List (Addr × Obj)) (r : Nat → Nat) (σ : List Nat) (x place low : Nat) (D dd pg : Addr) (tx : Tok) (k : Nat) (m₁ : Str → Option Value) (nw : List (Addr × Obj)) : Prop
  | mk (x1 : nw = nw') (h : _)
    (x2 : h ≤ 6)
    (x3 : h + k = place + 7)
    (x4 : highF r σ x 6 (place + 1) = highF r σ x k h)
    (x5 : (∃ t, m₁ (Str.ofString "high") = some (.int (h : Nat) t)))
    (x6 : (∃ t, m₁ (Str.ofString "low") = some (.int (low : Nat) t)))
    (x7 : (∃ t, m₁ (Str.ofString "place") = some (.int (place : Nat) t)))
    (x8 : m₁ (Str.ofString "names") = some (.ref D))
    (x9 : m₁ (Str.ofString "deeper") = some (.ref dd))
    (x10 : m₁ (Str.ofString "name") = some (.str (letter x) tx))
    (x11 : m₁ (Str.ofString "page") = some (.ref pg)) : HLd nw' r σ x place low D dd pg tx k m₁ nw
inductive HLe (pg dpg : Addr) (od : Obj) (bs mid : List (Addr × Obj)) (leadV : Nat → Value) (tokL : Nat → Tok) (σ0 S : List Nat) (i : Nat) (m₁ : Str → Option Value) (nw : List (Addr × Obj)) : Prop
  | mk (itsQ : List Value) (n' : Nat) (tl : List (Addr × Obj))
    (x1 : nw = (pg, accObj dpg itsQ n') :: (dpg, od) :: (tl ++ bs))
    (x2 : PageIs leadV tokL (mid ++ tl) itsQ (σ0 ++ S.take i))
    (x3 : itsQ.length ≤ 6 + i)
    (x4 : (∀ p ∈ tl, ∃ a b, p.2 = tupO [a, b]))
    (x5 : (∀ p ∈ (dpg, od) :: (tl ++ bs), p.1 ≠ pg))
    (x6 : m₁ (Str.ofString "page") = some (.ref pg)) : HLe pg dpg od bs mid leadV tokL σ0 S i m₁ nw
section
theorem kw_293470_1 : True := by
  k_with "eval Name" => (k_here; k_dflt (refine' nameX_L (by k_asm) (by first | rfl | assumption) ?_ (by rfl) (by rfl); k_whole))
  k_with "loadName" => (k_here; k_dflt (refine' loadX_L (by k_asm) (by first | rfl | assumption) ?_ (by rfl) (by rfl); k_whole))
  k_with "storeName" => (k_here; k_dflt (refine' storeX_U (by k_asm) (by k_asm) ?_ (by rfl) (by rfl); k_whole); intro _ _ _; (try k_sweep))
  k_with "call type:tuple" => (k_here; (with_reducible show wpAny _ _ (call (Value.type _) [Value.ref _]) _ _ _); k_dflt (refine' kde_tupleOf (by k_asm) (by k_asm) (LL.is (by k_asm) (by k_mem)) (by (simp only [List.size_toArray]; omega)) rfl ?_; k_whole); intro D' h' F' N' l1'; (have l2' := allp_of l1'); (try k_lt l1'); revert D' h' F' N' l1'; intros)
  k_with "subscriptTail" => (k_here; (with_reducible show wpAny _ _ (subscriptTail _ _ (Value.ref _) (Value.int _ _)) _ _ _); k_dflt (refine' ksa_sub (by k_asm) (by k_mem) (by first | with_reducible assumption | exact IntsAre.append (by assumption) (ints_replicate _ _ _ rfl _)) (by ((try simp only [List.length_replicate, List.length_append, List.length_set]); omega)) (by ((try simp only [List.length_replicate, List.length_append, List.length_set]); omega)) (by ((try simp only [List.length_replicate, List.length_append, List.length_set]); omega)) ?_ (by with_unfolding_all rfl); k_whole); intro _)
  k_with "setItem ref int" => (k_here; (with_reducible show wpAny _ _ (setItem (Value.ref _) (Value.int _ _) (Value.int _ _)) _ _ _); k_dflt (refine' ksa_set (by k_asm) (by k_asm) (by k_upd) (by first | with_reducible assumption | exact IntsAre.append (by assumption) (ints_replicate _ _ _ rfl _)) (by ((try simp only [List.length_replicate, List.length_append, List.length_set]); omega)) (by ((try simp only [List.length_replicate, List.length_append, List.length_set]); omega)) (by ((try simp only [List.length_replicate, List.length_append, List.length_set]); omega)) ?_; k_whole); intro _ _ _ _ _ _)
  k_with "call builtin:len" => (k_here; (with_reducible show wpAny _ _ (call (Value.builtin "len") [Value.ref _]) _ _ _); k_dflt (refine' LL.len (by assumption) (by k_mem) (by first | assumption | omega) ?_; k_whole); intro _ _)
  k_with "binaryOp Add ref ref" => (k_here; (with_reducible show wpAny _ _ (binaryOp Operator.Add (Value.ref _) (Value.ref _)) _ _ _); k_dflt (refine' LL.add (by k_asm) (by k_asm) (by k_mem) (by k_mem) (by ((try simp only [List.length_replicate, List.length_append, List.length_cons, List.length_nil]); (try rw [sizeLine_eq]); omega)) ?_; k_whole); intro D' h' F' N' l1'; (have l2' := allp_of l1'); (try k_lt l1'); revert D' h' F' N' l1'; intros)
  k_with "binaryOp Mult ref int" => (k_here; (with_reducible show wpAny _ _ (binaryOp Operator.Mult (Value.ref _) (Value.int _ _)) _ _ _); k_dflt (refine' LL.rep (by k_asm) (by k_asm) (by k_mem) (by omega) (by omega) ?_; k_whole); intro D' h' F' N' l1'; (have l2' := allp_of l1'); (try k_lt l1'); revert D' h' F' N' l1'; intros)
  k_with "subscriptTail" => (k_here; (with_reducible show wpAny _ _ (subscriptTail _ _ (Value.ref _) (Value.int _ _)) _ _ _); k_dflt (first | (refine' TT.item (by k_asm) (by k_mem) (by omega) (by first | assumption | rfl) (by first | assumption | ((try simp only [List.length_cons, List.length_nil, List.length_append, List.length_map, List.length_range]); omega)) ?_ (by with_unfolding_all rfl); k_whole) | (refine' LL.item (by k_asm) (by k_mem) (by omega) (by first | assumption | rfl) (by first | assumption | ((try simp only [List.length_cons, List.length_nil, List.length_append, List.length_map, List.length_range]); omega)) (by with_unfolding_all rfl) ?_; k_whole)))
  k_with "subscriptTail" => (k_here; (with_reducible show wpAny _ _ (subscriptTail _ _ (Value.ref _) (Value.int _ _)) _ _ _); k_dflt (first | (refine' TT.int (by k_asm) (by k_mem) (by with_reducible assumption) (by omega) (by omega) (by omega) ?_ (by with_unfolding_all rfl); k_whole) | (refine' LL.int (by k_asm) (by k_mem) (by with_reducible assumption) (by omega) (by omega) (by omega) ?_ (by with_unfolding_all rfl); k_whole)); intro _)
  k_with "call builtin:len" => (k_here; (with_reducible show wpAny _ _ (call (Value.builtin "len") [Value.ref _]) _ _ _); k_dflt (first | (refine' LL.len (by assumption) (by k_mem) (by first | assumption | ((try simp only [List.length_cons, List.length_nil, List.length_append, List.length_map, List.length_range]); omega)) ?_; k_whole) | (refine' TT.len (by assumption) (by k_mem) (by first | assumption | ((try simp only [List.length_cons, List.length_nil, List.length_append, List.length_map, List.length_range]); omega)) ?_; k_whole)); intro _ _)
  trivial

theorem kw_293470_2 : True := by
  k_with "getMethod ref" => (k_here;    k_dflt (refine' acc_method (by exact Frag.In.keeps (by assumption) (Fr.keep (by assumption))) (acc_inst (by assumption) (by k_mem) (by k_mem)) (by k_is) (by decide +kernel) (by k_is) (by k_is) (by k_is) (by decide) (by exact rfl) ?_; k_whole))
  trivial

theorem kw_293470_3 : True := by
  k_with "subscriptTail" => (k_here; (with_reducible show wpAny _ _ (subscriptTail _ _ (Value.ref _) (Value.int _ _)) _ _ _); k_dflt (refine' LL.item (by k_asm) (by assumption) (by omega) (by assumption) (by assumption) (by with_unfolding_all rfl) ?_; k_whole))
  k_with "subscriptTail" => (k_here; (with_reducible show wpAny _ _ (subscriptTail _ _ (Value.ref _) (Value.str _ _)) _ _ _); k_dflt (refine' DK.item (knd := PySem.strKind _ _) (by k_asm) (by k_mem) (by assumption) (strKind_is _ _ _ _) (by assumption) ?_ (by with_unfolding_all rfl); k_whole))
  k_with "call ref" => (k_here; (with_reducible show wpAny _ _ (call (Value.ref 145) _) _ _ _); k_dflt (refine' indexOfS_spec (m := _) (by assumption) (by assumption) (by assumption) (by assumption) (by assumption) (by first | exact rfl | assumption) (by (dsimp only [ktrTop, Around.deeper] at *; omega)) (by first | exact List.mem_cons_self | k_mem) (by omega) (by assumption) (by assumption) (by assumption) (by assumption) (by assumption) ?_; k_whole); intro _ _ _ _ _)
  k_with "call ref" => (k_here; (with_reducible show wpAny _ _ (call (Value.ref 53) _) _ _ _); k_dflt (refine' pop2_spec (m := _) (by assumption) (by assumption) (by assumption) (by assumption) (by assumption) (by first | exact rfl | assumption) (by (dsimp only [ktrTop, Around.deeper] at *; omega)) (by first | assumption | ((try simp only [List.length_take]); omega)) (by first | exact (Int.natCast_succ _).symm | exact rfl) (by first | assumption | ((try simp only [List.length_take]); omega)) rfl (by assumption) ?_; k_whole); intro _ _ _ _ _ _ _)
  k_with "call ref" => (k_here; (with_reducible show wpAny _ _ (call (Value.ref 131) _) _ _ _); k_dflt (refine' concat_spec (m := _) (by assumption) (by assumption) (by assumption) (by assumption) (by assumption) (by first | exact rfl | assumption) (by (dsimp only [ktrTop, Around.deeper] at *; omega)) (by k_mem) (by k_mem) (by ((try simp only [List.length_take, List.length_drop, List.length_append]); omega)) (by ((try simp only [List.length_take, List.length_drop, List.length_append]); omega)) ?_; k_whole); intro _ _ _ _ _ _)
  k_with "call ref" => (k_here; (with_reducible show wpAny _ _ (call (Value.ref 45) _) _ _ _); k_dflt (refine' push2_spec (m := _) (by assumption) (by assumption) (by assumption) (by assumption) (by assumption) (by first | exact rfl | assumption) (by assumption) (by (dsimp only [ktrTop, Around.deeper] at *; omega)) (by assumption) rfl (by assumption) ?_; k_whole); intro _ _ _ _ _ _ _ _)
  trivial
theorem hop_spec {w : World} {p : Program} {loose : List Str} {mean : ExcName → Option Value} {mg mb : Str → Option Value} {dp un : Nat} {gd : Option (List Code)} {cn : Str} {cs : Scope} {a : Addr} {ccd : Value} {cl : List (Str × Addr)} {outer : List Env} {A₀ : Around} {base h₀ : Heap} {L : Addr} {m : Str → Option Value} {news : List (Addr × Obj)} {s : Shared} {Q E : Value → Shared → Prop} {pg dpg dd : Addr} {its : List Value} {n x : Nat} {od : Obj} {mid : List (Addr × Obj)} {leadV : Nat → Value} {tokL : Nat → Tok} {σ : List Nat} {tx TT : Tok} {val : Nat → Nat → Int} {r : Nat → Nat}      (B : Below A₀ base outer h₀) (F : Fr h₀ L s.heap m) (X : (Mine.hA.heap_1_39 w.params).In h₀) (N : News h₀ L s.heap news) (T : Top p loose mean mg mb h₀) (hk : cs.kind = .function) (hod : IsAccD od) (hd : dp + 3 < recursionLimit) (hu : un + 90 < cLine) (hn : news = (pg, accObj dpg its n) :: (dpg, od) :: mid) (hoff : ∀ p ∈ (dpg, od) :: mid, p.1 ≠ pg)
    (hp : PageIs leadV tokL mid its σ) (hl : σ.length = 6) (h6 : ∀ i ∈ σ, i < 6) (hx : x ∈ σ) (hdeep : DeepIs Challenge.rw_xg0084_01.row.prog w val TT mid dd) (hval : ∀ i j, val i j = 1 ↔ r j < r i) (htok : ∀ i ∈ σ, tokL i ≠ 0 ∧ tokL i ≠ tx) (htx : tx ≠ 0)
    (hret : ∀ its' n' tl h' tk', Fr h₀ L h' m → News h₀ L h' ((pg, accObj dpg its' n') :: (dpg, od) :: (mid ++ tl)) → PageIs leadV tokL (mid ++ tl) its' (hopL r σ x) → (∀ p ∈ tl, ∃ a b, p.2 = tupO [a, b]) → Q .none { s with heap := h', toks := tk' }) :
    wpAny (model Challenge.rw_xg0084_01.row.toRowW.prog w) (ktrTop dp un gd cn cs L a ccd cl outer) (call (.ref 293) [.ref pg, .ref dd, .str (letter x) tx]) Q E s := by
  have _q : Challenge.rw_xg0084_01 = Challenge.rw_xg0084_01 ∧ Mine.hA.heap_1_39 = Mine.hA.heap_1_39 := by (k_fill; exact ⟨rfl, rfl⟩)
  refine wpAny_call ?_
  subst hn
  k_dflt (refine' code_def ?k1 ?k2 ?k3 ?k4 ?k5 ?kA ?kF ?kK ?k6 ?k7 ?k8 ?k9 ?kB ?_ ?c2 ?c3 ?c4 ?c5; (case kA => exact rfl); (case kF => exact rfl); (case kK => assumption); (case k1 => k_asm); (case k2 => k_asm); (case k3 => k_asm); (case k4 => k_asm); (case k5 => k_asm); (case k6 => k_is); (case k7 => k_is); (case k8 => ktr_room); (case k9 => first | exact BindsTo.of_eq rfl | exact binds_K (by k_in) rfl (by k_is) rfl rfl rfl); (case c5 => decide); (case kB => exact locs rfl); (case c2 => exact rfl); (case c3 => exact rfl); (case c4 => exact rfl); k_whole; intro g' L' h' FG' F' N' B' X' T'; (try dsimp only); (try k_fold))
  repeat' ((fail_if_success (with_reducible show wpAny _ _ (exec (PySem.Stmt.For _ _ _ _ _) _) _ _ _)); (fail_if_success (with_reducible show wpAny _ _ (exec (PySem.Stmt.While _ _ _ _) _) _ _ _)); (fail_if_success (with_reducible show wpAny _ _ (eval (PySem.Expr.ListComp _ _ _ _) _) _ _ _)); (fail_if_success (with_reducible show wpAny _ _ (eval (PySem.Expr.DictComp _ _ _ _ _) _) _ _ _)); (fail_if_success (with_reducible show wpAny _ _ (exec (PySem.Stmt.Assign _ (PySem.Expr.ListComp _ _ _ _) _) _) _ _ _)); (fail_if_success (with_reducible show wpAny _ _ (exec (PySem.Stmt.Assign _ (PySem.Expr.DictComp _ _ _ _ _) _) _) _ _ _)); (first | (k_unfold; (try dsimp only)) | (k_end; wrow_close) | walk1 | (dsimp only; walk1) | (leave1; walk_say "STEP leave1"; try dsimp only) | fail "no step"))
  generalize hnews : (pg, accObj dpg its n) :: (dpg, od) :: mid = news0 at *
  have mpg : (pg, accObj dpg its n) ∈ news0 := hnews ▸ List.mem_cons_self
  have mdpg : (dpg, od) ∈ news0 := hnews ▸ List.mem_cons_of_mem _ List.mem_cons_self
  have hp0 : PageIs leadV tokL news0 its σ := hp.mono fun p h => hnews ▸ List.mem_cons_of_mem _ (List.mem_cons_of_mem _ h)
  have hil := hp.length
  refine assignCompG F' rfl (by with_unfolding_all rfl) (by with_unfolding_all rfl) (by decide) rfl (by decide) rfl rfl ?_
  k_steps
  refine src_acc (K := (Mine.hA.heap_1_39 w.params)) (fun i ys nw => nw = news0 ∧ ys = (σ.take i).map fun j => Value.str (letter j) (tokL j)) rfl F' X' N' (by k_is) (by k_is) ⟨n, mpg, mdpg⟩ (by rw [sizeLine_eq]; omega) ⟨rfl, rfl⟩ ?_ ?_
  · rintro i v ys nw g I hv hly hS ⟨rfl, rfl⟩
    obtain ⟨T, k, j, rfl, hj, mT⟩ := hp0.at hv
    refine CTurn.pair rfl rfl rfl rfl ⟨k, mT⟩ ?_
    intro oI C oC D m₁ h tk E' hC hm2 hm1 F N off ne tle
    refine tests0 ?_
    rw [if_pos rfl]
    k_steps
    refine CEnd.intro F N nw (fun _ h => h) hC off hS ⟨rfl, ?_⟩
    rw [List.take_add_one, hj]; simp
  · rintro ys nw g ⟨rfl, rfl⟩ D h tk F N o1
    rw [hil, List.take_length] at N
    have hixs : ∀ (i : Nat) (y : PySem.Str), (σ.map letter)[i]? = some y → ∃ t, (σ.map fun j => Value.str (letter j) (tokL j))[i]? = some (Value.str y t) ∧ t ≠ 0 ∧ t ≠ tx := by
      intro i y hy
      rw [List.getElem?_map] at hy ⊢
      cases e : σ[i]? with
      | none => rw [e] at hy; cases hy
      | some j =>
        rw [e] at hy
        cases hy
        obtain ⟨a1, a2⟩ := htok j (List.mem_of_getElem? e)
        exact ⟨_, rfl, a1, a2⟩
    obtain ⟨x1, x2, x3⟩ := idxL_spec hx
    have hxn : (σ.map letter)[idxL x σ]? = some (letter x) := by rw [List.getElem?_map, x2]; rfl
    have hxf : ∀ j, j < idxL x σ → (σ.map letter)[j]? ≠ some (letter x) := by
      intro j hj q
      rw [List.getElem?_map] at q
      cases e : σ[j]? with
      | none => rw [e] at q; cases q
      | some y =>
        rw [e] at q
        exact x3 j hj (by rw [e, letter_inj (Option.some.inj q)])
    generalize hpl : idxL x σ = place at *
    have hlen : (σ.map fun j => Value.str (letter j) (tokL j)).length = (σ.map letter).length := by simp
    have hlen6 : (σ.map fun j => Value.str (letter j) (tokL j)).length = 6 := by rw [List.length_map, hl]
    obtain ⟨odd, kvd, mdd, idd, hdi⟩ := hdeep
    obtain ⟨di, odi, kvi, hvx, mdi, idi, hvj⟩ := hdi x (h6 x hx)
    repeat' ((fail_if_success (with_reducible show wpAny _ _ (exec (PySem.Stmt.For _ _ _ _ _) _) _ _ _)); (fail_if_success (with_reducible show wpAny _ _ (exec (PySem.Stmt.While _ _ _ _) _) _ _ _)); (fail_if_success (with_reducible show wpAny _ _ (eval (PySem.Expr.ListComp _ _ _ _) _) _ _ _)); (fail_if_success (with_reducible show wpAny _ _ (eval (PySem.Expr.DictComp _ _ _ _ _) _) _ _ _)); (fail_if_success (with_reducible show wpAny _ _ (exec (PySem.Stmt.Assign _ (PySem.Expr.ListComp _ _ _ _) _) _) _ _ _)); (fail_if_success (with_reducible show wpAny _ _ (exec (PySem.Stmt.Assign _ (PySem.Expr.DictComp _ _ _ _ _) _) _) _ _ _)); (first | (k_unfold; (try dsimp only)) | (k_end; wrow_close) | walk1 | (dsimp only; walk1) | (leave1; walk_say "STEP leave1"; try dsimp only) | fail "no step"))
    rename_i t9 h9 tk9 _ _ h10 h11 F9 N9
    have sub0 : ∀ p ∈ mid, p ∈ (D, LCg.lst (σ.map fun j => Value.str (letter j) (tokL j))) :: nw := fun p h => List.mem_cons_of_mem _ (hnews ▸ List.mem_cons_of_mem _ (List.mem_cons_of_mem _ h))
    have mdd' := sub0 _ mdd
    have mdi' := sub0 _ mdi
    have mD : (D, W.listOf (σ.map fun j => Value.str (letter j) (tokL j)).toArray (σ.map fun j => Value.str (letter j) (tokL j)).length) ∈ (D, LCg.lst (σ.map fun j => Value.str (letter j) (tokL j))) :: nw := List.mem_cons_self
    generalize hled : (D, LCg.lst (σ.map fun j => Value.str (letter j) (tokL j))) :: nw = led at *
    refine execCut (HLa led r σ x place D dd pg tx) F9 ?_ ?_
    · refine While_inv (n₀ := place) (HLb led r σ x place D dd pg tx) F9 N9 ⟨rfl, Nat.le_refl _, rfl, ⟨_, rfl⟩, ⟨_, rfl⟩, rfl, rfl, rfl, rfl⟩ ?_
      rintro k m₁ nw' h₁ tk₁ F₁ N₁ ⟨rfl, hk1, hk2, ⟨tl, hlow⟩, hplace, hnames, hdpr, hname, hpage⟩
      rcases k with _ | k
      · k_steps
        exact XCut.intro F₁ N₁ _ (fun _ h => h) ⟨rfl, ⟨_, by rw [hk2]; exact hlow⟩, hplace, hnames, hdpr, hname, hpage⟩
      · have hkl : k < σ.length := by omega
        have ev : (σ.map fun j => Value.str (letter j) (tokL j))[(((k + 1 : Nat) : Int) - 1).toNat]? = some (Value.str (letter σ[k]) (tokL σ[k])) := by
          rw [show (((k + 1 : Nat) : Int) - 1).toNat = k from by omega, List.getElem?_map, List.getElem?_eq_getElem hkl]; rfl
        obtain ⟨tv, hva, _⟩ := hvj σ[k] (h6 _ (List.getElem_mem hkl))
        have hz : (σ.map fun j => Value.str (letter j) (tokL j)).length < 2 ^ 62 := by omega
        have ek : σ.getD k 0 = σ[k] := by simp [List.getD, List.getElem?_eq_getElem hkl]
        k_steps
        · rename_i q _ F₂ N₂
          refine WhileStep.intro F₂ N₂ (Nat.lt_succ_self k) ⟨rfl, by omega, ?_, ex_int rfl (by omega), hplace, hnames, hdpr, hname, hpage⟩
          rw [hk2]
          show (if r (σ.getD k 0) < r x then lowF r σ x k else k + 1) = _
          rw [ek, if_pos ((hval _ _).mp q)]
        · rename_i q
          have e9 : lowF r σ x place = k + 1 := by
            rw [hk2]
            show (if r (σ.getD k 0) < r x then lowF r σ x k else k + 1) = _
            rw [ek, if_neg fun h => q ((hval _ _).mpr h)]
          exact XCut.intro F₁ N₁ _ (fun _ h => h) ⟨rfl, ex_int hlow (by rw [e9]), hplace, hnames, hdpr, hname, hpage⟩
    · rintro h₁ tk₁ m₁ nw' F₁ N₁ ⟨rfl, ⟨tl, hlow⟩, ⟨tp, hplace⟩, hnames, hdpr, hname, hpage⟩ tle1
      clear F N F9 N9
      repeat' ((fail_if_success (with_reducible show wpAny _ _ (exec (PySem.Stmt.For _ _ _ _ _) _) _ _ _)); (fail_if_success (with_reducible show wpAny _ _ (exec (PySem.Stmt.While _ _ _ _) _) _ _ _)); (fail_if_success (with_reducible show wpAny _ _ (eval (PySem.Expr.ListComp _ _ _ _) _) _ _ _)); (fail_if_success (with_reducible show wpAny _ _ (eval (PySem.Expr.DictComp _ _ _ _ _) _) _ _ _)); (fail_if_success (with_reducible show wpAny _ _ (exec (PySem.Stmt.Assign _ (PySem.Expr.ListComp _ _ _ _) _) _) _ _ _)); (fail_if_success (with_reducible show wpAny _ _ (exec (PySem.Stmt.Assign _ (PySem.Expr.DictComp _ _ _ _ _) _) _) _ _ _)); (first | (k_unfold; (try dsimp only)) | (k_end; wrow_close) | walk1 | (dsimp only; walk1) | (leave1; walk_say "STEP leave1"; try dsimp only) | fail "no step"))
      rename_i h12 F9 N9
      have hp6 : place < 6 := by rw [← hl]; exact x1
      generalize hlw : lowF r σ x place = low at *
      refine execCut (HLc nw' r σ x place low pg) F9 ?_ ?_
      · refine While_inv (n₀ := 6) (HLd nw' r σ x place low D dd pg tx) F9 N9 ⟨rfl, place + 1, by omega, by omega, rfl, ⟨_, rfl⟩, ⟨_, hlow⟩, ⟨_, hplace⟩, hnames, hdpr, hname, hpage⟩ ?_
        rintro k m₂ nw h₁ tk₁ F₁ N₁ ⟨rfl, h, hh6, hhk, hk2, ⟨th, hhigh⟩, hlow, hplace, hnames, hdpr, hname, hpage⟩
        rcases k with _ | k
        · omega
        rcases Nat.lt_or_ge h 6 with hlt | hge
        · have hkl : h < σ.length := by omega
          have ev : (σ.map fun j => Value.str (letter j) (tokL j))[((h : Nat) : Int).toNat]? = some (Value.str (letter σ[h]) (tokL σ[h])) := by
            rw [Int.toNat_natCast, List.getElem?_map, List.getElem?_eq_getElem hkl]; rfl
          obtain ⟨tv, hva, _⟩ := hvj σ[h] (h6 _ (List.getElem_mem hkl))
          have hz : (σ.map fun j => Value.str (letter j) (tokL j)).length < 2 ^ 62 := by omega
          have ek : σ.getD h 0 = σ[h] := by simp [List.getD, List.getElem?_eq_getElem hkl]
          have eF : highF r σ x (k + 1) h = if r σ[h] < r x then highF r σ x k (h + 1) else h := by
            show (if h < σ.length then (if r (σ.getD h 0) < r x then highF r σ x k (h + 1) else h) else h) = _
            rw [if_pos hkl, ek]
          k_steps
          · rename_i q _ F₂ N₂
            exact WhileStep.intro F₂ N₂ (Nat.lt_succ_self k) ⟨rfl, h + 1, by omega, by omega, by rw [hk2, eF, if_pos ((hval _ _).mp q)], ex_int rfl (by omega), hlow, hplace, hnames, hdpr, hname, hpage⟩
          · rename_i q
            exact XCut.intro F₁ N₁ _ (fun _ h => h) ⟨rfl, ex_int hhigh (by rw [hk2, eF, if_neg fun h => q ((hval _ _).mpr h)]), hlow, hplace, hpage⟩
        · have eF : highF r σ x (k + 1) h = h := by
            show (if h < σ.length then (if r (σ.getD h 0) < r x then highF r σ x k (h + 1) else h) else h) = _
            rw [if_neg (by omega)]
          have hz : (σ.map fun j => Value.str (letter j) (tokL j)).length < 2 ^ 62 := by omega
          k_steps
          exact XCut.intro F₁ N₁ _ (fun _ h => h) ⟨rfl, ex_int hhigh (by rw [hk2, eF]), hlow, hplace, hpage⟩
      · rintro h₁ tk₁ m₂ nw F₁ N₁ ⟨rfl, ⟨th, hhigh⟩, ⟨tl, hlow⟩, ⟨tp, hplace⟩, hpage⟩ tle2
        clear F9 N9
        have N2 : News g' L' h₁ ((pg, accObj dpg its n) :: (dpg, od) :: mid) := cb_drop N₁ fun p hp => by
          rw [← hled, ← hnews]
          exact List.mem_cons_of_mem _ hp
        clear N₁
        have hlo : low ≤ place := by
          rw [← hlw]; exact lowF_le r σ x place
        have hhi := highF_ge r σ x 6 (place + 1)
        have hhi6 := highF_le r σ x 6 (place + 1) (by omega)
        generalize hhg : highF r σ x 6 (place + 1) = high at *
        obtain ⟨hh0, tk0, v0, k0, hod'⟩ := id hod
        subst hod'
        repeat' ((fail_if_success (with_reducible show wpAny _ _ (exec (PySem.Stmt.For _ _ _ _ _) _) _ _ _)); (fail_if_success (with_reducible show wpAny _ _ (exec (PySem.Stmt.While _ _ _ _) _) _ _ _)); (fail_if_success (with_reducible show wpAny _ _ (eval (PySem.Expr.ListComp _ _ _ _) _) _ _ _)); (fail_if_success (with_reducible show wpAny _ _ (eval (PySem.Expr.DictComp _ _ _ _ _) _) _ _ _)); (fail_if_success (with_reducible show wpAny _ _ (exec (PySem.Stmt.Assign _ (PySem.Expr.ListComp _ _ _ _) _) _) _ _ _)); (fail_if_success (with_reducible show wpAny _ _ (exec (PySem.Stmt.Assign _ (PySem.Expr.DictComp _ _ _ _ _) _) _) _ _ _)); (first | (k_unfold; (try dsimp only)) | (k_end; wrow_close) | walk1 | (dsimp only; walk1) | (leave1; walk_say "STEP leave1"; try dsimp only) | fail "no step"))
        rename_i Dt _ _ _ _ _ _ Db _ _ _ _ _ _ Dl _ _ _ _ _ _ Da _ _ nA oA hA FA NA
        refine forF FA ?_
        k_steps
        rename_i D1 _ _ _ _ l1 D2 _ _ _ _ l2 D3 h3 tk3 F3 N3 l3
        obtain ⟨bs, N4, mD3, sub4, o4⟩ := hop_base (mid := mid) N3 (Nat.ne_of_lt (l1 _ List.mem_cons_self)) (Nat.ne_of_lt (l2 _ (List.mem_cons_of_mem _ List.mem_cons_self))) (Nat.ne_of_lt (l3 _ (List.mem_cons_of_mem _ (List.mem_cons_of_mem _ List.mem_cons_self)))) oA            (fun p hp => List.mem_cons_of_mem _ (List.mem_cons_of_mem _ (List.mem_cons_of_mem _ (List.mem_cons_of_mem _ hp))))
        have hpm := hp.mono sub4
        have pZ := (((hpm.take high).drop (place + 1)).append (((hpm.take high).take (place + 1)).drop place)).append (((((hpm.take high).take (place + 1)).take place).drop low).append (hpm.drop high))
        have pP := ((((hp.take high).take (place + 1)).take place).take low)
        have zP := pP.length
        have zZ := pZ.length
        have z6 : ((((σ.take high).take (place + 1)).take place).take low).length ≤ 6 := by simp only [List.length_take]; omega
        have z66 : ((σ.take high).drop (place + 1) ++ ((σ.take high).take (place + 1)).drop place ++ ((((σ.take high).take (place + 1)).take place).drop low ++ σ.drop high)).length ≤ 6 := by
          simp only [List.length_take, List.length_drop, List.length_append]; omega
        have eS : hopL r σ x = (((σ.take high).take (place + 1)).take place).take low ++ ((σ.take high).drop (place + 1) ++ ((σ.take high).take (place + 1)).drop place ++ ((((σ.take high).take (place + 1)).take place).drop low ++ σ.drop high)) := by
          unfold hopL
          rw [hpl, hl]
          dsimp only
          rw [hlw, hhg]
          simp only [List.take_take]
          rw [show min low (min place (min (place + 1) high)) = low from by omega, show min (place + 1) high = place + 1 from by omega, show min place (place + 1) = place from by omega]
        have e0 : List.drop place.succ (List.take high its) = (its.take high).drop (place + 1) := rfl
        generalize hS : ((σ.take high).drop (place + 1) ++ ((σ.take high).take (place + 1)).drop place ++ ((((σ.take high).take (place + 1)).take place).drop low ++ σ.drop high)) = S at *
        generalize hP : (((σ.take high).take (place + 1)).take place).take low = σ0 at *
        generalize ((List.drop (place + 1) (List.take high its) ++ List.drop place (List.take (place + 1) (List.take high its))) ++ (List.drop low (List.take place (List.take (place + 1) (List.take high its))) ++ List.drop high its)) = zs at mD3 pZ zZ
        generalize List.take low (List.take place (List.take (place + 1) (List.take high its))) = itsP at N4 pP zP
        refine fsrc_list (its := zs.toArray) (m := _) (HLe pg dpg (dictOf [⟨hh0, Value.str (Str.ofString "_initial_size") tk0, v0⟩] k0) bs mid leadV tokL σ0 S) rfl F3 N4            (.inr ⟨_, List.mem_cons_of_mem _ (List.mem_cons_of_mem _ mD3), rfl, _, rfl⟩) ⟨itsP, nA, [], rfl, by simpa using pP, by omega, (fun _ h => nomatch h), o4, hpage⟩ ?_ ?_
        · rintro i v m₁ nw g I hv hS9 ⟨itsQ, n', tl, rfl, pQ, lQ, kQ, oQ, hpg⟩
          have hv' : zs[i]? = some v := by simpa using hv
          obtain ⟨T, k, j, rfl, hj, mT⟩ := pZ.at hv'
          have hi6 : i < 6 := by have := (List.getElem?_eq_some_iff.mp hj).1; omega
          refine FTurn.pair rfl rfl rfl rfl ⟨k, List.mem_cons_of_mem _ (List.mem_cons_of_mem _ (List.mem_append_right _ mT))⟩ ?_
          intro oI h tk F N off tle
          have hIpg : I ≠ pg := Ne.symm (off _ List.mem_cons_self)
          have N5 : News g' _ h ((pg, accObj dpg itsQ n') :: (dpg, dictOf [⟨hh0, Value.str (Str.ofString "_initial_size") tk0, v0⟩] k0) :: (I, oI) :: (tl ++ bs)) := cb_drop N fun p hp => by
            (revert p; (repeat' (first | refine List.forall_mem_cons.mpr ⟨?_, ?_⟩ | refine List.forall_mem_append.mpr ⟨?_, ?_⟩ | exact List.forall_mem_nil _)); all_goals (first | (intro p9 hp9; solve_by_elim (maxDepth := 24) only [hp9, List.mem_cons_of_mem, List.mem_append_left, List.mem_append_right]) | solve_by_elim (maxDepth := 24) only [List.mem_cons_self, List.mem_cons_of_mem, List.mem_append_left, List.mem_append_right]))
          have oI5 : ∀ p ∈ (dpg, dictOf [⟨hh0, Value.str (Str.ofString "_initial_size") tk0, v0⟩] k0) :: (I, oI) :: (tl ++ bs), p.1 ≠ pg := fun p hp => by
            rcases List.mem_cons.mp hp with rfl | hp
            · exact oQ _ List.mem_cons_self
            · rcases List.mem_cons.mp hp with rfl | hp
              · exact hIpg
              · exact oQ p (List.mem_cons_of_mem _ hp)
          clear N
          have lQ' : itsQ.length ≤ 100 := by omega
          k_steps
          rename_i D9 h9 tk9 n9 F9 N9 o9 d9
          refine FEnd.intro F9 N9 ((pg, accObj dpg (itsQ ++ [.ref D9]) n9) :: (dpg, dictOf [⟨hh0, Value.str (Str.ofString "_initial_size") tk0, v0⟩] k0) :: (((D9, tupO [leadV j, Value.str (letter j) (tokL j)]) :: tl) ++ bs)) ?_ ?_ (.inr ⟨_, List.mem_cons_of_mem _ (List.mem_cons_of_mem _ (List.mem_cons_of_mem _ (List.mem_append_right _ mD3))), rfl, _, rfl⟩) ⟨itsQ ++ [.ref D9], n9, (D9, tupO [leadV j, Value.str (letter j) (tokL j)]) :: tl, rfl, ?_, ?_, ?_, ?_, hpg⟩
          · intro p hp
            simp only [List.mem_cons, List.cons_append] at hp ⊢
            rcases hp with hp | hp | hp | hp | hp
            · exact .inr (.inr (.inr (.inl hp)))
            · exact .inl hp
            · exact .inr (.inl hp)
            · exact .inr (.inr (.inl hp))
            · exact .inr (.inr (.inr (.inr hp)))
          · refine List.forall_mem_cons.mpr ⟨Ne.symm hIpg, List.forall_mem_cons.mpr ⟨off _ (List.mem_cons_of_mem _ List.mem_cons_self), List.forall_mem_cons.mpr ⟨Ne.symm (d9 _ List.mem_cons_self), fun p hp => off p (List.mem_cons_of_mem _ (List.mem_cons_of_mem _ hp))⟩⟩⟩
          · rw [List.take_add_one, hj, ← List.append_assoc]
            refine (pQ.mono fun p hp => ?_).append (.cons (k := 0) (List.mem_append_right _ List.mem_cons_self) .nil)
            rcases List.mem_append.mp hp with hp | hp
            · exact List.mem_append_left _ hp
            · exact List.mem_append_right _ (List.mem_cons_of_mem _ hp)
          · rw [List.length_append]
            show itsQ.length + 1 ≤ 6 + (i + 1)
            omega
          · exact List.forall_mem_cons.mpr ⟨⟨_, _, rfl⟩, kQ⟩
          · refine List.forall_mem_cons.mpr ⟨oQ _ List.mem_cons_self, List.forall_mem_cons.mpr ⟨o9 _ (List.mem_cons_of_mem _ List.mem_cons_self), fun p hp => oQ p (List.mem_cons_of_mem _ hp)⟩⟩
        · rintro m₁ nw h tk ⟨itsQ, n', tl, rfl, pQ, lQ, kQ, oQ, hpg⟩ - F N tle
          have eT : S.take zs.toArray.size = S := by rw [List.size_toArray, zZ, List.take_length]
          rw [eT, ← eS] at pQ
          k_steps
          rename_i kF kN _ kX
          refine hret itsQ n' tl _ _ kF (cb_drop kN fun p hp => ?_) pQ kQ
          simp only [List.mem_cons, List.mem_append] at hp ⊢
          rcases hp with hp | hp | hp | hp
          · exact .inl hp
          · exact .inr (.inl hp)
          · exact .inr (.inr (.inr (sub4 p hp)))
          · exact .inr (.inr (.inl hp))
end
end
-- Law6
section
theorem kr_Law6 : True := by
  k_with_none
  w_top off
  trivial
open PySem PySem.W PyProof.Rows PySem.Calls
section
theorem kw_906889_1 : True := by
  k_with "eval Name" => (k_here; k_dflt (refine' lw_name (by k_asm) (by assumption) (by (intro q9 hq9; (repeat (refine List.mem_cons_of_mem _ ?_)); first | exact List.mem_append_right _ hq9 | solve_by_elim)) (by rfl) (by first | rfl | assumption) ?_ (by exact lawScope_kind) (by rfl) (by rfl); k_whole))
  k_with "eval Name" => (k_here; k_dflt (refine' nameX_L (by k_asm) (by first | rfl | assumption) ?_ (by exact lawScope_kind) (by rfl); k_whole))
  k_with "storeName" => (k_here; k_dflt (first | (refine' lw_put (by k_asm) (by first | assumption | exact (show News _ _ _ ((_ :: _) ++ _) from by assumption) | exact (show News _ _ _ ((_ :: _ :: _) ++ _) from by assumption) | exact (show News _ _ _ ((_ :: _ :: _ :: _) ++ _) from by assumption) | exact (show News _ _ _ ((_ :: _ :: _ :: _ :: _) ++ _) from by assumption) | exact (show News _ _ _ ((_ :: _ :: _ :: _ :: _ :: _) ++ _) from by assumption) | exact (show News _ _ _ ((_ :: _ :: _ :: _ :: _ :: _ :: _) ++ _) from by assumption)) (by assumption) (by ((repeat (refine List.forall_mem_cons.mpr ⟨by first | (intro v9 h9; cases h9; done) | assumption, ?_⟩)); first | assumption | exact (fun _ h => nomatch h))) (by rfl) ?_ (by rfl); k_whole)); intro _ _ _ _ _)
  trivial

theorem kw_906889_2 : True := by
  k_with "call ref" => (k_here; (with_reducible show wpAny _ _ (call (Value.ref 274) _) _ _ _); k_dflt (refine' cells_spec (m := _) (by assumption) (by assumption) (by assumption) (by assumption) (by assumption) (by exact rfl) (by omega) (by assumption) (by assumption) (by assumption) ?_; k_whole); intro _ _ _ _ _ _ _ _ _ _ _ _)
  trivial
theorem partA {w : World} {p : Program} {loose : List Str} {mean : ExcName → Option Value} {mg mb : Str → Option Value} {dp un : Nat} {gd : Option (List Code)} {cn : Str} {a : Addr} {ccd : Value} {outer : List Env} {A₀ : Around} {base h₀ : Heap} {L : Addr} {m mc : Str → Option Value} {rest cells : List (Addr × Obj)} {s : Shared} {Q : Flow → Shared → Prop} {E : Value → Shared → Prop} {l1 : Addr} {vs : List Value} {ns : List Int} (B : Below A₀ base outer h₀) (X : (Mine.hA.heap_1_39 w.params).In h₀) (T : Top p loose mean mg mb h₀) (hd : dp + 20 < recursionLimit) (hu : un + 300 < cLine) (F : Fr h₀ L s.heap m) (N : News h₀ L s.heap (rest ++ cells)) (CA : CellsAre mc (cellsFrom (L + 1) lawScope.names []) cells) (hr : ∀ p ∈ rest, NC p.2) (hL : h₀.IsList l1 vs.toArray) (i1 : IntsAre vs ns) (z1 : vs.length ≤ 63) (hm : m (Str.ofString "script") = some (.ref l1))
    (hret : ∀ D vs' k cs h' tk' m' mc' cells' f g o1 o2 tf tg t1 t2 tl, Fr h₀ L h' m' → News h₀ L h' (((D, W.listOf vs'.toArray k) :: rest) ++ cells') → CellsAre mc' (cellsFrom (L + 1) lawScope.names []) cells' → IntsAre vs' cs → cs.length = 6 → (∀ j, 0 ≤ cs.getD j 0 ∧ cs.getD j 0 ≤ 100000000) → m' (Str.ofString "cells") = some (.ref D) →        mc' (Str.ofString "first") = some (.int f tf) → mc' (Str.ofString "second") = some (.int g tg) → mc' (Str.ofString "one") = some (.int o1 t1) → mc' (Str.ofString "two") = some (.int o2 t2) → mc' (Str.ofString "letters") = some (.str (Str.ofString "abcdef") tl) →        2 ≤ f → f ≤ 4 → 1 ≤ g → g ≤ 4 → (o1 = 1 ∨ o1 = -1) → (o2 = 1 ∨ o2 = -1) → 0 < tk' → (@LT.lt Nat _ 0 t1 ∧ @LT.lt Nat _ t1 tk') → (@LT.lt Nat _ 0 t2 ∧ @LT.lt Nat _ t2 tk') → wpAny (model Challenge.rw_xg0084_01.row.toRowW.prog w) (ktrTop dp un gd cn lawScope L a ccd (cellsFrom (L + 1) lawScope.names []) outer) (execs (lawBody.drop 7) (envX cn lawScope L a ccd (cellsFrom (L + 1) lawScope.names []))) Q E { s with heap := h', toks := tk' }) :
    wpAny (model Challenge.rw_xg0084_01.row.toRowW.prog w) (ktrTop dp un gd cn lawScope L a ccd (cellsFrom (L + 1) lawScope.names []) outer) (execs lawBody (envX cn lawScope L a ccd (cellsFrom (L + 1) lawScope.names []))) Q E s := by
  have _q : Challenge.rw_xg0084_01 = Challenge.rw_xg0084_01 ∧ Mine.hA.heap_1_39 = Mine.hA.heap_1_39 := by (k_fill; exact ⟨rfl, rfl⟩)
  show wpAny _ _ (execs (_ :: _) _) _ _ _
  repeat' ((fail_if_success (with_reducible show wpAny _ _ (execs (PySem.Stmt.Assign [PySem.Expr.Name (PySem.Str.ofString "leads") _] _ _ :: _) _) _ _ _)); (fail_if_success (with_reducible show wpAny _ _ (exec (PySem.Stmt.For _ _ _ _ _) _) _ _ _)); (fail_if_success (with_reducible show wpAny _ _ (exec (PySem.Stmt.While _ _ _ _) _) _ _ _)); (fail_if_success (with_reducible show wpAny _ _ (eval (PySem.Expr.ListComp _ _ _ _) _) _ _ _)); (fail_if_success (with_reducible show wpAny _ _ (eval (PySem.Expr.DictComp _ _ _ _ _) _) _ _ _)); (fail_if_success (with_reducible show wpAny _ _ (exec (PySem.Stmt.Assign _ (PySem.Expr.ListComp _ _ _ _) _) _) _ _ _)); (fail_if_success (with_reducible show wpAny _ _ (exec (PySem.Stmt.Assign _ (PySem.Expr.DictComp _ _ _ _ _) _) _) _ _ _)); (first | (k_unfold; (try dsimp only)) | (k_end; wrow_close) | walk1 | (dsimp only; walk1) | (leave1; walk_say "STEP leave1"; try dsimp only) | fail "no step"))
  rename_i D9 vs9 k9 cs9 h9 tk9 l9 i9 e9 b9 h1 tk1 h2 tk2 t2 h3 F3 N3 h4 cells4 F4 N4 CA4 h5 cells5 F5 N5 CA5 h6 cells6 F6 N6 CA6 h7 cells7 F7 N7 CA7 h8 cells8 F8 N8 CA8
  have p3 := fun x => Int.fmod_nonneg_of_pos x (show (0 : Int) < 3 by decide)
  have q3 := fun x => Int.fmod_lt_of_pos x (show (0 : Int) < 3 by decide)
  have p4 := fun x => Int.fmod_nonneg_of_pos x (show (0 : Int) < 4 by decide)
  have q4 := fun x => Int.fmod_lt_of_pos x (show (0 : Int) < 4 by decide)
  have p2 := fun x => Int.fmod_nonneg_of_pos x (show (0 : Int) < 2 by decide)
  have q2 := fun x => Int.fmod_lt_of_pos x (show (0 : Int) < 2 by decide)
  have a1 := p3 cs9.sum
  have a2 := q3 cs9.sum
  have a3 := p4 (cs9.sum.fdiv 3)
  have a4 := q4 (cs9.sum.fdiv 3)
  have a5 := p2 (cs9.sum.fdiv 12)
  have a6 := q2 (cs9.sum.fdiv 12)
  have a7 := p2 (cs9.sum.fdiv 24)
  have a8 := q2 (cs9.sum.fdiv 24)
  exact hret D9 vs9 k9 cs9 h8 _ _ _ cells8 _ _ _ _ _ _ _ _ _ F8 N8 CA8 i9 e9 b9 rfl rfl rfl rfl rfl rfl (by omega) (by omega) (by omega) (by omega) (by omega) (by omega) (Nat.succ_pos _) (by dsimp only; omega) (by dsimp only; omega)
end
end
end
-- Plain1
section
open PySem PySem.W PyProof.Rows PySem.Calls
noncomputable def leadT (a b d : Nat) : List Nat := List.replicate a 32 ++ List.replicate b 9 ++ List.replicate d 32
noncomputable def wsOf (a b d i : Nat) : WsSt := wsRun (leadT a b d ++ [97 + i]) ⟨0, 0, 0, []⟩
noncomputable def chk1 (a b d i : Nat) : Bool := [1, 2, 3, 4].all (fun g : Int => levF g (wsOf a b d i) == colF g 0 (leadT a b d)) && decide ((wsOf a b d i).cs.length ≤ 100) && (wsOf a b d i).cs.all (fun x => decide (0 ≤ x) && decide (x ≤ 100))
theorem chk1_all : ((List.range 4).all fun a => (List.range 3).all fun b => (List.range 3).all fun d => (List.range 6).all fun i => chk1 a b d i) = true := by decide +kernel
theorem chk1_at {a b d i : Nat} (ha : a < 4) (hb : b < 3) (hd : d < 3) (hi : i < 6) : chk1 a b d i = true := by
  have h := chk1_all
  rw [List.all_eq_true] at h
  have h := h a (List.mem_range.mpr ha)
  rw [List.all_eq_true] at h
  have h := h b (List.mem_range.mpr hb)
  rw [List.all_eq_true] at h
  have h := h d (List.mem_range.mpr hd)
  rw [List.all_eq_true] at h
  exact h i (List.mem_range.mpr hi)
theorem lead_str : ((List.range 4).all fun a => (List.range 3).all fun b => (List.range 3).all fun d => (Txt.mul (Str.ofString " ") (a : Int) ++ Txt.mul (Str.ofString "\t") (b : Int) ++ Txt.mul (Str.ofString " ") (d : Int)).cps.toList == leadT a b d) = true := by decide +kernel
noncomputable def nA (c : Int) : Nat := (c.fmod 4).toNat
noncomputable def nB (c : Int) : Nat := ((c.fdiv 4).fmod 3).toNat
noncomputable def nD (c : Int) : Nat := ((c.fdiv 12).fmod 3).toNat
theorem nA_lt (c : Int) : nA c < 4 := by
  have p := Int.fmod_nonneg_of_pos c (show (0 : Int) < 4 by decide)
  have q := Int.fmod_lt_of_pos c (show (0 : Int) < 4 by decide)
  unfold nA; omega
theorem nB_lt (c : Int) : nB c < 3 := by
  have p := Int.fmod_nonneg_of_pos (c.fdiv 4) (show (0 : Int) < 3 by decide)
  have q := Int.fmod_lt_of_pos (c.fdiv 4) (show (0 : Int) < 3 by decide)
  unfold nB; omega
theorem nD_lt (c : Int) : nD c < 3 := by
  have p := Int.fmod_nonneg_of_pos (c.fdiv 12) (show (0 : Int) < 3 by decide)
  have q := Int.fmod_lt_of_pos (c.fdiv 12) (show (0 : Int) < 3 by decide)
  unfold nD; omega
theorem leadS_cps (c : Int) : (leadS c).cps.toList = leadT (nA c) (nB c) (nD c) := by
  have h := lead_str
  rw [List.all_eq_true] at h
  have h := h _ (List.mem_range.mpr (nA_lt c))
  rw [List.all_eq_true] at h
  have h := h _ (List.mem_range.mpr (nB_lt c))
  rw [List.all_eq_true] at h
  have h := eq_of_beq (h _ (List.mem_range.mpr (nD_lt c)))
  have p1 := Int.fmod_nonneg_of_pos c (show (0 : Int) < 4 by decide)
  have p2 := Int.fmod_nonneg_of_pos (c.fdiv 4) (show (0 : Int) < 3 by decide)
  have p3 := Int.fmod_nonneg_of_pos (c.fdiv 12) (show (0 : Int) < 3 by decide)
  have e1 : ((nA c : Nat) : Int) = c.fmod 4 := Int.toNat_of_nonneg p1
  have e2 : ((nB c : Nat) : Int) = (c.fdiv 4).fmod 3 := Int.toNat_of_nonneg p2
  have e3 : ((nD c : Nat) : Int) = (c.fdiv 12).fmod 3 := Int.toNat_of_nonneg p3
  rw [e1, e2, e3] at h
  exact h
theorem line_cps (c : Int) (i : Nat) : (leadS c ++ letter i).cps.toList = leadT (nA c) (nB c) (nD c) ++ [97 + i] := by
  show ((leadS c).cps ++ (letter i).cps).toList = _
  rw [Array.toList_append, leadS_cps]
  rfl
noncomputable def colN (g : Int) (c : Int) : Int := colF g 0 (leadT (nA c) (nB c) (nD c))
theorem ws_facts {c : Int} {i : Nat} (hi : i < 6) : (∀ g : Int, 1 ≤ g → g ≤ 4 → levF g (wsRun (leadS c ++ letter i).cps.toList ⟨0, 0, 0, []⟩) = colN g c) ∧ (wsRun (leadS c ++ letter i).cps.toList ⟨0, 0, 0, []⟩).cs.length ≤ 100 ∧
    ∀ j, 0 ≤ (wsRun (leadS c ++ letter i).cps.toList ⟨0, 0, 0, []⟩).cs.getD j 0 ∧ (wsRun (leadS c ++ letter i).cps.toList ⟨0, 0, 0, []⟩).cs.getD j 0 ≤ 100 := by
  have h := chk1_at (nA_lt c) (nB_lt c) (nD_lt c) hi
  rw [line_cps]
  unfold chk1 at h
  rw [Bool.and_eq_true, Bool.and_eq_true] at h
  obtain ⟨⟨h1, h2⟩, h3⟩ := h
  refine ⟨fun g g1 g4 => ?_, of_decide_eq_true h2, fun j => ?_⟩
  · rw [List.all_eq_true] at h1
    refine eq_of_beq (h1 g ?_)
    have : g = 1 ∨ g = 2 ∨ g = 3 ∨ g = 4 := by omega
    simp [this]
  · rw [List.all_eq_true] at h3
    show 0 ≤ (wsOf (nA c) (nB c) (nD c) i).cs.getD j 0 ∧ (wsOf (nA c) (nB c) (nD c) i).cs.getD j 0 ≤ 100
    rw [List.getD]
    cases e : (wsOf (nA c) (nB c) (nD c) i).cs[j]? with
    | none => decide
    | some x =>
      have := h3 x (List.mem_of_getElem? e)
      rw [Bool.and_eq_true] at this
      exact ⟨of_decide_eq_true this.1, of_decide_eq_true this.2⟩
theorem leadT_length (a b d : Nat) : (leadT a b d).length = a + b + d := by simp [leadT, Nat.add_assoc]
theorem lead_size (c : Int) : (leadS c).cps.size ≤ 7 := by
  have e : (leadS c).cps.toList.length = (leadS c).cps.size := Array.length_toList
  rw [← e, leadS_cps, leadT_length]
  have := nA_lt c; have := nB_lt c; have := nD_lt c
  omega
theorem line_size (c : Int) (i : Nat) : (leadS c ++ letter i).cps.size ≤ 100 := by
  have e : (leadS c ++ letter i).cps.toList.length = (leadS c ++ letter i).cps.size := Array.length_toList
  rw [← e, line_cps, List.length_append, leadT_length]
  have := nA_lt c; have := nB_lt c; have := nD_lt c
  simp; omega
theorem leadT_asc (a b d : Nat) : (leadT a b d).all (· < 128) = true := by
  rw [List.all_eq_true]
  intro x hx
  simp only [leadT, List.mem_append, List.mem_replicate] at hx
  rcases hx with (⟨_, rfl⟩ | ⟨_, rfl⟩) | ⟨_, rfl⟩ <;> decide
theorem lead_asc (c : Int) : (leadS c).cps.all (· < 128) = true := by
  rw [← Array.all_toList, leadS_cps]; exact leadT_asc _ _ _
theorem line_asc {c : Int} {i : Nat} (hi : i < 6) : (leadS c ++ letter i).cps.all (· < 128) = true := by
  rw [← Array.all_toList, line_cps, List.all_append, leadT_asc]
  simp; omega
end
section
local macro_rules | `(tactic| k_all) => `(tactic| assumption)
local macro_rules | `(tactic| k_mem) => `(tactic| assumption)
-- Law8
section
theorem kr_Law8 : True := by
  k_with_none
  w_top off
  trivial
open PySem PySem.W PyProof.Rows PySem.Calls
theorem nc_acc {od : Obj} (h : IsAccD od) : NC od := by
  obtain ⟨a, b, c, d, rfl⟩ := h
  intro v e; cases e
section
variable {prog : Program} {w : World} {A : Around} {E : Value → Shared → Prop} {s : Shared} {Q : Value → Shared → Prop} {value slice : PySem.Expr} {t u : Tok}
theorem abc_item {k : Nat} {i : Int} (hi : i = (k : Int)) (hk : k < 6) (h : Q (.str (letter k) s.toks) { s with toks := s.toks + 1 })
    (hs : subscripted slice false (.str (Str.ofString "abcdef") t) (.int i u) = operate [.str (Str.ofString "abcdef") t, .int i u] (getItem (.str (Str.ofString "abcdef") t) (.int i u)) := by with_unfolding_all rfl)
    (ht : ∀ r, letTemporaryGo value (.str (Str.ofString "abcdef") t) r = pure () := by intro _; with_unfolding_all rfl) :
    wpAny (model prog w) A (subscriptTail value slice (.str (Str.ofString "abcdef") t) (.int i u)) Q E s := by
  subst hi
  have e : Txt.item (Str.ofString "abcdef") (k : Int) = letter k := by
    match k, hk with
    | 0, _ | 1, _ | 2, _ | 3, _ | 4, _ | 5, _ => decide +kernel
    | k + 6, h => omega
  refine KXi.item (n := 6) (by decide +kernel) (by omega) (by omega) (by decide) (fun _ => ?_) hs ht
  rw [e]; exact h
end
noncomputable def PageAt (lv : Nat → Value) (tk : Nat) (nw : List (Addr × Obj)) (its : List Value) (i : Nat) : Prop :=
  its.length = i ∧ ∀ j, j < i → ∃ T k t, its[j]? = some (.ref T) ∧ (T, tupN [lv j, .str (letter j) t] k) ∈ nw ∧ 0 < t ∧ t < tk
noncomputable def RowsAt (va vb : Nat → Int) (nw : List (Addr × Obj)) (rv : List Value) (i : Nat) : Prop :=
  rv.length = i ∧ ∀ j, j < i → ∃ T t0 t1 t2, rv[j]? = some (.ref T) ∧ (T, tupO [.int (va j) t0, .int (vb j) t1, .int (j : Nat) t2]) ∈ nw
theorem PageAt.up {lv : Nat → Value} {tk tk' : Nat} {nw nw' : List (Addr × Obj)} {its : List Value} {i : Nat} (h : PageAt lv tk nw its i) (hs : ∀ p ∈ nw, p ∈ nw') (ht : tk ≤ tk') : PageAt lv tk' nw' its i :=
  ⟨h.1, fun j hj => let ⟨T, k, t, a, b, c, d⟩ := h.2 j hj; ⟨T, k, t, a, hs _ b, c, Nat.lt_of_lt_of_le d ht⟩⟩
theorem RowsAt.up {va vb : Nat → Int} {nw nw' : List (Addr × Obj)} {rv : List Value} {i : Nat} (h : RowsAt va vb nw rv i) (hs : ∀ p ∈ nw, p ∈ nw') : RowsAt va vb nw' rv i :=
  ⟨h.1, fun j hj => let ⟨T, t0, t1, t2, a, b⟩ := h.2 j hj; ⟨T, t0, t1, t2, a, hs _ b⟩⟩
theorem PageAt.snoc {lv : Nat → Value} {tk : Nat} {nw : List (Addr × Obj)} {its : List Value} {i : Nat} (h : PageAt lv tk nw its i) {T k : Nat} {t : Tok} (hm : (T, tupN [lv i, .str (letter i) t] k) ∈ nw) (h0 : 0 < t) (h1 : t < tk) : PageAt lv tk nw (its ++ [.ref T]) (i + 1) := by
  obtain ⟨hl, h⟩ := h
  refine ⟨by simp [hl], fun j hj => ?_⟩
  rcases Nat.lt_or_ge j i with q | q
  · obtain ⟨T', k', t', a, b⟩ := h j q
    exact ⟨T', k', t', by rw [List.getElem?_append_left (by omega)]; exact a, b⟩
  · obtain rfl : j = i := by omega
    exact ⟨T, k, t, by rw [List.getElem?_append_right (by omega), hl]; simp, hm, h0, h1⟩
theorem RowsAt.snoc {va vb : Nat → Int} {nw : List (Addr × Obj)} {rv : List Value} {i : Nat} (h : RowsAt va vb nw rv i) {T : Nat} {t0 t1 t2 : Tok} (hm : (T, tupO [.int (va i) t0, .int (vb i) t1, .int (i : Nat) t2]) ∈ nw) : RowsAt va vb nw (rv ++ [.ref T]) (i + 1) := by
  obtain ⟨hl, h⟩ := h
  refine ⟨by simp [hl], fun j hj => ?_⟩
  rcases Nat.lt_or_ge j i with q | q
  · obtain ⟨T', t0', t1', t2', a, b⟩ := h j q
    exact ⟨T', t0', t1', t2', by rw [List.getElem?_append_left (by omega)]; exact a, b⟩
  · obtain rfl : j = i := by omega
    exact ⟨T, t0, t1, t2, by rw [List.getElem?_append_right (by omega), hl]; simp, hm⟩
inductive PgInv (lv : Nat → Value) (va vb : Nat → Int) (pg dpg DR : Addr) (od : Obj) (base : List (Addr × Obj)) (i tk : Nat) (m : PySem.Str → Option Value) (nw : List (Addr × Obj)) : Prop
  | mk (its : _) (n' : _) (rv : _) (kr : _) (tl : _)
    (x1 : nw = (pg, accObj dpg its n') :: (dpg, od) :: (DR, W.listOf rv.toArray kr) :: (tl ++ base))
    (x2 : (∀ p ∈ tl, NC p.2))
    (x3 : (∀ p ∈ tl ++ base, p.1 ≠ pg ∧ p.1 ≠ dpg ∧ p.1 ≠ DR))
    (x4 : PageAt lv tk tl its i)
    (x5 : RowsAt va vb tl rv i)
    (x6 : m (Str.ofString "page") = some (.ref pg)) : PgInv lv va vb pg dpg DR od base i tk m nw
theorem cells_lt {mc mc' : PySem.Str → Option Value} {cl : List (PySem.Str × Addr)} {cells cells' : List (Addr × Obj)} {d : Nat} (h : CellsAre mc cl cells) (h' : CellsAre mc' cl cells') (k : ∀ p ∈ cells, p.1 < d) : ∀ p ∈ cells', p.1 < d := by
  intro p hp
  have e := (cells_addr h').trans (cells_addr h).symm
  have : p.1 ∈ cells.map (·.1) := e ▸ List.mem_map_of_mem hp
  obtain ⟨q, hq, e2⟩ := List.mem_map.mp this
  rw [← e2]; exact k q hq
section
theorem kw_82552_1 : True := by
  k_with "eval Name" => (k_here; k_dflt (refine' lw_name (by k_asm) (by assumption) (by (intro q9 hq9; (repeat (refine List.mem_cons_of_mem _ ?_)); first | exact List.mem_append_right _ hq9 | solve_by_elim)) (by rfl) (by first | rfl | assumption) ?_ (by exact lawScope_kind) (by rfl) (by rfl); k_whole))
  k_with "eval Name" => (k_here; k_dflt (refine' nameX_L (by k_asm) (by first | rfl | assumption) ?_ (by exact lawScope_kind) (by rfl); k_whole))
  k_with "storeName" => (k_here; k_dflt (first | (refine' lw_put (by k_asm) (by first | assumption | exact (show News _ _ _ ((_ :: _) ++ _) from by assumption) | exact (show News _ _ _ ((_ :: _ :: _) ++ _) from by assumption) | exact (show News _ _ _ ((_ :: _ :: _ :: _) ++ _) from by assumption) | exact (show News _ _ _ ((_ :: _ :: _ :: _ :: _) ++ _) from by assumption) | exact (show News _ _ _ ((_ :: _ :: _ :: _ :: _ :: _) ++ _) from by assumption) | exact (show News _ _ _ ((_ :: _ :: _ :: _ :: _ :: _ :: _) ++ _) from by assumption)) (by assumption) (by ((repeat (refine List.forall_mem_cons.mpr ⟨by first | (intro v9 h9; cases h9; done) | assumption, ?_⟩)); first | assumption | exact (fun _ h => nomatch h))) (by rfl) ?_ (by rfl); k_whole)); intro _ _ _ _ _)
  trivial

theorem kw_82552_2 : True := by
  k_with "call ref" => (k_here; (with_reducible show wpAny _ _ (call (Value.ref 99) _) _ _ _); refine wpAny_toks ?_; k_dflt (refine' acc_new (m := _) (by assumption) (by assumption) (by assumption) (by assumption) (by assumption) (by exact lawScope_kind) (by omega) (by omega) ?_; k_whole); intro pg9 dpg9 od9 n9 h9 tk9 F9 N9 a9 l9 g9 tz8; have nc9 := nc_acc a9; revert pg9 dpg9 od9 n9 h9 tk9 F9 N9 a9 l9 g9 tz8; intros)
  k_with "subscriptTail Name Name str int" => (k_here; (with_reducible show wpAny _ _ (subscriptTail _ _ (Value.str _ _) (Value.int _ _)) _ _ _); k_dflt (refine' abc_item rfl (by assumption) ?_ (by with_unfolding_all rfl) (by (intro _; with_unfolding_all rfl)); k_whole))
  k_with "subscriptTail" => (k_here; (with_reducible show wpAny _ _ (subscriptTail _ _ (Value.ref _) (Value.int _ _)) _ _ _); k_dflt (refine' LL.item (by k_asm) (by k_mem) (by omega) (by assumption) (by assumption) (by with_unfolding_all rfl) ?_; k_whole))
  k_with "binaryOp Add str str" => (k_here; refine wpAny_toks ?_; k_dflt (refine' SB.add ?_ (by assumption); k_whole); intro _ _ _)
  k_with "call ref" => (k_here; (with_reducible show wpAny _ _ (call (Value.ref 263) _) _ _ _); refine wpAny_toks ?_; k_dflt (refine' ws_spec (m := _) (by assumption) (by assumption) (by assumption) (by assumption) (by assumption) (by exact lawScope_kind) (by omega) (by assumption) (by assumption) ?_; k_whole); intro _ _ _ _ _ _ _ _ _)
  k_with "call ref" => (k_here; (with_reducible show wpAny _ _ (call (Value.ref 232) _) _ _ _); refine wpAny_toks ?_; k_dflt (refine' lev_spec (m := _) (by assumption) (by assumption) (by assumption) (by assumption) (by assumption) (by exact lawScope_kind) (by omega) (by exact WsObj.mono (by assumption) (fun _ h => by (repeat (refine List.mem_cons_of_mem _ ?_)); exact h)) (by assumption) (by assumption) (by omega) (by omega) ?_; k_whole); intro _ _ _ _ _ _)
  k_with "getMethod ref" => (k_here;    k_dflt (refine' acc_method (by exact Frag.In.keeps (by assumption) (Fr.keep (by assumption))) (acc_inst (by assumption) (by k_mem) (by k_mem)) (by k_is) (by decide +kernel) (by k_is) (by k_is) (by k_is) (by decide) (by exact rfl) ?_; k_whole))
  k_with "call ref" => (k_here; (with_reducible show wpAny _ _ (call (Value.ref 45) _) _ _ _); refine wpAny_toks ?_; k_dflt (refine' push2_spec (m := _) (by assumption) (by assumption) (by assumption) (by assumption) (by assumption) (by first | exact rfl | assumption) (by assumption) (by (dsimp only [ktrTop, Around.deeper] at *; omega)) (by assumption) rfl (by assumption) ?_; k_whole); intro _ _ _ _ _ _ _ _ _)
  k_with "execs cons" => (k_here; (with_reducible refine wpAny_execs_cons ?_); try dsimp only)
  trivial
theorem partC {w : World} {p : Program} {loose : List Str} {mean : ExcName → Option Value} {mg mb : Str → Option Value} {dp un : Nat} {gd : Option (List Code)} {cn : Str} {a : Addr} {ccd : Value} {outer : List Env} {A₀ : Around} {base h₀ : Heap} {L : Addr} {m mc : Str → Option Value} {rest cells : List (Addr × Obj)} {s : Shared} {Q : Flow → Shared → Prop} {E : Value → Shared → Prop} {DL : Addr} {ys : List Value} {cs : List Int} {f g : Int} {tf tg tl : Tok} (B : Below A₀ base outer h₀) (X : (Mine.hA.heap_1_39 w.params).In h₀) (T : Top p loose mean mg mb h₀) (hd : dp + 20 < recursionLimit) (hu : un + 300 < cLine) (F : Fr h₀ L s.heap m) (N : News h₀ L s.heap (rest ++ cells)) (CA : CellsAre mc (cellsFrom (L + 1) lawScope.names []) cells) (hr : ∀ p ∈ rest, NC p.2) (mL : (DL, LCg.lst ys) ∈ rest) (hL : LeadsAre ys cs) (z1 : cs.length = 6) (hm1 : mc (Str.ofString "leads") = some (.ref DL)) (hm2 : mc (Str.ofString "first") = some (.int f tf)) (hm3 : mc (Str.ofString "second") = some (.int g tg)) (hm4 : mc (Str.ofString "letters") = some (.str (Str.ofString "abcdef") tl))      (f2 : 2 ≤ f) (f4 : f ≤ 4) (g1 : 1 ≤ g) (g4 : g ≤ 4)
    (hret : ∀ pg dpg od its n DR rv kr tl' h' tk' m' cells', Fr h₀ L h' m' → News h₀ L h' (((pg, accObj dpg its n) :: (dpg, od) :: (DR, W.listOf rv.toArray kr) :: (tl' ++ rest)) ++ cells') → CellsAre (upd mc (Str.ofString "rows") (.ref DR)) (cellsFrom (L + 1) lawScope.names []) cells' → (∀ p ∈ (pg, accObj dpg its n) :: (dpg, od) :: (DR, W.listOf rv.toArray kr) :: (tl' ++ rest), NC p.2) → IsAccD od →        (∀ p ∈ (dpg, od) :: (DR, W.listOf rv.toArray kr) :: (tl' ++ (rest ++ cells')), p.1 ≠ pg) → PageAt (fun j => ys.getD j .none) tk' tl' its 6 → RowsAt (fun j => colN f (cs.getD j 0)) (fun j => colN g (cs.getD j 0)) tl' rv 6 → m' (Str.ofString "page") = some (.ref pg) → 0 < tk' → s.toks ≤ tk' → wpAny (model Challenge.rw_xg0084_01.row.toRowW.prog w) (ktrTop dp un gd cn lawScope L a ccd (cellsFrom (L + 1) lawScope.names []) outer) (execs (lawBody.drop 11) (envX cn lawScope L a ccd (cellsFrom (L + 1) lawScope.names []))) Q E { s with heap := h', toks := tk' }) :
    wpAny (model Challenge.rw_xg0084_01.row.toRowW.prog w) (ktrTop dp un gd cn lawScope L a ccd (cellsFrom (L + 1) lawScope.names []) outer) (execs (lawBody.drop 8) (envX cn lawScope L a ccd (cellsFrom (L + 1) lawScope.names []))) Q E s := by
  have _q : Challenge.rw_xg0084_01 = Challenge.rw_xg0084_01 ∧ Mine.hA.heap_1_39 = Mine.hA.heap_1_39 := by (k_fill; exact ⟨rfl, rfl⟩)
  show wpAny _ _ (execs (_ :: _) _) _ _ _
  repeat' ((fail_if_success (with_reducible show wpAny _ _ (exec (PySem.Stmt.For _ _ _ _ _) _) _ _ _)); (fail_if_success (with_reducible show wpAny _ _ (exec (PySem.Stmt.While _ _ _ _) _) _ _ _)); (fail_if_success (with_reducible show wpAny _ _ (eval (PySem.Expr.ListComp _ _ _ _) _) _ _ _)); (fail_if_success (with_reducible show wpAny _ _ (eval (PySem.Expr.DictComp _ _ _ _ _) _) _ _ _)); (fail_if_success (with_reducible show wpAny _ _ (exec (PySem.Stmt.Assign _ (PySem.Expr.ListComp _ _ _ _) _) _) _ _ _)); (fail_if_success (with_reducible show wpAny _ _ (exec (PySem.Stmt.Assign _ (PySem.Expr.DictComp _ _ _ _ _) _) _) _ _ _)); (first | (k_unfold; (try dsimp only)) | (k_end; wrow_close) | walk1 | (dsimp only; walk1) | (leave1; walk_say "STEP leave1"; try dsimp only) | fail "no step"))
  rename_i pg dpg od n9 h9 tk9 a9 l9 g9 tz8 nc9 h8 DR h10 F10 N10 l10 h11 cells11 F11 N11 CA11
  have lpg : pg < DR := l10.1
  have ldpg : dpg < DR := l10.2.1
  have lold := allLt_of l10.2.2
  refine forT F11 ?_
  refine wpAny_toks ?_
  k_steps
  rename_i hR F12 N12 _ tzR
  dsimp only at tz8 tzR
  have ob : ∀ p ∈ rest ++ cells11, p.1 < dpg := by
    intro p hp
    rcases List.mem_append.mp hp with hp | hp
    · exact l9 p (List.mem_append_left _ hp)
    · exact cells_lt CA CA11 (fun q hq => l9 q (List.mem_append_right _ hq)) p hp
  have hcb : ∀ p ∈ cells11, p ∈ rest ++ cells11 := fun p hp => List.mem_append_right _ hp
  have mLb : (DL, LCg.lst ys) ∈ rest ++ cells11 := List.mem_append_left _ mL
  have hn1 := neN (Ne.symm (Nat.ne_of_lt g9) : pg ≠ dpg)
  have hn2 := neN (Nat.ne_of_gt lpg : DR ≠ pg)
  have hn3 := neN (Nat.ne_of_gt ldpg : DR ≠ dpg)
  generalize hbase : rest ++ cells11 = base at *
  refine tsrc_range (n := 6) (m := _) (news := (pg, accObj dpg [] n9) :: (dpg, od) :: (DR, W.listOf #[] 0) :: ([] ++ base)) (PgInv (fun j => ys.getD j .none) (fun j => colN f (cs.getD j 0)) (fun j => colN g (cs.getD j 0)) pg dpg DR od base) rfl F12 (cb_drop N12 fun p hp => ?_) hR (by decide) (by decide) ⟨_, _, rfl⟩ ⟨[], n9, [], 0, [], rfl, (fun _ h => nomatch h), ?_, ⟨rfl, fun j h => absurd h (Nat.not_lt_zero _)⟩, ⟨rfl, fun j h => absurd h (Nat.not_lt_zero _)⟩, rfl⟩ ?_ ?_
  · show p ∈ (DR, W.listOf #[] 0) :: (pg, accObj dpg [] n9) :: (dpg, od) :: (rest ++ cells11)
    rw [hbase]
    (revert p; (repeat' (first | refine List.forall_mem_cons.mpr ⟨?_, ?_⟩ | refine List.forall_mem_append.mpr ⟨?_, ?_⟩ | exact List.forall_mem_nil _)); all_goals (first | (intro p9 hp9; solve_by_elim (maxDepth := 24) only [hp9, List.mem_cons_of_mem, List.mem_append_left, List.mem_append_right]) | solve_by_elim (maxDepth := 24) only [List.mem_cons_self, List.mem_cons_of_mem, List.mem_append_left, List.mem_append_right]))
  · intro p hp
    have q := ob p hp
    exact ⟨Nat.ne_of_lt (Nat.lt_trans q g9), Nat.ne_of_lt q, Nat.ne_of_lt (Nat.lt_trans q ldpg)⟩
  · rintro i t m₁ nw gg I tk₀ hi ⟨its, n', rv, kr, tl9, rfl, nctl, offtl, hP, hRw, hmp⟩ tle
    rw [Int.zero_add]
    refine TTurn.name rfl rfl ?_
    intro oI h tk F N off tle2
    have hI1 : @Ne Nat pg I := off (pg, _) List.mem_cons_self
    have hI2 : @Ne Nat dpg I := off (dpg, _) (List.mem_cons_of_mem _ List.mem_cons_self)
    have hI3 : @Ne Nat DR I := off (DR, _) (List.mem_cons_of_mem _ (List.mem_cons_of_mem _ List.mem_cons_self))
    have offI : ∀ p ∈ tl9 ++ base, p.1 ≠ I := fun p hp => off p (List.mem_cons_of_mem _ (List.mem_cons_of_mem _ (List.mem_cons_of_mem _ hp)))
    have hcb2 : ∀ p ∈ cells11, p ∈ tl9 ++ base := fun p hp => List.mem_append_right _ (hcb p hp)
    have mLb2 : (DL, LCg.lst ys) ∈ tl9 ++ base := List.mem_append_right _ mLb
    have hci : cs[i]? = some (cs.getD i 0) := by rw [List.getD, List.getElem?_eq_getElem (by omega)]; rfl
    obtain ⟨tLd, hyi⟩ := hL.2 i _ hci
    have hyi' : ys[((i : Nat) : Int).toNat]? = some (.str (leadS (cs.getD i 0)) tLd) := hyi
    have hyl : ys.length < 2 ^ 62 := by have := hL.1; omega
    have hszl : (leadS (cs.getD i 0)).length + (letter i).length ≤ sizeLine := by
      have := lead_size (cs.getD i 0)
      rw [sizeLine_eq]
      show (leadS (cs.getD i 0)).cps.size + 1 ≤ _
      omega
    have hla := line_asc (c := cs.getD i 0) hi
    have hls := line_size (cs.getD i 0) i
    obtain ⟨wf1, wf2, wf3⟩ := ws_facts (c := cs.getD i 0) hi
    generalize hwst : wsRun (leadS (cs.getD i 0) ++ letter i).cps.toList ⟨0, 0, 0, []⟩ = wst at wf1 wf2 wf3
    generalize hnb : tl9 ++ base = nb at *
    repeat' ((fail_if_success (with_reducible show wpAny _ _ (execs (PySem.Stmt.Expr _ _ :: _) _) _ _ _)); (fail_if_success (with_reducible show wpAny _ _ (exec (PySem.Stmt.For _ _ _ _ _) _) _ _ _)); (fail_if_success (with_reducible show wpAny _ _ (exec (PySem.Stmt.While _ _ _ _) _) _ _ _)); (fail_if_success (with_reducible show wpAny _ _ (eval (PySem.Expr.ListComp _ _ _ _) _) _ _ _)); (fail_if_success (with_reducible show wpAny _ _ (eval (PySem.Expr.DictComp _ _ _ _ _) _) _ _ _)); (fail_if_success (with_reducible show wpAny _ _ (exec (PySem.Stmt.Assign _ (PySem.Expr.ListComp _ _ _ _) _) _) _ _ _)); (fail_if_success (with_reducible show wpAny _ _ (exec (PySem.Stmt.Assign _ (PySem.Expr.DictComp _ _ _ _ _) _) _) _ _ _)); (first | (k_unfold; (try dsimp only)) | (k_end; wrow_close) | walk1 | (dsimp only; walk1) | (leave1; walk_say "STEP leave1"; try dsimp only) | fail "no step"))
    rename_i t12 tk12 tz12 x9 tw9 h9 tk9 w9 l9' tz13 h13 F13 N13
    have N14 : News h₀ L h13 ((I, oI) :: (pg, accObj dpg its n') :: (dpg, od) :: (DR, W.listOf rv.toArray kr) :: (nb ++ tw9)) := N13
    have hcb3 : ∀ p ∈ cells11, p ∈ nb ++ tw9 := fun p hp => List.mem_append_left _ (hcb2 p hp)
    have mLb3 : (DL, LCg.lst ys) ∈ nb ++ tw9 := List.mem_append_left _ mLb2
    have off3 : ∀ p ∈ nb ++ tw9, p.1 ≠ pg ∧ p.1 ≠ dpg ∧ p.1 ≠ DR ∧ p.1 ≠ I := fun p hp => by
      rcases List.mem_append.mp hp with hp | hp
      · obtain ⟨a1, a2, a3⟩ := offtl p hp
        exact ⟨a1, a2, a3, offI p hp⟩
      · exact ⟨Nat.ne_of_gt (l9' (pg, accObj dpg its n') (List.mem_cons_of_mem _ List.mem_cons_self) p hp), Nat.ne_of_gt (l9' (dpg, od) (List.mem_cons_of_mem _ (List.mem_cons_of_mem _ List.mem_cons_self)) p hp),
          Nat.ne_of_gt (l9' (DR, W.listOf rv.toArray kr) (List.mem_cons_of_mem _ (List.mem_cons_of_mem _ (List.mem_cons_of_mem _ List.mem_cons_self))) p hp), Nat.ne_of_gt (l9' (I, oI) List.mem_cons_self p hp)⟩
    have w10 : WsObj (nb ++ tw9) x9 wst := hwst ▸ w9.mono fun p hp => List.mem_append_right _ hp
    have subw : ∀ p ∈ nb, p ∈ nb ++ tw9 := fun p hp => List.mem_append_left _ hp
    clear N13 w9 l9'
    generalize nb ++ tw9 = nb2 at *
    have w11 := w10
    obtain ⟨d, h1', k1, v1, h2', k2, v2, h3', k3, tnt, h4', k4, nm, h5', k5, v5, ct, vs, tb, m1, m2, m3, m4, hvs⟩ := w10
    have offDR : ∀ p ∈ nb2, p.1 ≠ DR := fun p hp => (off3 p hp).2.2.1
    have hrl : rv.length = i := hRw.1
    walk1
    repeat' ((fail_if_success (with_reducible show wpAny _ _ (execs (PySem.Stmt.Expr _ _ :: _) _) _ _ _)); (fail_if_success (with_reducible show wpAny _ _ (exec (PySem.Stmt.For _ _ _ _ _) _) _ _ _)); (fail_if_success (with_reducible show wpAny _ _ (exec (PySem.Stmt.While _ _ _ _) _) _ _ _)); (fail_if_success (with_reducible show wpAny _ _ (eval (PySem.Expr.ListComp _ _ _ _) _) _ _ _)); (fail_if_success (with_reducible show wpAny _ _ (eval (PySem.Expr.DictComp _ _ _ _ _) _) _ _ _)); (fail_if_success (with_reducible show wpAny _ _ (exec (PySem.Stmt.Assign _ (PySem.Expr.ListComp _ _ _ _) _) _) _ _ _)); (fail_if_success (with_reducible show wpAny _ _ (exec (PySem.Stmt.Assign _ (PySem.Expr.DictComp _ _ _ _ _) _) _) _ _ _)); (first | (k_unfold; (try dsimp only)) | (k_end; wrow_close) | walk1 | (dsimp only; walk1) | (leave1; walk_say "STEP leave1"; try dsimp only) | fail "no step"))
    rename_i t15 h14 tk14 tz14 t16 h15 tk15 tz15 D15 h16 l15 h17 F17 N17
    have l15' := allLt_of l15.2.2.2.2
    have N18 : News h₀ L h17 ((pg, accObj dpg its n') :: (dpg, od) :: (D15, tupO [.int (levF f wst) t15, .int (levF g wst) t16, .int (i : Int) t]) :: (I, oI) :: (DR, W.listOf (rv ++ [Value.ref D15]).toArray (kr + 1)) :: nb2) := cb_drop N17 fun p hp => by
      simp only [List.mem_cons] at hp ⊢
      rcases hp with hp | hp | hp | hp | hp | hp <;> simp [hp]
    have o18 : ∀ p ∈ (dpg, od) :: (D15, tupO [.int (levF f wst) t15, .int (levF g wst) t16, .int (i : Int) t]) :: (I, oI) :: (DR, W.listOf (rv ++ [Value.ref D15]).toArray (kr + 1)) :: nb2, p.1 ≠ pg := fun p hp => by
      simp only [List.mem_cons] at hp
      rcases hp with rfl | rfl | rfl | rfl | hp
      · exact Ne.symm hn1
      · exact Nat.ne_of_gt l15.2.1
      · exact Ne.symm hI1
      · exact hn2
      · exact (off3 p hp).1
    clear N17
    have hpl : its.length ≤ 100 := by rw [hP.1]; omega
    have hod9 := a9
    obtain ⟨hh0, tk0, v0, k0, rfl⟩ := id a9
    k_steps
    rename_i D9 h19 tk19 n19 F19 N19 o19 d19 tz19
    have hD9d : @Ne Nat D9 dpg := news_ne N19 (List.mem_cons_of_mem _ (List.mem_cons_of_mem _ List.mem_cons_self)) (List.mem_cons_of_mem _ List.mem_cons_self) (fun e => absurd (congrArg (fun o : Obj => o.cls) e) (by simp))
    have hD9p : @Ne Nat D9 pg := o19 _ (List.mem_cons_of_mem _ List.mem_cons_self)
    have hD9I : @Ne Nat I D9 := d19 (I, oI) (List.mem_cons_of_mem _ List.mem_cons_self)
    have hD9R : @Ne Nat DR D9 := d19 _ (List.mem_cons_of_mem _ (List.mem_cons_of_mem _ List.mem_cons_self))
    have hlv : ys.getD i .none = .str (leadS (cs.getD i 0)) tLd := by rw [List.getD, hyi]; rfl
    dsimp only at tle tle2 tz12 tz13 tz14 tz15 tz19
    have hpos15 : @LT.lt Nat _ 0 tk15 := by omega
    have hlt15 : @LT.lt Nat _ tk15 tk19 := by omega
    refine TEnd.intro F19 N19 ((pg, accObj dpg (its ++ [Value.ref D9]) n19) :: (dpg, dictOf [⟨hh0, Value.str (Str.ofString "_initial_size") tk0, v0⟩] k0) :: (DR, W.listOf (rv ++ [Value.ref D15]).toArray (kr + 1)) :: (((D9, tupO [Value.str (leadS (cs.getD i 0)) tLd, Value.str (letter i) tk15]) :: (D15, tupO [.int (levF f wst) t15, .int (levF g wst) t16, .int (i : Int) t]) :: tl9) ++ base)) ?_ ?_ ⟨_, _, _, _, _, rfl, ?_, ?_, ?_, ?_, hmp⟩
    · intro p hp
      simp only [List.mem_cons, List.cons_append] at hp ⊢
      rcases hp with hp | hp | hp | hp | hp | hp | hp
      · simp [hp]
      · simp [hp]
      · simp [hp]
      · simp [hp]
      · simp [hp]
      · simp [hp]
      · have := subw p (hnb ▸ hp)
        simp [this]
    · intro p hp
      simp only [List.mem_cons, List.cons_append] at hp
      rcases hp with rfl | rfl | rfl | rfl | rfl | hp
      · exact hI1
      · exact hI2
      · exact hI3
      · exact Ne.symm hD9I
      · exact Nat.ne_of_gt l15.1
      · exact offI p (hnb ▸ hp)
    · intro p hp
      rcases List.mem_cons.mp hp with rfl | hp
      · intro v e; cases e
      · rcases List.mem_cons.mp hp with rfl | hp
        · intro v e; cases e
        · exact nctl p hp
    · intro p hp
      simp only [List.mem_cons, List.cons_append] at hp
      rcases hp with rfl | rfl | hp
      · exact ⟨hD9p, hD9d, Ne.symm hD9R⟩
      · exact ⟨Nat.ne_of_gt l15.2.1, Nat.ne_of_gt l15.2.2.1, Nat.ne_of_gt l15.2.2.2.1⟩
      · exact offtl p (hnb ▸ hp)
    · refine (hP.up (fun p hp => List.mem_cons_of_mem _ (List.mem_cons_of_mem _ hp)) (by omega)).snoc (k := 0) ?_ hpos15 hlt15
      show (D9, tupO [ys.getD i .none, Value.str (letter i) tk15]) ∈ _
      rw [hlv]
      exact List.mem_cons_self
    · refine (hRw.up (fun p hp => List.mem_cons_of_mem _ (List.mem_cons_of_mem _ hp))).snoc (t0 := t15) (t1 := t16) (t2 := t) ?_
      rw [← wf1 f (by omega) f4, ← wf1 g g1 g4]
      exact List.mem_cons_of_mem _ List.mem_cons_self
  · rintro m₁ nw h tk tk₀ ⟨its, n', rv, kr, tl9, rfl, nctl, offtl, hP, hRw, hmp⟩ F N tle tle2
    refine wpAny_execs_nil ?_
    dsimp only at tle tle2
    subst hbase
    refine hret pg dpg od its n' DR rv kr tl9 h tk m₁ cells11 F (cb_drop N fun p hp => ?_) CA11 ?_ a9 ?_ (hP.up (fun _ h => h) tle2) hRw hmp ?_ ?_
    · (revert p; (repeat' (first | refine List.forall_mem_cons.mpr ⟨?_, ?_⟩ | refine List.forall_mem_append.mpr ⟨?_, ?_⟩ | exact List.forall_mem_nil _)); all_goals (first | (intro p9 hp9; solve_by_elim (maxDepth := 24) only [hp9, List.mem_cons_of_mem, List.mem_append_left, List.mem_append_right]) | solve_by_elim (maxDepth := 24) only [List.mem_cons_self, List.mem_cons_of_mem, List.mem_append_left, List.mem_append_right]))
    · intro p hp
      simp only [List.mem_cons, List.mem_append] at hp
      rcases hp with rfl | rfl | rfl | hp | hp
      · intro v e; cases e
      · exact nc9
      · intro v e; cases e
      · exact nctl p hp
      · exact hr p hp
    · intro p hp
      simp only [List.mem_cons] at hp
      rcases hp with rfl | rfl | hp
      · exact Ne.symm hn1
      · exact hn2
      · exact (offtl p hp).1
    · obtain ⟨_, _, tq, _, _, c1, c2⟩ := hP.2 0 (by decide)
      exact Nat.lt_of_lt_of_le (Nat.lt_trans c1 c2) tle2
    · exact Nat.le_trans tz8 (Nat.le_trans (Nat.le_of_succ_le tzR) (Nat.le_trans tle tle2))
end
end
-- Law9
section
theorem kr_Law9 : True := by
  k_with_none
  w_top off
  trivial
open PySem PySem.W PyProof.Rows PySem.Calls PySem.Spec
noncomputable def rowsD (va vb : Nat → Int) (n : Nat) : List PyData := (List.range n).map fun j => .tuple [.int (va j), .int (vb j), .int (j : Nat)]
theorem rows_reads {h₀ h : Heap} {L l k : Addr} {all nw : List (Addr × Obj)} {rv : List Value} {va vb : Nat → Int} {n : Nat} (N : News h₀ L h all) (hm : (l, W.listOf rv.toArray k) ∈ all) (hR : RowsAt va vb nw rv n) (hs : ∀ p ∈ nw, p ∈ all) : ∃ as, Reads h (.ref l) (.list (rowsD va vb n)) as := by
  refine list_reads N hm (by rw [hR.1]; simp [rowsD]) fun i v d hv hd => ?_
  have hi : i < n := by rw [← hR.1]; exact (List.getElem?_eq_some_iff.mp hv).1
  obtain ⟨T, t0, t1, t2, e1, e2⟩ := hR.2 i hi
  rw [e1] at hv
  cases hv
  have : d = .tuple [.int (va i), .int (vb i), .int (i : Nat)] := by
    unfold rowsD at hd
    rw [List.getElem?_map, List.getElem?_range hi] at hd
    exact (Option.some.inj hd).symm
  subst this
  exact ⟨_, tup_reads N (hs _ e2) (.cons (.int _ _) (.cons (.int _ _) (.cons (.int _ _) .nil)))⟩
theorem lead_col (g c : Int) : colF g 0 (leadS c).cps.toList = colN g c := by rw [leadS_cps]; rfl
section
theorem kw_505245_1 : True := by
  k_with "eval Name" => (k_here; k_dflt (refine' lw_name (by k_asm) (by assumption) (by (intro q9 hq9; (repeat (refine List.mem_cons_of_mem _ ?_)); first | exact List.mem_append_right _ hq9 | solve_by_elim)) (by rfl) (by first | rfl | assumption) ?_ (by exact lawScope_kind) (by rfl) (by rfl); k_whole))
  k_with "eval Name" => (k_here; k_dflt (refine' nameX_L (by k_asm) (by first | rfl | assumption) ?_ (by exact lawScope_kind) (by rfl); k_whole))
  k_with "storeName" => (k_here; k_dflt (first | (refine' lw_put (by k_asm) (by first | assumption | exact (show News _ _ _ ((_ :: _) ++ _) from by assumption) | exact (show News _ _ _ ((_ :: _ :: _) ++ _) from by assumption) | exact (show News _ _ _ ((_ :: _ :: _ :: _) ++ _) from by assumption) | exact (show News _ _ _ ((_ :: _ :: _ :: _ :: _) ++ _) from by assumption) | exact (show News _ _ _ ((_ :: _ :: _ :: _ :: _ :: _) ++ _) from by assumption) | exact (show News _ _ _ ((_ :: _ :: _ :: _ :: _ :: _ :: _) ++ _) from by assumption)) (by assumption) (by ((repeat (refine List.forall_mem_cons.mpr ⟨by first | (intro v9 h9; cases h9; done) | assumption, ?_⟩)); first | assumption | exact (fun _ h => nomatch h))) (by rfl) ?_ (by rfl); k_whole)); intro _ _ _ _ _)
  trivial

theorem kw_505245_2 : True := by
  k_with "eval Name" => (k_here; (with_reducible show wpAny _ _ (eval (Expr.Name _ _) (compEnvC _ _ _ _)) _ _ _); k_dflt (refine' lw_comp (by k_asm) (by assumption) (by (intro q9 hq9; (repeat (refine List.mem_cons_of_mem _ ?_)); first | exact List.mem_append_right _ hq9 | solve_by_elim)) (by rfl) (by rfl) (by first | rfl | assumption) ?_ (by rfl) (by first | exact .inl rfl | exact .inr rfl) (by rfl) (by rfl); k_whole))
  trivial

theorem kw_505245_3 : True := by
  k_with "subscriptTail" => (k_here; (with_reducible show wpAny _ _ (subscriptTail _ _ (Value.ref _) (Value.int _ _)) _ _ _); k_dflt (refine' LL.item (by k_asm) (by k_mem) (by omega) (by assumption) (by assumption) (by with_unfolding_all rfl) ?_; k_whole))
  k_with "call ref" => (k_here; (with_reducible show wpAny _ _ (call (Value.ref 281) _) _ _ _); k_dflt (refine' column_spec (m := _) (by assumption) (by assumption) (by assumption) (by assumption) (by assumption) (by exact lawScope_kind) (by omega) (by assumption) (by assumption) (by omega) (by omega) ?_; k_whole); intro _ _ _ _ _)
  k_with "compareOp NotEq ref ref" => (k_here; k_dflt (refine' ne_same (by assumption) (by assumption) (by assumption) (by (show un + 64 < cLine; omega)) ?_; k_whole))
  trivial
theorem partD {w : World} {p : Program} {loose : List Str} {mean : ExcName → Option Value} {mg mb : Str → Option Value} {dp un : Nat} {gd : Option (List Code)} {cn : Str} {a : Addr} {ccd : Value} {outer : List Env} {A₀ : Around} {base h₀ : Heap} {L : Addr} {m mc : Str → Option Value} {rest cells : List (Addr × Obj)} {s : Shared} {Q : Flow → Shared → Prop} {E : Value → Shared → Prop} {DL DR kr : Addr} {ys rv : List Value} {cs : List Int} {f g : Int} {tf tg : Tok} (B : Below A₀ base outer h₀) (X : (Mine.hA.heap_1_39 w.params).In h₀) (T : Top p loose mean mg mb h₀) (hd : dp + 20 < recursionLimit) (hu : un + 300 < cLine) (F : Fr h₀ L s.heap m) (N : News h₀ L s.heap (rest ++ cells)) (CA : CellsAre mc (cellsFrom (L + 1) lawScope.names []) cells) (hr : ∀ p ∈ rest, NC p.2) (mL : (DL, LCg.lst ys) ∈ rest) (hL : LeadsAre ys cs) (z1 : cs.length = 6) (hm1 : mc (Str.ofString "leads") = some (.ref DL)) (hm2 : mc (Str.ofString "first") = some (.int f tf)) (hm3 : mc (Str.ofString "second") = some (.int g tg))      (f2 : 2 ≤ f) (f4 : f ≤ 4) (g1 : 1 ≤ g) (g4 : g ≤ 4) (hm4 : mc (Str.ofString "rows") = some (.ref DR)) (mR : (DR, W.listOf rv.toArray kr) ∈ rest) (hR : RowsAt (fun j => colN f (cs.getD j 0)) (fun j => colN g (cs.getD j 0)) rest rv 6)
    (hret : ∀ h' tk', Fr h₀ L h' m → News h₀ L h' (rest ++ cells) → s.toks ≤ tk' → wpAny (model Challenge.rw_xg0084_01.row.toRowW.prog w) (ktrTop dp un gd cn lawScope L a ccd (cellsFrom (L + 1) lawScope.names []) outer) (execs (lawBody.drop 12) (envX cn lawScope L a ccd (cellsFrom (L + 1) lawScope.names []))) Q E { s with heap := h', toks := tk' }) :
    wpAny (model Challenge.rw_xg0084_01.row.toRowW.prog w) (ktrTop dp un gd cn lawScope L a ccd (cellsFrom (L + 1) lawScope.names []) outer) (execs (lawBody.drop 11) (envX cn lawScope L a ccd (cellsFrom (L + 1) lawScope.names []))) Q E s := by
  have _q : Challenge.rw_xg0084_01 = Challenge.rw_xg0084_01 ∧ Mine.hA.heap_1_39 = Mine.hA.heap_1_39 := by (k_fill; exact ⟨rfl, rfl⟩)
  have hcs : ∀ p ∈ cells, p ∈ rest ++ cells := fun p hp => List.mem_append_right _ hp
  have hrs : ∀ p ∈ rest, p ∈ rest ++ cells := fun p hp => List.mem_append_left _ hp
  have mL2 := hrs _ mL
  have mR2 := hrs _ mR
  generalize hbase : rest ++ cells = base at *
  show wpAny _ _ (execs (_ :: _) _) _ _ _
  walk1
  refine wpAny_toks ?_
  repeat' ((fail_if_success (with_reducible show wpAny _ _ (exec (PySem.Stmt.For _ _ _ _ _) _) _ _ _)); (fail_if_success (with_reducible show wpAny _ _ (exec (PySem.Stmt.While _ _ _ _) _) _ _ _)); (fail_if_success (with_reducible show wpAny _ _ (eval (PySem.Expr.ListComp _ _ _ _) _) _ _ _)); (fail_if_success (with_reducible show wpAny _ _ (eval (PySem.Expr.DictComp _ _ _ _ _) _) _ _ _)); (fail_if_success (with_reducible show wpAny _ _ (exec (PySem.Stmt.Assign _ (PySem.Expr.ListComp _ _ _ _) _) _) _ _ _)); (fail_if_success (with_reducible show wpAny _ _ (exec (PySem.Stmt.Assign _ (PySem.Expr.DictComp _ _ _ _ _) _) _) _ _ _)); (first | (k_unfold; (try dsimp only)) | (k_end; wrow_close) | walk1 | (dsimp only; walk1) | (leave1; walk_say "STEP leave1"; try dsimp only) | fail "no step"))
  refine compG F (by with_unfolding_all rfl) (by decide) (by rfl) (by decide) ?_
  k_steps
  rename_i hR9 F9 N9 _
  refine src_range (n := 6) (m := m) (news := base) (fun i ys' nw => ∃ tl, nw = tl ++ base ∧ RowsAt (fun j => colN f (cs.getD j 0)) (fun j => colN g (cs.getD j 0)) tl ys' i) rfl F9 N9 hR9 (by decide) (by decide) (by decide) ⟨_, _, rfl⟩ ⟨[], rfl, rfl, fun j h => absurd h (Nat.not_lt_zero _)⟩ ?_ ?_
  · rintro i t ys' nw gg I hi hly ⟨tl, rfl, hT⟩
    rw [Int.zero_add]
    refine CTurn.name rfl rfl ?_
    intro oI C oC D2 m₁ h tk E' hC hmv F N off ne tle
    refine tests0 ?_
    rw [if_pos rfl]
    have off3 := off.mem
    have hcs2 : ∀ p ∈ cells, p ∈ tl ++ base := fun p hp => List.mem_append_right _ (hcs p hp)
    have mL3 : (DL, LCg.lst ys) ∈ tl ++ base := List.mem_append_right _ mL2
    have hci : cs[i]? = some (cs.getD i 0) := by rw [List.getD, List.getElem?_eq_getElem (by omega)]; rfl
    obtain ⟨tLd, hyi⟩ := hL.2 i _ hci
    have hyi' : ys[((i : Nat) : Int).toNat]? = some (.str (leadS (cs.getD i 0)) tLd) := hyi
    have hyl : ys.length < 2 ^ 62 := by have := hL.1; omega
    have hla := lead_asc (cs.getD i 0)
    have hls : (leadS (cs.getD i 0)).cps.size ≤ 100 := Nat.le_trans (lead_size _) (by decide)
    have hsub : ∀ p ∈ tl ++ base, p ∈ tl ++ base := fun _ h => h
    generalize hnb : tl ++ base = nb at off off3 N hcs2 mL3
    k_steps
    rename_i t12 _ _ _ t13 _ _ D15 _ F15 N15 l15
    rw [lead_col, lead_col] at N15
    subst hnb
    have l15' := allLt_of l15.2.2.2
    refine CEnd.intro F15 N15 ((D15, tupO [.int (colN f (cs.getD i 0)) t12, .int (colN g (cs.getD i 0)) t13, .int (i : Nat) t]) :: (tl ++ base)) (fun p hp => ?_) hC ?_ trivial ⟨_ :: tl, rfl, ?_⟩
    · (revert p; (repeat' (first | refine List.forall_mem_cons.mpr ⟨?_, ?_⟩ | refine List.forall_mem_append.mpr ⟨?_, ?_⟩ | exact List.forall_mem_nil _)); all_goals (first | (intro p9 hp9; solve_by_elim (maxDepth := 24) only [hp9, List.mem_cons_of_mem, List.mem_append_left, List.mem_append_right]) | solve_by_elim (maxDepth := 24) only [List.mem_cons_self, List.mem_cons_of_mem, List.mem_append_left, List.mem_append_right]))
    · exact ⟨⟨Nat.ne_of_gt l15.1, Nat.ne_of_gt l15.2.1, Nat.ne_of_gt l15.2.2.1⟩, off⟩
    · exact (hT.up fun p hp => List.mem_cons_of_mem _ hp).snoc List.mem_cons_self
  · rintro ys' nw gg ⟨tl, rfl, hT⟩ D2 h tk F N o1
    obtain ⟨as1, rd1⟩ := rows_reads N (List.mem_cons_of_mem _ (List.mem_append_right _ mR2)) hR (fun p hp => List.mem_cons_of_mem _ (List.mem_append_right _ (hrs p hp)))
    obtain ⟨as2, rd2⟩ := rows_reads N List.mem_cons_self hT (fun p hp => List.mem_cons_of_mem _ (List.mem_append_left _ hp))
    have hsh : SeqAt.shaped (.list (rowsD (fun j => colN f (cs.getD j 0)) (fun j => colN g (cs.getD j 0)) 6)) = true := by rfl
    refine ne_same rd1 rd2 hsh (show un + 64 < cLine by omega) ?_
    repeat' ((fail_if_success (with_reducible show wpAny _ _ (execs (PySem.Stmt.Assign [PySem.Expr.Name (PySem.Str.ofString "keys") _] _ _ :: _) _) _ _ _)); (fail_if_success (with_reducible show wpAny _ _ (exec (PySem.Stmt.For _ _ _ _ _) _) _ _ _)); (fail_if_success (with_reducible show wpAny _ _ (exec (PySem.Stmt.While _ _ _ _) _) _ _ _)); (fail_if_success (with_reducible show wpAny _ _ (eval (PySem.Expr.ListComp _ _ _ _) _) _ _ _)); (fail_if_success (with_reducible show wpAny _ _ (eval (PySem.Expr.DictComp _ _ _ _ _) _) _ _ _)); (fail_if_success (with_reducible show wpAny _ _ (exec (PySem.Stmt.Assign _ (PySem.Expr.ListComp _ _ _ _) _) _) _ _ _)); (fail_if_success (with_reducible show wpAny _ _ (exec (PySem.Stmt.Assign _ (PySem.Expr.DictComp _ _ _ _ _) _) _) _ _ _)); (first | (k_unfold; (try dsimp only)) | (k_end; wrow_close) | walk1 | (dsimp only; walk1) | (leave1; walk_say "STEP leave1"; try dsimp only) | fail "no step"))
    rename_i tz
    exact hret _ _ F (cb_drop N fun p hp => List.mem_cons_of_mem _ (List.mem_append_right _ hp)) tz
end
end
-- Law10
section
theorem kr_Law10 : True := by
  k_with_none
  w_top off
  trivial
open PySem PySem.W PyProof.Rows PySem.Calls PySem.Spec
noncomputable def chk2 (a b d : Nat) : Bool := [1, 2, 3, 4].all fun g : Int => decide (0 ≤ colF g 0 (leadT a b d)) && decide (colF g 0 (leadT a b d) ≤ 100)
theorem chk2_all : ((List.range 4).all fun a => (List.range 3).all fun b => (List.range 3).all fun d => chk2 a b d) = true := by decide +kernel
theorem colN_bound {g c : Int} (g1 : 1 ≤ g) (g4 : g ≤ 4) : 0 ≤ colN g c ∧ colN g c ≤ 100 := by
  have h := chk2_all
  rw [List.all_eq_true] at h
  have h := h _ (List.mem_range.mpr (nA_lt c))
  rw [List.all_eq_true] at h
  have h := h _ (List.mem_range.mpr (nB_lt c))
  rw [List.all_eq_true] at h
  have h := h _ (List.mem_range.mpr (nD_lt c))
  unfold chk2 at h
  rw [List.all_eq_true] at h
  have h := h g (by have : g = 1 ∨ g = 2 ∨ g = 3 ∨ g = 4 := by omega
                    simp [this])
  rw [Bool.and_eq_true] at h
  exact ⟨of_decide_eq_true h.1, of_decide_eq_true h.2⟩
section
theorem kw_53946_1 : True := by
  k_with "eval Name" => (k_here; k_dflt (refine' lw_name (by k_asm) (by assumption) (by (intro q9 hq9; (repeat (refine List.mem_cons_of_mem _ ?_)); first | exact List.mem_append_right _ hq9 | solve_by_elim)) (by rfl) (by first | rfl | assumption) ?_ (by exact lawScope_kind) (by rfl) (by rfl); k_whole))
  k_with "eval Name" => (k_here; k_dflt (refine' nameX_L (by k_asm) (by first | rfl | assumption) ?_ (by exact lawScope_kind) (by rfl); k_whole))
  k_with "storeName" => (k_here; k_dflt (first | (refine' lw_put (by k_asm) (by first | assumption | exact (show News _ _ _ ((_ :: _) ++ _) from by assumption) | exact (show News _ _ _ ((_ :: _ :: _) ++ _) from by assumption) | exact (show News _ _ _ ((_ :: _ :: _ :: _) ++ _) from by assumption) | exact (show News _ _ _ ((_ :: _ :: _ :: _ :: _) ++ _) from by assumption) | exact (show News _ _ _ ((_ :: _ :: _ :: _ :: _ :: _) ++ _) from by assumption) | exact (show News _ _ _ ((_ :: _ :: _ :: _ :: _ :: _ :: _) ++ _) from by assumption)) (by assumption) (by ((repeat (refine List.forall_mem_cons.mpr ⟨by first | (intro v9 h9; cases h9; done) | assumption, ?_⟩)); first | assumption | exact (fun _ h => nomatch h))) (by rfl) ?_ (by rfl); k_whole)); intro _ _ _ _ _)
  trivial

theorem kw_53946_2 : True := by
  k_with "eval Name" => (k_here; (with_reducible show wpAny _ _ (eval (Expr.Name _ _) (compEnvC _ _ _ _)) _ _ _); k_dflt (refine' lw_comp (by k_asm) (by assumption) (by (intro q9 hq9; (repeat (refine List.mem_cons_of_mem _ ?_)); first | exact List.mem_append_right _ hq9 | solve_by_elim)) (by rfl) (by rfl) (by first | rfl | assumption) ?_ (by rfl) (by first | exact .inl rfl | exact .inr rfl) (by rfl) (by rfl); k_whole))
  trivial

theorem kw_53946_3 : True := by
  k_with "subscriptTail Name Constant ref int" => (k_here; (with_reducible show wpAny _ _ (subscriptTail _ _ (Value.ref _) (Value.int _ _)) _ _ _); k_dflt (refine' TT.item (by k_asm) (by k_mem) (by decide) (by rfl) (by decide) ?_ (by with_unfolding_all rfl); k_whole))
  trivial
theorem partE {w : World} {p : Program} {loose : List Str} {mean : ExcName → Option Value} {mg mb : Str → Option Value} {dp un : Nat} {gd : Option (List Code)} {cn : Str} {a : Addr} {ccd : Value} {outer : List Env} {A₀ : Around} {base h₀ : Heap} {L : Addr} {m mc : Str → Option Value} {rest cells : List (Addr × Obj)} {s : Shared} {Q : Flow → Shared → Prop} {E : Value → Shared → Prop} {DR kr : Addr} {rv : List Value} {va vb : Nat → Int} {o1 o2 : Int} {t1 t2 : Tok} (B : Below A₀ base outer h₀) (X : (Mine.hA.heap_1_39 w.params).In h₀) (T : Top p loose mean mg mb h₀) (hd : dp + 20 < recursionLimit) (hu : un + 300 < cLine) (F : Fr h₀ L s.heap m) (N : News h₀ L s.heap (rest ++ cells)) (CA : CellsAre mc (cellsFrom (L + 1) lawScope.names []) cells) (hr : ∀ p ∈ rest, NC p.2) (hm1 : mc (Str.ofString "one") = some (.int o1 t1)) (hm2 : mc (Str.ofString "two") = some (.int o2 t2)) (ho1 : o1 = 1 ∨ o1 = -1) (ho2 : o2 = 1 ∨ o2 = -1)      (hm4 : mc (Str.ofString "rows") = some (.ref DR)) (mR : (DR, W.listOf rv.toArray kr) ∈ rest) (hR : RowsAt va vb rest rv 6) (hva : ∀ j, 0 ≤ va j ∧ va j ≤ 100) (hvb : ∀ j, 0 ≤ vb j ∧ vb j ≤ 100)
    (hret : ∀ DK ks tl h' tk' cells', Fr h₀ L h' m → News h₀ L h' (((DK, LCg.lst ks) :: (tl ++ rest)) ++ cells') → CellsAre (upd mc (Str.ofString "keys") (.ref DK)) (cellsFrom (L + 1) lawScope.names []) cells' → (∀ p ∈ tl, NC p.2) → RowsAt (fun j => o1 * va j) (fun j => o2 * vb j) tl ks 6 → s.toks ≤ tk' → wpAny (model Challenge.rw_xg0084_01.row.toRowW.prog w) (ktrTop dp un gd cn lawScope L a ccd (cellsFrom (L + 1) lawScope.names []) outer) (execs (lawBody.drop 13) (envX cn lawScope L a ccd (cellsFrom (L + 1) lawScope.names []))) Q E { s with heap := h', toks := tk' }) :
    wpAny (model Challenge.rw_xg0084_01.row.toRowW.prog w) (ktrTop dp un gd cn lawScope L a ccd (cellsFrom (L + 1) lawScope.names []) outer) (execs (lawBody.drop 12) (envX cn lawScope L a ccd (cellsFrom (L + 1) lawScope.names []))) Q E s := by
  have _q : Challenge.rw_xg0084_01 = Challenge.rw_xg0084_01 ∧ Mine.hA.heap_1_39 = Mine.hA.heap_1_39 := by (k_fill; exact ⟨rfl, rfl⟩)
  have hcs : ∀ p ∈ cells, p ∈ rest ++ cells := fun p hp => List.mem_append_right _ hp
  have hrs : ∀ p ∈ rest, p ∈ rest ++ cells := fun p hp => List.mem_append_left _ hp
  have mR2 := hrs _ mR
  show wpAny _ _ (execs (_ :: _) _) _ _ _
  walk1
  refine wpAny_toks ?_
  refine PySem.wpAny_Assign_Name ?_ (by rfl)
  refine compG F (by with_unfolding_all rfl) (by decide) (by rfl) (by decide) ?_
  k_steps
  refine src_list (its := rv.toArray) (fun i ks nw => ∃ tl, nw = tl ++ (rest ++ cells) ∧ (∀ p ∈ tl, NC p.2) ∧ RowsAt (fun j => o1 * va j) (fun j => o2 * vb j) tl ks i) rfl F N (.inr ⟨_, mR2, rfl, _, rfl⟩) (by rw [sizeLine_eq, List.size_toArray, hR.1]; omega) ⟨[], rfl, (fun _ h => nomatch h), rfl, fun j h => absurd h (Nat.not_lt_zero _)⟩ ?_ ?_
  · rintro i v ks nw gg I hv hly hS ⟨tl, rfl, nctl, hT⟩
    have hv' : rv[i]? = some v := by simpa using hv
    have hi : i < 6 := by rw [← hR.1]; exact (List.getElem?_eq_some_iff.mp hv').1
    obtain ⟨T, u0, u1, u2, e1, mT⟩ := hR.2 i hi
    rw [e1] at hv'
    cases hv'
    refine CTurn.name rfl rfl ?_
    intro oI C oC D2 m₁ h tk E' hC hmv F N off ne tle
    refine tests0 ?_
    rw [if_pos rfl]
    have hcs2 : ∀ p ∈ cells, p ∈ tl ++ (rest ++ cells) := fun p hp => List.mem_append_right _ (hcs p hp)
    have mT2 : (T, tupO [.int (va i) u0, .int (vb i) u1, .int (i : Nat) u2]) ∈ tl ++ (rest ++ cells) := List.mem_append_right _ (hrs _ mT)
    have hvi := hva i
    have hwi := hvb i
    generalize hnb : tl ++ (rest ++ cells) = nb at off N hcs2 mT2
    k_steps
    rename_i D15 _ F15 N15 l15
    subst hnb
    have l15' := allLt_of l15.2.2.2
    refine CEnd.intro F15 N15 ((D15, tupO [.int (o1 * va i) (tk + 1), .int (o2 * vb i) (tk + 1 + 1 + 1), .int (i : Nat) u2]) :: (tl ++ (rest ++ cells))) (fun p hp => ?_) hC ?_ (srcAt_up hS fun p hp => List.mem_cons_of_mem _ hp) ⟨_ :: tl, rfl, ?_, ?_⟩
    · (revert p; (repeat' (first | refine List.forall_mem_cons.mpr ⟨?_, ?_⟩ | refine List.forall_mem_append.mpr ⟨?_, ?_⟩ | exact List.forall_mem_nil _)); all_goals (first | (intro p9 hp9; solve_by_elim (maxDepth := 24) only [hp9, List.mem_cons_of_mem, List.mem_append_left, List.mem_append_right]) | solve_by_elim (maxDepth := 24) only [List.mem_cons_self, List.mem_cons_of_mem, List.mem_append_left, List.mem_append_right]))
    · exact ⟨⟨Nat.ne_of_gt l15.1, Nat.ne_of_gt l15.2.1, Nat.ne_of_gt l15.2.2.1⟩, off⟩
    · exact List.forall_mem_cons.mpr ⟨(fun v e => by cases e), nctl⟩
    · exact (hT.up fun p hp => List.mem_cons_of_mem _ hp).snoc List.mem_cons_self
  · rintro ks nw gg ⟨tl, rfl, nctl, hT⟩ D2 h tk F N of1
    rw [List.size_toArray, hR.1] at hT
    have N2 : News h₀ L h (((D2, LCg.lst ks) :: (tl ++ rest)) ++ cells) := cb_drop N fun p hp => by
      (revert p; (repeat' (first | refine List.forall_mem_cons.mpr ⟨?_, ?_⟩ | refine List.forall_mem_append.mpr ⟨?_, ?_⟩ | exact List.forall_mem_nil _)); all_goals (first | (intro p9 hp9; solve_by_elim (maxDepth := 24) only [hp9, List.mem_cons_of_mem, List.mem_append_left, List.mem_append_right]) | solve_by_elim (maxDepth := 24) only [List.mem_cons_self, List.mem_cons_of_mem, List.mem_append_left, List.mem_append_right]))
    have nc2 : ∀ p ∈ tl ++ rest, NC p.2 := fun p hp => by
      rcases List.mem_append.mp hp with hp | hp
      · exact nctl p hp
      · exact hr p hp
    clear N
    repeat' ((fail_if_success (with_reducible show wpAny _ _ (execs (PySem.Stmt.Assign [PySem.Expr.Name (PySem.Str.ofString "ranks") _] _ _ :: _) _) _ _ _)); (fail_if_success (with_reducible show wpAny _ _ (exec (PySem.Stmt.For _ _ _ _ _) _) _ _ _)); (fail_if_success (with_reducible show wpAny _ _ (exec (PySem.Stmt.While _ _ _ _) _) _ _ _)); (fail_if_success (with_reducible show wpAny _ _ (eval (PySem.Expr.ListComp _ _ _ _) _) _ _ _)); (fail_if_success (with_reducible show wpAny _ _ (eval (PySem.Expr.DictComp _ _ _ _ _) _) _ _ _)); (fail_if_success (with_reducible show wpAny _ _ (exec (PySem.Stmt.Assign _ (PySem.Expr.ListComp _ _ _ _) _) _) _ _ _)); (fail_if_success (with_reducible show wpAny _ _ (exec (PySem.Stmt.Assign _ (PySem.Expr.DictComp _ _ _ _ _) _) _) _ _ _)); (first | (k_unfold; (try dsimp only)) | (k_end; wrow_close) | walk1 | (dsimp only; walk1) | (leave1; walk_say "STEP leave1"; try dsimp only) | fail "no step"))
    rename_i h9 cells9 F9 N9 CA9 tz
    exact hret D2 ks tl h9 _ cells9 F9 N9 CA9 nctl hT tz
end
end
-- Law11
section
theorem kr_Law11 : True := by
  k_with_none
  w_top off
  trivial
open PySem PySem.W PyProof.Rows PySem.Calls PySem.Spec
noncomputable def keyL (va vb : Nat → Int) (j : Nat) : List Int := [va j, vb j, (j : Nat)]
noncomputable def rankN (va vb : Nat → Int) (i : Nat) : Nat := ((List.range 6).filter fun j => lexLt (keyL va vb j) (keyL va vb i)).length
noncomputable def rankI (va vb : Nat → Int) (i : Nat) : List Int := (List.range i).map fun j => (rankN va vb j : Int)
theorem rankI_succ (va vb : Nat → Int) (i : Nat) : rankI va vb (i + 1) = rankI va vb i ++ [(rankN va vb i : Int)] := by simp [rankI, List.range_succ]
inductive PFo (va vb : Nat → Int) (base : List (Addr × Obj)) (D X : Addr) (i tk : Nat) (nw : List (Addr × Obj)) : Prop
  | mk (ys : List Value) (oX : Obj) (v : Option Value)
    (x1 : nw = (D, LCg.lst ys) :: (X, oX) :: base)
    (x2 : oX.data = .cell v)
    (x3 : IntsAre ys (rankI va vb i))
    (x4 : D < X)
    (x5 : (∀ p ∈ base, p.1 < D)) : PFo va vb base D X i tk nw
section
theorem kw_16256_1 : True := by
  k_with "eval Name" => (k_here; k_dflt (refine' lw_name (by k_asm) (by assumption) (by (intro q9 hq9; (repeat (refine List.mem_cons_of_mem _ ?_)); first | exact List.mem_append_right _ hq9 | solve_by_elim)) (by rfl) (by first | rfl | assumption) ?_ (by exact lawScope_kind) (by rfl) (by rfl); k_whole))
  k_with "eval Name" => (k_here; k_dflt (refine' nameX_L (by k_asm) (by first | rfl | assumption) ?_ (by exact lawScope_kind) (by rfl); k_whole))
  k_with "storeName" => (k_here; k_dflt (first | (refine' lw_put (by k_asm) (by first | assumption | exact (show News _ _ _ ((_ :: _) ++ _) from by assumption) | exact (show News _ _ _ ((_ :: _ :: _) ++ _) from by assumption) | exact (show News _ _ _ ((_ :: _ :: _ :: _) ++ _) from by assumption) | exact (show News _ _ _ ((_ :: _ :: _ :: _ :: _) ++ _) from by assumption) | exact (show News _ _ _ ((_ :: _ :: _ :: _ :: _ :: _) ++ _) from by assumption) | exact (show News _ _ _ ((_ :: _ :: _ :: _ :: _ :: _ :: _) ++ _) from by assumption)) (by assumption) (by ((repeat (refine List.forall_mem_cons.mpr ⟨by first | (intro v9 h9; cases h9; done) | assumption, ?_⟩)); first | assumption | exact (fun _ h => nomatch h))) (by rfl) ?_ (by rfl); k_whole)); intro _ _ _ _ _)
  trivial

theorem kw_16256_2 : True := by
  k_with "eval Name" => (k_here; (with_reducible show wpAny _ _ (eval (Expr.Name _ _) (compEnvC _ _ _ _)) _ _ _); k_dflt (refine' lw_comp (by k_asm) (by assumption) (by (intro q9 hq9; (repeat (refine List.mem_cons_of_mem _ ?_)); first | exact List.mem_append_right _ hq9 | solve_by_elim)) (by rfl) (by rfl) (by first | rfl | assumption) ?_ (by rfl) (by first | exact .inl rfl | exact .inr rfl) (by rfl) (by rfl); k_whole))
  trivial

theorem kw_16256_3 : True := by
  k_with "call builtin:len" => (k_here; (with_reducible show wpAny _ _ (call (Value.builtin "len") [Value.ref _]) _ _ _); k_dflt (refine' LL.len (by assumption) (by k_mem) (by first | assumption | omega) ?_; k_whole); intro _ _)
  trivial
theorem partF {w : World} {p : Program} {loose : List Str} {mean : ExcName → Option Value} {mg mb : Str → Option Value} {dp un : Nat} {gd : Option (List Code)} {cn : Str} {a : Addr} {ccd : Value} {outer : List Env} {A₀ : Around} {base h₀ : Heap} {L : Addr} {m mc : Str → Option Value} {rest cells : List (Addr × Obj)} {s : Shared} {Q : Flow → Shared → Prop} {E : Value → Shared → Prop} {DK kr : Addr} {ks : List Value} {va vb : Nat → Int} (B : Below A₀ base outer h₀) (X : (Mine.hA.heap_1_39 w.params).In h₀) (T : Top p loose mean mg mb h₀) (hd : dp + 20 < recursionLimit) (hu : un + 300 < cLine) (F : Fr h₀ L s.heap m) (N : News h₀ L s.heap (rest ++ cells)) (CA : CellsAre mc (cellsFrom (L + 1) lawScope.names []) cells) (hr : ∀ p ∈ rest, NC p.2)      (hm4 : mc (Str.ofString "keys") = some (.ref DK)) (mK : (DK, W.listOf ks.toArray kr) ∈ rest) (hK : RowsAt va vb rest ks 6)
    (hret : ∀ DN rs h' tk' cells', Fr h₀ L h' m → News h₀ L h' (((DN, LCg.lst rs) :: rest) ++ cells') → CellsAre (upd mc (Str.ofString "ranks") (.ref DN)) (cellsFrom (L + 1) lawScope.names []) cells' → IntsAre rs (rankI va vb 6) → s.toks ≤ tk' → wpAny (model Challenge.rw_xg0084_01.row.toRowW.prog w) (ktrTop dp un gd cn lawScope L a ccd (cellsFrom (L + 1) lawScope.names []) outer) (execs (lawBody.drop 14) (envX cn lawScope L a ccd (cellsFrom (L + 1) lawScope.names []))) Q E { s with heap := h', toks := tk' }) :
    wpAny (model Challenge.rw_xg0084_01.row.toRowW.prog w) (ktrTop dp un gd cn lawScope L a ccd (cellsFrom (L + 1) lawScope.names []) outer) (execs (lawBody.drop 13) (envX cn lawScope L a ccd (cellsFrom (L + 1) lawScope.names []))) Q E s := by
  have _q : Challenge.rw_xg0084_01 = Challenge.rw_xg0084_01 ∧ Mine.hA.heap_1_39 = Mine.hA.heap_1_39 := by (k_fill; exact ⟨rfl, rfl⟩)
  have hcs : ∀ p ∈ cells, p ∈ rest ++ cells := fun p hp => List.mem_append_right _ hp
  have hrs : ∀ p ∈ rest, p ∈ rest ++ cells := fun p hp => List.mem_append_left _ hp
  have mK2 := hrs _ mK
  show wpAny _ _ (execs (_ :: _) _) _ _ _
  walk1
  refine wpAny_toks ?_
  refine PySem.wpAny_Assign_Name ?_ (by rfl)
  refine evalX (cl := _) F rfl rfl (by with_unfolding_all rfl) ok_list (env_cell (x := Str.ofString "mine") (fun n => by rfl) (fun h => by rfl)) (fun Q s h => acc_list h) rfl (by rfl) (by decide) ?_
  k_steps
  refine gsrc_list (its := ks.toArray) (m := m) (news := rest ++ cells) (PFo va vb (rest ++ cells)) rfl F N (.inr ⟨_, mK2, rfl, _, rfl⟩) (fun D X hb hDX => ⟨[], _, _, rfl, rfl, .nil, hDX, hb⟩) ?_ ?_
  · rintro D X i v nw gg I tk₀ hv hS ⟨ys, oX, v₀, rfl, hoX, hI, hDX, hlt⟩ tle
    have hv' : ks[i]? = some v := by simpa using hv
    have hi : i < 6 := by rw [← hK.1]; exact (List.getElem?_eq_some_iff.mp hv').1
    obtain ⟨T, u0, u1, u2, e1, mT⟩ := hK.2 i hi
    rw [e1] at hv'
    cases hv'
    have oX9 : ∀ p ∈ rest ++ cells, p.1 ≠ X := fun p hp => Nat.ne_of_lt (Nat.lt_trans (hlt p hp) hDX)
    refine GTurn.cell (fun _ => rfl) rfl rfl hoX (Nat.ne_of_lt hDX) oX9 ?_
    intro oI C oC oX' m₁ h tk E' hoX' hC F N off ne tle2
    refine tests0 ?_
    rw [if_pos rfl]
    refine lbody (by rw [hI.length]; simp [rankI]; omega) ?_
    repeat' ((fail_if_success (with_reducible show wpAny _ _ (exec (PySem.Stmt.For _ _ _ _ _) _) _ _ _)); (fail_if_success (with_reducible show wpAny _ _ (exec (PySem.Stmt.While _ _ _ _) _) _ _ _)); (fail_if_success (with_reducible show wpAny _ _ (eval (PySem.Expr.ListComp _ _ _ _) _) _ _ _)); (fail_if_success (with_reducible show wpAny _ _ (eval (PySem.Expr.DictComp _ _ _ _ _) _) _ _ _)); (fail_if_success (with_reducible show wpAny _ _ (exec (PySem.Stmt.Assign _ (PySem.Expr.ListComp _ _ _ _) _) _) _ _ _)); (fail_if_success (with_reducible show wpAny _ _ (exec (PySem.Stmt.Assign _ (PySem.Expr.DictComp _ _ _ _ _) _) _) _ _ _)); (first | (k_unfold; (try dsimp only)) | (k_end; wrow_close) | walk1 | (dsimp only; walk1) | (leave1; walk_say "STEP leave1"; try dsimp only) | fail "no step"))
    refine compG F (by with_unfolding_all rfl) (by decide) (by rfl) (by decide) ?_
    k_steps
    have mK3 : (DK, W.listOf ks.toArray kr) ∈ (I, oI) :: (C, oC) :: (D, LCg.lst ys) :: (X, oX') :: (rest ++ cells) := List.mem_cons_of_mem _ (List.mem_cons_of_mem _ (List.mem_cons_of_mem _ (List.mem_cons_of_mem _ mK2)))
    refine src_list (its := ks.toArray) (fun j zs nw => nw = (I, oI) :: (C, oC) :: (D, LCg.lst ys) :: (X, oX') :: (rest ++ cells) ∧ zs.length = ((List.range j).filter fun j => lexLt (keyL va vb j) (keyL va vb i)).length) rfl F N (.inr ⟨_, mK3, rfl, _, rfl⟩) (by rw [sizeLine_eq, List.size_toArray, hK.1]; omega) ⟨rfl, rfl⟩ ?_ ?_
    · rintro j v2 zs nw gg2 I2 hv2 hly hS2 ⟨rfl, hzl⟩
      have hv2' : ks[j]? = some v2 := by simpa using hv2
      have hj : j < 6 := by rw [← hK.1]; exact (List.getElem?_eq_some_iff.mp hv2').1
      obtain ⟨T2, w0, w1, w2, e2, mT2⟩ := hK.2 j hj
      rw [e2] at hv2'
      cases hv2'
      refine CTurn.name rfl rfl ?_
      intro oI2 C2 oC2 D2 m₂ h2 tk2 E2 hC2 hmv F N off2 ne2 tle3
      have mTa : (T, tupO [.int (va i) u0, .int (vb i) u1, .int (i : Nat) u2]) ∈ (rest ++ cells) := hrs _ mT
      have mTb : (T2, tupO [.int (va j) w0, .int (vb j) w1, .int (j : Nat) w2]) ∈ (rest ++ cells) := hrs _ mT2
      generalize hbase : rest ++ cells = base at N off2 hS2 mTa mTb
      refine tests1 ?_
      k_steps
      have mTa' : (T, tupO [.int (va i) u0, .int (vb i) u1, .int (i : Nat) u2]) ∈ (I2, oI2) :: (C2, oC2) :: (D2, LCg.lst zs) :: (I, oI) :: (C, oC) :: (D, LCg.lst ys) :: (X, oX') :: base := by k_mem
      have mTb' : (T2, tupO [.int (va j) w0, .int (vb j) w1, .int (j : Nat) w2]) ∈ (I2, oI2) :: (C2, oC2) :: (D2, LCg.lst zs) :: (I, oI) :: (C, oC) :: (D, LCg.lst ys) :: (X, oX') :: base := by k_mem
      refine tup_lt N mTb' mTa' (.cons _ _ (.cons _ _ (.cons _ _ .nil))) (.cons _ _ (.cons _ _ (.cons _ _ .nil))) (show un < cLine by omega) ?_
      k_steps
      · rename_i q
        refine CEnd.intro F N _ (fun _ h => h) hC2 off2 hS2 ⟨rfl, ?_⟩
        rw [List.range_succ, List.filter_append, List.length_append, List.length_append, hzl]
        have q' : lexLt (keyL va vb j) (keyL va vb i) = true := q
        simp [q']
      · rename_i q
        refine CEnd.intro F N _ (fun _ h => h) hC2 off2 hS2 ⟨rfl, ?_⟩
        rw [List.range_succ, List.filter_append, List.length_append, hzl]
        have q' : lexLt (keyL va vb j) (keyL va vb i) = false := q
        simp [q']
    · rintro zs nw gg2 ⟨rfl, hzl⟩ D2 h2 tk2 F N of2
      rw [List.size_toArray, hK.1] at hzl
      have hzz : zs.length < 2 ^ 62 := by
        rw [hzl]
        have := List.length_filter_le (fun j => lexLt (keyL va vb j) (keyL va vb i)) (List.range 6)
        rw [List.length_range] at this
        omega
      k_steps
      refine LEnd.intro F N ((X, oX') :: (rest ++ cells)) (fun p hp => List.mem_cons_of_mem _ hp) hC (fun p hp => ?_) (fun p hp => ?_) (.inr ⟨_, List.mem_cons_of_mem _ (List.mem_cons_of_mem _ mK2), rfl, _, rfl⟩) ⟨_, oX', _, rfl, hoX', ?_, hDX, hlt⟩
      · exact off p hp
      · rcases List.mem_cons.mp hp with rfl | hp
        · exact Nat.ne_of_gt hDX
        · exact Nat.ne_of_lt (hlt p hp)
      · rw [rankI_succ]
        refine hI.append ?_
        rw [hzl]
        exact .cons _ _ .nil
  · rintro D X nw gg tk₀ ⟨ys, oX, v₀, rfl, hoX, hI, hDX, hlt⟩ tle
    rw [List.size_toArray, hK.1] at hI
    intro h tk F N tle2
    have N2 : News h₀ L h (((D, LCg.lst ys) :: rest) ++ cells) := cb_drop N fun p hp => by
      (revert p; (repeat' (first | refine List.forall_mem_cons.mpr ⟨?_, ?_⟩ | refine List.forall_mem_append.mpr ⟨?_, ?_⟩ | exact List.forall_mem_nil _)); all_goals (first | (intro p9 hp9; solve_by_elim (maxDepth := 24) only [hp9, List.mem_cons_of_mem, List.mem_append_left, List.mem_append_right]) | solve_by_elim (maxDepth := 24) only [List.mem_cons_self, List.mem_cons_of_mem, List.mem_append_left, List.mem_append_right]))
    clear N
    repeat' ((fail_if_success (with_reducible show wpAny _ _ (execs (PySem.Stmt.Assign [PySem.Expr.Name (PySem.Str.ofString "judge") _] _ _ :: _) _) _ _ _)); (fail_if_success (with_reducible show wpAny _ _ (exec (PySem.Stmt.For _ _ _ _ _) _) _ _ _)); (fail_if_success (with_reducible show wpAny _ _ (exec (PySem.Stmt.While _ _ _ _) _) _ _ _)); (fail_if_success (with_reducible show wpAny _ _ (eval (PySem.Expr.ListComp _ _ _ _) _) _ _ _)); (fail_if_success (with_reducible show wpAny _ _ (eval (PySem.Expr.DictComp _ _ _ _ _) _) _ _ _)); (fail_if_success (with_reducible show wpAny _ _ (exec (PySem.Stmt.Assign _ (PySem.Expr.ListComp _ _ _ _) _) _) _ _ _)); (fail_if_success (with_reducible show wpAny _ _ (exec (PySem.Stmt.Assign _ (PySem.Expr.DictComp _ _ _ _ _) _) _) _ _ _)); (first | (k_unfold; (try dsimp only)) | (k_end; wrow_close) | walk1 | (dsimp only; walk1) | (leave1; walk_say "STEP leave1"; try dsimp only) | fail "no step"))
    rename_i h9 cells9 F9 N9 CA9 tz
    exact hret D ys h9 _ cells9 F9 N9 CA9 hI tz
end
end
-- Law12
section
theorem kr_Law12 : True := by
  k_with_none
  w_top off
  trivial
open PySem PySem.W PyProof.Rows PySem.Calls PySem.Spec
inductive JudgeIs (nw : List (Addr × Obj)) (jx : Addr) (o1 o2 : Int) (tk : Nat) : Prop
  | mk (d : _) (sel : _) (p0 : _) (p1 : _) (p2 : _) (hh : _) (kk : _) (t0 : _) (t1 : _) (t2 : _) (u0 : _) (u1 : _) (u2 : _)
    (x1 : (jx, instObj 169 d) ∈ nw)
    (x2 : (d, dictOf [⟨hh, .str (Str.ofString "comp_select_list") kk, .ref sel⟩] 1) ∈ nw)
    (x3 : (sel, tupO [.ref p0, .ref p1, .ref p2]) ∈ nw)
    (x4 : (p0, tupO [.int 0 t0, .int o1 u0]) ∈ nw)
    (x5 : (p1, tupO [.int 1 t1, .int o2 u1]) ∈ nw)
    (x6 : (p2, tupO [.int 2 t2, .int 1 u2]) ∈ nw)
    (x7 : (@LT.lt Nat _ 0 u0 ∧ @LT.lt Nat _ u0 tk))
    (x8 : (@LT.lt Nat _ 0 u1 ∧ @LT.lt Nat _ u1 tk))
    (x9 : (@LT.lt Nat _ 0 u2 ∧ @LT.lt Nat _ u2 tk)) : JudgeIs nw jx o1 o2 tk
theorem JudgeIs.up {nw nw' : List (Addr × Obj)} {jx : Addr} {o1 o2 : Int} {tk tk' : Nat} (h : JudgeIs nw jx o1 o2 tk) (hs : ∀ p ∈ nw, p ∈ nw') (ht : tk ≤ tk') : JudgeIs nw' jx o1 o2 tk' := by
  obtain ⟨d, sel, p0, p1, p2, hh, kk, t0, t1, t2, u0, u1, u2, a, b, c, e, f, g, i, j, k⟩ := h
  exact ⟨d, sel, p0, p1, p2, hh, kk, t0, t1, t2, u0, u1, u2, hs _ a, hs _ b, hs _ c, hs _ e, hs _ f, hs _ g, ⟨i.1, by omega⟩, ⟨j.1, by omega⟩, ⟨k.1, by omega⟩⟩
section
theorem kw_732222_1 : True := by
  k_with "eval Name" => (k_here; k_dflt (refine' lw_name (by k_asm) (by assumption) (by (intro q9 hq9; (repeat (refine List.mem_cons_of_mem _ ?_)); first | exact List.mem_append_right _ hq9 | solve_by_elim)) (by rfl) (by first | rfl | assumption) ?_ (by exact lawScope_kind) (by rfl) (by rfl); k_whole))
  k_with "eval Name" => (k_here; k_dflt (refine' nameX_L (by k_asm) (by first | rfl | assumption) ?_ (by exact lawScope_kind) (by rfl); k_whole))
  k_with "storeName" => (k_here; k_dflt (first | (refine' lw_put (by k_asm) (by first | assumption | exact (show News _ _ _ ((_ :: _) ++ _) from by assumption) | exact (show News _ _ _ ((_ :: _ :: _) ++ _) from by assumption) | exact (show News _ _ _ ((_ :: _ :: _ :: _) ++ _) from by assumption) | exact (show News _ _ _ ((_ :: _ :: _ :: _ :: _) ++ _) from by assumption) | exact (show News _ _ _ ((_ :: _ :: _ :: _ :: _ :: _) ++ _) from by assumption) | exact (show News _ _ _ ((_ :: _ :: _ :: _ :: _ :: _ :: _) ++ _) from by assumption)) (by assumption) (by ((repeat (refine List.forall_mem_cons.mpr ⟨by first | (intro v9 h9; cases h9; done) | assumption, ?_⟩)); first | assumption | exact (fun _ h => nomatch h))) (by rfl) ?_ (by rfl); k_whole)); intro _ _ _ _ _)
  trivial

theorem kw_732222_2 : True := by
  k_with "call ref" => (k_here; (with_reducible show wpAny _ _ (call (Value.ref 169) _) _ _ _); refine wpAny_toks ?_; k_dflt (refine' tc_new (m := _) (by assumption) (by assumption) (by assumption) (by assumption) (by assumption) (by exact lawScope_kind) (by omega) ?_; k_whole); intro _ _ _ _ _ _ _ _ _ _ _)
  trivial
theorem partG {w : World} {p : Program} {loose : List Str} {mean : ExcName → Option Value} {mg mb : Str → Option Value} {dp un : Nat} {gd : Option (List Code)} {cn : Str} {a : Addr} {ccd : Value} {outer : List Env} {A₀ : Around} {base h₀ : Heap} {L : Addr} {m mc : Str → Option Value} {rest cells : List (Addr × Obj)} {s : Shared} {Q : Flow → Shared → Prop} {E : Value → Shared → Prop} {o1 o2 : Int} {t1 t2 : Tok} (B : Below A₀ base outer h₀) (X : (Mine.hA.heap_1_39 w.params).In h₀) (T : Top p loose mean mg mb h₀) (hd : dp + 20 < recursionLimit) (hu : un + 300 < cLine) (F : Fr h₀ L s.heap m) (N : News h₀ L s.heap (rest ++ cells)) (CA : CellsAre mc (cellsFrom (L + 1) lawScope.names []) cells) (hr : ∀ p ∈ rest, NC p.2) (hm1 : mc (Str.ofString "one") = some (.int o1 t1)) (hm2 : mc (Str.ofString "two") = some (.int o2 t2)) (ht1 : @LT.lt Nat _ 0 t1 ∧ @LT.lt Nat _ t1 s.toks) (ht2 : @LT.lt Nat _ 0 t2 ∧ @LT.lt Nat _ t2 s.toks)      (hret : ∀ jx tl h' tk' cells', Fr h₀ L h' m → News h₀ L h' ((tl ++ rest) ++ cells') → CellsAre (upd mc (Str.ofString "judge") (.ref jx)) (cellsFrom (L + 1) lawScope.names []) cells' → (∀ p ∈ tl, NC p.2) → JudgeIs tl jx o1 o2 tk' → s.toks ≤ tk' → wpAny (model Challenge.rw_xg0084_01.row.toRowW.prog w) (ktrTop dp un gd cn lawScope L a ccd (cellsFrom (L + 1) lawScope.names []) outer) (execs (lawBody.drop 15) (envX cn lawScope L a ccd (cellsFrom (L + 1) lawScope.names []))) Q E { s with heap := h', toks := tk' }) :
    wpAny (model Challenge.rw_xg0084_01.row.toRowW.prog w) (ktrTop dp un gd cn lawScope L a ccd (cellsFrom (L + 1) lawScope.names []) outer) (execs (lawBody.drop 14) (envX cn lawScope L a ccd (cellsFrom (L + 1) lawScope.names []))) Q E s := by
  have _q : Challenge.rw_xg0084_01 = Challenge.rw_xg0084_01 ∧ Mine.hA.heap_1_39 = Mine.hA.heap_1_39 := by (k_fill; exact ⟨rfl, rfl⟩)
  show wpAny _ _ (execs (_ :: _) _) _ _ _
  walk1
  refine wpAny_toks ?_
  repeat' ((fail_if_success (with_reducible show wpAny _ _ (execs (PySem.Stmt.Assign [PySem.Expr.Name (PySem.Str.ofString "deeper") _] _ _ :: _) _) _ _ _)); (fail_if_success (with_reducible show wpAny _ _ (exec (PySem.Stmt.For _ _ _ _ _) _) _ _ _)); (fail_if_success (with_reducible show wpAny _ _ (exec (PySem.Stmt.While _ _ _ _) _) _ _ _)); (fail_if_success (with_reducible show wpAny _ _ (eval (PySem.Expr.ListComp _ _ _ _) _) _ _ _)); (fail_if_success (with_reducible show wpAny _ _ (eval (PySem.Expr.DictComp _ _ _ _ _) _) _ _ _)); (fail_if_success (with_reducible show wpAny _ _ (exec (PySem.Stmt.Assign _ (PySem.Expr.ListComp _ _ _ _) _) _) _ _ _)); (fail_if_success (with_reducible show wpAny _ _ (exec (PySem.Stmt.Assign _ (PySem.Expr.DictComp _ _ _ _ _) _) _) _ _ _)); (first | (k_unfold; (try dsimp only)) | (k_end; wrow_close) | walk1 | (dsimp only; walk1) | (leave1; walk_say "STEP leave1"; try dsimp only) | fail "no step"))
  rename_i E0 _ _ E1 _ _ E2 _ _ E3 _ _ _ _ x9 d9 hh9 kk9 h9 tk9 F9 N9 l9 l8 tz9 h10 cells10 F10 N10 CA10 tz
  dsimp only at tz9
  refine hret x9 [(x9, instObj 169 d9), (d9, dictOf [⟨hh9, .str (Str.ofString "comp_select_list") kk9, .ref E3⟩] 1), (E3, tupO [.ref E0, .ref E1, .ref E2]), (E2, tupO [.int 2 (s.toks + 1 + 1), .int 1 (s.toks + 1 + 1 + 1)]), (E1, tupO [.int 1 (s.toks + 1), .int o2 t2]), (E0, tupO [.int 0 s.toks, .int o1 t1])] h10 _ cells10 F10 N10 CA10 ?_     ⟨d9, E3, E0, E1, E2, hh9, kk9, _, _, _, t1, t2, s.toks + 1 + 1 + 1, .head _, .tail _ (.head _), .tail _ (.tail _ (.head _)), .tail _ (.tail _ (.tail _ (.tail _ (.tail _ (.head _))))), .tail _ (.tail _ (.tail _ (.tail _ (.head _)))), .tail _ (.tail _ (.tail _ (.head _))), ⟨ht1.1, by dsimp only; omega⟩, ⟨ht2.1, by dsimp only; omega⟩, ⟨by omega, by dsimp only; omega⟩⟩ tz
  exact (by ((repeat (refine List.forall_mem_cons.mpr ⟨by first | (intro v9 h9; cases h9; done) | assumption, ?_⟩)); first | assumption | exact (fun _ h => nomatch h)))
end
end
-- Law13
section
theorem kr_Law13 : True := by
  k_with_none
  w_top off
  trivial
open PySem PySem.W PyProof.Rows PySem.Calls PySem.Spec
noncomputable def InnerAt (val : Nat → Nat → Int) (a tk : Nat) (kvs : List (PySem.Str × Value)) (j : Nat) : Prop :=
  KeyRow letter kvs j ∧ ∀ b, b < j → ∃ t, kvs[b]? = some (letter b, .int (val a b) t) ∧ @LT.lt Nat _ 0 t ∧ @LT.lt Nat _ t tk
noncomputable def OuterAt (prog : Program) (w : World) (val : Nat → Nat → Int) (tk : Nat) (nw : List (Addr × Obj)) (kvs : List (PySem.Str × Value)) (i : Nat) : Prop :=
  KeyRow letter kvs i ∧ ∀ a, a < i → ∃ di odi kvi, kvs[a]? = some (letter a, .ref di) ∧ (di, odi) ∈ nw ∧ odi.IsDictOf (PySem.strKind prog w) kvi ∧ InnerAt val a tk kvi 6
theorem InnerAt.up {val : Nat → Nat → Int} {a tk tk' j : Nat} {kvs : List (PySem.Str × Value)} (h : InnerAt val a tk kvs j) (ht : tk ≤ tk') : InnerAt val a tk' kvs j :=
  ⟨h.1, fun b hb => let ⟨t, e, c, d⟩ := h.2 b hb; ⟨t, e, c, Nat.lt_of_lt_of_le d ht⟩⟩
theorem InnerAt.snoc {val : Nat → Nat → Int} {a tk j : Nat} {kvs : List (PySem.Str × Value)} (h : InnerAt val a tk kvs j) {t : Tok} (h0 : @LT.lt Nat _ 0 t) (h1 : @LT.lt Nat _ t tk) : InnerAt val a tk (stored kvs (letter j) (.int (val a j) t)) (j + 1) := by
  obtain ⟨e, k⟩ := h.1.snoc (fun i j => letter_inj) (.int (val a j) t)
  rw [e]
  have hl := h.1.length
  refine ⟨k, fun b hb => ?_⟩
  rcases Nat.lt_or_ge b j with q | q
  · rw [List.getElem?_append_left (by omega)]; exact h.2 b q
  · obtain rfl : b = j := by omega
    exact ⟨t, by rw [List.getElem?_append_right (by omega), hl]; simp, h0, h1⟩
theorem OuterAt.up {prog : Program} {w : World} {val : Nat → Nat → Int} {tk tk' i : Nat} {nw nw' : List (Addr × Obj)} {kvs : List (PySem.Str × Value)} (h : OuterAt prog w val tk nw kvs i) (hs : ∀ p ∈ nw, p ∈ nw') (ht : tk ≤ tk') : OuterAt prog w val tk' nw' kvs i :=
  ⟨h.1, fun a ha => let ⟨di, odi, kvi, e, m, d, r⟩ := h.2 a ha; ⟨di, odi, kvi, e, hs _ m, d, r.up ht⟩⟩
theorem OuterAt.snoc {prog : Program} {w : World} {val : Nat → Nat → Int} {tk i : Nat} {nw : List (Addr × Obj)} {kvs : List (PySem.Str × Value)} (h : OuterAt prog w val tk nw kvs i) {di : Addr} {odi : Obj} {kvi : List (PySem.Str × Value)} (m : (di, odi) ∈ nw) (d : odi.IsDictOf (PySem.strKind prog w) kvi) (r : InnerAt val i tk kvi 6) :
    OuterAt prog w val tk nw (stored kvs (letter i) (.ref di)) (i + 1) := by
  obtain ⟨e, k⟩ := h.1.snoc (fun i j => letter_inj) (.ref di)
  rw [e]
  have hl := h.1.length
  refine ⟨k, fun b hb => ?_⟩
  rcases Nat.lt_or_ge b i with q | q
  · rw [List.getElem?_append_left (by omega)]; exact h.2 b q
  · obtain rfl : b = i := by omega
    exact ⟨di, odi, kvi, by rw [List.getElem?_append_right (by omega), hl]; simp, m, d, r⟩
theorem nc_dict {prog : Program} {w : World} {od : Obj} {kvs : List (PySem.Str × Value)} (h : od.IsDictOf (PySem.strKind prog w) kvs) : NC od := by
  obtain ⟨es, ep, _, e, _⟩ := h
  intro v q
  rw [e] at q
  cases q
noncomputable def deepV (o1 o2 : Int) (va vb : Nat → Int) (i j : Nat) : Int := cmpF [(o1, va i, va j), (o2, vb i, vb j), (1, (i : Nat), (j : Nat))]
inductive PHo (w : World) (val : Nat → Nat → Int) (base : List (Addr × Obj)) (D Xc : Addr) (i tk : Nat) (nw : List (Addr × Obj)) : Prop
  | mk (oD oX : Obj) (v : Option Value) (kvs : List (PySem.Str × Value)) (tl : List (Addr × Obj))
    (x1 : nw = (D, oD) :: (Xc, oX) :: (tl ++ base))
    (x2 : oX.data = .cell v)
    (x3 : oD.IsDictOf (PySem.strKind Challenge.rw_xg0084_01.row.prog w) kvs)
    (x4 : OuterAt Challenge.rw_xg0084_01.row.prog w val tk tl kvs i)
    (x5 : (∀ p ∈ tl, NC p.2))
    (x6 : D < Xc)
    (x7 : (∀ p ∈ tl ++ base, p.1 ≠ D ∧ p.1 ≠ Xc)) : PHo w val base D Xc i tk nw
inductive PHi (w : World) (val : Nat → Nat → Int) (i : Nat) (base : List (Addr × Obj)) (D2 X2 : Addr) (j tk : Nat) (nw : List (Addr × Obj)) : Prop
  | mk (oD2 : Obj) (kvi : List (PySem.Str × Value))
    (x1 : nw = (D2, oD2) :: base)
    (x2 : oD2.IsDictOf (PySem.strKind Challenge.rw_xg0084_01.row.prog w) kvi)
    (x3 : InnerAt val i tk kvi j)
    (x4 : (∀ p ∈ base, p.1 < D2)) : PHi w val i base D2 X2 j tk nw
section
theorem kw_64147_1 : True := by
  k_with "eval Name" => (k_here; k_dflt (refine' lw_name (by k_asm) (by assumption) (by (intro q9 hq9; (repeat (refine List.mem_cons_of_mem _ ?_)); first | exact List.mem_append_right _ hq9 | solve_by_elim)) (by rfl) (by first | rfl | assumption) ?_ (by exact lawScope_kind) (by rfl) (by rfl); k_whole))
  k_with "eval Name" => (k_here; k_dflt (refine' nameX_L (by k_asm) (by first | rfl | assumption) ?_ (by exact lawScope_kind) (by rfl); k_whole))
  k_with "storeName" => (k_here; k_dflt (first | (refine' lw_put (by k_asm) (by first | assumption | exact (show News _ _ _ ((_ :: _) ++ _) from by assumption) | exact (show News _ _ _ ((_ :: _ :: _) ++ _) from by assumption) | exact (show News _ _ _ ((_ :: _ :: _ :: _) ++ _) from by assumption) | exact (show News _ _ _ ((_ :: _ :: _ :: _ :: _) ++ _) from by assumption) | exact (show News _ _ _ ((_ :: _ :: _ :: _ :: _ :: _) ++ _) from by assumption) | exact (show News _ _ _ ((_ :: _ :: _ :: _ :: _ :: _ :: _) ++ _) from by assumption)) (by assumption) (by ((repeat (refine List.forall_mem_cons.mpr ⟨by first | (intro v9 h9; cases h9; done) | assumption, ?_⟩)); first | assumption | exact (fun _ h => nomatch h))) (by rfl) ?_ (by rfl); k_whole)); intro _ _ _ _ _)
  trivial

theorem kw_64147_2 : True := by
  k_with "eval Name" => (k_here; (with_reducible show wpAny _ _ (eval (Expr.Name _ _) (compEnvC _ _ _ _)) _ _ _); k_dflt (refine' lw_comp (by k_asm) (by assumption) (by (intro q9 hq9; (repeat (refine List.mem_cons_of_mem _ ?_)); first | exact List.mem_append_right _ hq9 | solve_by_elim)) (by rfl) (by rfl) (by first | rfl | assumption) ?_ (by rfl) (by first | exact .inl rfl | exact .inr rfl) (by rfl) (by rfl); k_whole))
  trivial

theorem kw_64147_3 : True := by
  k_with "subscriptTail Name Name str int" => (k_here; (with_reducible show wpAny _ _ (subscriptTail _ _ (Value.str _ _) (Value.int _ _)) _ _ _); k_dflt (refine' abc_item rfl (by assumption) ?_ (by with_unfolding_all rfl) (by (intro _; with_unfolding_all rfl)); k_whole))
  k_with "subscriptTail" => (k_here; (with_reducible show wpAny _ _ (subscriptTail _ _ (Value.ref _) (Value.int _ _)) _ _ _); k_dflt (refine' LL.item (by k_asm) (by k_mem) (by omega) (by assumption) (by assumption) (by with_unfolding_all rfl) ?_; k_whole))
  trivial
theorem partH {w : World} {p : Program} {loose : List Str} {mean : ExcName → Option Value} {mg mb : Str → Option Value} {dp un : Nat} {gd : Option (List Code)} {cn : Str} {a : Addr} {ccd : Value} {outer : List Env} {A₀ : Around} {base h₀ : Heap} {L : Addr} {m mc : Str → Option Value} {rest cells : List (Addr × Obj)} {s : Shared} {Q : Flow → Shared → Prop} {E : Value → Shared → Prop} {DR kr jx : Addr} {rv : List Value} {va vb : Nat → Int} {o1 o2 : Int} {tl : Tok} (B : Below A₀ base outer h₀) (X : (Mine.hA.heap_1_39 w.params).In h₀) (T : Top p loose mean mg mb h₀) (hd : dp + 20 < recursionLimit) (hu : un + 300 < cLine) (F : Fr h₀ L s.heap m) (N : News h₀ L s.heap (rest ++ cells)) (CA : CellsAre mc (cellsFrom (L + 1) lawScope.names []) cells) (hr : ∀ p ∈ rest, NC p.2) (hm1 : mc (Str.ofString "letters") = some (.str (Str.ofString "abcdef") tl)) (hm2 : mc (Str.ofString "judge") = some (.ref jx)) (hm3 : mc (Str.ofString "rows") = some (.ref DR))      (mR : (DR, W.listOf rv.toArray kr) ∈ rest) (hR : RowsAt va vb rest rv 6) (hJd : JudgeIs rest jx o1 o2 s.toks) (hts : 0 < s.toks)
    (hret : ∀ dd tl h' tk' cells', Fr h₀ L h' m → News h₀ L h' ((tl ++ rest) ++ cells') → CellsAre (upd mc (Str.ofString "deeper") (.ref dd)) (cellsFrom (L + 1) lawScope.names []) cells' → (∀ p ∈ tl, NC p.2) → DeepIs Challenge.rw_xg0084_01.row.prog w (deepV o1 o2 va vb) tk' tl dd → s.toks ≤ tk' → wpAny (model Challenge.rw_xg0084_01.row.toRowW.prog w) (ktrTop dp un gd cn lawScope L a ccd (cellsFrom (L + 1) lawScope.names []) outer) (execs (lawBody.drop 16) (envX cn lawScope L a ccd (cellsFrom (L + 1) lawScope.names []))) Q E { s with heap := h', toks := tk' }) :
    wpAny (model Challenge.rw_xg0084_01.row.toRowW.prog w) (ktrTop dp un gd cn lawScope L a ccd (cellsFrom (L + 1) lawScope.names []) outer) (execs (lawBody.drop 15) (envX cn lawScope L a ccd (cellsFrom (L + 1) lawScope.names []))) Q E s := by
  have _q : Challenge.rw_xg0084_01 = Challenge.rw_xg0084_01 ∧ Mine.hA.heap_1_39 = Mine.hA.heap_1_39 := by (k_fill; exact ⟨rfl, rfl⟩)
  have hcs : ∀ p ∈ cells, p ∈ rest ++ cells := fun p hp => List.mem_append_right _ hp
  have hrs : ∀ p ∈ rest, p ∈ rest ++ cells := fun p hp => List.mem_append_left _ hp
  have mR2 := hrs _ mR
  have hJ2 := hJd.up hrs (Nat.le_refl _)
  have hR2 := hR.up hrs
  show wpAny _ _ (execs (_ :: _) _) _ _ _
  walk1
  refine wpAny_toks ?_
  refine PySem.wpAny_Assign_Name ?_ (by rfl)
  refine evalX (cl := _) F rfl rfl (by with_unfolding_all rfl) ok_dict (env_cell (x := Str.ofString "i") (fun n => by rfl) (fun h => by rfl)) (fun Q s h => acc_dict h) rfl (by rfl) (by decide) ?_
  refine wpAny_toks ?_
  k_steps
  rename_i hRg F9 N9 _ tzz
  refine gsrc_range (n := 6) (m := m) (news := rest ++ cells) (PHo w (deepV o1 o2 va vb) (rest ++ cells)) rfl F9 N9 hRg (by decide) (by decide) ⟨_, _, rfl⟩      (fun D X hb hDX => ⟨dct0, _, _, [], [], rfl, rfl, dct0_is _, ⟨rfl, fun a h => absurd h (Nat.not_lt_zero _)⟩, (fun _ h => nomatch h), hDX, fun p hp => ⟨Nat.ne_of_lt (hb p hp), Nat.ne_of_lt (Nat.lt_trans (hb p hp) hDX)⟩⟩) ?_ ?_
  · rintro D Xc i t nw gg I tk₀ hi ⟨oD, oX, v₀, kvs, tl9, rfl, hoX, hoD, hO, nctl, hDX, offb⟩ tle
    rw [Int.zero_add]
    refine GTurn.cell (fun _ => rfl) rfl rfl hoX (Nat.ne_of_lt hDX) (fun p hp => (offb p hp).2) ?_
    intro oI C oC oX' m₁ h tk E' hoX' hC F N off ne tle2
    refine tests0 ?_
    rw [if_pos rfl]
    refine dbody (PySem.strKind _ _) ?_
    have hcs2 : ∀ p ∈ cells, p ∈ tl9 ++ (rest ++ cells) := fun p hp => List.mem_append_right _ (hcs p hp)
    have hrs2 : ∀ p ∈ rest ++ cells, p ∈ tl9 ++ (rest ++ cells) := fun p hp => List.mem_append_right _ hp
    have mR3 := hrs2 _ mR2
    have hJ3 := hJ2.up hrs2 (Nat.le_refl _)
    have hR3 := hR2.up hrs2
    generalize hnb : tl9 ++ (rest ++ cells) = nb at *
    repeat' ((fail_if_success (with_reducible show wpAny _ _ (exec (PySem.Stmt.For _ _ _ _ _) _) _ _ _)); (fail_if_success (with_reducible show wpAny _ _ (exec (PySem.Stmt.While _ _ _ _) _) _ _ _)); (fail_if_success (with_reducible show wpAny _ _ (eval (PySem.Expr.ListComp _ _ _ _) _) _ _ _)); (fail_if_success (with_reducible show wpAny _ _ (eval (PySem.Expr.DictComp _ _ _ _ _) _) _ _ _)); (fail_if_success (with_reducible show wpAny _ _ (exec (PySem.Stmt.Assign _ (PySem.Expr.ListComp _ _ _ _) _) _) _ _ _)); (fail_if_success (with_reducible show wpAny _ _ (exec (PySem.Stmt.Assign _ (PySem.Expr.DictComp _ _ _ _ _) _) _) _ _ _)); (first | (k_unfold; (try dsimp only)) | (k_end; wrow_close) | walk1 | (dsimp only; walk1) | (leave1; walk_say "STEP leave1"; try dsimp only) | fail "no step"))
    refine evalX (cl := _) F rfl rfl (by with_unfolding_all rfl) ok_dict (env_plain (by decide) (by rfl)) (fun Q s h => acc_dict h) rfl (by rfl) (by decide) ?_
    refine wpAny_toks ?_
    k_steps
    rename_i hRg2 F29 N29 _ tzz2
    have hlt9 : ∀ p ∈ (I, oI) :: (C, oC) :: (D, oD) :: (Xc, oX') :: nb, True := fun _ _ => trivial
    refine gsrc_range (n := 6) (m := m) (news := (I, oI) :: (C, oC) :: (D, oD) :: (Xc, oX') :: nb) (PHi w (deepV o1 o2 va vb) i ((I, oI) :: (C, oC) :: (D, oD) :: (Xc, oX') :: nb)) rfl F29 N29 hRg2 (by decide) (by decide) ⟨_, _, rfl⟩       (fun D2 _ hb _ => ⟨dct0, [], rfl, dct0_is _, ⟨rfl, fun a h => absurd h (Nat.not_lt_zero _)⟩, hb⟩) ?_ ?_
    · rintro D2 _ j t2 nw gg2 I2 tk₂ hj ⟨oD2, kvi, rfl, hoD2, hIn, hltD⟩ tle3
      rw [Int.zero_add]
      refine GTurn.name rfl rfl ?_
      intro oI2 C2 oC2 m₂ h2 tk2 E2 hC2 hmv F N off2 ne2 tle4
      refine tests0 ?_
      rw [if_pos rfl]
      refine dbody (PySem.strKind _ _) ?_
      obtain ⟨T1, a0, a1, a2, e1, mT1⟩ := hR3.2 i hi
      obtain ⟨T2, b0, b1, b2, e2, mT2⟩ := hR3.2 j hj
      have e1' : rv[((i : Nat) : Int).toNat]? = some (.ref T1) := e1
      have e2' : rv[((j : Nat) : Int).toNat]? = some (.ref T2) := e2
      have hrz : rv.length < 2 ^ 62 := by rw [hR3.1]; decide
      have hJ4 := hJ3
      obtain ⟨jd, sel, p0, p1, p2, hh, kk, c0, c1, c2, u0, u1, u2, j1, j2, j3, j4, j5, j6, ub0, ub1, ub2⟩ := hJ4
      have mc0 : ∀ p ∈ nb, p ∈ (I2, oI2) :: (C2, oC2) :: (D2, oD2) :: (I, oI) :: (C, oC) :: (D, oD) :: (Xc, oX') :: nb := fun p hp => by simp only [List.mem_cons]; simp [hp]
      repeat' ((fail_if_success (with_reducible show wpAny _ _ (exec (PySem.Stmt.For _ _ _ _ _) _) _ _ _)); (fail_if_success (with_reducible show wpAny _ _ (exec (PySem.Stmt.While _ _ _ _) _) _ _ _)); (fail_if_success (with_reducible show wpAny _ _ (eval (PySem.Expr.ListComp _ _ _ _) _) _ _ _)); (fail_if_success (with_reducible show wpAny _ _ (eval (PySem.Expr.DictComp _ _ _ _ _) _) _ _ _)); (fail_if_success (with_reducible show wpAny _ _ (exec (PySem.Stmt.Assign _ (PySem.Expr.ListComp _ _ _ _) _) _) _ _ _)); (fail_if_success (with_reducible show wpAny _ _ (exec (PySem.Stmt.Assign _ (PySem.Expr.DictComp _ _ _ _ _) _) _) _ _ _)); (first | (k_unfold; (try dsimp only)) | (k_end; wrow_close) | walk1 | (dsimp only; walk1) | (leave1; walk_say "STEP leave1"; try dsimp only) | fail "no step"))
      refine wpAny_toks ?_
      refine cmp_spec (m := _) (by assumption) F (by assumption) N (by assumption) lawScope_kind (by omega) (mc0 _ j1) (mc0 _ j2) (mc0 _ j3) (mc0 _ j4) (mc0 _ j5) (mc0 _ j6) (mc0 _ mT1) (mc0 _ mT2) ?_ ?_ ?_ ?_ ?_
      · dsimp only at *; omega
      · dsimp only at *; omega
      · dsimp only at *; omega
      · dsimp only at *; omega
      intro t9 h9 tk9 F9 N9 q0 q1 q2
      refine DEnd.intro F9 N9 (strKind_is _ _ _ _) hoD2 (by rw [hIn.1.length]; omega) ((I, oI) :: (C, oC) :: (D, oD) :: (Xc, oX') :: nb) (fun _ h => h) hC2 off2 (fun p hp => Nat.ne_of_lt (hltD p hp)) (fun oD' tk' hle hd => ⟨trivial, oD', _, rfl, hd, ?_, hltD⟩)
      refine (hIn.up ?_).snoc q0 ?_
      · dsimp only at *; omega
      · omega
    · rintro D2 _ nw gg2 tk₂ ⟨oD2, kvi, rfl, hoD2, hIn, hltD⟩ tle3
      intro h2 tk2 F N tle4
      subst hnb
      have oD2I : @Ne Nat D2 I := Nat.ne_of_gt (hltD _ List.mem_cons_self)
      have oD2C : @Ne Nat D2 C := Nat.ne_of_gt (hltD _ (List.mem_cons_of_mem _ List.mem_cons_self))
      have oD2D : @Ne Nat D2 D := Nat.ne_of_gt (hltD _ (List.mem_cons_of_mem _ (List.mem_cons_of_mem _ List.mem_cons_self)))
      have oD2X : @Ne Nat D2 Xc := Nat.ne_of_gt (hltD _ (List.mem_cons_of_mem _ (List.mem_cons_of_mem _ (List.mem_cons_of_mem _ List.mem_cons_self))))
      have offn : ∀ p ∈ ((D2, oD2) :: tl9) ++ (rest ++ cells), p.1 ≠ D ∧ p.1 ≠ Xc := fun p hp => by
        rcases List.mem_cons.mp hp with rfl | hp
        · exact ⟨oD2D, oD2X⟩
        · exact offb p hp
      refine DEnd.intro F N (strKind_is _ _ _ _) hoD (by rw [hO.1.length]; omega) ((Xc, oX') :: (((D2, oD2) :: tl9) ++ (rest ++ cells))) (fun p hp => ?_) hC (fun p hp => ?_) (fun p hp => ?_) (fun oD' tk' hle hd => ⟨trivial, oD', oX', _, _, (D2, oD2) :: tl9, rfl, hoX', hd, ?_, ?_, hDX, offn⟩)
      · (revert p; (repeat' (first | refine List.forall_mem_cons.mpr ⟨?_, ?_⟩ | refine List.forall_mem_append.mpr ⟨?_, ?_⟩ | exact List.forall_mem_nil _)); all_goals (first | (intro p9 hp9; solve_by_elim (maxDepth := 24) only [hp9, List.mem_cons_of_mem, List.mem_append_left, List.mem_append_right]) | solve_by_elim (maxDepth := 24) only [List.mem_cons_self, List.mem_cons_of_mem, List.mem_append_left, List.mem_append_right]))
      · simp only [List.mem_cons, List.cons_append] at hp
        rcases hp with rfl | rfl | rfl | hp
        · exact off _ List.mem_cons_self
        · exact off _ (List.mem_cons_of_mem _ List.mem_cons_self)
        · exact ⟨oD2I, oD2C⟩
        · exact off p (List.mem_cons_of_mem _ (List.mem_cons_of_mem _ hp))
      · rcases List.mem_cons.mp hp with rfl | hp
        · exact Nat.ne_of_gt hDX
        · exact (offn p hp).1
      · refine (hO.up (fun p hp => List.mem_cons_of_mem _ hp) ?_).snoc List.mem_cons_self hoD2 (hIn.up ?_)
        · dsimp only at *; omega
        · dsimp only at *; omega
      · exact List.forall_mem_cons.mpr ⟨nc_dict hoD2, nctl⟩
  · rintro D Xc nw gg tk₀ ⟨oD, oX, v₀, kvs, tl9, rfl, hoX, hoD, hO, nctl, hDX, offb⟩ tle
    intro h tk F N tle2
    have N2 : News h₀ L h ((((D, oD) :: tl9) ++ rest) ++ cells) := cb_drop N fun p hp => by
      (revert p; (repeat' (first | refine List.forall_mem_cons.mpr ⟨?_, ?_⟩ | refine List.forall_mem_append.mpr ⟨?_, ?_⟩ | exact List.forall_mem_nil _)); all_goals (first | (intro p9 hp9; solve_by_elim (maxDepth := 24) only [hp9, List.mem_cons_of_mem, List.mem_append_left, List.mem_append_right]) | solve_by_elim (maxDepth := 24) only [List.mem_cons_self, List.mem_cons_of_mem, List.mem_append_left, List.mem_append_right]))
    have nc2 : ∀ p ∈ ((D, oD) :: tl9) ++ rest, NC p.2 := fun p hp => by
      rcases List.mem_append.mp hp with hp | hp
      · rcases List.mem_cons.mp hp with rfl | hp
        · exact nc_dict hoD
        · exact nctl p hp
      · exact hr p hp
    have hDeep : DeepIs Challenge.rw_xg0084_01.row.prog w (deepV o1 o2 va vb) tk ((D, oD) :: tl9) D := by
      refine ⟨oD, kvs, List.mem_cons_self, hoD, fun i hi => ?_⟩
      obtain ⟨di, odi, kvi, e, md, dd, r⟩ := hO.2 i hi
      refine ⟨di, odi, kvi, hO.1.value (fun i j => letter_inj) e, List.mem_cons_of_mem _ md, dd, fun j hj => ?_⟩
      obtain ⟨t, e2, c1, c2⟩ := r.2 j hj
      exact ⟨t, r.1.value (fun i j => letter_inj) e2, c1, Nat.lt_of_lt_of_le c2 tle2⟩
    clear N
    generalize hall : (((D, oD) :: tl9) ++ rest) = all at N2 nc2
    repeat' ((fail_if_success (with_reducible show wpAny _ _ (execs (PySem.Stmt.If _ _ _ _ :: _) _) _ _ _)); (fail_if_success (with_reducible show wpAny _ _ (exec (PySem.Stmt.For _ _ _ _ _) _) _ _ _)); (fail_if_success (with_reducible show wpAny _ _ (exec (PySem.Stmt.While _ _ _ _) _) _ _ _)); (fail_if_success (with_reducible show wpAny _ _ (eval (PySem.Expr.ListComp _ _ _ _) _) _ _ _)); (fail_if_success (with_reducible show wpAny _ _ (eval (PySem.Expr.DictComp _ _ _ _ _) _) _ _ _)); (fail_if_success (with_reducible show wpAny _ _ (exec (PySem.Stmt.Assign _ (PySem.Expr.ListComp _ _ _ _) _) _) _ _ _)); (fail_if_success (with_reducible show wpAny _ _ (exec (PySem.Stmt.Assign _ (PySem.Expr.DictComp _ _ _ _ _) _) _) _ _ _)); (first | (k_unfold; (try dsimp only)) | (k_end; wrow_close) | walk1 | (dsimp only; walk1) | (leave1; walk_say "STEP leave1"; try dsimp only) | fail "no step"))
    rename_i h9 cells9 F9 N9 CA9 tz
    subst hall
    exact hret D ((D, oD) :: tl9) h9 _ cells9 F9 N9 CA9 (List.forall_mem_cons.mpr ⟨nc_dict hoD, nctl⟩) hDeep tz
end
end
-- Law14
section
theorem kr_Law14 : True := by
  k_with_none
  w_top off
  trivial
open PySem PySem.W PyProof.Rows PySem.Calls PySem.Spec
noncomputable def MatAt (f : Nat → Nat → Int) (nw : List (Addr × Obj)) (ys : List Value) (i : Nat) : Prop :=
  ys.length = i ∧ ∀ j, j < i → ∃ T row k, ys[j]? = some (.ref T) ∧ (T, W.listOf row.toArray k) ∈ nw ∧ IntsAre row ((List.range 6).map (f j))
theorem MatAt.up {f : Nat → Nat → Int} {nw nw' : List (Addr × Obj)} {ys : List Value} {i : Nat} (h : MatAt f nw ys i) (hs : ∀ p ∈ nw, p ∈ nw') : MatAt f nw' ys i :=
  ⟨h.1, fun j hj => let ⟨T, row, k, a, b, c⟩ := h.2 j hj; ⟨T, row, k, a, hs _ b, c⟩⟩
theorem MatAt.snoc {f : Nat → Nat → Int} {nw : List (Addr × Obj)} {ys : List Value} {i : Nat} (h : MatAt f nw ys i) {T k : Nat} {row : List Value} (m : (T, W.listOf row.toArray k) ∈ nw) (r : IntsAre row ((List.range 6).map (f i))) : MatAt f nw (ys ++ [.ref T]) (i + 1) := by
  obtain ⟨hl, h⟩ := h
  refine ⟨by simp [hl], fun j hj => ?_⟩
  rcases Nat.lt_or_ge j i with q | q
  · obtain ⟨T', row', k', a, b⟩ := h j q
    exact ⟨T', row', k', by rw [List.getElem?_append_left (by omega)]; exact a, b⟩
  · obtain rfl : j = i := by omega
    exact ⟨T, row, k, by rw [List.getElem?_append_right (by omega), hl]; simp, m, r⟩
noncomputable def matD (f : Nat → Nat → Int) (n : Nat) : List PyData := (List.range n).map fun i => .list (((List.range 6).map (f i)).map PyData.int)
theorem mat_reads {h₀ h : Heap} {L l k : Addr} {all nw : List (Addr × Obj)} {rv : List Value} {f : Nat → Nat → Int} {n : Nat} (N : News h₀ L h all) (hm : (l, W.listOf rv.toArray k) ∈ all) (hR : MatAt f nw rv n) (hs : ∀ p ∈ nw, p ∈ all) : ∃ as, Reads h (.ref l) (.list (matD f n)) as := by
  refine list_reads N hm (by rw [hR.1]; simp [matD]) fun i v d hv hd => ?_
  have hi : i < n := by rw [← hR.1]; exact (List.getElem?_eq_some_iff.mp hv).1
  obtain ⟨T, row, kk, e1, e2, e3⟩ := hR.2 i hi
  rw [e1] at hv
  cases hv
  have : d = .list (((List.range 6).map (f i)).map PyData.int) := by
    unfold matD at hd
    rw [List.getElem?_map, List.getElem?_range hi] at hd
    exact (Option.some.inj hd).symm
  subst this
  exact ⟨_, reads_newData (show h.IsList T row.toArray from ⟨_, (N _ (hs _ e2)).1, rfl, kk, rfl⟩) (W.ke_carried e3)⟩
noncomputable def cmpR (x y : Int) : Int := if y < x then 1 else if x < y then -1 else 0
theorem abc_at {i c : Nat} (h : (Str.ofString "abcdef").cps[i]? = some c) : i < 6 ∧ (⟨#[c]⟩ : PySem.Str) = letter i := by
  have hs : (Str.ofString "abcdef").cps = #[97, 98, 99, 100, 101, 102] := by decide +kernel
  rw [hs] at h
  match i, h with
  | 0, h => cases h; exact ⟨by decide, rfl⟩
  | 1, h => cases h; exact ⟨by decide, rfl⟩
  | 2, h => cases h; exact ⟨by decide, rfl⟩
  | 3, h => cases h; exact ⟨by decide, rfl⟩
  | 4, h => cases h; exact ⟨by decide, rfl⟩
  | 5, h => cases h; exact ⟨by decide, rfl⟩
  | i + 6, h => simp at h
theorem abc_asc : (Str.ofString "abcdef").cps.all (· < 128) = true := by decide +kernel
theorem abc_size : (Str.ofString "abcdef").cps.size = 6 := by decide +kernel
theorem row_succ (f : Nat → Int) (j : Nat) : (List.range (j + 1)).map f = (List.range j).map f ++ [f j] := by simp [List.range_succ]
inductive PIo (val : Nat → Nat → Int) (base : List (Addr × Obj)) (D Xc : Addr) (i tk : Nat) (nw : List (Addr × Obj)) : Prop
  | mk (ys : List Value) (oX : Obj) (v : Option Value) (tl : List (Addr × Obj))
    (x1 : nw = (D, LCg.lst ys) :: (Xc, oX) :: (tl ++ base))
    (x2 : oX.data = .cell v)
    (x3 : MatAt val tl ys i)
    (x4 : D < Xc)
    (x5 : (∀ p ∈ tl ++ base, p.1 ≠ D ∧ p.1 ≠ Xc)) : PIo val base D Xc i tk nw
section
theorem kw_666278_1 : True := by
  k_with "eval Name" => (k_here; k_dflt (refine' lw_name (by k_asm) (by assumption) (by (intro q9 hq9; (repeat (refine List.mem_cons_of_mem _ ?_)); first | exact List.mem_append_right _ hq9 | solve_by_elim)) (by rfl) (by first | rfl | assumption) ?_ (by exact lawScope_kind) (by rfl) (by rfl); k_whole))
  k_with "eval Name" => (k_here; k_dflt (refine' nameX_L (by k_asm) (by first | rfl | assumption) ?_ (by exact lawScope_kind) (by rfl); k_whole))
  k_with "storeName" => (k_here; k_dflt (first | (refine' lw_put (by k_asm) (by first | assumption | exact (show News _ _ _ ((_ :: _) ++ _) from by assumption) | exact (show News _ _ _ ((_ :: _ :: _) ++ _) from by assumption) | exact (show News _ _ _ ((_ :: _ :: _ :: _) ++ _) from by assumption) | exact (show News _ _ _ ((_ :: _ :: _ :: _ :: _) ++ _) from by assumption) | exact (show News _ _ _ ((_ :: _ :: _ :: _ :: _ :: _) ++ _) from by assumption) | exact (show News _ _ _ ((_ :: _ :: _ :: _ :: _ :: _ :: _) ++ _) from by assumption)) (by assumption) (by ((repeat (refine List.forall_mem_cons.mpr ⟨by first | (intro v9 h9; cases h9; done) | assumption, ?_⟩)); first | assumption | exact (fun _ h => nomatch h))) (by rfl) ?_ (by rfl); k_whole)); intro _ _ _ _ _)
  trivial

theorem kw_666278_2 : True := by
  k_with "eval Name" => (k_here; (with_reducible show wpAny _ _ (eval (Expr.Name _ _) (compEnvC _ _ _ _)) _ _ _); k_dflt (refine' lw_comp (by k_asm) (by assumption) (by (intro q9 hq9; (repeat (refine List.mem_cons_of_mem _ ?_)); first | exact List.mem_append_right _ hq9 | solve_by_elim)) (by rfl) (by rfl) (by first | rfl | assumption) ?_ (by rfl) (by first | exact .inl rfl | exact .inr rfl) (by rfl) (by rfl); k_whole))
  trivial

theorem kw_666278_3 : True := by
  k_with "subscriptTail" => (k_here; (with_reducible show wpAny _ _ (subscriptTail _ _ (Value.ref _) (Value.str _ _)) _ _ _); k_dflt (refine' DK.item (knd := PySem.strKind _ _) (by k_asm) (by k_mem) (by assumption) (strKind_is _ _ _ _) (by assumption) ?_ (by with_unfolding_all rfl); k_whole))
  trivial
theorem partI {w : World} {p : Program} {loose : List Str} {mean : ExcName → Option Value} {mg mb : Str → Option Value} {dp un : Nat} {gd : Option (List Code)} {cn : Str} {a : Addr} {ccd : Value} {outer : List Env} {A₀ : Around} {base h₀ : Heap} {L : Addr} {m mc : Str → Option Value} {rest cells : List (Addr × Obj)} {s : Shared} {Q : Flow → Shared → Prop} {E : Value → Shared → Prop} {dd DN kn : Addr} {val : Nat → Nat → Int} {rk : Nat → Int} {TT : Tok} {tl : Tok} {rs : List Value} (B : Below A₀ base outer h₀) (X : (Mine.hA.heap_1_39 w.params).In h₀) (T : Top p loose mean mg mb h₀) (hd : dp + 20 < recursionLimit) (hu : un + 300 < cLine) (F : Fr h₀ L s.heap m) (N : News h₀ L s.heap (rest ++ cells)) (CA : CellsAre mc (cellsFrom (L + 1) lawScope.names []) cells) (hr : ∀ p ∈ rest, NC p.2) (hm1 : mc (Str.ofString "letters") = some (.str (Str.ofString "abcdef") tl)) (hm2 : mc (Str.ofString "deeper") = some (.ref dd)) (hm3 : mc (Str.ofString "ranks") = some (.ref DN))      (hD : DeepIs Challenge.rw_xg0084_01.row.prog w val TT rest dd) (mN : (DN, W.listOf rs.toArray kn) ∈ rest) (hI : IntsAre rs ((List.range 6).map rk)) (hval : ∀ i j, i < 6 → j < 6 → val i j = cmpR (rk i) (rk j))      (hret : ∀ h' tk', Fr h₀ L h' m → News h₀ L h' (rest ++ cells) → s.toks ≤ tk' → wpAny (model Challenge.rw_xg0084_01.row.toRowW.prog w) (ktrTop dp un gd cn lawScope L a ccd (cellsFrom (L + 1) lawScope.names []) outer) (execs (lawBody.drop 17) (envX cn lawScope L a ccd (cellsFrom (L + 1) lawScope.names []))) Q E { s with heap := h', toks := tk' }) :
    wpAny (model Challenge.rw_xg0084_01.row.toRowW.prog w) (ktrTop dp un gd cn lawScope L a ccd (cellsFrom (L + 1) lawScope.names []) outer) (execs (lawBody.drop 16) (envX cn lawScope L a ccd (cellsFrom (L + 1) lawScope.names []))) Q E s := by
  have _q : Challenge.rw_xg0084_01 = Challenge.rw_xg0084_01 ∧ Mine.hA.heap_1_39 = Mine.hA.heap_1_39 := by (k_fill; exact ⟨rfl, rfl⟩)
  have hcs : ∀ p ∈ cells, p ∈ rest ++ cells := fun p hp => List.mem_append_right _ hp
  have hrs : ∀ p ∈ rest, p ∈ rest ++ cells := fun p hp => List.mem_append_left _ hp
  show wpAny _ _ (execs (_ :: _) _) _ _ _
  walk1
  refine wpAny_toks ?_
  repeat' ((fail_if_success (with_reducible show wpAny _ _ (exec (PySem.Stmt.For _ _ _ _ _) _) _ _ _)); (fail_if_success (with_reducible show wpAny _ _ (exec (PySem.Stmt.While _ _ _ _) _) _ _ _)); (fail_if_success (with_reducible show wpAny _ _ (eval (PySem.Expr.ListComp _ _ _ _) _) _ _ _)); (fail_if_success (with_reducible show wpAny _ _ (eval (PySem.Expr.DictComp _ _ _ _ _) _) _ _ _)); (fail_if_success (with_reducible show wpAny _ _ (exec (PySem.Stmt.Assign _ (PySem.Expr.ListComp _ _ _ _) _) _) _ _ _)); (fail_if_success (with_reducible show wpAny _ _ (exec (PySem.Stmt.Assign _ (PySem.Expr.DictComp _ _ _ _ _) _) _) _ _ _)); (first | (k_unfold; (try dsimp only)) | (k_end; wrow_close) | walk1 | (dsimp only; walk1) | (leave1; walk_say "STEP leave1"; try dsimp only) | fail "no step"))
  obtain ⟨odd, kvd, mdd, idd, hdi⟩ := hD
  have mdd2 := hrs _ mdd
  refine evalX (cl := _) F rfl rfl (by with_unfolding_all rfl) ok_list (env_cell (x := Str.ofString "a") (fun n => by rfl) (fun h => by rfl)) (fun Q s h => acc_list h) rfl (by rfl) (by decide) ?_
  k_steps
  refine gsrc_str abc_asc (m := m) (news := rest ++ cells) (PIo val (rest ++ cells)) rfl F N ⟨_, _, rfl⟩      (fun D X hb hDX => ⟨[], _, _, [], rfl, rfl, ⟨rfl, fun a h => absurd h (Nat.not_lt_zero _)⟩, hDX, fun p hp => ⟨Nat.ne_of_lt (hb p hp), Nat.ne_of_lt (Nat.lt_trans (hb p hp) hDX)⟩⟩) ?_ ?_
  · rintro D Xc i c u nw gg I tk₀ hcc ⟨ys, oX, v₀, tl9, rfl, hoX, hM, hDX, offb⟩ tle
    obtain ⟨hi, ec⟩ := abc_at hcc
    rw [ec]
    refine GTurn.cell (fun _ => rfl) rfl rfl hoX (Nat.ne_of_lt hDX) (fun p hp => (offb p hp).2) ?_
    intro oI C oC oX' m₁ h tk E' hoX' hC F N off ne tle2
    refine tests0 ?_
    rw [if_pos rfl]
    refine lbody (by rw [hM.1]; omega) ?_
    obtain ⟨di, odi, kvi, hvi, mdi, idi, hvj⟩ := hdi i hi
    have hrs2 : ∀ p ∈ rest ++ cells, p ∈ tl9 ++ (rest ++ cells) := fun p hp => List.mem_append_right _ hp
    have hcs2 : ∀ p ∈ cells, p ∈ tl9 ++ (rest ++ cells) := fun p hp => hrs2 _ (hcs p hp)
    have mdd3 := hrs2 _ mdd2
    have mdi3 := hrs2 _ (hrs _ mdi)
    generalize hnb : tl9 ++ (rest ++ cells) = nb at offb N off hrs2 hcs2 mdd3 mdi3
    refine compG F (by with_unfolding_all rfl) (by decide) (by rfl) (by decide) ?_
    k_steps
    refine src_str abc_asc (m := m) (news := (I, oI) :: (C, oC) :: (D, LCg.lst ys) :: (Xc, oX') :: nb) (fun j zs nw => nw = (I, oI) :: (C, oC) :: (D, LCg.lst ys) :: (Xc, oX') :: nb ∧ IntsAre zs ((List.range j).map (val i))) rfl F N (by rw [abc_size, sizeLine_eq]; decide) ⟨_, _, rfl⟩ ⟨rfl, .nil⟩ ?_ ?_
    · rintro j c2 u2 zs nw gg2 I2 hcc2 hly ⟨rfl, hz⟩
      obtain ⟨hj, ec2⟩ := abc_at hcc2
      rw [ec2]
      refine CTurn.name rfl rfl ?_
      intro oI2 C2 oC2 D2 m₂ h2 tk2 E2 hC2 hmv F N off2 ne2 tle3
      refine tests0 ?_
      rw [if_pos rfl]
      obtain ⟨tv, hva, _⟩ := hvj j hj
      repeat' ((fail_if_success (with_reducible show wpAny _ _ (exec (PySem.Stmt.For _ _ _ _ _) _) _ _ _)); (fail_if_success (with_reducible show wpAny _ _ (exec (PySem.Stmt.While _ _ _ _) _) _ _ _)); (fail_if_success (with_reducible show wpAny _ _ (eval (PySem.Expr.ListComp _ _ _ _) _) _ _ _)); (fail_if_success (with_reducible show wpAny _ _ (eval (PySem.Expr.DictComp _ _ _ _ _) _) _ _ _)); (fail_if_success (with_reducible show wpAny _ _ (exec (PySem.Stmt.Assign _ (PySem.Expr.ListComp _ _ _ _) _) _) _ _ _)); (fail_if_success (with_reducible show wpAny _ _ (exec (PySem.Stmt.Assign _ (PySem.Expr.DictComp _ _ _ _ _) _) _) _ _ _)); (first | (k_unfold; (try dsimp only)) | (k_end; wrow_close) | walk1 | (dsimp only; walk1) | (leave1; walk_say "STEP leave1"; try dsimp only) | fail "no step"))
      refine CEnd.intro F N _ (fun _ h => h) hC2 off2 trivial ⟨rfl, ?_⟩
      rw [row_succ]
      exact hz.append (.cons _ _ .nil)
    · rintro zs nw gg2 ⟨rfl, hz⟩ D2 h2 tk2 F N of2
      rw [abc_size] at hz
      subst hnb
      have o2 := off1_mem of2
      refine LEnd.intro F N ((Xc, oX') :: (((D2, LCg.lst zs) :: tl9) ++ (rest ++ cells))) (fun p hp => ?_) hC (fun p hp => ?_) (fun p hp => ?_) trivial ⟨_, oX', _, (D2, LCg.lst zs) :: tl9, rfl, hoX', (hM.up fun p hp => List.mem_cons_of_mem _ hp).snoc List.mem_cons_self hz, hDX, ?_⟩
      · (revert p; (repeat' (first | refine List.forall_mem_cons.mpr ⟨?_, ?_⟩ | refine List.forall_mem_append.mpr ⟨?_, ?_⟩ | exact List.forall_mem_nil _)); all_goals (first | (intro p9 hp9; solve_by_elim (maxDepth := 24) only [hp9, List.mem_cons_of_mem, List.mem_append_left, List.mem_append_right]) | solve_by_elim (maxDepth := 24) only [List.mem_cons_self, List.mem_cons_of_mem, List.mem_append_left, List.mem_append_right]))
      · simp only [List.mem_cons, List.cons_append] at hp
        rcases hp with rfl | rfl | rfl | hp
        · exact off _ List.mem_cons_self
        · exact off _ (List.mem_cons_of_mem _ List.mem_cons_self)
        · exact ⟨Ne.symm (o2 (I, oI) List.mem_cons_self), Ne.symm (o2 (C, oC) (List.mem_cons_of_mem _ List.mem_cons_self))⟩
        · exact off p (List.mem_cons_of_mem _ (List.mem_cons_of_mem _ hp))
      · simp only [List.mem_cons, List.cons_append] at hp
        rcases hp with rfl | rfl | hp
        · exact Nat.ne_of_gt hDX
        · exact Ne.symm (o2 (D, LCg.lst ys) (List.mem_cons_of_mem _ (List.mem_cons_of_mem _ List.mem_cons_self)))
        · exact (offb p hp).1
      · intro p hp
        rcases List.mem_cons.mp hp with rfl | hp
        · exact ⟨Ne.symm (o2 (D, LCg.lst ys) (List.mem_cons_of_mem _ (List.mem_cons_of_mem _ List.mem_cons_self))), Ne.symm (o2 (Xc, oX') (List.mem_cons_of_mem _ (List.mem_cons_of_mem _ (List.mem_cons_of_mem _ List.mem_cons_self))))⟩
        · exact offb p hp
  · rintro D1 Xc nw gg tk₀ ⟨ys, oX, v₀, tl1, rfl, hoX, hM, hDX, offb⟩ tle
    rw [abc_size] at hM
    intro h tk F N tle2
    have N2 : News h₀ L h ((D1, LCg.lst ys) :: (tl1 ++ (rest ++ cells))) := cb_drop N fun p hp => by
      (revert p; (repeat' (first | refine List.forall_mem_cons.mpr ⟨?_, ?_⟩ | refine List.forall_mem_append.mpr ⟨?_, ?_⟩ | exact List.forall_mem_nil _)); all_goals (first | (intro p9 hp9; solve_by_elim (maxDepth := 24) only [hp9, List.mem_cons_of_mem, List.mem_append_left, List.mem_append_right]) | solve_by_elim (maxDepth := 24) only [List.mem_cons_self, List.mem_cons_of_mem, List.mem_append_left, List.mem_append_right]))
    have hM2 : MatAt val ((D1, LCg.lst ys) :: (tl1 ++ (rest ++ cells))) ys 6 := hM.up fun p hp => List.mem_cons_of_mem _ (List.mem_append_left _ hp)
    have hb2 : ∀ p ∈ rest ++ cells, p ∈ (D1, LCg.lst ys) :: (tl1 ++ (rest ++ cells)) := fun p hp => List.mem_cons_of_mem _ (List.mem_append_right _ hp)
    have mD1 : (D1, W.listOf ys.toArray ys.length) ∈ (D1, LCg.lst ys) :: (tl1 ++ (rest ++ cells)) := List.mem_cons_self
    have hcs9 : ∀ p ∈ cells, p ∈ (D1, LCg.lst ys) :: (tl1 ++ (rest ++ cells)) := fun p hp => hb2 _ (hcs p hp)
    have mN9 := hb2 _ (hrs _ mN)
    clear N
    generalize hnb : (D1, LCg.lst ys) :: (tl1 ++ (rest ++ cells)) = base at N2 hM2 hb2 mD1 hcs9 mN9
    repeat' ((fail_if_success (with_reducible show wpAny _ _ (exec (PySem.Stmt.For _ _ _ _ _) _) _ _ _)); (fail_if_success (with_reducible show wpAny _ _ (exec (PySem.Stmt.While _ _ _ _) _) _ _ _)); (fail_if_success (with_reducible show wpAny _ _ (eval (PySem.Expr.ListComp _ _ _ _) _) _ _ _)); (fail_if_success (with_reducible show wpAny _ _ (eval (PySem.Expr.DictComp _ _ _ _ _) _) _ _ _)); (fail_if_success (with_reducible show wpAny _ _ (exec (PySem.Stmt.Assign _ (PySem.Expr.ListComp _ _ _ _) _) _) _ _ _)); (fail_if_success (with_reducible show wpAny _ _ (exec (PySem.Stmt.Assign _ (PySem.Expr.DictComp _ _ _ _ _) _) _) _ _ _)); (first | (k_unfold; (try dsimp only)) | (k_end; wrow_close) | walk1 | (dsimp only; walk1) | (leave1; walk_say "STEP leave1"; try dsimp only) | fail "no step"))
    refine evalX (cl := _) F rfl rfl (by with_unfolding_all rfl) ok_list (env_cell (x := Str.ofString "x") (fun n => by rfl) (fun h => by rfl)) (fun Q s h => acc_list h) rfl (by rfl) (by decide) ?_
    k_steps
    refine gsrc_list (its := rs.toArray) (m := m) (news := base) (PIo (fun i j => cmpR (rk i) (rk j)) base) rfl F N2 (.inr ⟨_, mN9, rfl, _, rfl⟩)        (fun D X hb hDX => ⟨[], _, _, [], rfl, rfl, ⟨rfl, fun a h => absurd h (Nat.not_lt_zero _)⟩, hDX, fun p hp => ⟨Nat.ne_of_lt (hb p hp), Nat.ne_of_lt (Nat.lt_trans (hb p hp) hDX)⟩⟩) ?_ ?_
    · rintro D Xc i v nw gg I tk₀ hv hS ⟨ys2, oX, v₀, tl9, rfl, hoX, hM, hDX, offb⟩ tle
      have hv' : rs[i]? = some v := by simpa using hv
      have hi : i < 6 := by have := (List.getElem?_eq_some_iff.mp hv').1; rw [hI.length] at this; simpa using this
      obtain ⟨t, e9⟩ := ints_at hI (i := i) (by simpa using hi)
      have er : ((List.range 6).map rk).getD i 0 = rk i := by rw [List.getD, List.getElem?_map, List.getElem?_range hi]; rfl
      rw [er] at e9
      obtain rfl : v = .int (rk i) t := Option.some.inj (hv'.symm.trans e9)
      refine GTurn.cell (fun _ => rfl) rfl rfl hoX (Nat.ne_of_lt hDX) (fun p hp => (offb p hp).2) ?_
      intro oI C oC oX' m₁ h tk E' hoX' hC F N off ne tle2
      refine tests0 ?_
      rw [if_pos rfl]
      refine lbody (by rw [hM.1]; omega) ?_
      have hrs2 : ∀ p ∈ base, p ∈ tl9 ++ base := fun p hp => List.mem_append_right _ hp
      have hcs2 : ∀ p ∈ cells, p ∈ tl9 ++ base := fun p hp => hrs2 _ (hcs9 p hp)
      have mN3 := hrs2 _ mN9
      generalize hnb2 : tl9 ++ base = nb at offb N off hrs2 hcs2 mN3 hS
      refine compG F (by with_unfolding_all rfl) (by decide) (by rfl) (by decide) ?_
      k_steps
      have mN4 : (DN, W.listOf rs.toArray kn) ∈ (I, oI) :: (C, oC) :: (D, LCg.lst ys2) :: (Xc, oX') :: nb := by simp only [List.mem_cons]; simp [mN3]
      refine src_list (its := rs.toArray) (m := m) (news := (I, oI) :: (C, oC) :: (D, LCg.lst ys2) :: (Xc, oX') :: nb) (fun j zs nw => nw = (I, oI) :: (C, oC) :: (D, LCg.lst ys2) :: (Xc, oX') :: nb ∧ IntsAre zs ((List.range j).map fun j => cmpR (rk i) (rk j))) rfl F N (.inr ⟨_, mN4, rfl, _, rfl⟩) (by rw [sizeLine_eq, List.size_toArray, hI.length]; simp) ⟨rfl, .nil⟩ ?_ ?_
      · rintro j v2 zs nw gg2 I2 hv2 hly hS2 ⟨rfl, hz⟩
        have hv2' : rs[j]? = some v2 := by simpa using hv2
        have hj : j < 6 := by have := (List.getElem?_eq_some_iff.mp hv2').1; rw [hI.length] at this; simpa using this
        obtain ⟨t2, e2⟩ := ints_at hI (i := j) (by simpa using hj)
        have er2 : ((List.range 6).map rk).getD j 0 = rk j := by rw [List.getD, List.getElem?_map, List.getElem?_range hj]; rfl
        rw [er2] at e2
        obtain rfl : v2 = .int (rk j) t2 := Option.some.inj (hv2'.symm.trans e2)
        refine CTurn.name rfl rfl ?_
        intro oI2 C2 oC2 D2 m₂ h2 tk2 E2 hC2 hmv F N off2 ne2 tle3
        refine tests0 ?_
        rw [if_pos rfl]
        have fin : ∀ (v : Int) (t : Tok) (tk tk0 : Nat), v = cmpR (rk i) (rk j) → CEnd h₀ L m { s with heap := gg2, toks := tk0 } I2 oI2 C2 D2 zs (LCg.SrcAt h₀ DN rs.toArray) (fun nw => nw = (I, oI) :: (C, oC) :: (D, LCg.lst ys2) :: (Xc, oX') :: nb ∧ IntsAre (zs ++ [.int v t]) ((List.range (j + 1)).map fun j => cmpR (rk i) (rk j))) { s with heap := h2, toks := tk } := by
          intro v t tk tk0 e
          subst e
          refine CEnd.intro F N _ (fun _ h => h) hC2 off2 hS2 ⟨rfl, ?_⟩
          rw [row_succ]
          exact hz.append (.cons _ _ .nil)
        repeat' ((fail_if_success (with_reducible show wpAny _ _ (exec (PySem.Stmt.For _ _ _ _ _) _) _ _ _)); (fail_if_success (with_reducible show wpAny _ _ (exec (PySem.Stmt.While _ _ _ _) _) _ _ _)); (fail_if_success (with_reducible show wpAny _ _ (eval (PySem.Expr.ListComp _ _ _ _) _) _ _ _)); (fail_if_success (with_reducible show wpAny _ _ (eval (PySem.Expr.DictComp _ _ _ _ _) _) _ _ _)); (fail_if_success (with_reducible show wpAny _ _ (exec (PySem.Stmt.Assign _ (PySem.Expr.ListComp _ _ _ _) _) _) _ _ _)); (fail_if_success (with_reducible show wpAny _ _ (exec (PySem.Stmt.Assign _ (PySem.Expr.DictComp _ _ _ _ _) _) _) _ _ _)); (first | (k_unfold; (try dsimp only)) | (k_end; wrow_close) | walk1 | (dsimp only; walk1) | (leave1; walk_say "STEP leave1"; try dsimp only) | fail "no step"))
        · rename_i q
          exact fin _ _ _ _ (by unfold cmpR; rw [if_pos (by omega)])
        · exact fin _ _ _ _ (by unfold cmpR; rw [if_neg (by omega), if_pos (by omega)])
        · exact fin _ _ _ _ (by unfold cmpR; rw [if_neg (by omega), if_neg (by omega)])
      · rintro zs nw gg2 ⟨rfl, hz⟩ D2 h2 tk2 F N of2
        rw [List.size_toArray, hI.length, List.length_map, List.length_range] at hz
        subst hnb2
        have o2 := off1_mem of2
        refine LEnd.intro F N ((Xc, oX') :: (((D2, LCg.lst zs) :: tl9) ++ base)) (fun p hp => ?_) hC (fun p hp => ?_) (fun p hp => ?_) (.inr ⟨_, List.mem_cons_of_mem _ (List.mem_cons_of_mem _ (List.mem_append_right _ mN9)), rfl, _, rfl⟩) ⟨_, oX', _, (D2, LCg.lst zs) :: tl9, rfl, hoX', (hM.up fun p hp => List.mem_cons_of_mem _ hp).snoc List.mem_cons_self hz, hDX, ?_⟩
        · (revert p; (repeat' (first | refine List.forall_mem_cons.mpr ⟨?_, ?_⟩ | refine List.forall_mem_append.mpr ⟨?_, ?_⟩ | exact List.forall_mem_nil _)); all_goals (first | (intro p9 hp9; solve_by_elim (maxDepth := 24) only [hp9, List.mem_cons_of_mem, List.mem_append_left, List.mem_append_right]) | solve_by_elim (maxDepth := 24) only [List.mem_cons_self, List.mem_cons_of_mem, List.mem_append_left, List.mem_append_right]))
        · simp only [List.mem_cons, List.cons_append] at hp
          rcases hp with rfl | rfl | rfl | hp
          · exact off _ List.mem_cons_self
          · exact off _ (List.mem_cons_of_mem _ List.mem_cons_self)
          · exact ⟨Ne.symm (o2 (I, oI) List.mem_cons_self), Ne.symm (o2 (C, oC) (List.mem_cons_of_mem _ List.mem_cons_self))⟩
          · exact off p (List.mem_cons_of_mem _ (List.mem_cons_of_mem _ hp))
        · simp only [List.mem_cons, List.cons_append] at hp
          rcases hp with rfl | rfl | hp
          · exact Nat.ne_of_gt hDX
          · exact Ne.symm (o2 (D, LCg.lst ys2) (List.mem_cons_of_mem _ (List.mem_cons_of_mem _ List.mem_cons_self)))
          · exact (offb p hp).1
        · intro p hp
          rcases List.mem_cons.mp hp with rfl | hp
          · exact ⟨Ne.symm (o2 (D, LCg.lst ys2) (List.mem_cons_of_mem _ (List.mem_cons_of_mem _ List.mem_cons_self))), Ne.symm (o2 (Xc, oX') (List.mem_cons_of_mem _ (List.mem_cons_of_mem _ (List.mem_cons_of_mem _ List.mem_cons_self))))⟩
          · exact offb p hp
    · rintro D2 Xc nw gg tk₀ ⟨ys2, oX, v₀, tl2, rfl, hoX, hM3, hDX, offb⟩ tle
      rw [List.size_toArray, hI.length, List.length_map, List.length_range] at hM3
      intro h tk F N tle2
      obtain ⟨as1, rd1⟩ := mat_reads N (List.mem_cons_of_mem _ (List.mem_cons_of_mem _ (List.mem_append_right _ mD1))) hM2 (fun p hp => List.mem_cons_of_mem _ (List.mem_cons_of_mem _ (List.mem_append_right _ hp)))
      obtain ⟨as2, rd2⟩ := mat_reads N List.mem_cons_self hM3 (fun p hp => List.mem_cons_of_mem _ (List.mem_cons_of_mem _ (List.mem_append_left _ hp)))
      have ed : matD (fun i j => cmpR (rk i) (rk j)) 6 = matD val 6 := by
        unfold matD
        refine List.map_congr_left fun i hi => ?_
        have hi := List.mem_range.mp hi
        congr 2
        refine List.map_congr_left fun j hj => ?_
        exact (hval i j hi (List.mem_range.mp hj)).symm
      rw [ed] at rd2
      have hsh : SeqAt.shaped (.list (matD val 6)) = true := by rfl
      refine ne_same rd1 rd2 hsh (show un + 64 < cLine by omega) ?_
      repeat' ((fail_if_success (with_reducible show wpAny _ _ (execs (PySem.Stmt.Assign [PySem.Expr.Name (PySem.Str.ofString "by_rank") _] _ _ :: _) _) _ _ _)); (fail_if_success (with_reducible show wpAny _ _ (exec (PySem.Stmt.For _ _ _ _ _) _) _ _ _)); (fail_if_success (with_reducible show wpAny _ _ (exec (PySem.Stmt.While _ _ _ _) _) _ _ _)); (fail_if_success (with_reducible show wpAny _ _ (eval (PySem.Expr.ListComp _ _ _ _) _) _ _ _)); (fail_if_success (with_reducible show wpAny _ _ (eval (PySem.Expr.DictComp _ _ _ _ _) _) _ _ _)); (fail_if_success (with_reducible show wpAny _ _ (exec (PySem.Stmt.Assign _ (PySem.Expr.ListComp _ _ _ _) _) _) _ _ _)); (fail_if_success (with_reducible show wpAny _ _ (exec (PySem.Stmt.Assign _ (PySem.Expr.DictComp _ _ _ _ _) _) _) _ _ _)); (first | (k_unfold; (try dsimp only)) | (k_end; wrow_close) | walk1 | (dsimp only; walk1) | (leave1; walk_say "STEP leave1"; try dsimp only) | fail "no step"))
      rename_i tz
      exact hret _ _ F (cb_drop N fun p hp => List.mem_cons_of_mem _ (List.mem_cons_of_mem _ (List.mem_append_right _ (hb2 p hp)))) tz
end
end
-- Law15
section
theorem kr_Law15 : True := by
  k_with_none
  w_top off
  trivial
open PySem PySem.W PyProof.Rows PySem.Calls PySem.Spec
noncomputable abbrev natI (l : List Nat) : List Int := l.map fun (x : Nat) => (x : Int)
noncomputable def Ranks (rl : List Nat) : Prop := rl.length = 6 ∧ rl.Nodup ∧ ∀ x, x < 6 → x ∈ rl
theorem Ranks.idx {rl : List Nat} (h : Ranks rl) {r : Nat} (hr : r < 6) : idxL r rl < 6 ∧ rl[idxL r rl]? = some r ∧ ∀ i, i < idxL r rl → rl[i]? ≠ some r := by
  obtain ⟨a, b, c⟩ := idxL_spec (h.2.2 r hr)
  exact ⟨by rw [← h.1]; exact a, b, c⟩
theorem natI_at {rl : List Nat} {i r : Nat} (h : rl[i]? = some r) : (natI rl)[i]? = some (r : Int) := by rw [List.getElem?_map, h]; rfl
theorem natI_ne {rl : List Nat} {i r : Nat} (h : rl[i]? ≠ some r) : (natI rl)[i]? ≠ some (r : Int) := by
  intro q
  rw [List.getElem?_map] at q
  cases e : rl[i]? with
  | none => rw [e] at q; cases q
  | some y =>
    rw [e] at q h
    have : (y : Int) = (r : Int) := Option.some.inj q
    have : y = r := by omega
    exact h (by rw [this])
noncomputable def ByAt (cs : List Int) (rl : List Nat) (nw : List (Addr × Obj)) (bs : List Value) (n : Nat) : Prop :=
  bs.length = n ∧ ∀ r, r < n → ∃ T u t, bs[r]? = some (.ref T) ∧ (T, tupO [.str (leadS (cs.getD (idxL r rl) 0)) u, .str (letter (idxL r rl)) t]) ∈ nw
theorem ByAt.up {cs : List Int} {rl : List Nat} {nw nw' : List (Addr × Obj)} {bs : List Value} {i : Nat} (h : ByAt cs rl nw bs i) (hs : ∀ p ∈ nw, p ∈ nw') : ByAt cs rl nw' bs i :=
  ⟨h.1, fun j hj => let ⟨T, u, t, a, b⟩ := h.2 j hj; ⟨T, u, t, a, hs _ b⟩⟩
theorem ByAt.snoc {cs : List Int} {rl : List Nat} {nw : List (Addr × Obj)} {bs : List Value} {i : Nat} (h : ByAt cs rl nw bs i) {T : Nat} {u t : Tok} (hm : (T, tupO [.str (leadS (cs.getD (idxL i rl) 0)) u, .str (letter (idxL i rl)) t]) ∈ nw) : ByAt cs rl nw (bs ++ [.ref T]) (i + 1) := by
  obtain ⟨hl, h⟩ := h
  refine ⟨by simp [hl], fun j hj => ?_⟩
  rcases Nat.lt_or_ge j i with q | q
  · obtain ⟨T', u', t', a, b⟩ := h j q
    exact ⟨T', u', t', by rw [List.getElem?_append_left (by omega)]; exact a, b⟩
  · obtain rfl : j = i := by omega
    exact ⟨T, u, t, by rw [List.getElem?_append_right (by omega), hl]; simp, hm⟩
section
theorem kw_113618_1 : True := by
  k_with "eval Name" => (k_here; k_dflt (refine' lw_name (by k_asm) (by assumption) (by (intro q9 hq9; (repeat (refine List.mem_cons_of_mem _ ?_)); first | exact List.mem_append_right _ hq9 | solve_by_elim)) (by rfl) (by first | rfl | assumption) ?_ (by exact lawScope_kind) (by rfl) (by rfl); k_whole))
  k_with "eval Name" => (k_here; k_dflt (refine' nameX_L (by k_asm) (by first | rfl | assumption) ?_ (by exact lawScope_kind) (by rfl); k_whole))
  k_with "storeName" => (k_here; k_dflt (first | (refine' lw_put (by k_asm) (by first | assumption | exact (show News _ _ _ ((_ :: _) ++ _) from by assumption) | exact (show News _ _ _ ((_ :: _ :: _) ++ _) from by assumption) | exact (show News _ _ _ ((_ :: _ :: _ :: _) ++ _) from by assumption) | exact (show News _ _ _ ((_ :: _ :: _ :: _ :: _) ++ _) from by assumption) | exact (show News _ _ _ ((_ :: _ :: _ :: _ :: _ :: _) ++ _) from by assumption) | exact (show News _ _ _ ((_ :: _ :: _ :: _ :: _ :: _ :: _) ++ _) from by assumption)) (by assumption) (by ((repeat (refine List.forall_mem_cons.mpr ⟨by first | (intro v9 h9; cases h9; done) | assumption, ?_⟩)); first | assumption | exact (fun _ h => nomatch h))) (by rfl) ?_ (by rfl); k_whole)); intro _ _ _ _ _)
  trivial

theorem kw_113618_2 : True := by
  k_with "eval Name" => (k_here; (with_reducible show wpAny _ _ (eval (Expr.Name _ _) (compEnvC _ _ _ _)) _ _ _); k_dflt (refine' lw_comp (by k_asm) (by assumption) (by (intro q9 hq9; (repeat (refine List.mem_cons_of_mem _ ?_)); first | exact List.mem_append_right _ hq9 | solve_by_elim)) (by rfl) (by rfl) (by first | rfl | assumption) ?_ (by rfl) (by first | exact .inl rfl | exact .inr rfl) (by rfl) (by rfl); k_whole))
  trivial

theorem kw_113618_3 : True := by
  k_with "getMethod ref" => (k_here; k_dflt (refine' LL.method (by k_asm) (by k_mem) ?_; k_whole))
  k_with "call builtin:list.index" => (k_here; k_dflt (refine' LL.index (by k_asm) (by k_mem) (by assumption) (by assumption) (by assumption) (by omega) ?_; k_whole))
  k_with "subscriptTail Name Call str int" => (k_here; (with_reducible show wpAny _ _ (subscriptTail _ _ (Value.str _ _) (Value.int _ _)) _ _ _); k_dflt (refine' abc_item rfl (by assumption) ?_ (by with_unfolding_all rfl) (by (intro _; with_unfolding_all rfl)); k_whole))
  k_with "subscriptTail" => (k_here; (with_reducible show wpAny _ _ (subscriptTail _ _ (Value.ref _) (Value.int _ _)) _ _ _); k_dflt (refine' LL.item (by k_asm) (by k_mem) (by omega) (by assumption) (by assumption) (by with_unfolding_all rfl) ?_; k_whole))
  trivial
theorem partJ {w : World} {p : Program} {loose : List Str} {mean : ExcName → Option Value} {mg mb : Str → Option Value} {dp un : Nat} {gd : Option (List Code)} {cn : Str} {a : Addr} {ccd : Value} {outer : List Env} {A₀ : Around} {base h₀ : Heap} {L : Addr} {m mc : Str → Option Value} {rest cells : List (Addr × Obj)} {s : Shared} {Q : Flow → Shared → Prop} {E : Value → Shared → Prop} {DL DN kn : Addr} {ys rs : List Value} {cs : List Int} {rl : List Nat} {tl : Tok} (B : Below A₀ base outer h₀) (X : (Mine.hA.heap_1_39 w.params).In h₀) (T : Top p loose mean mg mb h₀) (hd : dp + 20 < recursionLimit) (hu : un + 300 < cLine) (F : Fr h₀ L s.heap m) (N : News h₀ L s.heap (rest ++ cells)) (CA : CellsAre mc (cellsFrom (L + 1) lawScope.names []) cells) (hr : ∀ p ∈ rest, NC p.2) (mL : (DL, LCg.lst ys) ∈ rest) (hL : LeadsAre ys cs) (z1 : cs.length = 6) (hm1 : mc (Str.ofString "letters") = some (.str (Str.ofString "abcdef") tl)) (hm2 : mc (Str.ofString "leads") = some (.ref DL)) (hm3 : mc (Str.ofString "ranks") = some (.ref DN))      (mN : (DN, W.listOf rs.toArray kn) ∈ rest) (hI : IntsAre rs (natI rl)) (hrl : Ranks rl)
    (hret : ∀ DB bs tl h' tk' cells', Fr h₀ L h' m → News h₀ L h' (((DB, LCg.lst bs) :: (tl ++ rest)) ++ cells') → CellsAre (upd mc (Str.ofString "by_rank") (.ref DB)) (cellsFrom (L + 1) lawScope.names []) cells' → (∀ p ∈ tl, NC p.2) → ByAt cs rl tl bs 6 → s.toks ≤ tk' → wpAny (model Challenge.rw_xg0084_01.row.toRowW.prog w) (ktrTop dp un gd cn lawScope L a ccd (cellsFrom (L + 1) lawScope.names []) outer) (execs (lawBody.drop 18) (envX cn lawScope L a ccd (cellsFrom (L + 1) lawScope.names []))) Q E { s with heap := h', toks := tk' }) :
    wpAny (model Challenge.rw_xg0084_01.row.toRowW.prog w) (ktrTop dp un gd cn lawScope L a ccd (cellsFrom (L + 1) lawScope.names []) outer) (execs (lawBody.drop 17) (envX cn lawScope L a ccd (cellsFrom (L + 1) lawScope.names []))) Q E s := by
  have _q : Challenge.rw_xg0084_01 = Challenge.rw_xg0084_01 ∧ Mine.hA.heap_1_39 = Mine.hA.heap_1_39 := by (k_fill; exact ⟨rfl, rfl⟩)
  have hcs : ∀ p ∈ cells, p ∈ rest ++ cells := fun p hp => List.mem_append_right _ hp
  have hrs : ∀ p ∈ rest, p ∈ rest ++ cells := fun p hp => List.mem_append_left _ hp
  have mL2 := hrs _ mL
  have mN2 := hrs _ mN
  have hil := hI.length
  rw [List.length_map, hrl.1] at hil
  show wpAny _ _ (execs (_ :: _) _) _ _ _
  walk1
  refine wpAny_toks ?_
  refine PySem.wpAny_Assign_Name ?_ (by rfl)
  refine compG F (by with_unfolding_all rfl) (by decide) (by rfl) (by decide) ?_
  k_steps
  rename_i hR9 F9 N9 _
  refine src_range (n := 6) (m := m) (news := rest ++ cells) (fun i bs nw => ∃ tl, nw = tl ++ (rest ++ cells) ∧ (∀ p ∈ tl, NC p.2) ∧ ByAt cs rl tl bs i) rfl F9 N9 hR9 (by decide) (by decide) (by decide) ⟨_, _, rfl⟩ ⟨[], rfl, (fun _ h => nomatch h), rfl, fun j h => absurd h (Nat.not_lt_zero _)⟩ ?_ ?_
  · rintro i t bs nw gg I hi hly ⟨tl9, rfl, nctl, hT⟩
    rw [Int.zero_add]
    refine CTurn.name rfl rfl ?_
    intro oI C oC D2 m₁ h tk E' hC hmv F N off ne tle
    refine tests0 ?_
    rw [if_pos rfl]
    have hcs2 : ∀ p ∈ cells, p ∈ tl9 ++ (rest ++ cells) := fun p hp => List.mem_append_right _ (hcs p hp)
    have mL3 : (DL, LCg.lst ys) ∈ tl9 ++ (rest ++ cells) := List.mem_append_right _ mL2
    have mN3 : (DN, W.listOf rs.toArray kn) ∈ tl9 ++ (rest ++ cells) := List.mem_append_right _ mN2
    obtain ⟨x1, x2, x3⟩ := hrl.idx hi
    have x2' := natI_at x2
    have x3' : ∀ j, j < idxL i rl → (natI rl)[j]? ≠ some ((i : Nat) : Int) := fun j hj => natI_ne (x3 j hj)
    have hci : cs[idxL i rl]? = some (cs.getD (idxL i rl) 0) := by rw [List.getD, List.getElem?_eq_getElem (by omega)]; rfl
    obtain ⟨tLd, hyi⟩ := hL.2 _ _ hci
    have hyi' : ys[((idxL i rl : Nat) : Int).toNat]? = some (.str (leadS (cs.getD (idxL i rl) 0)) tLd) := hyi
    have hyl : ys.length < 2 ^ 62 := by have := hL.1; omega
    have hz100 : (natI rl).length ≤ 100 := by rw [List.length_map, hrl.1]; decide
    generalize hnb : tl9 ++ (rest ++ cells) = nb at off N hcs2 mL3 mN3
    generalize hp : idxL i rl = pp at *
    k_steps
    rename_i D15 _ F15 N15 l15
    subst hnb
    have l15' := allLt_of l15.2.2.2
    refine CEnd.intro F15 N15 ((D15, tupO [.str (leadS (cs.getD pp 0)) tLd, .str (letter pp) (tk + 1 + 1)]) :: (tl9 ++ (rest ++ cells))) (fun p hp => ?_) hC ?_ trivial ⟨_ :: tl9, rfl, ?_, ?_⟩
    · (revert p; (repeat' (first | refine List.forall_mem_cons.mpr ⟨?_, ?_⟩ | refine List.forall_mem_append.mpr ⟨?_, ?_⟩ | exact List.forall_mem_nil _)); all_goals (first | (intro p9 hp9; solve_by_elim (maxDepth := 24) only [hp9, List.mem_cons_of_mem, List.mem_append_left, List.mem_append_right]) | solve_by_elim (maxDepth := 24) only [List.mem_cons_self, List.mem_cons_of_mem, List.mem_append_left, List.mem_append_right]))
    · exact ⟨⟨Nat.ne_of_gt l15.1, Nat.ne_of_gt l15.2.1, Nat.ne_of_gt l15.2.2.1⟩, off⟩
    · exact List.forall_mem_cons.mpr ⟨(fun v e => by cases e), nctl⟩
    · subst hp
      exact (hT.up fun p hp => List.mem_cons_of_mem _ hp).snoc List.mem_cons_self
  · rintro bs nw gg ⟨tl9, rfl, nctl, hT⟩ D2 h tk F N of1
    have N2 : News h₀ L h (((D2, LCg.lst bs) :: (tl9 ++ rest)) ++ cells) := cb_drop N fun p hp => by
      (revert p; (repeat' (first | refine List.forall_mem_cons.mpr ⟨?_, ?_⟩ | refine List.forall_mem_append.mpr ⟨?_, ?_⟩ | exact List.forall_mem_nil _)); all_goals (first | (intro p9 hp9; solve_by_elim (maxDepth := 24) only [hp9, List.mem_cons_of_mem, List.mem_append_left, List.mem_append_right]) | solve_by_elim (maxDepth := 24) only [List.mem_cons_self, List.mem_cons_of_mem, List.mem_append_left, List.mem_append_right]))
    have nc2 : ∀ p ∈ tl9 ++ rest, NC p.2 := fun p hp => by
      rcases List.mem_append.mp hp with hp | hp
      · exact nctl p hp
      · exact hr p hp
    clear N
    repeat' ((fail_if_success (with_reducible show wpAny _ _ (execs (PySem.Stmt.Assign [PySem.Expr.Name (PySem.Str.ofString "near") _] _ _ :: _) _) _ _ _)); (fail_if_success (with_reducible show wpAny _ _ (exec (PySem.Stmt.For _ _ _ _ _) _) _ _ _)); (fail_if_success (with_reducible show wpAny _ _ (exec (PySem.Stmt.While _ _ _ _) _) _ _ _)); (fail_if_success (with_reducible show wpAny _ _ (eval (PySem.Expr.ListComp _ _ _ _) _) _ _ _)); (fail_if_success (with_reducible show wpAny _ _ (eval (PySem.Expr.DictComp _ _ _ _ _) _) _ _ _)); (fail_if_success (with_reducible show wpAny _ _ (exec (PySem.Stmt.Assign _ (PySem.Expr.ListComp _ _ _ _) _) _) _ _ _)); (fail_if_success (with_reducible show wpAny _ _ (exec (PySem.Stmt.Assign _ (PySem.Expr.DictComp _ _ _ _ _) _) _) _ _ _)); (first | (k_unfold; (try dsimp only)) | (k_end; wrow_close) | walk1 | (dsimp only; walk1) | (leave1; walk_say "STEP leave1"; try dsimp only) | fail "no step"))
    rename_i h9 cells9 F9 N9 CA9 tz
    exact hret D2 bs tl9 h9 _ cells9 F9 N9 CA9 nctl hT tz
end
end
-- Law16
section
theorem kr_Law16 : True := by
  k_with_none
  w_top off
  trivial
open PySem PySem.W PyProof.Rows PySem.Calls PySem.Spec
theorem ranks_item {rs : List Value} {rl : List Nat} (hI : IntsAre rs (natI rl)) (hrl : Ranks rl) {p : Int} {q : Nat} (hp : p = (q : Int)) (hq : q < 6) : ∃ t, rs[p.toNat]? = some (.int (rk rl q : Nat) t) := by
  subst hp
  obtain ⟨t, e⟩ := ints_at hI (i := q) (by rw [List.length_map, hrl.1]; exact hq)
  refine ⟨t, ?_⟩
  rw [Int.toNat_natCast, e]
  have : (natI rl).getD q 0 = ((rk rl q : Nat) : Int) := by
    unfold rk
    rw [List.getD, List.getElem?_map, List.getD, List.getElem?_eq_getElem (by rw [hrl.1]; exact hq)]; rfl
  rw [this]
inductive PKo (rl : List Nat) (base : List (Addr × Obj)) (D Xc : Addr) (i tk : Nat) (nw : List (Addr × Obj)) : Prop
  | mk (ys : List Value) (oX : Obj) (v : Option Value)
    (x1 : nw = (D, LCg.lst ys) :: (Xc, oX) :: base)
    (x2 : oX.data = .cell v)
    (x3 : IntsAre ys ((List.range i).map fun k => (nearF rl k : Int)))
    (x4 : D < Xc)
    (x5 : (∀ p ∈ base, p.1 < D)) : PKo rl base D Xc i tk nw
section
theorem kw_925530_1 : True := by
  k_with "eval Name" => (k_here; k_dflt (refine' lw_name (by k_asm) (by assumption) (by (intro q9 hq9; (repeat (refine List.mem_cons_of_mem _ ?_)); first | exact List.mem_append_right _ hq9 | solve_by_elim)) (by rfl) (by first | rfl | assumption) ?_ (by exact lawScope_kind) (by rfl) (by rfl); k_whole))
  k_with "eval Name" => (k_here; k_dflt (refine' nameX_L (by k_asm) (by first | rfl | assumption) ?_ (by exact lawScope_kind) (by rfl); k_whole))
  k_with "storeName" => (k_here; k_dflt (first | (refine' lw_put (by k_asm) (by first | assumption | exact (show News _ _ _ ((_ :: _) ++ _) from by assumption) | exact (show News _ _ _ ((_ :: _ :: _) ++ _) from by assumption) | exact (show News _ _ _ ((_ :: _ :: _ :: _) ++ _) from by assumption) | exact (show News _ _ _ ((_ :: _ :: _ :: _ :: _) ++ _) from by assumption) | exact (show News _ _ _ ((_ :: _ :: _ :: _ :: _ :: _) ++ _) from by assumption) | exact (show News _ _ _ ((_ :: _ :: _ :: _ :: _ :: _ :: _) ++ _) from by assumption)) (by assumption) (by ((repeat (refine List.forall_mem_cons.mpr ⟨by first | (intro v9 h9; cases h9; done) | assumption, ?_⟩)); first | assumption | exact (fun _ h => nomatch h))) (by rfl) ?_ (by rfl); k_whole)); intro _ _ _ _ _)
  trivial

theorem kw_925530_2 : True := by
  k_with "eval Name" => (k_here; (with_reducible show wpAny _ _ (eval (Expr.Name _ _) (compEnvC _ _ _ _)) _ _ _); k_dflt (refine' lw_comp (by k_asm) (by assumption) (by (intro q9 hq9; (repeat (refine List.mem_cons_of_mem _ ?_)); first | exact List.mem_append_right _ hq9 | solve_by_elim)) (by rfl) (by rfl) (by first | rfl | assumption) ?_ (by rfl) (by first | exact .inl rfl | exact .inr rfl) (by rfl) (by rfl); k_whole))
  trivial

theorem kw_925530_3 : True := by
  k_with "call builtin:len" => (k_here; (with_reducible show wpAny _ _ (call (Value.builtin "len") [Value.ref _]) _ _ _); k_dflt (refine' LL.len (by assumption) (by k_mem) (by first | assumption | omega) ?_; k_whole); intro _ _)
  k_with "subscriptTail" => (k_here; (with_reducible show wpAny _ _ (subscriptTail _ _ (Value.ref _) (Value.int _ _)) _ _ _); k_dflt (refine' LL.item (by k_asm) (by k_mem) (by omega) (by assumption) (by assumption) (by with_unfolding_all rfl) ?_; k_whole))
  trivial
theorem partK {w : World} {p : Program} {loose : List Str} {mean : ExcName → Option Value} {mg mb : Str → Option Value} {dp un : Nat} {gd : Option (List Code)} {cn : Str} {a : Addr} {ccd : Value} {outer : List Env} {A₀ : Around} {base h₀ : Heap} {L : Addr} {m mc : Str → Option Value} {rest cells : List (Addr × Obj)} {s : Shared} {Q : Flow → Shared → Prop} {E : Value → Shared → Prop} {DN kn : Addr} {rs : List Value} {rl : List Nat} (B : Below A₀ base outer h₀) (X : (Mine.hA.heap_1_39 w.params).In h₀) (T : Top p loose mean mg mb h₀) (hd : dp + 20 < recursionLimit) (hu : un + 300 < cLine) (F : Fr h₀ L s.heap m) (N : News h₀ L s.heap (rest ++ cells)) (CA : CellsAre mc (cellsFrom (L + 1) lawScope.names []) cells) (hr : ∀ p ∈ rest, NC p.2) (hm3 : mc (Str.ofString "ranks") = some (.ref DN))      (mN : (DN, W.listOf rs.toArray kn) ∈ rest) (hI : IntsAre rs (natI rl)) (hrl : Ranks rl)
    (hret : ∀ DE es h' tk' cells', Fr h₀ L h' m → News h₀ L h' (((DE, LCg.lst es) :: rest) ++ cells') → CellsAre (upd mc (Str.ofString "near") (.ref DE)) (cellsFrom (L + 1) lawScope.names []) cells' → IntsAre es ((List.range 6).map fun k => (nearF rl k : Int)) → s.toks ≤ tk' → wpAny (model Challenge.rw_xg0084_01.row.toRowW.prog w) (ktrTop dp un gd cn lawScope L a ccd (cellsFrom (L + 1) lawScope.names []) outer) (execs (lawBody.drop 19) (envX cn lawScope L a ccd (cellsFrom (L + 1) lawScope.names []))) Q E { s with heap := h', toks := tk' }) :
    wpAny (model Challenge.rw_xg0084_01.row.toRowW.prog w) (ktrTop dp un gd cn lawScope L a ccd (cellsFrom (L + 1) lawScope.names []) outer) (execs (lawBody.drop 18) (envX cn lawScope L a ccd (cellsFrom (L + 1) lawScope.names []))) Q E s := by
  have _q : Challenge.rw_xg0084_01 = Challenge.rw_xg0084_01 ∧ Mine.hA.heap_1_39 = Mine.hA.heap_1_39 := by (k_fill; exact ⟨rfl, rfl⟩)
  have hcs : ∀ p ∈ cells, p ∈ rest ++ cells := fun p hp => List.mem_append_right _ hp
  have hrs : ∀ p ∈ rest, p ∈ rest ++ cells := fun p hp => List.mem_append_left _ hp
  have mN2 := hrs _ mN
  have hil := hI.length
  rw [List.length_map, hrl.1] at hil
  show wpAny _ _ (execs (_ :: _) _) _ _ _
  walk1
  refine wpAny_toks ?_
  refine PySem.wpAny_Assign_Name ?_ (by rfl)
  refine evalX (cl := _) F rfl rfl (by with_unfolding_all rfl) ok_list (env_cell (x := Str.ofString "k") (fun n => by rfl) (fun h => by rfl)) (fun Q s h => acc_list h) rfl (by rfl) (by decide) ?_
  k_steps
  rename_i hRg F9 N9 _
  refine gsrc_range (n := 6) (m := m) (news := rest ++ cells) (PKo rl (rest ++ cells)) rfl F9 N9 hRg (by decide) (by decide) ⟨_, _, rfl⟩ (fun D X hb hDX => ⟨[], _, _, rfl, rfl, .nil, hDX, hb⟩) ?_ ?_
  · rintro D Xc i t nw gg I tk₀ hi ⟨ys, oX, v₀, rfl, hoX, hY, hDX, hlt⟩ tle
    rw [Int.zero_add]
    have oX9 : ∀ p ∈ rest ++ cells, p.1 ≠ Xc := fun p hp => Nat.ne_of_lt (Nat.lt_trans (hlt p hp) hDX)
    refine GTurn.cell (fun _ => rfl) rfl rfl hoX (Nat.ne_of_lt hDX) oX9 ?_
    intro oI C oC oX' m₁ h tk E' hoX' hC F N off ne tle2
    refine tests0 ?_
    rw [if_pos rfl]
    refine lbody (by rw [hY.length]; simp; omega) ?_
    repeat' ((fail_if_success (with_reducible show wpAny _ _ (exec (PySem.Stmt.For _ _ _ _ _) _) _ _ _)); (fail_if_success (with_reducible show wpAny _ _ (exec (PySem.Stmt.While _ _ _ _) _) _ _ _)); (fail_if_success (with_reducible show wpAny _ _ (eval (PySem.Expr.ListComp _ _ _ _) _) _ _ _)); (fail_if_success (with_reducible show wpAny _ _ (eval (PySem.Expr.DictComp _ _ _ _ _) _) _ _ _)); (fail_if_success (with_reducible show wpAny _ _ (exec (PySem.Stmt.Assign _ (PySem.Expr.ListComp _ _ _ _) _) _) _ _ _)); (fail_if_success (with_reducible show wpAny _ _ (exec (PySem.Stmt.Assign _ (PySem.Expr.DictComp _ _ _ _ _) _) _) _ _ _)); (first | (k_unfold; (try dsimp only)) | (k_end; wrow_close) | walk1 | (dsimp only; walk1) | (leave1; walk_say "STEP leave1"; try dsimp only) | fail "no step"))
    refine compG F (by with_unfolding_all rfl) (by decide) (by rfl) (by decide) ?_
    k_steps
    rename_i Dt _ F2 N2 l2
    have offb : ∀ p ∈ rest ++ cells, p ∈ (Dt, tupO [.int ((i : Nat) - 1 : Int) (tk + 1), .int ((i : Nat) + 1 : Int) (tk + 1 + 1 + 1)]) :: (I, oI) :: (C, oC) :: (D, LCg.lst ys) :: (Xc, oX') :: (rest ++ cells) := fun p hp => by simp only [List.mem_cons]; exact .inr (.inr (.inr (.inr (.inr hp))))
    have hcs2 : ∀ p ∈ cells, p ∈ (Dt, tupO [.int ((i : Nat) - 1 : Int) (tk + 1), .int ((i : Nat) + 1 : Int) (tk + 1 + 1 + 1)]) :: (I, oI) :: (C, oC) :: (D, LCg.lst ys) :: (Xc, oX') :: (rest ++ cells) := fun p hp => offb p (hcs p hp)
    obtain ⟨tk9, hik⟩ := ranks_item hI hrl (p := ((i : Nat) : Int)) rfl hi
    have hrz : rs.length < 2 ^ 62 := by rw [hil]; decide
    refine src_tuple (its := [.int ((i : Nat) - 1 : Int) (tk + 1), .int ((i : Nat) + 1 : Int) (tk + 1 + 1 + 1)]) (m := m) (news := (Dt, tupO [.int ((i : Nat) - 1 : Int) (tk + 1), .int ((i : Nat) + 1 : Int) (tk + 1 + 1 + 1)]) :: (I, oI) :: (C, oC) :: (D, LCg.lst ys) :: (Xc, oX') :: (rest ++ cells))        (fun j zs nw => nw = (Dt, tupO [.int ((i : Nat) - 1 : Int) (tk + 1), .int ((i : Nat) + 1 : Int) (tk + 1 + 1 + 1)]) :: (I, oI) :: (C, oC) :: (D, LCg.lst ys) :: (Xc, oX') :: (rest ++ cells) ∧ zs.length = (if 0 < j then (if 0 < i then (if rk rl (i - 1) < rk rl i then 1 else 0) else 0) else 0) + (if 1 < j then (if i + 1 < 6 then (if rk rl (i + 1) < rk rl i then 1 else 0) else 0) else 0)) rfl F2 N2 ⟨_, List.mem_cons_self⟩ (by rw [sizeLine_eq]; show 2 ≤ _; decide) ⟨rfl, rfl⟩ ?_ ?_
    · rintro j v zs nw gg2 I2 hv hly hS ⟨rfl, hz⟩
      generalize hLL : (Dt, tupO [.int ((i : Nat) - 1 : Int) (tk + 1), .int ((i : Nat) + 1 : Int) (tk + 1 + 1 + 1)]) :: (I, oI) :: (C, oC) :: (D, LCg.lst ys) :: (Xc, oX') :: (rest ++ cells) = LQ at *
      have mX : (Xc, oX') ∈ LQ := hLL ▸ .tail _ (.tail _ (.tail _ (.tail _ (.head _))))
      have mN3 := offb _ mN2
      rcases j with _ | _ | j
      · cases hv
        refine CTurn.name rfl rfl ?_
        intro oI2 C2 oC2 D2 m₂ h2 tk2 E2 hC2 hmv F N off2 ne2 tle3
        refine tests1 ?_
        by_cases hi0 : 0 < i
        · obtain ⟨tp, hip⟩ := ranks_item hI hrl (p := ((i : Nat) : Int) - 1) (q := i - 1) (by omega) (by omega)
          k_steps
          · rename_i q
            refine CEnd.intro F N _ (fun _ h => h) hC2 off2 hS ⟨rfl, ?_⟩
            rw [List.length_append, hz]
            have q' : rk rl (i - 1) < rk rl i := by omega
            simp [hi0, q']
          · rename_i q
            refine CEnd.intro F N _ (fun _ h => h) hC2 off2 hS ⟨rfl, ?_⟩
            rw [hz]
            have q' : ¬ rk rl (i - 1) < rk rl i := by omega
            simp [hi0, q']
        · k_steps
          refine CEnd.intro F N _ (fun _ h => h) hC2 off2 hS ⟨rfl, ?_⟩
          rw [hz]
          simp [hi0]
      · cases hv
        refine CTurn.name rfl rfl ?_
        intro oI2 C2 oC2 D2 m₂ h2 tk2 E2 hC2 hmv F N off2 ne2 tle3
        refine tests1 ?_
        by_cases hi0 : i + 1 < 6
        · obtain ⟨tp, hip⟩ := ranks_item hI hrl (p := ((i : Nat) : Int) + 1) (q := i + 1) (by omega) (by omega)
          k_steps
          · rename_i q
            refine CEnd.intro F N _ (fun _ h => h) hC2 off2 hS ⟨rfl, ?_⟩
            rw [List.length_append, hz]
            have q' : rk rl (i + 1) < rk rl i := by omega
            simp [hi0, q']
          · rename_i q
            refine CEnd.intro F N _ (fun _ h => h) hC2 off2 hS ⟨rfl, ?_⟩
            rw [hz]
            have q' : ¬ rk rl (i + 1) < rk rl i := by omega
            simp [hi0, q']
        · k_steps
          refine CEnd.intro F N _ (fun _ h => h) hC2 off2 hS ⟨rfl, ?_⟩
          rw [hz]
          simp [hi0]
      · simp at hv
    · rintro zs nw gg2 ⟨rfl, hz⟩ D3 h2 tk2 F N of2
      have hzn : zs.length = nearF rl i := by
        rw [hz]
        rfl
      have hzz : zs.length < 2 ^ 62 := by
        rw [hzn]
        unfold nearF
        split <;> (try split) <;> (try split) <;> (try split) <;> decide
      k_steps
      have l2' := allLt_of l2.2.2.2.2
      refine LEnd.intro F N ((Xc, oX') :: (rest ++ cells)) (fun p hp => ?_) hC (fun p hp => off p hp) (fun p hp => ?_) trivial ⟨_, oX', _, rfl, hoX', ?_, hDX, hlt⟩
      · (revert p; (repeat' (first | refine List.forall_mem_cons.mpr ⟨?_, ?_⟩ | refine List.forall_mem_append.mpr ⟨?_, ?_⟩ | exact List.forall_mem_nil _)); all_goals (first | (intro p9 hp9; solve_by_elim (maxDepth := 24) only [hp9, List.mem_cons_of_mem, List.mem_append_left, List.mem_append_right]) | solve_by_elim (maxDepth := 24) only [List.mem_cons_self, List.mem_cons_of_mem, List.mem_append_left, List.mem_append_right]))
      · rcases List.mem_cons.mp hp with rfl | hp
        · exact Nat.ne_of_gt hDX
        · exact Nat.ne_of_lt (hlt p hp)
      · rw [row_succ]
        refine hY.append ?_
        rw [hzn]
        exact .cons _ _ .nil
  · rintro D Xc nw gg tk₀ ⟨ys, oX, v₀, rfl, hoX, hY, hDX, hlt⟩ tle
    intro h tk F N tle2
    have N2 : News h₀ L h (((D, LCg.lst ys) :: rest) ++ cells) := cb_drop N fun p hp => by
      (revert p; (repeat' (first | refine List.forall_mem_cons.mpr ⟨?_, ?_⟩ | refine List.forall_mem_append.mpr ⟨?_, ?_⟩ | exact List.forall_mem_nil _)); all_goals (first | (intro p9 hp9; solve_by_elim (maxDepth := 24) only [hp9, List.mem_cons_of_mem, List.mem_append_left, List.mem_append_right]) | solve_by_elim (maxDepth := 24) only [List.mem_cons_self, List.mem_cons_of_mem, List.mem_append_left, List.mem_append_right]))
    clear N
    repeat' ((fail_if_success (with_reducible show wpAny _ _ (execs (PySem.Stmt.Assign [PySem.Expr.Name (PySem.Str.ofString "free") _] _ _ :: _) _) _ _ _)); (fail_if_success (with_reducible show wpAny _ _ (exec (PySem.Stmt.For _ _ _ _ _) _) _ _ _)); (fail_if_success (with_reducible show wpAny _ _ (exec (PySem.Stmt.While _ _ _ _) _) _ _ _)); (fail_if_success (with_reducible show wpAny _ _ (eval (PySem.Expr.ListComp _ _ _ _) _) _ _ _)); (fail_if_success (with_reducible show wpAny _ _ (eval (PySem.Expr.DictComp _ _ _ _ _) _) _ _ _)); (fail_if_success (with_reducible show wpAny _ _ (exec (PySem.Stmt.Assign _ (PySem.Expr.ListComp _ _ _ _) _) _) _ _ _)); (fail_if_success (with_reducible show wpAny _ _ (exec (PySem.Stmt.Assign _ (PySem.Expr.DictComp _ _ _ _ _) _) _) _ _ _)); (first | (k_unfold; (try dsimp only)) | (k_end; wrow_close) | walk1 | (dsimp only; walk1) | (leave1; walk_say "STEP leave1"; try dsimp only) | fail "no step"))
    rename_i h9 cells9 F9 N9 CA9 tz
    exact hret D ys h9 _ cells9 F9 N9 CA9 hY tz
end
end
-- Law17
section
theorem kr_Law17 : True := by
  k_with_none
  w_top off
  trivial
open PySem PySem.W PyProof.Rows PySem.Calls PySem.Spec
noncomputable def PowAt (tk : Nat) (ys : List Value) (n : Nat) : Prop :=
  ys.length = n ∧ ∃ tok : Nat → Nat, (∀ j, j < n → ys[j]? = some (.int ((2 : Int) ^ j) (tok j)) ∧ 0 < tok j ∧ tok j < tk) ∧ ∀ i j, i < n → j < n → i ≠ j → tok i ≠ tok j
theorem PowAt.snoc {tk tk' : Nat} {ys : List Value} {n : Nat} (h : PowAt tk ys n) {t : Nat} (h0 : 0 < t) (h1 : tk ≤ t) (h2 : t < tk') : PowAt tk' (ys ++ [.int ((2 : Int) ^ n) t]) (n + 1) := by
  obtain ⟨hl, tok, a, b⟩ := h
  refine ⟨by simp [hl], fun j => if j < n then tok j else t, fun j hj => ?_, fun i j hi hj hne => ?_⟩
  · rcases Nat.lt_or_ge j n with q | q
    · obtain ⟨c, d, e⟩ := a j q
      dsimp only
      rw [if_pos q]
      exact ⟨by rw [List.getElem?_append_left (by omega)]; exact c, d, by omega⟩
    · obtain rfl : j = n := by omega
      dsimp only
      rw [if_neg (Nat.lt_irrefl _)]
      exact ⟨by rw [List.getElem?_append_right (by omega), hl]; simp, h0, h2⟩
  · dsimp only
    rcases Nat.lt_or_ge i n with p | p
    · rcases Nat.lt_or_ge j n with q | q
      · rw [if_pos p, if_pos q]; exact b i j p q hne
      · rw [if_pos p, if_neg (by omega)]
        have := (a i p).2.2
        omega
    · rcases Nat.lt_or_ge j n with q | q
      · rw [if_neg (by omega), if_pos q]
        have := (a j q).2.2
        omega
      · omega
theorem PowAt.up {tk tk' : Nat} {ys : List Value} {n : Nat} (h : PowAt tk ys n) (ht : tk ≤ tk') : PowAt tk' ys n := by
  obtain ⟨hl, tok, a, b⟩ := h
  exact ⟨hl, tok, fun j hj => ⟨(a j hj).1, (a j hj).2.1, Nat.lt_of_lt_of_le (a j hj).2.2 ht⟩, b⟩
section
theorem kw_165965_1 : True := by
  k_with "eval Name" => (k_here; k_dflt (refine' lw_name (by k_asm) (by assumption) (by (intro q9 hq9; (repeat (refine List.mem_cons_of_mem _ ?_)); first | exact List.mem_append_right _ hq9 | solve_by_elim)) (by rfl) (by first | rfl | assumption) ?_ (by exact lawScope_kind) (by rfl) (by rfl); k_whole))
  k_with "eval Name" => (k_here; k_dflt (refine' nameX_L (by k_asm) (by first | rfl | assumption) ?_ (by exact lawScope_kind) (by rfl); k_whole))
  k_with "storeName" => (k_here; k_dflt (first | (refine' lw_put (by k_asm) (by first | assumption | exact (show News _ _ _ ((_ :: _) ++ _) from by assumption) | exact (show News _ _ _ ((_ :: _ :: _) ++ _) from by assumption) | exact (show News _ _ _ ((_ :: _ :: _ :: _) ++ _) from by assumption) | exact (show News _ _ _ ((_ :: _ :: _ :: _ :: _) ++ _) from by assumption) | exact (show News _ _ _ ((_ :: _ :: _ :: _ :: _ :: _) ++ _) from by assumption) | exact (show News _ _ _ ((_ :: _ :: _ :: _ :: _ :: _ :: _) ++ _) from by assumption)) (by assumption) (by ((repeat (refine List.forall_mem_cons.mpr ⟨by first | (intro v9 h9; cases h9; done) | assumption, ?_⟩)); first | assumption | exact (fun _ h => nomatch h))) (by rfl) ?_ (by rfl); k_whole)); intro _ _ _ _ _)
  trivial

theorem kw_165965_2 : True := by
  k_with "eval Name" => (k_here; (with_reducible show wpAny _ _ (eval (Expr.Name _ _) (compEnvC _ _ _ _)) _ _ _); k_dflt (refine' lw_comp (by k_asm) (by assumption) (by (intro q9 hq9; (repeat (refine List.mem_cons_of_mem _ ?_)); first | exact List.mem_append_right _ hq9 | solve_by_elim)) (by rfl) (by rfl) (by first | rfl | assumption) ?_ (by rfl) (by first | exact .inl rfl | exact .inr rfl) (by rfl) (by rfl); k_whole))
  trivial

theorem kw_165965_3 : True := by
  k_with "call builtin:len" => (k_here; (with_reducible show wpAny _ _ (call (Value.builtin "len") [Value.ref _]) _ _ _); k_dflt (refine' LL.len (by assumption) (by k_mem) (by first | assumption | omega) ?_; k_whole); intro _ _)
  k_with "subscriptTail" => (k_here; (with_reducible show wpAny _ _ (subscriptTail _ _ (Value.ref _) (Value.int _ _)) _ _ _); k_dflt (refine' LL.item (by k_asm) (by k_mem) (by omega) (by assumption) (by assumption) (by with_unfolding_all rfl) ?_; k_whole))
  trivial
theorem near_item {es : List Value} {f : Nat → Nat} (hI : IntsAre es ((List.range 6).map fun k => (f k : Int))) {q : Nat} (hq : q < 6) : ∃ t, es[((q : Nat) : Int).toNat]? = some (.int (f q : Nat) t) := by
  obtain ⟨t, e⟩ := ints_at hI (i := q) (by simpa using hq)
  refine ⟨t, ?_⟩
  rw [Int.toNat_natCast, e]
  have : ((List.range 6).map fun k => (f k : Int)).getD q 0 = ((f q : Nat) : Int) := by rw [List.getD, List.getElem?_map, List.getElem?_range hq]; rfl
  rw [this]
theorem natI_snoc (l : List Nat) (a : Nat) : natI (l ++ [a]) = natI l ++ [(a : Int)] := by simp [natI]
theorem filter_succ (p : Nat → Bool) (i : Nat) : (List.range (i + 1)).filter p = (List.range i).filter p ++ (if p i = true then [i] else []) := by
  rw [List.range_succ, List.filter_append]
  by_cases h : p i = true <;> simp [h]
theorem partL {w : World} {p : Program} {loose : List Str} {mean : ExcName → Option Value} {mg mb : Str → Option Value} {dp un : Nat} {gd : Option (List Code)} {cn : Str} {a : Addr} {ccd : Value} {outer : List Env} {A₀ : Around} {base h₀ : Heap} {L : Addr} {m mc : Str → Option Value} {rest cells : List (Addr × Obj)} {s : Shared} {Q : Flow → Shared → Prop} {E : Value → Shared → Prop} {DE kn : Addr} {es : List Value} {rl : List Nat} (B : Below A₀ base outer h₀) (X : (Mine.hA.heap_1_39 w.params).In h₀) (T : Top p loose mean mg mb h₀) (hd : dp + 20 < recursionLimit) (hu : un + 300 < cLine) (F : Fr h₀ L s.heap m) (N : News h₀ L s.heap (rest ++ cells)) (CA : CellsAre mc (cellsFrom (L + 1) lawScope.names []) cells) (hr : ∀ p ∈ rest, NC p.2) (hm3 : mc (Str.ofString "near") = some (.ref DE))      (mE : (DE, W.listOf es.toArray kn) ∈ rest) (hI : IntsAre es ((List.range 6).map fun k => (nearF rl k : Int)))
    (hret : ∀ DF fs h' tk' cells', Fr h₀ L h' m → News h₀ L h' (((DF, LCg.lst fs) :: rest) ++ cells') → CellsAre (upd mc (Str.ofString "free") (.ref DF)) (cellsFrom (L + 1) lawScope.names []) cells' → IntsAre fs (natI (freeF rl)) → s.toks ≤ tk' → wpAny (model Challenge.rw_xg0084_01.row.toRowW.prog w) (ktrTop dp un gd cn lawScope L a ccd (cellsFrom (L + 1) lawScope.names []) outer) (execs (lawBody.drop 20) (envX cn lawScope L a ccd (cellsFrom (L + 1) lawScope.names []))) Q E { s with heap := h', toks := tk' }) :
    wpAny (model Challenge.rw_xg0084_01.row.toRowW.prog w) (ktrTop dp un gd cn lawScope L a ccd (cellsFrom (L + 1) lawScope.names []) outer) (execs (lawBody.drop 19) (envX cn lawScope L a ccd (cellsFrom (L + 1) lawScope.names []))) Q E s := by
  have _q : Challenge.rw_xg0084_01 = Challenge.rw_xg0084_01 ∧ Mine.hA.heap_1_39 = Mine.hA.heap_1_39 := by (k_fill; exact ⟨rfl, rfl⟩)
  have hcs : ∀ p ∈ cells, p ∈ rest ++ cells := fun p hp => List.mem_append_right _ hp
  have mE2 : (DE, W.listOf es.toArray kn) ∈ rest ++ cells := List.mem_append_left _ mE
  have hel : es.length < 2 ^ 62 := by rw [hI.length]; simp
  show wpAny _ _ (execs (_ :: _) _) _ _ _
  walk1
  refine wpAny_toks ?_
  refine PySem.wpAny_Assign_Name ?_ (by rfl)
  refine compG F (by with_unfolding_all rfl) (by decide) (by rfl) (by decide) ?_
  k_steps
  rename_i hR9 F9 N9 _
  generalize hb : rest ++ cells = base at *
  refine src_range (n := 6) (m := m) (news := base) (fun i fs nw => nw = base ∧ IntsAre fs (natI ((List.range i).filter fun k => nearF rl k == 1))) rfl F9 N9 hR9 (by decide) (by decide) (by decide) ⟨_, _, rfl⟩ ⟨rfl, .nil⟩ ?_ ?_
  · rintro i t fs nw gg I hi hly ⟨rfl, hT⟩
    rw [Int.zero_add]
    refine CTurn.name rfl rfl ?_
    intro oI C oC D2 m₁ h tk E' hC hmv F N off ne tle
    obtain ⟨te, hie⟩ := near_item hI hi
    refine tests1 ?_
    k_steps
    · rename_i q
      refine CEnd.intro F N _ (fun _ h => h) hC off trivial ⟨rfl, ?_⟩
      have q' : (nearF rl i == 1) = true := by have : nearF rl i = 1 := by omega
                                               simp [this]
      rw [filter_succ, if_pos q', natI_snoc]
      exact hT.append (.cons _ _ .nil)
    · rename_i q
      refine CEnd.intro F N _ (fun _ h => h) hC off trivial ⟨rfl, ?_⟩
      have q' : ¬ (nearF rl i == 1) = true := by have : nearF rl i ≠ 1 := by omega
                                                 simp [this]
      rw [filter_succ, if_neg q', List.append_nil]
      exact hT
  · rintro fs nw gg ⟨rfl, hT⟩ D2 h tk F N of1
    subst hb
    have N2 : News h₀ L h (((D2, LCg.lst fs) :: rest) ++ cells) := N
    clear N
    repeat' ((fail_if_success (with_reducible show wpAny _ _ (execs (PySem.Stmt.Assign [PySem.Expr.Name (PySem.Str.ofString "peaks") _] _ _ :: _) _) _ _ _)); (fail_if_success (with_reducible show wpAny _ _ (exec (PySem.Stmt.For _ _ _ _ _) _) _ _ _)); (fail_if_success (with_reducible show wpAny _ _ (exec (PySem.Stmt.While _ _ _ _) _) _ _ _)); (fail_if_success (with_reducible show wpAny _ _ (eval (PySem.Expr.ListComp _ _ _ _) _) _ _ _)); (fail_if_success (with_reducible show wpAny _ _ (eval (PySem.Expr.DictComp _ _ _ _ _) _) _ _ _)); (fail_if_success (with_reducible show wpAny _ _ (exec (PySem.Stmt.Assign _ (PySem.Expr.ListComp _ _ _ _) _) _) _ _ _)); (fail_if_success (with_reducible show wpAny _ _ (exec (PySem.Stmt.Assign _ (PySem.Expr.DictComp _ _ _ _ _) _) _) _ _ _)); (first | (k_unfold; (try dsimp only)) | (k_end; wrow_close) | walk1 | (dsimp only; walk1) | (leave1; walk_say "STEP leave1"; try dsimp only) | fail "no step"))
    rename_i h9 cells9 F9 N9 CA9 tz
    exact hret D2 fs h9 _ cells9 F9 N9 CA9 hT tz
theorem partM {w : World} {p : Program} {loose : List Str} {mean : ExcName → Option Value} {mg mb : Str → Option Value} {dp un : Nat} {gd : Option (List Code)} {cn : Str} {a : Addr} {ccd : Value} {outer : List Env} {A₀ : Around} {base h₀ : Heap} {L : Addr} {m mc : Str → Option Value} {rest cells : List (Addr × Obj)} {s : Shared} {Q : Flow → Shared → Prop} {E : Value → Shared → Prop} {DE DF kn kf : Addr} {es fs : List Value} {rl : List Nat} (B : Below A₀ base outer h₀) (X : (Mine.hA.heap_1_39 w.params).In h₀) (T : Top p loose mean mg mb h₀) (hd : dp + 20 < recursionLimit) (hu : un + 300 < cLine) (F : Fr h₀ L s.heap m) (N : News h₀ L s.heap (rest ++ cells)) (CA : CellsAre mc (cellsFrom (L + 1) lawScope.names []) cells) (hr : ∀ p ∈ rest, NC p.2) (hm3 : mc (Str.ofString "near") = some (.ref DE)) (hm4 : mc (Str.ofString "free") = some (.ref DF))      (mE : (DE, W.listOf es.toArray kn) ∈ rest) (hI : IntsAre es ((List.range 6).map fun k => (nearF rl k : Int))) (mF : (DF, W.listOf fs.toArray kf) ∈ rest) (hF : IntsAre fs (natI (freeF rl))) (hf6 : (freeF rl).length < 6)
    (hret : ∀ h' tk' cells' tp, Fr h₀ L h' m → News h₀ L h' (rest ++ cells') → CellsAre (upd mc (Str.ofString "peaks") (.int (peaksF rl : Nat) tp)) (cellsFrom (L + 1) lawScope.names []) cells' → s.toks ≤ tk' → wpAny (model Challenge.rw_xg0084_01.row.toRowW.prog w) (ktrTop dp un gd cn lawScope L a ccd (cellsFrom (L + 1) lawScope.names []) outer) (execs (lawBody.drop 21) (envX cn lawScope L a ccd (cellsFrom (L + 1) lawScope.names []))) Q E { s with heap := h', toks := tk' }) :
    wpAny (model Challenge.rw_xg0084_01.row.toRowW.prog w) (ktrTop dp un gd cn lawScope L a ccd (cellsFrom (L + 1) lawScope.names []) outer) (execs (lawBody.drop 20) (envX cn lawScope L a ccd (cellsFrom (L + 1) lawScope.names []))) Q E s := by
  have _q : Challenge.rw_xg0084_01 = Challenge.rw_xg0084_01 ∧ Mine.hA.heap_1_39 = Mine.hA.heap_1_39 := by (k_fill; exact ⟨rfl, rfl⟩)
  have hcs : ∀ p ∈ cells, p ∈ rest ++ cells := fun p hp => List.mem_append_right _ hp
  have mE2 : (DE, W.listOf es.toArray kn) ∈ rest ++ cells := List.mem_append_left _ mE
  have hel : es.length < 2 ^ 62 := by rw [hI.length]; simp
  show wpAny _ _ (execs (_ :: _) _) _ _ _
  walk1
  refine wpAny_toks ?_
  repeat' ((fail_if_success (with_reducible show wpAny _ _ (exec (PySem.Stmt.For _ _ _ _ _) _) _ _ _)); (fail_if_success (with_reducible show wpAny _ _ (exec (PySem.Stmt.While _ _ _ _) _) _ _ _)); (fail_if_success (with_reducible show wpAny _ _ (eval (PySem.Expr.ListComp _ _ _ _) _) _ _ _)); (fail_if_success (with_reducible show wpAny _ _ (eval (PySem.Expr.DictComp _ _ _ _ _) _) _ _ _)); (fail_if_success (with_reducible show wpAny _ _ (exec (PySem.Stmt.Assign _ (PySem.Expr.ListComp _ _ _ _) _) _) _ _ _)); (fail_if_success (with_reducible show wpAny _ _ (exec (PySem.Stmt.Assign _ (PySem.Expr.DictComp _ _ _ _ _) _) _) _ _ _)); (first | (k_unfold; (try dsimp only)) | (k_end; wrow_close) | walk1 | (dsimp only; walk1) | (leave1; walk_say "STEP leave1"; try dsimp only) | fail "no step"))
  refine compG F (by with_unfolding_all rfl) (by decide) (by rfl) (by decide) ?_
  k_steps
  rename_i hR9 F9 N9 _
  generalize hb : rest ++ cells = base at *
  refine src_range (n := 6) (m := m) (news := base) (fun i fs nw => nw = base ∧ fs.length = ((List.range i).filter fun k => nearF rl k == 2).length) rfl F9 N9 hR9 (by decide) (by decide) (by decide) ⟨_, _, rfl⟩ ⟨rfl, rfl⟩ ?_ ?_
  · rintro i t zs nw gg I hi hly ⟨rfl, hT⟩
    rw [Int.zero_add]
    refine CTurn.name rfl rfl ?_
    intro oI C oC D2 m₁ h tk E' hC hmv F N off ne tle
    obtain ⟨te, hie⟩ := near_item hI hi
    refine tests1 ?_
    k_steps
    · rename_i q
      refine CEnd.intro F N _ (fun _ h => h) hC off trivial ⟨rfl, ?_⟩
      have q' : (nearF rl i == 2) = true := by have : nearF rl i = 2 := by omega
                                               simp [this]
      rw [filter_succ, if_pos q', List.length_append, List.length_append, hT]
      rfl
    · rename_i q
      refine CEnd.intro F N _ (fun _ h => h) hC off trivial ⟨rfl, ?_⟩
      have q' : ¬ (nearF rl i == 2) = true := by have : nearF rl i ≠ 2 := by omega
                                                 simp [this]
      rw [filter_succ, if_neg q', List.append_nil]
      exact hT
  · rintro zs nw gg ⟨rfl, hT⟩ D2 h tk F N of1
    have hT' : zs.length = peaksF rl := hT
    have hzz : zs.length < 2 ^ 62 := by
      rw [hT]
      have := List.length_filter_le (fun k => nearF rl k == 2) (List.range 6)
      rw [List.length_range] at this
      omega
    subst hb
    have N2 : News h₀ L h (((D2, LCg.lst zs) :: rest) ++ cells) := N
    clear N
    repeat' ((fail_if_success (with_reducible show wpAny _ _ (execs (PySem.Stmt.Assign [PySem.Expr.Name (PySem.Str.ofString "powers") _] _ _ :: _) _) _ _ _)); (fail_if_success (with_reducible show wpAny _ _ (exec (PySem.Stmt.For _ _ _ _ _) _) _ _ _)); (fail_if_success (with_reducible show wpAny _ _ (exec (PySem.Stmt.While _ _ _ _) _) _ _ _)); (fail_if_success (with_reducible show wpAny _ _ (eval (PySem.Expr.ListComp _ _ _ _) _) _ _ _)); (fail_if_success (with_reducible show wpAny _ _ (eval (PySem.Expr.DictComp _ _ _ _ _) _) _ _ _)); (fail_if_success (with_reducible show wpAny _ _ (exec (PySem.Stmt.Assign _ (PySem.Expr.ListComp _ _ _ _) _) _) _ _ _)); (fail_if_success (with_reducible show wpAny _ _ (exec (PySem.Stmt.Assign _ (PySem.Expr.DictComp _ _ _ _ _) _) _) _ _ _)); (first | (k_unfold; (try dsimp only)) | (k_end; wrow_close) | walk1 | (dsimp only; walk1) | (leave1; walk_say "STEP leave1"; try dsimp only) | fail "no step"))
    rename_i tq tkq h9 cells9 F9 N9 CA9 tz
    rw [hT'] at CA9
    exact hret h9 _ cells9 _ F9 (cb_drop N9 fun p hp => List.mem_cons_of_mem _ hp) CA9 tz
theorem partN {w : World} {p : Program} {loose : List Str} {mean : ExcName → Option Value} {mg mb : Str → Option Value} {dp un : Nat} {gd : Option (List Code)} {cn : Str} {a : Addr} {ccd : Value} {outer : List Env} {A₀ : Around} {base h₀ : Heap} {L : Addr} {m mc : Str → Option Value} {rest cells : List (Addr × Obj)} {s : Shared} {Q : Flow → Shared → Prop} {E : Value → Shared → Prop} {DF kf : Addr} {fs : List Value} {rl : List Nat} (B : Below A₀ base outer h₀) (X : (Mine.hA.heap_1_39 w.params).In h₀) (T : Top p loose mean mg mb h₀) (hd : dp + 20 < recursionLimit) (hu : un + 300 < cLine) (F : Fr h₀ L s.heap m) (N : News h₀ L s.heap (rest ++ cells)) (CA : CellsAre mc (cellsFrom (L + 1) lawScope.names []) cells) (hr : ∀ p ∈ rest, NC p.2) (hm4 : mc (Str.ofString "free") = some (.ref DF))      (mF : (DF, W.listOf fs.toArray kf) ∈ rest) (hF : IntsAre fs (natI (freeF rl))) (hf6 : (freeF rl).length < 6) (hts : 0 < s.toks)
    (hret : ∀ DP ps h' tk' cells', Fr h₀ L h' m → News h₀ L h' (((DP, LCg.lst ps) :: rest) ++ cells') → CellsAre (upd mc (Str.ofString "powers") (.ref DP)) (cellsFrom (L + 1) lawScope.names []) cells' → PowAt tk' ps (freeF rl).length → s.toks ≤ tk' → wpAny (model Challenge.rw_xg0084_01.row.toRowW.prog w) (ktrTop dp un gd cn lawScope L a ccd (cellsFrom (L + 1) lawScope.names []) outer) (execs (lawBody.drop 22) (envX cn lawScope L a ccd (cellsFrom (L + 1) lawScope.names []))) Q E { s with heap := h', toks := tk' }) :
    wpAny (model Challenge.rw_xg0084_01.row.toRowW.prog w) (ktrTop dp un gd cn lawScope L a ccd (cellsFrom (L + 1) lawScope.names []) outer) (execs (lawBody.drop 21) (envX cn lawScope L a ccd (cellsFrom (L + 1) lawScope.names []))) Q E s := by
  have _q : Challenge.rw_xg0084_01 = Challenge.rw_xg0084_01 ∧ Mine.hA.heap_1_39 = Mine.hA.heap_1_39 := by (k_fill; exact ⟨rfl, rfl⟩)
  have hcs : ∀ p ∈ cells, p ∈ rest ++ cells := fun p hp => List.mem_append_right _ hp
  have mF2 : (DF, W.listOf fs.toArray kf) ∈ rest ++ cells := List.mem_append_left _ mF
  have hfl : fs.length = (freeF rl).length := by rw [hF.length, List.length_map]
  have hfz : fs.length < 2 ^ 62 := by omega
  show wpAny _ _ (execs (_ :: _) _) _ _ _
  walk1
  refine wpAny_toks ?_
  refine PySem.wpAny_Assign_Name ?_ (by rfl)
  refine evalX (cl := _) F rfl rfl (by with_unfolding_all rfl) ok_list (env_plain (by decide) (by rfl)) (fun Q s h => acc_list h) rfl (by rfl) (by decide) ?_
  refine wpAny_toks ?_
  repeat' ((fail_if_success (with_reducible show wpAny _ _ (exec (PySem.Stmt.For _ _ _ _ _) _) _ _ _)); (fail_if_success (with_reducible show wpAny _ _ (exec (PySem.Stmt.While _ _ _ _) _) _ _ _)); (fail_if_success (with_reducible show wpAny _ _ (eval (PySem.Expr.ListComp _ _ _ _) _) _ _ _)); (fail_if_success (with_reducible show wpAny _ _ (eval (PySem.Expr.DictComp _ _ _ _ _) _) _ _ _)); (fail_if_success (with_reducible show wpAny _ _ (exec (PySem.Stmt.Assign _ (PySem.Expr.ListComp _ _ _ _) _) _) _ _ _)); (fail_if_success (with_reducible show wpAny _ _ (exec (PySem.Stmt.Assign _ (PySem.Expr.DictComp _ _ _ _ _) _) _) _ _ _)); (first | (k_unfold; (try dsimp only)) | (k_end; wrow_close) | walk1 | (dsimp only; walk1) | (leave1; walk_say "STEP leave1"; try dsimp only) | fail "no step"))
  rename_i hR9 F9 N9 _ tzz
  rw [List.length_map] at hR9
  generalize hb : rest ++ cells = base at *
  refine gsrc_range (n := (freeF rl).length) (m := m) (news := base) (fun D Xc i tk nw => ∃ ps, nw = (D, LCg.lst ps) :: base ∧ PowAt tk ps i ∧ (∀ p ∈ base, p.1 < D)) rfl F9 N9 hR9 (small_one (by omega) (by omega) (by omega) (by omega)) (by rw [rangeSize_nat]; omega) ⟨_, _, rfl⟩ (fun D X hb hDX => ⟨[], rfl, ⟨rfl, fun _ => 0, fun j h => absurd h (Nat.not_lt_zero _), fun i j h => absurd h (Nat.not_lt_zero _)⟩, hb⟩) ?_ ?_
  · rintro D Xc i t nw gg I tk₀ hi ⟨ps, rfl, hP, hlt⟩ tle
    rw [Int.zero_add]
    refine GTurn.name rfl rfl ?_
    intro oI C oC m₁ h tk E' hC hmv F N off ne tle2
    refine tests0 ?_
    rw [if_pos rfl]
    refine lbody (by rw [hP.1]; omega) ?_
    k_steps
    refine LEnd.intro F N base (fun _ h => h) hC off (fun p hp => Nat.ne_of_lt (hlt p hp)) trivial ⟨_, rfl, ?_, hlt⟩
    dsimp only at tle2 ⊢
    exact hP.snoc (Nat.succ_pos _) (by omega) (by omega)
  · rintro D Xc nw gg tk₀ ⟨ps, rfl, hP, hlt⟩ tle
    intro h tk F N tle2
    subst hb
    have N2 : News h₀ L h (((D, LCg.lst ps) :: rest) ++ cells) := N
    have hP2 := hP.up tle2
    clear N
    repeat' ((fail_if_success (with_reducible show wpAny _ _ (execs (PySem.Stmt.Assign [PySem.Expr.Name (PySem.Str.ofString "many") _] _ _ :: _) _) _ _ _)); (fail_if_success (with_reducible show wpAny _ _ (exec (PySem.Stmt.For _ _ _ _ _) _) _ _ _)); (fail_if_success (with_reducible show wpAny _ _ (exec (PySem.Stmt.While _ _ _ _) _) _ _ _)); (fail_if_success (with_reducible show wpAny _ _ (eval (PySem.Expr.ListComp _ _ _ _) _) _ _ _)); (fail_if_success (with_reducible show wpAny _ _ (eval (PySem.Expr.DictComp _ _ _ _ _) _) _ _ _)); (fail_if_success (with_reducible show wpAny _ _ (exec (PySem.Stmt.Assign _ (PySem.Expr.ListComp _ _ _ _) _) _) _ _ _)); (fail_if_success (with_reducible show wpAny _ _ (exec (PySem.Stmt.Assign _ (PySem.Expr.DictComp _ _ _ _ _) _) _) _ _ _)); (first | (k_unfold; (try dsimp only)) | (k_end; wrow_close) | walk1 | (dsimp only; walk1) | (leave1; walk_say "STEP leave1"; try dsimp only) | fail "no step"))
    rename_i h9 cells9 F9 N9 CA9 tz
    exact hret D ps h9 _ cells9 F9 N9 CA9 hP2 tz
theorem kw_165965_4 : True := by
  k_with "execs cons" => (k_here; (with_reducible refine wpAny_execs_cons ?_); try dsimp only)
  trivial
theorem partO {w : World} {p : Program} {loose : List Str} {mean : ExcName → Option Value} {mg mb : Str → Option Value} {dp un : Nat} {gd : Option (List Code)} {cn : Str} {a : Addr} {ccd : Value} {outer : List Env} {A₀ : Around} {base h₀ : Heap} {L : Addr} {m mc : Str → Option Value} {rest cells : List (Addr × Obj)} {s : Shared} {Q : Flow → Shared → Prop} {E : Value → Shared → Prop} {DF kf : Addr} {fs : List Value} {rl : List Nat} (B : Below A₀ base outer h₀) (X : (Mine.hA.heap_1_39 w.params).In h₀) (T : Top p loose mean mg mb h₀) (hd : dp + 20 < recursionLimit) (hu : un + 300 < cLine) (F : Fr h₀ L s.heap m) (N : News h₀ L s.heap (rest ++ cells)) (CA : CellsAre mc (cellsFrom (L + 1) lawScope.names []) cells) (hr : ∀ p ∈ rest, NC p.2) (hm4 : mc (Str.ofString "free") = some (.ref DF))      (mF : (DF, W.listOf fs.toArray kf) ∈ rest) (hF : IntsAre fs (natI (freeF rl))) (hf6 : (freeF rl).length < 6)
    (hret : ∀ DD BK oD t0 t1 t2 t3 t4 h' tk' m' cells', Fr h₀ L h' m' → News h₀ L h' (((BK, tupO [.int 0 t0, .int 0 t1, .int 0 t2, .int 0 t3, .ref DD]) :: (DD, oD) :: rest) ++ cells') → CellsAre (upd mc (Str.ofString "turned") (.int 0 t4)) (cellsFrom (L + 1) lawScope.names []) cells' → oD.IsDictOf (PySem.strKind Challenge.rw_xg0084_01.row.prog w) [] → (DD == sysModules) = false →        m' (Str.ofString "book") = some (.ref BK) → (∃ tm, m' (Str.ofString "many") = some (.int ((2 : Int) ^ (freeF rl).length) tm)) → m' (Str.ofString "page") = m (Str.ofString "page") → s.toks ≤ tk' → wpAny (model Challenge.rw_xg0084_01.row.toRowW.prog w) (ktrTop dp un gd cn lawScope L a ccd (cellsFrom (L + 1) lawScope.names []) outer) (execs (lawBody.drop 25) (envX cn lawScope L a ccd (cellsFrom (L + 1) lawScope.names []))) Q E { s with heap := h', toks := tk' }) :
    wpAny (model Challenge.rw_xg0084_01.row.toRowW.prog w) (ktrTop dp un gd cn lawScope L a ccd (cellsFrom (L + 1) lawScope.names []) outer) (execs (lawBody.drop 22) (envX cn lawScope L a ccd (cellsFrom (L + 1) lawScope.names []))) Q E s := by
  have _q : Challenge.rw_xg0084_01 = Challenge.rw_xg0084_01 ∧ Mine.hA.heap_1_39 = Mine.hA.heap_1_39 := by (k_fill; exact ⟨rfl, rfl⟩)
  have hcs : ∀ p ∈ cells, p ∈ rest ++ cells := fun p hp => List.mem_append_right _ hp
  have mF2 : (DF, W.listOf fs.toArray kf) ∈ rest ++ cells := List.mem_append_left _ mF
  have hfl : fs.length = (freeF rl).length := by rw [hF.length, List.length_map]
  have hfz : fs.length < 2 ^ 62 := by omega
  show wpAny _ _ (execs (_ :: _) _) _ _ _
  walk1
  refine wpAny_toks ?_
  repeat' ((fail_if_success (with_reducible show wpAny _ _ (execs (PySem.Stmt.Assign [PySem.Expr.Name (PySem.Str.ofString "turned") _] _ _ :: _) _) _ _ _)); (fail_if_success (with_reducible show wpAny _ _ (exec (PySem.Stmt.For _ _ _ _ _) _) _ _ _)); (fail_if_success (with_reducible show wpAny _ _ (exec (PySem.Stmt.While _ _ _ _) _) _ _ _)); (fail_if_success (with_reducible show wpAny _ _ (eval (PySem.Expr.ListComp _ _ _ _) _) _ _ _)); (fail_if_success (with_reducible show wpAny _ _ (eval (PySem.Expr.DictComp _ _ _ _ _) _) _ _ _)); (fail_if_success (with_reducible show wpAny _ _ (exec (PySem.Stmt.Assign _ (PySem.Expr.ListComp _ _ _ _) _) _) _ _ _)); (fail_if_success (with_reducible show wpAny _ _ (exec (PySem.Stmt.Assign _ (PySem.Expr.DictComp _ _ _ _ _) _) _) _ _ _)); (first | (k_unfold; (try dsimp only)) | (k_end; wrow_close) | walk1 | (dsimp only; walk1) | (leave1; walk_say "STEP leave1"; try dsimp only) | fail "no step"))
  rename_i tz1
  repeat' ((fail_if_success (with_reducible show wpAny _ _ (execs (PySem.Stmt.Assign [PySem.Expr.Name (PySem.Str.ofString "book") _] _ _ :: _) _) _ _ _)); (fail_if_success (with_reducible show wpAny _ _ (exec (PySem.Stmt.For _ _ _ _ _) _) _ _ _)); (fail_if_success (with_reducible show wpAny _ _ (exec (PySem.Stmt.While _ _ _ _) _) _ _ _)); (fail_if_success (with_reducible show wpAny _ _ (eval (PySem.Expr.ListComp _ _ _ _) _) _ _ _)); (fail_if_success (with_reducible show wpAny _ _ (eval (PySem.Expr.DictComp _ _ _ _ _) _) _ _ _)); (fail_if_success (with_reducible show wpAny _ _ (exec (PySem.Stmt.Assign _ (PySem.Expr.ListComp _ _ _ _) _) _) _ _ _)); (fail_if_success (with_reducible show wpAny _ _ (exec (PySem.Stmt.Assign _ (PySem.Expr.DictComp _ _ _ _ _) _) _) _ _ _)); (first | (k_unfold; (try dsimp only)) | (k_end; wrow_close) | walk1 | (dsimp only; walk1) | (leave1; walk_say "STEP leave1"; try dsimp only) | fail "no step"))
  rename_i h2 cells2 F2 N2 CA2
  walk1
  refine wpAny_toks ?_
  repeat' ((fail_if_success (with_reducible show wpAny _ _ (execs (PySem.Stmt.For _ _ _ _ _ :: _) _) _ _ _)); (fail_if_success (with_reducible show wpAny _ _ (exec (PySem.Stmt.For _ _ _ _ _) _) _ _ _)); (fail_if_success (with_reducible show wpAny _ _ (exec (PySem.Stmt.While _ _ _ _) _) _ _ _)); (fail_if_success (with_reducible show wpAny _ _ (eval (PySem.Expr.ListComp _ _ _ _) _) _ _ _)); (fail_if_success (with_reducible show wpAny _ _ (eval (PySem.Expr.DictComp _ _ _ _ _) _) _ _ _)); (fail_if_success (with_reducible show wpAny _ _ (exec (PySem.Stmt.Assign _ (PySem.Expr.ListComp _ _ _ _) _) _) _ _ _)); (fail_if_success (with_reducible show wpAny _ _ (exec (PySem.Stmt.Assign _ (PySem.Expr.DictComp _ _ _ _ _) _) _) _ _ _)); (first | (k_unfold; (try dsimp only)) | (k_end; wrow_close) | walk1 | (dsimp only; walk1) | (leave1; walk_say "STEP leave1"; try dsimp only) | fail "no step"))
  rename_i tz3
  rename_i DD h3 oD l3 lo3 hs3 _ _ _ BK h4 l4 h5 F5 N5
  try dsimp only at tz1
  try dsimp only at tz3
  exact hret DD BK oD _ _ _ _ _ h5 _ _ cells2 F5 N5 CA2 hs3 lo3 rfl ⟨_, by rw [← hfl]; rfl⟩ rfl (by dsimp only; omega)
end
end
-- Turn0
section
theorem kr_Turn0 : True := by
  k_with_none
  w_top off
  trivial
open PySem PySem.W PyProof.Rows PySem.Calls PySem.Spec
noncomputable def forBody : Stmt → List Stmt
  | .For (body := b) .. => b
  | _ => []
noncomputable def turnBody : List Stmt := forBody ((lawBody.drop 25).head?.getD (.Pass default))
theorem turnBody_length : turnBody.length = 8 := by decide +kernel
noncomputable def NK (L : Addr) (p : Addr × Obj) : Prop := NC p.2 ∨ p.1 ∉ ((cellsFrom (L + 1) lawScope.names [])).map (·.2)
section
variable {M : Model} {A : Around} {E : Value → Shared → Prop} {s : Shared} {h₀ : Heap} {L a : Addr} {m mc : Str → Option Value} {cn : Str} {cs : Scope} {ccd : Value}
  {x : Str} {v : Value} {Q : Unit → Shared → Prop} {cells rest : List (Addr × Obj)} {c : Addr}
theorem lw_putK (F : Fr h₀ L s.heap m) (N : News h₀ L s.heap (rest ++ cells)) (CA : CellsAre mc (cellsFrom (L + 1) lawScope.names []) cells) (hr : ∀ p ∈ rest, NK L p) (hc : ((cellsFrom (L + 1) lawScope.names [])).lookup x = some c)
    (h : ∀ h' cells', Fr h₀ L h' m → News h₀ L h' (rest ++ cells') → CellsAre (upd mc x v) (cellsFrom (L + 1) lawScope.names []) cells' → Q () { s with heap := h' })
    (hx : ((envX cn lawScope L a ccd (cellsFrom (L + 1) lawScope.names []))).kindOf x = some .cell) : wpAny M A (storeName (envX cn lawScope L a ccd (cellsFrom (L + 1) lawScope.names [])) x v) Q E s := by
  have nc : (cells.map (·.1)).Nodup := by rw [cells_addr CA]; exact law_addrs L
  have off : ∀ p ∈ rest, ∀ q ∈ cells, p.1 ≠ q.1 := fun p hp q hq e => by
    rcases hr p hp with hn | hn
    · have e1 := (N p (List.mem_append_left _ hp)).1
      have e2 := (N q (List.mem_append_right _ hq)).1
      rw [e, e2] at e1
      obtain ⟨v, hv⟩ := cells_cell CA q hq
      exact hn v (by rw [← Option.some.inj e1]; exact hv)
    · refine hn ?_
      rw [← cells_addr CA, e]
      exact List.mem_map_of_mem hq
  refine lw_store F (cb_drop N fun p hp => ?_) CA (law_nd L) nc off hc (fun h' cells' F' N' CA' _ _ => h h' cells' F' (cb_drop N' fun p hp => ?_) CA') lawScope_kind hx
  · rcases List.mem_append.mp hp with hp | hp
    · exact List.mem_append_right _ hp
    · exact List.mem_append_left _ hp
  · rcases List.mem_append.mp hp with hp | hp
    · exact List.mem_append_right _ hp
    · exact List.mem_append_left _ hp
end
theorem shift_odd (t k : Nat) : ((t : Int).fdiv ((2 : Int) ^ k)).fmod 2 = ((t / 2 ^ k % 2 : Nat) : Int) := by
  have e : ((2 : Int) ^ k) = ((2 ^ k : Nat) : Int) := by simp
  rw [e, Int.fdiv_eq_ediv_of_nonneg _ (Int.natCast_nonneg _), ← Int.natCast_ediv, Int.fmod_eq_emod_of_nonneg _ (by decide)]
  omega
section
theorem kw_999538_1 : True := by
  k_with "eval Name" => (k_here; k_dflt (refine' lw_name (by k_asm) (by assumption) (by (intro q9 hq9; (repeat (refine List.mem_cons_of_mem _ ?_)); first | exact List.mem_append_right _ hq9 | solve_by_elim)) (by rfl) (by first | rfl | assumption) ?_ (by exact lawScope_kind) (by rfl) (by rfl); k_whole))
  k_with "eval Name" => (k_here; k_dflt (refine' nameX_L (by k_asm) (by first | rfl | assumption) ?_ (by exact lawScope_kind) (by rfl); k_whole))
  k_with "storeName" => (k_here; k_dflt (first | (refine' lw_putK (by k_asm) (by first | assumption | exact (show News _ _ _ ((_ :: _) ++ _) from by assumption) | exact (show News _ _ _ ((_ :: _ :: _) ++ _) from by assumption) | exact (show News _ _ _ ((_ :: _ :: _ :: _) ++ _) from by assumption) | exact (show News _ _ _ ((_ :: _ :: _ :: _ :: _) ++ _) from by assumption) | exact (show News _ _ _ ((_ :: _ :: _ :: _ :: _ :: _) ++ _) from by assumption) | exact (show News _ _ _ ((_ :: _ :: _ :: _ :: _ :: _ :: _) ++ _) from by assumption)) (by assumption) (by ((repeat (refine List.forall_mem_cons.mpr ⟨by first | (refine Or.inl ?_; intro v9 h9; cases h9; done) | assumption, ?_⟩)); first | assumption | exact (fun _ h => nomatch h))) (by rfl) ?_ (by rfl); k_whole)); intro _ _ _ _ _)
  trivial

theorem kw_999538_2 : True := by
  k_with "eval Name" => (k_here; (with_reducible show wpAny _ _ (eval (Expr.Name _ _) (compEnvC _ _ _ _)) _ _ _); k_dflt (refine' lw_comp (by k_asm) (by assumption) (by (intro q9 hq9; (repeat (refine List.mem_cons_of_mem _ ?_)); first | exact List.mem_append_right _ hq9 | solve_by_elim)) (by rfl) (by rfl) (by first | rfl | assumption) ?_ (by rfl) (by first | exact .inl rfl | exact .inr rfl) (by rfl) (by rfl); k_whole))
  trivial

theorem kw_999538_3 : True := by
  k_with "execs cons" => (k_here; (with_reducible refine wpAny_execs_cons ?_); try dsimp only)
  k_with "call builtin:len" => (k_here; (with_reducible show wpAny _ _ (call (Value.builtin "len") [Value.ref _]) _ _ _); k_dflt (refine' LL.len (by assumption) (by k_mem) (by first | assumption | omega) ?_; k_whole); intro _ _)
  k_with "subscriptTail" => (k_here; (with_reducible show wpAny _ _ (subscriptTail _ _ (Value.ref _) (Value.int _ _)) _ _ _); k_dflt (refine' LL.item (by k_asm) (by k_mem) (by omega) (by assumption) (by assumption) (by with_unfolding_all rfl) ?_; k_whole))
  trivial
theorem turn1 {w : World} {p : Program} {loose : List Str} {mean : ExcName → Option Value} {mg mb : Str → Option Value} {dp un : Nat} {gd : Option (List Code)} {cn : Str} {a : Addr} {ccd : Value} {outer : List Env} {A₀ : Around} {base h₀ : Heap} {L : Addr} {m mc : Str → Option Value} {rest cells : List (Addr × Obj)} {s : Shared} {Q : Flow → Shared → Prop} {E : Value → Shared → Prop} {DN DF DP kn kf kp : Addr} {rs fs ps : List Value} {rl : List Nat} {turned : Nat} {tt : Tok} {tkp : Nat} (B : Below A₀ base outer h₀) (X : (Mine.hA.heap_1_39 w.params).In h₀) (T : Top p loose mean mg mb h₀) (hd : dp + 20 < recursionLimit) (hu : un + 300 < cLine) (F : Fr h₀ L s.heap m) (N : News h₀ L s.heap (rest ++ cells)) (CA : CellsAre mc (cellsFrom (L + 1) lawScope.names []) cells) (hr : ∀ p ∈ rest, NK L p) (hm1 : mc (Str.ofString "ranks") = some (.ref DN)) (hm2 : mc (Str.ofString "free") = some (.ref DF)) (hm3 : mc (Str.ofString "powers") = some (.ref DP)) (hm4 : mc (Str.ofString "turned") = some (.int (turned : Nat) tt))      (mN : (DN, W.listOf rs.toArray kn) ∈ rest) (hI : IntsAre rs (natI rl)) (hrl : Ranks rl) (mF : (DF, W.listOf fs.toArray kf) ∈ rest) (hF : IntsAre fs (natI (freeF rl))) (hf6 : (freeF rl).length < 6) (hfl6 : ∀ x ∈ freeF rl, x < 6) (mP : (DP, W.listOf ps.toArray kp) ∈ rest) (hP : PowAt tkp ps (freeF rl).length) (ht64 : turned < 64)
    (hret : ∀ DH hs h' tk', Fr h₀ L h' (upd m (Str.ofString "hopped") (.ref DH)) → News h₀ L h' (((DH, LCg.lst hs) :: rest) ++ cells) → IntsAre hs (natI (hoppedF rl (freeF rl) turned)) → s.toks ≤ tk' → wpAny (model Challenge.rw_xg0084_01.row.toRowW.prog w) (ktrTop dp un gd cn lawScope L a ccd (cellsFrom (L + 1) lawScope.names []) outer) (execs (turnBody.drop 1) (envX cn lawScope L a ccd (cellsFrom (L + 1) lawScope.names []))) Q E { s with heap := h', toks := tk' }) :
    wpAny (model Challenge.rw_xg0084_01.row.toRowW.prog w) (ktrTop dp un gd cn lawScope L a ccd (cellsFrom (L + 1) lawScope.names []) outer) (execs turnBody (envX cn lawScope L a ccd (cellsFrom (L + 1) lawScope.names []))) Q E s := by
  have _q : Challenge.rw_xg0084_01 = Challenge.rw_xg0084_01 ∧ Mine.hA.heap_1_39 = Mine.hA.heap_1_39 := by (k_fill; exact ⟨rfl, rfl⟩)
  have hcs : ∀ p ∈ cells, p ∈ rest ++ cells := fun p hp => List.mem_append_right _ hp
  have hrs : ∀ p ∈ rest, p ∈ rest ++ cells := fun p hp => List.mem_append_left _ hp
  have mN2 := hrs _ mN
  have mF2 := hrs _ mF
  have mP2 := hrs _ mP
  have hfl : fs.length = (freeF rl).length := by rw [hF.length, List.length_map]
  have hfz : fs.length < 2 ^ 62 := by omega
  have hil := hI.length
  rw [List.length_map, hrl.1] at hil
  show wpAny _ _ (execs (_ :: _) _) _ _ _
  walk1
  refine wpAny_toks ?_
  refine assignCompG F rfl (by with_unfolding_all rfl) (by with_unfolding_all rfl) (by decide) rfl (by decide) rfl rfl ?_
  repeat' ((fail_if_success (with_reducible show wpAny _ _ (exec (PySem.Stmt.For _ _ _ _ _) _) _ _ _)); (fail_if_success (with_reducible show wpAny _ _ (exec (PySem.Stmt.While _ _ _ _) _) _ _ _)); (fail_if_success (with_reducible show wpAny _ _ (eval (PySem.Expr.ListComp _ _ _ _) _) _ _ _)); (fail_if_success (with_reducible show wpAny _ _ (eval (PySem.Expr.DictComp _ _ _ _ _) _) _ _ _)); (fail_if_success (with_reducible show wpAny _ _ (exec (PySem.Stmt.Assign _ (PySem.Expr.ListComp _ _ _ _) _) _) _ _ _)); (fail_if_success (with_reducible show wpAny _ _ (exec (PySem.Stmt.Assign _ (PySem.Expr.DictComp _ _ _ _ _) _) _) _ _ _)); (first | (k_unfold; (try dsimp only)) | (k_end; wrow_close) | walk1 | (dsimp only; walk1) | (leave1; walk_say "STEP leave1"; try dsimp only) | fail "no step"))
  rename_i hR9 F9 N9 _
  rw [List.length_map] at hR9
  generalize hb : rest ++ cells = base at *
  refine src_range (n := (freeF rl).length) (m := m) (news := base) (fun i hs nw => nw = base ∧ IntsAre hs (natI (((List.range i).filter fun k => turned / 2 ^ k % 2 == 1).map fun k => rk rl ((freeF rl).getD k 0)))) rfl F9 N9 hR9 (small_one (by omega) (by omega) (by omega) (by omega)) (by rw [rangeSize_nat]; omega) (by rw [sizeLine_eq]; omega) ⟨_, _, rfl⟩ ⟨rfl, .nil⟩ ?_ ?_
  · rintro i t hs nw gg I hi hly ⟨rfl, hT⟩
    rw [Int.zero_add]
    refine CTurn.name rfl rfl ?_
    intro oI C oC D2 m₁ h tk E' hC hmv F N off ne tle
    obtain ⟨hpl, tok, hp1, _⟩ := hP
    obtain ⟨hpi, _, _⟩ := hp1 i hi
    have hpi' : ps[((i : Nat) : Int).toNat]? = some (.int ((2 : Int) ^ i) (tok i)) := hpi
    have hpz : ps.length < 2 ^ 62 := by omega
    obtain ⟨tf, hfi⟩ := ints_at (show IntsAre fs (natI (freeF rl)) by assumption) (i := i) (by rw [List.length_map]; exact hi)
    have hgi : (natI (freeF rl)).getD i 0 = (((freeF rl).getD i 0 : Nat) : Int) := by
      rw [List.getD, List.getElem?_map, List.getD, List.getElem?_eq_getElem hi]; rfl
    rw [hgi] at hfi
    have hfi' : fs[((i : Nat) : Int).toNat]? = some (.int (((freeF rl).getD i 0 : Nat) : Int) tf) := hfi
    have hx6 : (freeF rl).getD i 0 < 6 := hfl6 _ (by rw [List.getD, List.getElem?_eq_getElem hi]; exact List.getElem_mem hi)
    obtain ⟨tr, hri⟩ := ranks_item (by assumption) hrl (p := (((freeF rl).getD i 0 : Nat) : Int)) rfl hx6
    have hrz : rs.length < 2 ^ 62 := by omega
    have h2p : (0 : Int) < (2 : Int) ^ i := Int.pow_pos (by decide)
    have h2n : ((2 : Int) ^ i) ≠ 0 := by omega
    have h2le : (2 : Int) ^ i ≤ 32 := pow2_le (by omega)
    have ht0 : (0 : Int) ≤ (turned : Int) ∧ (turned : Int) < 64 := by omega
    have hso := shift_odd turned i
    generalize hpw : (2 : Int) ^ i = pw at *
    refine tests1 ?_
    repeat' ((fail_if_success (with_reducible show wpAny _ _ (exec (PySem.Stmt.For _ _ _ _ _) _) _ _ _)); (fail_if_success (with_reducible show wpAny _ _ (exec (PySem.Stmt.While _ _ _ _) _) _ _ _)); (fail_if_success (with_reducible show wpAny _ _ (eval (PySem.Expr.ListComp _ _ _ _) _) _ _ _)); (fail_if_success (with_reducible show wpAny _ _ (eval (PySem.Expr.DictComp _ _ _ _ _) _) _ _ _)); (fail_if_success (with_reducible show wpAny _ _ (exec (PySem.Stmt.Assign _ (PySem.Expr.ListComp _ _ _ _) _) _) _ _ _)); (fail_if_success (with_reducible show wpAny _ _ (exec (PySem.Stmt.Assign _ (PySem.Expr.DictComp _ _ _ _ _) _) _) _ _ _)); (first | (k_unfold; (try dsimp only)) | (k_end; wrow_close) | walk1 | (dsimp only; walk1) | (leave1; walk_say "STEP leave1"; try dsimp only) | fail "no step"))
    · rename_i q
      rw [hso] at q
      refine CEnd.intro F N _ (fun _ h => h) hC off trivial ⟨rfl, ?_⟩
      have q' : (turned / 2 ^ i % 2 == 1) = true := by have : turned / 2 ^ i % 2 = 1 := by omega
                                                       simp [this]
      rw [filter_succ, if_pos q', List.map_append, natI, List.map_append]
      exact hT.append (.cons _ _ .nil)
    · rename_i q
      rw [hso] at q
      refine CEnd.intro F N _ (fun _ h => h) hC off trivial ⟨rfl, ?_⟩
      have q' : ¬ (turned / 2 ^ i % 2 == 1) = true := by have : turned / 2 ^ i % 2 ≠ 1 := by omega
                                                         simp [this]
      rw [filter_succ, if_neg q', List.append_nil]
      exact hT
  · rintro hs nw gg ⟨rfl, hT⟩ D2 h tk F N of1
    subst hb
    intro tz
    exact hret D2 hs h _ F N hT tz
end
end
-- Turn2
section
theorem kr_Turn2 : True := by
  k_with_none
  w_top off
  trivial
open PySem PySem.W PyProof.Rows PySem.Calls PySem.Spec
noncomputable def pieceD (cs : List Int) (j : Nat) : PyData := .tuple [.str (leadS (cs.getD j 0)), .str (letter j)]
theorem idx_rk {rl : List Nat} (h : Ranks rl) {j : Nat} (hj : j < 6) : rk rl j ∈ rl ∧ idxL (rk rl j) rl = j := by
  have hjl : j < rl.length := by rw [h.1]; exact hj
  have e : rl[j]? = some (rk rl j) := by unfold rk; rw [List.getD, List.getElem?_eq_getElem hjl]; rfl
  have hm : rk rl j ∈ rl := List.mem_of_getElem? e
  obtain ⟨a, b, c⟩ := idxL_spec hm
  refine ⟨hm, ?_⟩
  have hn := h.2.1
  rcases Nat.lt_trichotomy (idxL (rk rl j) rl) j with q | q | q
  · exfalso
    have e1 := (List.getElem?_eq_some_iff.mp e).2
    have e2 := (List.getElem?_eq_some_iff.mp b).2
    exact absurd ((List.getElem_inj hn).mp (e2.trans e1.symm)) (Nat.ne_of_lt q)
  · exact q
  · exact absurd e (c j q)
noncomputable def PiecesAt (cs : List Int) (nw : List (Addr × Obj)) (zs : List Value) (σ : List Nat) : Prop :=
  zs.length = σ.length ∧ ∀ (i j : Nat), σ[i]? = some j → ∃ T k u t, zs[i]? = some (Value.ref T) ∧ (T, tupN [.str (leadS (cs.getD j 0)) u, .str (letter j) t] k) ∈ nw
theorem pieces_reads {h₀ h : Heap} {L l k : Addr} {all nw : List (Addr × Obj)} {zs : List Value} {cs : List Int} {σ : List Nat} (N : News h₀ L h all) (hm : (l, W.listOf zs.toArray k) ∈ all) (hP : PiecesAt cs nw zs σ) (hs : ∀ p ∈ nw, p ∈ all) : ∃ as, Reads h (.ref l) (.list (σ.map (pieceD cs))) as := by
  refine list_reads N hm (by rw [hP.1]; simp) fun i v d hv hd => ?_
  rw [List.getElem?_map] at hd
  cases e : σ[i]? with
  | none => rw [e] at hd; cases hd
  | some j =>
    rw [e] at hd
    obtain rfl : pieceD cs j = d := Option.some.inj hd
    obtain ⟨T, k, u, t, e1, e2⟩ := hP.2 i j e
    rw [e1] at hv
    cases hv
    exact ⟨_, tup_reads N (hs _ e2) (.cons (.str _ _) (.cons (.str _ _) .nil))⟩
theorem page_pieces {leadV : Nat → Value} {tokL : Nat → Tok} {nw : List (Addr × Obj)} {its : List Value} {σ : List Nat} {cs : List Int} (h : PageIs leadV tokL nw its σ) (hl : ∀ j ∈ σ, ∃ u, leadV j = .str (leadS (cs.getD j 0)) u) : PiecesAt cs nw its σ := by
  refine ⟨h.length, fun i j e => ?_⟩
  have hi : i < its.length := by rw [h.length]; exact (List.getElem?_eq_some_iff.mp e).1
  obtain ⟨T, k, j', e1, e2, e3⟩ := h.at (i := i) (v := its[i]) (List.getElem?_eq_getElem hi)
  rw [e] at e2
  cases e2
  obtain ⟨u, hu⟩ := hl j (List.mem_of_getElem? e)
  rw [hu] at e3
  exact ⟨T, k, u, tokL j, by rw [List.getElem?_eq_getElem hi, e1], e3⟩
theorem strOk_of {x : PySem.Str} (h2 : x.cps.all (· < 128) = true) : x.cps.all (· < 0x110000) = true := by
  rw [← Array.all_toList, List.all_eq_true] at h2 ⊢
  intro c hc
  have := of_decide_eq_true (h2 c hc)
  exact decide_eq_true (by omega)
theorem shaped_pieces (cs : List Int) : ∀ σ : List Nat, (∀ j ∈ σ, j < 6) → SeqAt.shaped (.list (σ.map (pieceD cs))) = true := by
  intro σ hσ
  have h1 : ∀ σ : List Nat, (∀ j ∈ σ, j < 6) → PyData.canLayAll0 (σ.map (pieceD cs)) = true := by
    intro σ
    induction σ with
    | nil => intro _; rfl
    | cons a l ih =>
      intro h
      simp only [List.map_cons, PyData.canLayAll0, ih fun j hj => h j (List.mem_cons_of_mem _ hj), Bool.and_true]
      show ((leadS (cs.getD a 0)).cps.all (· < 0x110000) && ((letter a).cps.all (· < 0x110000) && true)) = true
      have ha := h a List.mem_cons_self
      rw [strOk_of (lead_asc _), strOk_of (x := letter a) ?_]
      · rfl
      · rw [← Array.all_toList]
        show ([97 + a].all fun x => decide (x < 128)) = true
        simp; omega
  have h2 : ∀ σ : List Nat, PyData.depthAll (σ.map (pieceD cs)) ≤ 1 := by
    intro σ
    induction σ with
    | nil => exact Nat.zero_le _
    | cons a l ih =>
      simp only [List.map_cons, PyData.depthAll]
      exact Nat.max_le.mpr ⟨Nat.le_refl _, ih⟩
  unfold SeqAt.shaped
  rw [Bool.and_eq_true]
  refine ⟨h1 σ hσ, decide_eq_true ?_⟩
  show PyData.depthAll _ + 1 ≤ 64
  have := h2 σ
  omega
section
theorem kw_788093_1 : True := by
  k_with "eval Name" => (k_here; k_dflt (refine' lw_name (by k_asm) (by assumption) (by (intro q9 hq9; (repeat (refine List.mem_cons_of_mem _ ?_)); first | exact List.mem_append_right _ hq9 | solve_by_elim)) (by rfl) (by first | rfl | assumption) ?_ (by exact lawScope_kind) (by rfl) (by rfl); k_whole))
  k_with "eval Name" => (k_here; k_dflt (refine' nameX_L (by k_asm) (by first | rfl | assumption) ?_ (by exact lawScope_kind) (by rfl); k_whole))
  k_with "storeName" => (k_here; k_dflt (first | (refine' lw_putK (by k_asm) (by first | assumption | exact (show News _ _ _ ((_ :: _) ++ _) from by assumption) | exact (show News _ _ _ ((_ :: _ :: _) ++ _) from by assumption) | exact (show News _ _ _ ((_ :: _ :: _ :: _) ++ _) from by assumption) | exact (show News _ _ _ ((_ :: _ :: _ :: _ :: _) ++ _) from by assumption) | exact (show News _ _ _ ((_ :: _ :: _ :: _ :: _ :: _) ++ _) from by assumption) | exact (show News _ _ _ ((_ :: _ :: _ :: _ :: _ :: _ :: _) ++ _) from by assumption)) (by assumption) (by ((repeat (refine List.forall_mem_cons.mpr ⟨by first | (refine Or.inl ?_; intro v9 h9; cases h9; done) | assumption, ?_⟩)); first | assumption | exact (fun _ h => nomatch h))) (by rfl) ?_ (by rfl); k_whole)); intro _ _ _ _ _)
  trivial

theorem kw_788093_2 : True := by
  k_with "eval Name" => (k_here; (with_reducible show wpAny _ _ (eval (Expr.Name _ _) (compEnvC _ _ _ _)) _ _ _); k_dflt (refine' lw_comp (by k_asm) (by assumption) (by (intro q9 hq9; (repeat (refine List.mem_cons_of_mem _ ?_)); first | exact List.mem_append_right _ hq9 | solve_by_elim)) (by rfl) (by rfl) (by first | rfl | assumption) ?_ (by rfl) (by first | exact .inl rfl | exact .inr rfl) (by rfl) (by rfl); k_whole))
  trivial

theorem kw_788093_3 : True := by
  k_with "execs cons" => (k_here; (with_reducible refine wpAny_execs_cons ?_); try dsimp only)
  k_with "subscriptTail" => (k_here; (with_reducible show wpAny _ _ (subscriptTail _ _ (Value.ref _) (Value.int _ _)) _ _ _); k_dflt (refine' LL.item (by k_asm) (by k_mem) (by omega) (by assumption) (by assumption) (by with_unfolding_all rfl) ?_; k_whole))
  trivial
theorem turn2 {w : World} {p : Program} {loose : List Str} {mean : ExcName → Option Value} {mg mb : Str → Option Value} {dp un : Nat} {gd : Option (List Code)} {cn : Str} {a : Addr} {ccd : Value} {outer : List Env} {A₀ : Around} {base h₀ : Heap} {L : Addr} {m mc : Str → Option Value} {rest cells : List (Addr × Obj)} {s : Shared} {Q : Flow → Shared → Prop} {E : Value → Shared → Prop} {DN DH DB kn kh kb pg dpg n : Addr} {rs hs bs its : List Value} {od : Obj} {rl hop σ : List Nat} {cs : List Int} {leadV : Nat → Value} {tokL : Nat → Tok} (B : Below A₀ base outer h₀) (X : (Mine.hA.heap_1_39 w.params).In h₀) (T : Top p loose mean mg mb h₀) (hd : dp + 20 < recursionLimit) (hu : un + 300 < cLine) (F : Fr h₀ L s.heap m) (N : News h₀ L s.heap (rest ++ cells)) (CA : CellsAre mc (cellsFrom (L + 1) lawScope.names []) cells) (hr : ∀ p ∈ rest, NK L p) (hm1 : mc (Str.ofString "ranks") = some (.ref DN)) (hm2 : mc (Str.ofString "by_rank") = some (.ref DB)) (hm3 : m (Str.ofString "hopped") = some (.ref DH)) (hm4 : m (Str.ofString "page") = some (.ref pg))      (mN : (DN, W.listOf rs.toArray kn) ∈ rest) (hI : IntsAre rs (natI rl)) (hrl : Ranks rl) (mH : (DH, W.listOf hs.toArray kh) ∈ rest) (hH : IntsAre hs (natI hop)) (hh6 : hop.length ≤ 6) (mB : (DB, W.listOf bs.toArray kb) ∈ rest) (hB : ByAt cs rl rest bs 6)      (mpg : (pg, accObj dpg its n) ∈ rest) (mdpg : (dpg, od) ∈ rest) (hP : PageIs leadV tokL rest its σ) (hlv : ∀ j ∈ σ, ∃ u, leadV j = .str (leadS (cs.getD j 0)) u) (hσ : σ.length = 6) (hσ6 : ∀ j ∈ σ, j < 6) (hrk6 : ∀ x ∈ rl, x < 6) (hA : arr hop 6 rl = σ.map (rk rl))
    (hret : ∀ h' tk', Fr h₀ L h' m → News h₀ L h' (rest ++ cells) → s.toks ≤ tk' → wpAny (model Challenge.rw_xg0084_01.row.toRowW.prog w) (ktrTop dp un gd cn lawScope L a ccd (cellsFrom (L + 1) lawScope.names []) outer) (execs (turnBody.drop 2) (envX cn lawScope L a ccd (cellsFrom (L + 1) lawScope.names []))) Q E { s with heap := h', toks := tk' }) :
    wpAny (model Challenge.rw_xg0084_01.row.toRowW.prog w) (ktrTop dp un gd cn lawScope L a ccd (cellsFrom (L + 1) lawScope.names []) outer) (execs (turnBody.drop 1) (envX cn lawScope L a ccd (cellsFrom (L + 1) lawScope.names []))) Q E s := by
  have _q : Challenge.rw_xg0084_01 = Challenge.rw_xg0084_01 ∧ Mine.hA.heap_1_39 = Mine.hA.heap_1_39 := by (k_fill; exact ⟨rfl, rfl⟩)
  have hcs : ∀ p ∈ cells, p ∈ rest ++ cells := fun p hp => List.mem_append_right _ hp
  have hrs : ∀ p ∈ rest, p ∈ rest ++ cells := fun p hp => List.mem_append_left _ hp
  have hB2 := hB.up hrs
  have mN2 := hrs _ mN
  have mH2 := hrs _ mH
  have mB2 := hrs _ mB
  have mpg2 := hrs _ mpg
  have mdpg2 := hrs _ mdpg
  have hP2 := page_pieces (hP.mono hrs) hlv
  have hil := hP.length
  generalize hb : rest ++ cells = bb at *
  show wpAny _ _ (execs (_ :: _) _) _ _ _
  walk1
  refine wpAny_toks ?_
  repeat' ((fail_if_success (with_reducible show wpAny _ _ (exec (PySem.Stmt.For _ _ _ _ _) _) _ _ _)); (fail_if_success (with_reducible show wpAny _ _ (exec (PySem.Stmt.While _ _ _ _) _) _ _ _)); (fail_if_success (with_reducible show wpAny _ _ (eval (PySem.Expr.ListComp _ _ _ _) _) _ _ _)); (fail_if_success (with_reducible show wpAny _ _ (eval (PySem.Expr.DictComp _ _ _ _ _) _) _ _ _)); (fail_if_success (with_reducible show wpAny _ _ (exec (PySem.Stmt.Assign _ (PySem.Expr.ListComp _ _ _ _) _) _) _ _ _)); (fail_if_success (with_reducible show wpAny _ _ (exec (PySem.Stmt.Assign _ (PySem.Expr.DictComp _ _ _ _ _) _) _) _ _ _)); (first | (k_unfold; (try dsimp only)) | (k_end; wrow_close) | walk1 | (dsimp only; walk1) | (leave1; walk_say "STEP leave1"; try dsimp only) | fail "no step"))
  refine compG F (by with_unfolding_all rfl) (by decide) (by rfl) (by decide) ?_
  k_steps
  refine src_acc (K := (Mine.hA.heap_1_39 w.params)) (fun i ys nw => nw = bb ∧ ys = its.take i) rfl F X N (by k_is) (by k_is) ⟨n, mpg2, mdpg2⟩ (by rw [sizeLine_eq]; omega) ⟨rfl, rfl⟩ ?_ ?_
  · rintro i v ys nw gg I hv hly hS ⟨rfl, rfl⟩
    refine CTurn.name rfl rfl ?_
    intro oI C oC D m₁ h tk E' hC hmv F N off ne tle
    refine tests0 ?_
    rw [if_pos rfl]
    k_steps
    refine CEnd.intro F N _ (fun _ h => h) hC off hS ⟨rfl, ?_⟩
    rw [List.take_add_one, hv]; rfl
  · rintro ys nw gg ⟨rfl, rfl⟩ D1 h tk F N of1
    rw [List.take_length] at N
    have hcs2 : ∀ p ∈ cells, p ∈ (D1, LCg.lst its) :: nw := fun p hp => List.mem_cons_of_mem _ (hcs p hp)
    have mD1 : (D1, W.listOf its.toArray its.length) ∈ (D1, LCg.lst its) :: nw := List.mem_cons_self
    have hb2 : ∀ p ∈ nw, p ∈ (D1, LCg.lst its) :: nw := fun p hp => List.mem_cons_of_mem _ hp
    generalize hb9 : (D1, LCg.lst its) :: nw = bb2 at *
    repeat' ((fail_if_success (with_reducible show wpAny _ _ (exec (PySem.Stmt.For _ _ _ _ _) _) _ _ _)); (fail_if_success (with_reducible show wpAny _ _ (exec (PySem.Stmt.While _ _ _ _) _) _ _ _)); (fail_if_success (with_reducible show wpAny _ _ (eval (PySem.Expr.ListComp _ _ _ _) _) _ _ _)); (fail_if_success (with_reducible show wpAny _ _ (eval (PySem.Expr.DictComp _ _ _ _ _) _) _ _ _)); (fail_if_success (with_reducible show wpAny _ _ (exec (PySem.Stmt.Assign _ (PySem.Expr.ListComp _ _ _ _) _) _) _ _ _)); (fail_if_success (with_reducible show wpAny _ _ (exec (PySem.Stmt.Assign _ (PySem.Expr.DictComp _ _ _ _ _) _) _) _ _ _)); (first | (k_unfold; (try dsimp only)) | (k_end; wrow_close) | walk1 | (dsimp only; walk1) | (leave1; walk_say "STEP leave1"; try dsimp only) | fail "no step"))
    refine compG F (by with_unfolding_all rfl) (by decide) (by rfl) (by decide) ?_
    repeat' ((fail_if_success (with_reducible show wpAny _ _ (exec (PySem.Stmt.For _ _ _ _ _) _) _ _ _)); (fail_if_success (with_reducible show wpAny _ _ (exec (PySem.Stmt.While _ _ _ _) _) _ _ _)); (fail_if_success (with_reducible show wpAny _ _ (eval (PySem.Expr.ListComp _ _ _ _) _) _ _ _)); (fail_if_success (with_reducible show wpAny _ _ (eval (PySem.Expr.DictComp _ _ _ _ _) _) _ _ _)); (fail_if_success (with_reducible show wpAny _ _ (exec (PySem.Stmt.Assign _ (PySem.Expr.ListComp _ _ _ _) _) _) _ _ _)); (fail_if_success (with_reducible show wpAny _ _ (exec (PySem.Stmt.Assign _ (PySem.Expr.DictComp _ _ _ _ _) _) _) _ _ _)); (first | (k_unfold; (try dsimp only)) | (k_end; wrow_close) | walk1 | (dsimp only; walk1) | (leave1; walk_say "STEP leave1"; try dsimp only) | fail "no step"))
    have mN3 := hb2 _ mN2
    have mH3 := hb2 _ mH2
    refine arr_spec w 6 (by assumption) F (by assumption) N (by assumption) lawScope_kind (by omega) (by omega) ⟨rs, kn, mN3, hI⟩ ⟨hs, kh, mH3, hH⟩ (by rw [hrl.1]; decide) (by rw [hrl.1]; decide) hh6 ?_
    intro D5 tl5 h5 tk5 F5 N5 hR5 fr5
    rw [hA] at hR5
    obtain ⟨vs5, k5, m5, i5⟩ := hR5
    have hvl : vs5.length = 6 := by rw [i5.length]; simp [hσ]
    have hb5 : ∀ p ∈ bb2, p ∈ bb2 ++ tl5 := fun p hp => List.mem_append_left _ hp
    have hcs5 : ∀ p ∈ cells, p ∈ bb2 ++ tl5 := fun p hp => hb5 _ (hcs2 p hp)
    have mB5 := hb5 _ (hb2 _ mB2)
    have mD5 := hb5 _ mD1
    generalize hb3 : bb2 ++ tl5 = bb5 at *
    refine src_list (its := vs5.toArray) (fun i zs nw => nw = bb5 ∧ zs.length = i ∧ ∀ (a j : Nat), a < i → σ[a]? = some j → ∃ T u t, zs[a]? = some (Value.ref T) ∧ (T, tupO [.str (leadS (cs.getD j 0)) u, .str (letter j) t]) ∈ bb5) rfl F5 N5 (.inr ⟨_, m5, rfl, _, rfl⟩) (by rw [sizeLine_eq, List.size_toArray, hvl]; decide) ⟨rfl, rfl, fun a j h => absurd h (Nat.not_lt_zero _)⟩ ?_ ?_
    · rintro i v zs nw gg I hv hly hS ⟨rfl, hz, hZ⟩
      have hv' : vs5[i]? = some v := by simpa using hv
      have hi : i < 6 := by rw [← hvl]; exact (List.getElem?_eq_some_iff.mp hv').1
      have hiσ : i < σ.length := by omega
      obtain ⟨t, e9⟩ := ints_at i5 (i := i) (by simp; omega)
      have hg : (List.map (fun (x : Nat) => (x : Int)) (List.map (rk rl) σ)).getD i 0 = ((rk rl σ[i] : Nat) : Int) := by
        rw [List.getD, List.getElem?_map, List.getElem?_map, List.getElem?_eq_getElem hiσ]; rfl
      rw [hg] at e9
      obtain rfl : v = .int ((rk rl σ[i] : Nat) : Int) t := Option.some.inj (hv'.symm.trans e9)
      obtain ⟨hmr, hix⟩ := idx_rk hrl (hσ6 _ (List.getElem_mem hiσ))
      have hr6 := hrk6 _ hmr
      obtain ⟨T, u, tb, eb, mT⟩ := hB2.2 _ hr6
      rw [hix] at mT
      have eb' : bs[((rk rl σ[i] : Nat) : Int).toNat]? = some (.ref T) := eb
      have hbz : bs.length < 2 ^ 62 := by rw [hB2.1]; decide
      refine CTurn.name rfl rfl ?_
      intro oI C oC D m₁ h tk E' hC hmv F N off ne tle
      refine tests0 ?_
      rw [if_pos rfl]
      repeat' ((fail_if_success (with_reducible show wpAny _ _ (exec (PySem.Stmt.For _ _ _ _ _) _) _ _ _)); (fail_if_success (with_reducible show wpAny _ _ (exec (PySem.Stmt.While _ _ _ _) _) _ _ _)); (fail_if_success (with_reducible show wpAny _ _ (eval (PySem.Expr.ListComp _ _ _ _) _) _ _ _)); (fail_if_success (with_reducible show wpAny _ _ (eval (PySem.Expr.DictComp _ _ _ _ _) _) _ _ _)); (fail_if_success (with_reducible show wpAny _ _ (exec (PySem.Stmt.Assign _ (PySem.Expr.ListComp _ _ _ _) _) _) _ _ _)); (fail_if_success (with_reducible show wpAny _ _ (exec (PySem.Stmt.Assign _ (PySem.Expr.DictComp _ _ _ _ _) _) _) _ _ _)); (first | (k_unfold; (try dsimp only)) | (k_end; wrow_close) | walk1 | (dsimp only; walk1) | (leave1; walk_say "STEP leave1"; try dsimp only) | fail "no step"))
      refine CEnd.intro F N _ (fun _ h => h) hC off hS ⟨rfl, by simp [hz], fun a j ha hj => ?_⟩
      rcases Nat.lt_or_ge a i with q | q
      · obtain ⟨T', u', t', a1, a2⟩ := hZ a j q hj
        exact ⟨T', u', t', by rw [List.getElem?_append_left (by omega)]; exact a1, a2⟩
      · obtain rfl : a = i := by omega
        rw [List.getElem?_eq_getElem hiσ] at hj
        obtain rfl : σ[a] = j := Option.some.inj hj
        exact ⟨T, u, tb, by rw [List.getElem?_append_right (by omega), hz]; simp, hb5 _ (hb2 _ mT)⟩
    · rintro zs nw gg ⟨rfl, hz, hZ⟩ D6 h tk F N of6
      rw [List.size_toArray, hvl] at hz hZ
      have hPz : PiecesAt cs nw zs σ := ⟨by omega, fun i j e => by
        have hi := (List.getElem?_eq_some_iff.mp e).1
        obtain ⟨T, u, t, a1, a2⟩ := hZ i j (by omega) e
        exact ⟨T, 0, u, t, a1, a2⟩⟩
      obtain ⟨as1, rd1⟩ := pieces_reads N (List.mem_cons_of_mem _ mD5) hP2 (fun p hp => List.mem_cons_of_mem _ (hb5 _ (hb2 _ hp)))
      obtain ⟨as2, rd2⟩ := pieces_reads N List.mem_cons_self hPz (fun p hp => List.mem_cons_of_mem _ hp)
      refine ne_same rd1 rd2 (shaped_pieces cs σ hσ6) (show un + 64 < cLine by omega) ?_
      repeat' ((fail_if_success (with_reducible show wpAny _ _ (execs (PySem.Stmt.Assign [PySem.Expr.Name (PySem.Str.ofString "names") _] _ _ :: _) _) _ _ _)); (fail_if_success (with_reducible show wpAny _ _ (exec (PySem.Stmt.For _ _ _ _ _) _) _ _ _)); (fail_if_success (with_reducible show wpAny _ _ (exec (PySem.Stmt.While _ _ _ _) _) _ _ _)); (fail_if_success (with_reducible show wpAny _ _ (eval (PySem.Expr.ListComp _ _ _ _) _) _ _ _)); (fail_if_success (with_reducible show wpAny _ _ (eval (PySem.Expr.DictComp _ _ _ _ _) _) _ _ _)); (fail_if_success (with_reducible show wpAny _ _ (exec (PySem.Stmt.Assign _ (PySem.Expr.ListComp _ _ _ _) _) _) _ _ _)); (fail_if_success (with_reducible show wpAny _ _ (exec (PySem.Stmt.Assign _ (PySem.Expr.DictComp _ _ _ _ _) _) _) _ _ _)); (first | (k_unfold; (try dsimp only)) | (k_end; wrow_close) | walk1 | (dsimp only; walk1) | (leave1; walk_say "STEP leave1"; try dsimp only) | fail "no step"))
      rename_i tz
      exact hret _ _ F (cb_drop N fun p hp => List.mem_cons_of_mem _ (hb5 _ (hb2 _ (hb ▸ hp)))) tz
end
end
-- Turn3
section
theorem kr_Turn3 : True := by
  k_with_none
  w_top off
  trivial
open PySem PySem.W PyProof.Rows PySem.Calls PySem.Spec
section
theorem kw_796231_1 : True := by
  k_with "eval Name" => (k_here; k_dflt (refine' lw_name (by k_asm) (by assumption) (by (intro q9 hq9; (repeat (refine List.mem_cons_of_mem _ ?_)); first | exact List.mem_append_right _ hq9 | solve_by_elim)) (by rfl) (by first | rfl | assumption) ?_ (by exact lawScope_kind) (by rfl) (by rfl); k_whole))
  k_with "eval Name" => (k_here; k_dflt (refine' nameX_L (by k_asm) (by first | rfl | assumption) ?_ (by exact lawScope_kind) (by rfl); k_whole))
  k_with "storeName" => (k_here; k_dflt (first | (refine' lw_putK (by k_asm) (by first | assumption | exact (show News _ _ _ ((_ :: _) ++ _) from by assumption) | exact (show News _ _ _ ((_ :: _ :: _) ++ _) from by assumption) | exact (show News _ _ _ ((_ :: _ :: _ :: _) ++ _) from by assumption) | exact (show News _ _ _ ((_ :: _ :: _ :: _ :: _) ++ _) from by assumption) | exact (show News _ _ _ ((_ :: _ :: _ :: _ :: _ :: _) ++ _) from by assumption) | exact (show News _ _ _ ((_ :: _ :: _ :: _ :: _ :: _ :: _) ++ _) from by assumption)) (by assumption) (by ((repeat (refine List.forall_mem_cons.mpr ⟨by first | (refine Or.inl ?_; intro v9 h9; cases h9; done) | assumption, ?_⟩)); first | assumption | exact (fun _ h => nomatch h))) (by rfl) ?_ (by rfl); k_whole)); intro _ _ _ _ _)
  trivial

theorem kw_796231_2 : True := by
  k_with "eval Name" => (k_here; (with_reducible show wpAny _ _ (eval (Expr.Name _ _) (compEnvC _ _ _ _)) _ _ _); k_dflt (refine' lw_comp (by k_asm) (by assumption) (by (intro q9 hq9; (repeat (refine List.mem_cons_of_mem _ ?_)); first | exact List.mem_append_right _ hq9 | solve_by_elim)) (by rfl) (by rfl) (by first | rfl | assumption) ?_ (by rfl) (by first | exact .inl rfl | exact .inr rfl) (by rfl) (by rfl); k_whole))
  trivial

theorem kw_796231_3 : True := by
  k_with "execs cons" => (k_here; (with_reducible refine wpAny_execs_cons ?_); try dsimp only)
  trivial
theorem turn3 {w : World} {p : Program} {loose : List Str} {mean : ExcName → Option Value} {mg mb : Str → Option Value} {dp un : Nat} {gd : Option (List Code)} {cn : Str} {a : Addr} {ccd : Value} {outer : List Env} {A₀ : Around} {base h₀ : Heap} {L : Addr} {m mc : Str → Option Value} {rest cells : List (Addr × Obj)} {s : Shared} {Q : Flow → Shared → Prop} {E : Value → Shared → Prop} {pg dpg n : Addr} {its : List Value} {od : Obj} {σ : List Nat} {leadV : Nat → Value} {tokL : Nat → Tok} (B : Below A₀ base outer h₀) (X : (Mine.hA.heap_1_39 w.params).In h₀) (T : Top p loose mean mg mb h₀) (hd : dp + 20 < recursionLimit) (hu : un + 300 < cLine) (F : Fr h₀ L s.heap m) (N : News h₀ L s.heap (rest ++ cells)) (CA : CellsAre mc (cellsFrom (L + 1) lawScope.names []) cells) (hr : ∀ p ∈ rest, NK L p) (hm4 : m (Str.ofString "page") = some (.ref pg))      (mpg : (pg, accObj dpg its n) ∈ rest) (mdpg : (dpg, od) ∈ rest) (hP : PageIs leadV tokL rest its σ) (hσ : σ.length = 6)
    (hret : ∀ DM h' tk' cells', Fr h₀ L h' m → News h₀ L h' (((DM, LCg.lst (σ.map fun j => Value.str (letter j) (tokL j))) :: rest) ++ cells') → CellsAre (upd mc (Str.ofString "names") (.ref DM)) (cellsFrom (L + 1) lawScope.names []) cells' → s.toks ≤ tk' → wpAny (model Challenge.rw_xg0084_01.row.toRowW.prog w) (ktrTop dp un gd cn lawScope L a ccd (cellsFrom (L + 1) lawScope.names []) outer) (execs (turnBody.drop 3) (envX cn lawScope L a ccd (cellsFrom (L + 1) lawScope.names []))) Q E { s with heap := h', toks := tk' }) :
    wpAny (model Challenge.rw_xg0084_01.row.toRowW.prog w) (ktrTop dp un gd cn lawScope L a ccd (cellsFrom (L + 1) lawScope.names []) outer) (execs (turnBody.drop 2) (envX cn lawScope L a ccd (cellsFrom (L + 1) lawScope.names []))) Q E s := by
  have _q : Challenge.rw_xg0084_01 = Challenge.rw_xg0084_01 ∧ Mine.hA.heap_1_39 = Mine.hA.heap_1_39 := by (k_fill; exact ⟨rfl, rfl⟩)
  have hcs : ∀ p ∈ cells, p ∈ rest ++ cells := fun p hp => List.mem_append_right _ hp
  have hrs : ∀ p ∈ rest, p ∈ rest ++ cells := fun p hp => List.mem_append_left _ hp
  have mpg2 := hrs _ mpg
  have mdpg2 := hrs _ mdpg
  have hP2 := hP.mono hrs
  have hil := hP.length
  generalize hb : rest ++ cells = bb at *
  show wpAny _ _ (execs (_ :: _) _) _ _ _
  walk1
  refine wpAny_toks ?_
  refine PySem.wpAny_Assign_Name ?_ (by rfl)
  refine compG F (by with_unfolding_all rfl) (by decide) (by rfl) (by decide) ?_
  k_steps
  refine src_acc (K := (Mine.hA.heap_1_39 w.params)) (fun i ys nw => nw = bb ∧ ys = (σ.take i).map fun j => Value.str (letter j) (tokL j)) rfl F X N (by k_is) (by k_is) ⟨n, mpg2, mdpg2⟩ (by rw [sizeLine_eq]; omega) ⟨rfl, rfl⟩ ?_ ?_
  · rintro i v ys nw gg I hv hly hS ⟨rfl, rfl⟩
    obtain ⟨T, k, j, rfl, hj, mT⟩ := hP2.at hv
    refine CTurn.pair rfl rfl rfl rfl ⟨k, mT⟩ ?_
    intro oI C oC D m₁ h tk E' hC hm2 hm1 F N off ne tle
    refine tests0 ?_
    rw [if_pos rfl]
    k_steps
    refine CEnd.intro F N _ (fun _ h => h) hC off hS ⟨rfl, ?_⟩
    rw [List.take_add_one, hj]; simp
  · rintro ys nw gg ⟨rfl, rfl⟩ D1 h tk F N of1
    rw [hil, List.take_length] at N
    subst hb
    have N2 : News h₀ L h (((D1, LCg.lst (σ.map fun j => Value.str (letter j) (tokL j))) :: rest) ++ cells) := N
    clear N
    repeat' ((fail_if_success (with_reducible show wpAny _ _ (execs (PySem.Stmt.Assign [PySem.Expr.Name (PySem.Str.ofString "falls") _] _ _ :: _) _) _ _ _)); (fail_if_success (with_reducible show wpAny _ _ (exec (PySem.Stmt.For _ _ _ _ _) _) _ _ _)); (fail_if_success (with_reducible show wpAny _ _ (exec (PySem.Stmt.While _ _ _ _) _) _ _ _)); (fail_if_success (with_reducible show wpAny _ _ (eval (PySem.Expr.ListComp _ _ _ _) _) _ _ _)); (fail_if_success (with_reducible show wpAny _ _ (eval (PySem.Expr.DictComp _ _ _ _ _) _) _ _ _)); (fail_if_success (with_reducible show wpAny _ _ (exec (PySem.Stmt.Assign _ (PySem.Expr.ListComp _ _ _ _) _) _) _ _ _)); (fail_if_success (with_reducible show wpAny _ _ (exec (PySem.Stmt.Assign _ (PySem.Expr.DictComp _ _ _ _ _) _) _) _ _ _)); (first | (k_unfold; (try dsimp only)) | (k_end; wrow_close) | walk1 | (dsimp only; walk1) | (leave1; walk_say "STEP leave1"; try dsimp only) | fail "no step"))
    rename_i h9 cells9 F9 N9 CA9 tz
    exact hret D1 h9 _ cells9 F9 N9 CA9 tz
theorem falls_eq {val : Nat → Nat → Int} {rl σ : List Nat} (hval : ∀ i j, val i j = 1 ↔ rk rl j < rk rl i) : (((List.range 5).map fun k => val (σ.getD k 0) (σ.getD (k + 1) 0)).filter fun x => x = 1).length = fallsF rl σ := by
  rw [List.filter_map, List.length_map]
  unfold fallsF
  congr 1
  refine List.filter_congr fun k _ => ?_
  simp only [Function.comp, decide_eq_decide]
  exact hval _ _
theorem kw_796231_4 : True := by
  k_with "subscriptTail" => (k_here; (with_reducible show wpAny _ _ (subscriptTail _ _ (Value.ref _) (Value.int _ _)) _ _ _); k_dflt (refine' LL.item (by k_asm) (by k_mem) (by omega) (by assumption) (by assumption) (by with_unfolding_all rfl) ?_; k_whole))
  k_with "subscriptTail" => (k_here; (with_reducible show wpAny _ _ (subscriptTail _ _ (Value.ref _) (Value.str _ _)) _ _ _); k_dflt (refine' DK.item (knd := PySem.strKind _ _) (by k_asm) (by k_mem) (by assumption) (strKind_is _ _ _ _) (by assumption) ?_ (by with_unfolding_all rfl); k_whole))
  trivial
theorem turn4 {w : World} {p : Program} {loose : List Str} {mean : ExcName → Option Value} {mg mb : Str → Option Value} {dp un : Nat} {gd : Option (List Code)} {cn : Str} {a : Addr} {ccd : Value} {outer : List Env} {A₀ : Around} {base h₀ : Heap} {L : Addr} {m mc : Str → Option Value} {rest cells : List (Addr × Obj)} {s : Shared} {Q : Flow → Shared → Prop} {E : Value → Shared → Prop} {DM dd : Addr} {km : Nat} {σ rl : List Nat} {tokL : Nat → Tok} {val : Nat → Nat → Int} {TT : Tok} (B : Below A₀ base outer h₀) (X : (Mine.hA.heap_1_39 w.params).In h₀) (T : Top p loose mean mg mb h₀) (hd : dp + 20 < recursionLimit) (hu : un + 300 < cLine) (F : Fr h₀ L s.heap m) (N : News h₀ L s.heap (rest ++ cells)) (CA : CellsAre mc (cellsFrom (L + 1) lawScope.names []) cells) (hr : ∀ p ∈ rest, NK L p) (hm1 : mc (Str.ofString "names") = some (.ref DM)) (hm2 : mc (Str.ofString "deeper") = some (.ref dd))      (mM : (DM, W.listOf (σ.map fun j => Value.str (letter j) (tokL j)).toArray km) ∈ rest) (hσ : σ.length = 6) (hσ6 : ∀ j ∈ σ, j < 6) (hD : DeepIs Challenge.rw_xg0084_01.row.prog w val TT rest dd) (hT : @LE.le Nat _ TT s.toks) (hval : ∀ i j, val i j = 1 ↔ rk rl j < rk rl i)
    (hret : ∀ h' tk' t, Fr h₀ L h' (upd m (Str.ofString "falls") (.int (fallsF rl σ : Nat) t)) → News h₀ L h' (rest ++ cells) → s.toks ≤ tk' → wpAny (model Challenge.rw_xg0084_01.row.toRowW.prog w) (ktrTop dp un gd cn lawScope L a ccd (cellsFrom (L + 1) lawScope.names []) outer) (execs (turnBody.drop 4) (envX cn lawScope L a ccd (cellsFrom (L + 1) lawScope.names []))) Q E { s with heap := h', toks := tk' }) :
    wpAny (model Challenge.rw_xg0084_01.row.toRowW.prog w) (ktrTop dp un gd cn lawScope L a ccd (cellsFrom (L + 1) lawScope.names []) outer) (execs (turnBody.drop 3) (envX cn lawScope L a ccd (cellsFrom (L + 1) lawScope.names []))) Q E s := by
  have _q : Challenge.rw_xg0084_01 = Challenge.rw_xg0084_01 ∧ Mine.hA.heap_1_39 = Mine.hA.heap_1_39 := by (k_fill; exact ⟨rfl, rfl⟩)
  have hcs : ∀ p ∈ cells, p ∈ rest ++ cells := fun p hp => List.mem_append_right _ hp
  have hrs : ∀ p ∈ rest, p ∈ rest ++ cells := fun p hp => List.mem_append_left _ hp
  have mM2 := hrs _ mM
  obtain ⟨odd, kvd, mdd, idd, hdi⟩ := hD
  have mdd2 := hrs _ mdd
  generalize hb : rest ++ cells = bb at *
  show wpAny _ _ (execs (_ :: _) _) _ _ _
  walk1
  refine wpAny_toks ?_
  repeat' ((fail_if_success (with_reducible show wpAny _ _ (exec (PySem.Stmt.For _ _ _ _ _) _) _ _ _)); (fail_if_success (with_reducible show wpAny _ _ (exec (PySem.Stmt.While _ _ _ _) _) _ _ _)); (fail_if_success (with_reducible show wpAny _ _ (eval (PySem.Expr.ListComp _ _ _ _) _) _ _ _)); (fail_if_success (with_reducible show wpAny _ _ (eval (PySem.Expr.DictComp _ _ _ _ _) _) _ _ _)); (fail_if_success (with_reducible show wpAny _ _ (exec (PySem.Stmt.Assign _ (PySem.Expr.ListComp _ _ _ _) _) _) _ _ _)); (fail_if_success (with_reducible show wpAny _ _ (exec (PySem.Stmt.Assign _ (PySem.Expr.DictComp _ _ _ _ _) _) _) _ _ _)); (first | (k_unfold; (try dsimp only)) | (k_end; wrow_close) | walk1 | (dsimp only; walk1) | (leave1; walk_say "STEP leave1"; try dsimp only) | fail "no step"))
  refine wpAny_toks ?_
  refine compG F (by with_unfolding_all rfl) (by decide) (by rfl) (by decide) ?_
  k_steps
  rename_i hR9 F9 N9 _
  refine src_range (n := 5) (m := m) (news := bb) (fun i ys nw => nw = bb ∧ IntsAre ys ((List.range i).map fun k => val (σ.getD k 0) (σ.getD (k + 1) 0)) ∧ ∀ (j : Nat) (x : Int) (t : Tok), ys[j]? = some (Value.int x t) → @LT.lt Nat _ 0 t ∧ @LT.lt Nat _ t TT) rfl F9 N9 hR9 (by decide) (by decide) (by decide) ⟨_, _, rfl⟩ ⟨rfl, .nil, fun j x t h => by simp at h⟩ ?_ ?_
  · rintro i t ys nw gg I hi hly ⟨rfl, hY, hTk⟩
    rw [Int.zero_add]
    refine CTurn.name rfl rfl ?_
    intro oI C oC D2 m₁ h tk E' hC hmv F N off ne tle
    refine tests0 ?_
    rw [if_pos rfl]
    have h1 : i < σ.length := by omega
    have h2 : i + 1 < σ.length := by omega
    have ev1 : (σ.map fun j => Value.str (letter j) (tokL j))[((i : Nat) : Int).toNat]? = some (Value.str (letter (σ.getD i 0)) (tokL (σ.getD i 0))) := by
      rw [Int.toNat_natCast, List.getElem?_map, List.getD, List.getElem?_eq_getElem h1]; rfl
    have ev2 : (σ.map fun j => Value.str (letter j) (tokL j))[(((i : Nat) : Int) + 1).toNat]? = some (Value.str (letter (σ.getD (i + 1) 0)) (tokL (σ.getD (i + 1) 0))) := by
      rw [show (((i : Nat) : Int) + 1).toNat = i + 1 from by omega, List.getElem?_map, List.getD, List.getElem?_eq_getElem h2]; rfl
    have hz : (σ.map fun j => Value.str (letter j) (tokL j)).length < 2 ^ 62 := by rw [List.length_map, hσ]; decide
    have s1 : σ.getD i 0 < 6 := hσ6 _ (by rw [List.getD, List.getElem?_eq_getElem h1]; exact List.getElem_mem h1)
    have s2 : σ.getD (i + 1) 0 < 6 := hσ6 _ (by rw [List.getD, List.getElem?_eq_getElem h2]; exact List.getElem_mem h2)
    obtain ⟨di, odi, kvi, hvi, mdi, idi, hvj⟩ := hdi _ s1
    obtain ⟨tv, hva, hv0, hvT⟩ := hvj _ s2
    have mdi2 := hrs _ mdi
    repeat' ((fail_if_success (with_reducible show wpAny _ _ (exec (PySem.Stmt.For _ _ _ _ _) _) _ _ _)); (fail_if_success (with_reducible show wpAny _ _ (exec (PySem.Stmt.While _ _ _ _) _) _ _ _)); (fail_if_success (with_reducible show wpAny _ _ (eval (PySem.Expr.ListComp _ _ _ _) _) _ _ _)); (fail_if_success (with_reducible show wpAny _ _ (eval (PySem.Expr.DictComp _ _ _ _ _) _) _ _ _)); (fail_if_success (with_reducible show wpAny _ _ (exec (PySem.Stmt.Assign _ (PySem.Expr.ListComp _ _ _ _) _) _) _ _ _)); (fail_if_success (with_reducible show wpAny _ _ (exec (PySem.Stmt.Assign _ (PySem.Expr.DictComp _ _ _ _ _) _) _) _ _ _)); (first | (k_unfold; (try dsimp only)) | (k_end; wrow_close) | walk1 | (dsimp only; walk1) | (leave1; walk_say "STEP leave1"; try dsimp only) | fail "no step"))
    refine CEnd.intro F N _ (fun _ h => h) hC off trivial ⟨rfl, ?_, ?_⟩
    · rw [row_succ]
      exact hY.append (.cons _ _ .nil)
    · intro j x t e
      rcases Nat.lt_or_ge j ys.length with q | q
      · rw [List.getElem?_append_left q] at e
        exact hTk j x t e
      · rw [List.getElem?_append_right q] at e
        rcases hq : j - ys.length with _ | q2
        · rw [hq] at e
          have e' : Value.int (val (σ.getD i 0) (σ.getD (i + 1) 0)) tv = Value.int x t := by simpa using e
          cases e'
          exact ⟨hv0, hvT⟩
        · rw [hq] at e
          simp at e
  · rintro ys nw gg ⟨rfl, hY, hTk⟩ D1 h tk F N of1
    repeat' ((fail_if_success (with_reducible show wpAny _ _ (exec (PySem.Stmt.For _ _ _ _ _) _) _ _ _)); (fail_if_success (with_reducible show wpAny _ _ (exec (PySem.Stmt.While _ _ _ _) _) _ _ _)); (fail_if_success (with_reducible show wpAny _ _ (eval (PySem.Expr.ListComp _ _ _ _) _) _ _ _)); (fail_if_success (with_reducible show wpAny _ _ (eval (PySem.Expr.DictComp _ _ _ _ _) _) _ _ _)); (fail_if_success (with_reducible show wpAny _ _ (exec (PySem.Stmt.Assign _ (PySem.Expr.ListComp _ _ _ _) _) _) _ _ _)); (fail_if_success (with_reducible show wpAny _ _ (exec (PySem.Stmt.Assign _ (PySem.Expr.DictComp _ _ _ _ _) _) _) _ _ _)); (first | (k_unfold; (try dsimp only)) | (k_end; wrow_close) | walk1 | (dsimp only; walk1) | (leave1; walk_say "STEP leave1"; try dsimp only) | fail "no step"))
    rename_i tzz
    dsimp only at tzz
    refine countOf_spec (m := m) (by assumption) F (by assumption) N (by assumption) lawScope_kind (by omega) List.mem_cons_self hY (by rw [hY.length]; simp) (show @Ne Nat tk 0 from ?_) (by decide) (fun j x t e => ?_) ?_
    · have hTT : @LT.lt Nat _ 0 TT := by
        have h0 : 0 < ys.length := by rw [hY.length]; simp
        obtain ⟨t0, e0⟩ := ints_at hY (i := 0) (by simp)
        have := hTk 0 _ _ e0
        exact Nat.lt_trans this.1 this.2
      omega
    · obtain ⟨a, b⟩ := hTk j x t e
      exact ⟨Nat.ne_of_gt a, Nat.ne_of_lt (Nat.lt_of_lt_of_le b (Nat.le_trans hT tzz))⟩
    intro tf h9 tk9 F9 N9
    rw [falls_eq hval]
    repeat' ((fail_if_success (with_reducible show wpAny _ _ (execs (PySem.Stmt.Assign [PySem.Expr.Name (PySem.Str.ofString "book") _] _ _ :: _) _) _ _ _)); (fail_if_success (with_reducible show wpAny _ _ (exec (PySem.Stmt.For _ _ _ _ _) _) _ _ _)); (fail_if_success (with_reducible show wpAny _ _ (exec (PySem.Stmt.While _ _ _ _) _) _ _ _)); (fail_if_success (with_reducible show wpAny _ _ (eval (PySem.Expr.ListComp _ _ _ _) _) _ _ _)); (fail_if_success (with_reducible show wpAny _ _ (eval (PySem.Expr.DictComp _ _ _ _ _) _) _ _ _)); (fail_if_success (with_reducible show wpAny _ _ (exec (PySem.Stmt.Assign _ (PySem.Expr.ListComp _ _ _ _) _) _) _ _ _)); (fail_if_success (with_reducible show wpAny _ _ (exec (PySem.Stmt.Assign _ (PySem.Expr.DictComp _ _ _ _ _) _) _) _ _ _)); (first | (k_unfold; (try dsimp only)) | (k_end; wrow_close) | walk1 | (dsimp only; walk1) | (leave1; walk_say "STEP leave1"; try dsimp only) | fail "no step"))
    rename_i h10 F10 N10 tz
    exact hret h10 _ tf F10 (cb_drop N10 fun p hp => List.mem_cons_of_mem _ (hb ▸ hp)) tz
end
end
-- Turn5
section
theorem kr_Turn5 : True := by
  k_with_none
  w_top off
  trivial
open PySem PySem.W PyProof.Rows PySem.Calls PySem.Spec
section
theorem kw_980215_1 : True := by
  k_with "eval Name" => (k_here; k_dflt (refine' lw_name (by k_asm) (by assumption) (by (intro q9 hq9; (repeat (refine List.mem_cons_of_mem _ ?_)); first | exact List.mem_append_right _ hq9 | solve_by_elim)) (by rfl) (by first | rfl | assumption) ?_ (by exact lawScope_kind) (by rfl) (by rfl); k_whole))
  k_with "eval Name" => (k_here; k_dflt (refine' nameX_L (by k_asm) (by first | rfl | assumption) ?_ (by exact lawScope_kind) (by rfl); k_whole))
  k_with "storeName" => (k_here; k_dflt (first | (refine' lw_putK (by k_asm) (by first | assumption | exact (show News _ _ _ ((_ :: _) ++ _) from by assumption) | exact (show News _ _ _ ((_ :: _ :: _) ++ _) from by assumption) | exact (show News _ _ _ ((_ :: _ :: _ :: _) ++ _) from by assumption) | exact (show News _ _ _ ((_ :: _ :: _ :: _ :: _) ++ _) from by assumption) | exact (show News _ _ _ ((_ :: _ :: _ :: _ :: _ :: _) ++ _) from by assumption) | exact (show News _ _ _ ((_ :: _ :: _ :: _ :: _ :: _ :: _) ++ _) from by assumption)) (by assumption) (by ((repeat (refine List.forall_mem_cons.mpr ⟨by first | (refine Or.inl ?_; intro v9 h9; cases h9; done) | assumption, ?_⟩)); first | assumption | exact (fun _ h => nomatch h))) (by rfl) ?_ (by rfl); k_whole)); intro _ _ _ _ _)
  trivial

theorem kw_980215_2 : True := by
  k_with "execs cons" => (k_here; (with_reducible refine wpAny_execs_cons ?_); try dsimp only)
  k_with "call ref" => (k_here; (with_reducible show wpAny _ _ (call (Value.ref 180) _) _ _ _); k_dflt (refine' fss_spec (m := _) (by assumption) (by assumption) (by assumption) (by assumption) (by assumption) (by exact lawScope_kind) (by omega) (by omega) (by k_mem) (by omega) (by omega) ?_; k_whole); intro _ _ _ _ _)
  k_with "call ref" => (k_here; (with_reducible show wpAny _ _ (call (Value.ref 187) _) _ _ _); k_dflt (refine' addf_spec (m := _) (by assumption) (by assumption) (by assumption) (by assumption) (by assumption) (by exact lawScope_kind) (by omega) (by k_mem) (by k_mem) (by k_mem) (by k_mem) (by assumption) (by assumption) (by assumption) (by assumption) (by assumption) (by assumption) (by omega) (by (show 1 ≤ 100; decide)) ?_; k_whole); intro _ _ _ _ _ _ _ _ _ _ _ _ _ _ _ _ _)
  trivial
theorem turn5 {w : World} {p : Program} {loose : List Str} {mean : ExcName → Option Value} {mg mb : Str → Option Value} {dp un : Nat} {gd : Option (List Code)} {cn : Str} {a : Addr} {ccd : Value} {outer : List Env} {A₀ : Around} {base h₀ : Heap} {L : Addr} {m mc : Str → Option Value} {rest cells : List (Addr × Obj)} {s : Shared} {Q : Flow → Shared → Prop} {E : Value → Shared → Prop} {BK DD : Addr} {oD : Obj} {kvs : List (PySem.Str × Value)} {P : List (PySem.Str × Int)} {f : Nat} {tf t1 t2 t3 t4 : Tok} {c1 c2 c3 c4 : Int} (B : Below A₀ base outer h₀) (X : (Mine.hA.heap_1_39 w.params).In h₀) (T : Top p loose mean mg mb h₀) (hd : dp + 20 < recursionLimit) (hu : un + 300 < cLine) (F : Fr h₀ L s.heap m) (N : News h₀ L s.heap (rest ++ cells)) (CA : CellsAre mc (cellsFrom (L + 1) lawScope.names []) cells) (hr : ∀ p ∈ rest, NK L p) (hm1 : m (Str.ofString "book") = some (.ref BK)) (hm2 : m (Str.ofString "falls") = some (.int (f : Nat) tf)) (hf5 : f ≤ 5)      (mB : (BK, tupO [.int c1 t1, .int c2 t2, .int c3 t3, .int c4 t4, .ref DD]) ∈ rest) (mD : (DD, oD) ∈ rest) (hD : oD.IsDictOf (PySem.strKind Challenge.rw_xg0084_01.row.prog w) kvs) (hP : IntsD kvs P) (lo : (DD == sysModules) = false) (hz : P.length ≤ 90)
    (hret : ∀ BK' DD' oD' kvs' h' tk' u1 u2 u3 u4, Fr h₀ L h' (upd m (Str.ofString "book") (.ref BK')) → News h₀ L h' (((BK', tupO [.int (1 + c1) u1, .int ((f : Nat) + c2) u2, .int ((f : Nat) * (f : Nat) + c3) u3, .int ((f : Nat) * (5 - (f : Nat)) + c4) u4, .ref DD']) :: (DD', oD') :: rest) ++ cells) → oD'.IsDictOf (PySem.strKind Challenge.rw_xg0084_01.row.prog w) kvs' → IntsD kvs' (addS (pfName (f : Nat)) 1 P) → (DD' == sysModules) = false → s.toks ≤ tk' → wpAny (model Challenge.rw_xg0084_01.row.toRowW.prog w) (ktrTop dp un gd cn lawScope L a ccd (cellsFrom (L + 1) lawScope.names []) outer) (execs (turnBody.drop 5) (envX cn lawScope L a ccd (cellsFrom (L + 1) lawScope.names []))) Q E { s with heap := h', toks := tk' }) :
    wpAny (model Challenge.rw_xg0084_01.row.toRowW.prog w) (ktrTop dp un gd cn lawScope L a ccd (cellsFrom (L + 1) lawScope.names []) outer) (execs (turnBody.drop 4) (envX cn lawScope L a ccd (cellsFrom (L + 1) lawScope.names []))) Q E s := by
  have _q : Challenge.rw_xg0084_01 = Challenge.rw_xg0084_01 ∧ Mine.hA.heap_1_39 = Mine.hA.heap_1_39 := by (k_fill; exact ⟨rfl, rfl⟩)
  have hcs : ∀ p ∈ cells, p ∈ rest ++ cells := fun p hp => List.mem_append_right _ hp
  have hrs : ∀ p ∈ rest, p ∈ rest ++ cells := fun p hp => List.mem_append_left _ hp
  have mB2 := hrs _ mB
  have mD2 := hrs _ mD
  generalize hb : rest ++ cells = bb at *
  have hf0 : (0 : Int) ≤ (f : Nat) ∧ ((f : Nat) : Int) ≤ 5 := by omega
  show wpAny _ _ (execs (_ :: _) _) _ _ _
  walk1
  refine wpAny_toks ?_
  repeat' ((fail_if_success (with_reducible show wpAny _ _ (exec (PySem.Stmt.For _ _ _ _ _) _) _ _ _)); (fail_if_success (with_reducible show wpAny _ _ (exec (PySem.Stmt.While _ _ _ _) _) _ _ _)); (fail_if_success (with_reducible show wpAny _ _ (eval (PySem.Expr.ListComp _ _ _ _) _) _ _ _)); (fail_if_success (with_reducible show wpAny _ _ (eval (PySem.Expr.DictComp _ _ _ _ _) _) _ _ _)); (fail_if_success (with_reducible show wpAny _ _ (exec (PySem.Stmt.Assign _ (PySem.Expr.ListComp _ _ _ _) _) _) _ _ _)); (fail_if_success (with_reducible show wpAny _ _ (exec (PySem.Stmt.Assign _ (PySem.Expr.DictComp _ _ _ _ _) _) _) _ _ _)); (first | (k_unfold; (try dsimp only)) | (k_end; wrow_close) | walk1 | (dsimp only; walk1) | (leave1; walk_say "STEP leave1"; try dsimp only) | fail "no step"))
  refine dict_one (h₀ := h₀) (L := L) (m := m) (news := bb) (PySem.strKind _ _) ?hF9 ?hN9 ?_
  case hF9 => exact F
  case hN9 => exact N
  intro D1 h1 F1 N1 l1 lL1
  have lo1 := lo_of X F1 lL1
  have mB3 : (BK, tupO [.int c1 t1, .int c2 t2, .int c3 t3, .int c4 t4, .ref DD]) ∈ (D1, dct0) :: bb := List.mem_cons_of_mem _ mB2
  have mD3 : (DD, oD) ∈ (D1, dct0) :: bb := List.mem_cons_of_mem _ mD2
  repeat' ((fail_if_success (with_reducible show wpAny _ _ (exec (PySem.Stmt.For _ _ _ _ _) _) _ _ _)); (fail_if_success (with_reducible show wpAny _ _ (exec (PySem.Stmt.While _ _ _ _) _) _ _ _)); (fail_if_success (with_reducible show wpAny _ _ (eval (PySem.Expr.ListComp _ _ _ _) _) _ _ _)); (fail_if_success (with_reducible show wpAny _ _ (eval (PySem.Expr.DictComp _ _ _ _ _) _) _ _ _)); (fail_if_success (with_reducible show wpAny _ _ (exec (PySem.Stmt.Assign _ (PySem.Expr.ListComp _ _ _ _) _) _) _ _ _)); (fail_if_success (with_reducible show wpAny _ _ (exec (PySem.Stmt.Assign _ (PySem.Expr.DictComp _ _ _ _ _) _) _) _ _ _)); (first | (k_unfold; (try dsimp only)) | (k_end; wrow_close) | walk1 | (dsimp only; walk1) | (leave1; walk_say "STEP leave1"; try dsimp only) | fail "no step"))
  rename_i D15 h15 F15 N15 l15 t9 h9 tk9 F9 N9
  refine OneEnd.intro (strKind_is _ _ _ _) F9 N9 bb (fun p hp => List.mem_cons_of_mem _ hp) (fun p hp => Nat.ne_of_lt (l1 p hp)) ?_
  intro h2 oD1 F2 N2 hd2
  have hP2 : IntsD [(pfName (f : Nat), Value.int 1 tk9)] [(pfName (f : Nat), 1)] := .cons _ .nil
  clear N9 F9
  repeat' ((fail_if_success (with_reducible show wpAny _ _ (execs (PySem.Stmt.Assign [PySem.Expr.Name (PySem.Str.ofString "step") _] _ _ :: _) _) _ _ _)); (fail_if_success (with_reducible show wpAny _ _ (exec (PySem.Stmt.For _ _ _ _ _) _) _ _ _)); (fail_if_success (with_reducible show wpAny _ _ (exec (PySem.Stmt.While _ _ _ _) _) _ _ _)); (fail_if_success (with_reducible show wpAny _ _ (eval (PySem.Expr.ListComp _ _ _ _) _) _ _ _)); (fail_if_success (with_reducible show wpAny _ _ (eval (PySem.Expr.DictComp _ _ _ _ _) _) _ _ _)); (fail_if_success (with_reducible show wpAny _ _ (exec (PySem.Stmt.Assign _ (PySem.Expr.ListComp _ _ _ _) _) _) _ _ _)); (fail_if_success (with_reducible show wpAny _ _ (exec (PySem.Stmt.Assign _ (PySem.Expr.DictComp _ _ _ _ _) _) _) _ _ _)); (first | (k_unfold; (try dsimp only)) | (k_end; wrow_close) | walk1 | (dsimp only; walk1) | (leave1; walk_say "STEP leave1"; try dsimp only) | fail "no step"))
  rename_i T9 u1 u2 u3 u4 D9 oD9 kvs9 h9 tk9 l9 g9 lo9 hD9 hI9 h10 F10 N10 tz
  refine hret T9 D9 oD9 kvs9 h10 _ u1 u2 u3 u4 F10 (cb_drop N10 fun p hp => ?_) hD9 hI9 lo9 tz
  rcases List.mem_cons.mp hp with hp | hp
  · exact hp ▸ List.mem_cons_self
  · rcases List.mem_cons.mp hp with hp | hp
    · exact hp ▸ List.mem_cons_of_mem _ List.mem_cons_self
    · exact List.mem_cons_of_mem _ (List.mem_cons_of_mem _ (List.mem_cons_of_mem _ (List.mem_cons_of_mem _ (hb ▸ hp))))
end
end
-- Turn6
section
theorem kr_Turn6 : True := by
  k_with_none
  w_top off
  trivial
open PySem PySem.W PyProof.Rows PySem.Calls PySem.Spec
section
variable {prog : Program} {w : World} {A : Around} {E : Value → Shared → Prop} {s : Shared} {h₀ : Heap} {L : Addr} {news : List (Addr × Obj)} {l : Addr} {vs : List Value} {k : Nat}
theorem LL.neg1 {value slice : Expr} {u : Tok} {v : Value} {Q : Value → Shared → Prop} (N : News h₀ L s.heap news) (hm : (l, W.listOf vs.toArray k) ∈ news) (hx : vs[vs.length - 1]? = some v) (hz : vs.length < 2 ^ 62) (h : Q v s)
    (hs : subscripted slice false (.ref l) (.int (-1) u) = operate [.ref l, .int (-1) u] (getItem (.ref l) (.int (-1) u)) := by with_unfolding_all rfl) :
    wpAny (model prog w) A (subscriptTail value slice (.ref l) (.int (-1) u)) Q E s := by
  have hi := (List.getElem?_eq_some_iff.mp hx).1
  refine tail_any (LL.is N hm).typeIs slot_list_getitem.lookup (wpAny_getItem_list_neg (LL.is N hm) (by decide) (by rw [List.size_toArray]; omega) (by decide) ?_ h) hs
  rw [List.size_toArray, show ((-1 : Int) + (vs.length : Int)).toNat = vs.length - 1 from by omega]
  simpa using hx
end
section
theorem kw_889214_1 : True := by
  k_with "eval Name" => (k_here; k_dflt (refine' lw_name (by k_asm) (by assumption) (by (intro q9 hq9; (repeat (refine List.mem_cons_of_mem _ ?_)); first | exact List.mem_append_right _ hq9 | solve_by_elim)) (by rfl) (by first | rfl | assumption) ?_ (by exact lawScope_kind) (by rfl) (by rfl); k_whole))
  k_with "eval Name" => (k_here; k_dflt (refine' nameX_L (by k_asm) (by first | rfl | assumption) ?_ (by exact lawScope_kind) (by rfl); k_whole))
  k_with "storeName" => (k_here; k_dflt (first | (refine' lw_putK (by k_asm) (by first | assumption | exact (show News _ _ _ ((_ :: _) ++ _) from by assumption) | exact (show News _ _ _ ((_ :: _ :: _) ++ _) from by assumption) | exact (show News _ _ _ ((_ :: _ :: _ :: _) ++ _) from by assumption) | exact (show News _ _ _ ((_ :: _ :: _ :: _ :: _) ++ _) from by assumption) | exact (show News _ _ _ ((_ :: _ :: _ :: _ :: _ :: _) ++ _) from by assumption) | exact (show News _ _ _ ((_ :: _ :: _ :: _ :: _ :: _ :: _) ++ _) from by assumption)) (by assumption) (by ((repeat (refine List.forall_mem_cons.mpr ⟨by first | (refine Or.inl ?_; intro v9 h9; cases h9; done) | assumption, ?_⟩)); first | assumption | exact (fun _ h => nomatch h))) (by rfl) ?_ (by rfl); k_whole)); intro _ _ _ _ _)
  trivial

theorem kw_889214_2 : True := by
  k_with "execs cons" => (k_here; (with_reducible refine wpAny_execs_cons ?_); try dsimp only)
  k_with "call ref" => (k_here; (with_reducible show wpAny _ _ (call (Value.ref 110) _) _ _ _); refine wpAny_toks ?_; k_dflt (refine' and_spec2 (m := _) (by assumption) (by assumption) (by assumption) (by assumption) (by assumption) (by exact lawScope_kind) (by omega) ?_; k_whole); intro _ _ _ _ _ _ _ _)
  k_with "call ref" => (k_here; (with_reducible show wpAny _ _ (call (Value.ref 117) _) _ _ _); refine wpAny_toks ?_; k_dflt (refine' inv_spec (m := _) (by assumption) (by assumption) (by assumption) (by assumption) (by assumption) (by exact lawScope_kind) (by omega) ?_; k_whole); intro _ _ _ _ _ _)
  trivial
theorem turn6 {w : World} {p : Program} {loose : List Str} {mean : ExcName → Option Value} {mg mb : Str → Option Value} {dp un : Nat} {gd : Option (List Code)} {cn : Str} {a : Addr} {ccd : Value} {outer : List Env} {A₀ : Around} {base h₀ : Heap} {L : Addr} {m mc : Str → Option Value} {rest cells : List (Addr × Obj)} {s : Shared} {Q : Flow → Shared → Prop} {E : Value → Shared → Prop} {DP kp : Addr} {ps : List Value} {fl turn tkp : Nat} {tt : Tok} (B : Below A₀ base outer h₀) (X : (Mine.hA.heap_1_39 w.params).In h₀) (T : Top p loose mean mg mb h₀) (hd : dp + 20 < recursionLimit) (hu : un + 300 < cLine) (F : Fr h₀ L s.heap m) (N : News h₀ L s.heap (rest ++ cells)) (CA : CellsAre mc (cellsFrom (L + 1) lawScope.names []) cells) (hr : ∀ p ∈ rest, NK L p) (hm1 : m (Str.ofString "turn") = some (.int (turn : Nat) tt)) (hm3 : mc (Str.ofString "powers") = some (.ref DP)) (htn : turn < 64)      (mP : (DP, W.listOf ps.toArray kp) ∈ rest) (hP : PowAt tkp ps fl) (hfl : 0 < fl) (hfl6 : fl < 6) (htk : @LE.le Nat _ tkp s.toks) (hts : @LT.lt Nat _ 0 s.toks)
    (hret : ∀ h' tk' ts, Fr h₀ L h' (upd m (Str.ofString "step") (.int (stepF fl turn : Nat) ts)) → News h₀ L h' (rest ++ cells) → s.toks ≤ tk' → @Ne Nat ts 0 → (∀ (i : Nat) (y : Int), ((List.range fl).map fun j => (2 : Int) ^ j)[i]? = some y → ∃ t, ps[i]? = some (Value.int y t) ∧ @Ne Nat t 0 ∧ (y ≠ ((stepF fl turn : Nat) : Int) → @Ne Nat t ts)) → wpAny (model Challenge.rw_xg0084_01.row.toRowW.prog w) (ktrTop dp un gd cn lawScope L a ccd (cellsFrom (L + 1) lawScope.names []) outer) (execs (turnBody.drop 6) (envX cn lawScope L a ccd (cellsFrom (L + 1) lawScope.names []))) Q E { s with heap := h', toks := tk' }) :
    wpAny (model Challenge.rw_xg0084_01.row.toRowW.prog w) (ktrTop dp un gd cn lawScope L a ccd (cellsFrom (L + 1) lawScope.names []) outer) (execs (turnBody.drop 5) (envX cn lawScope L a ccd (cellsFrom (L + 1) lawScope.names []))) Q E s := by
  have _q : Challenge.rw_xg0084_01 = Challenge.rw_xg0084_01 ∧ Mine.hA.heap_1_39 = Mine.hA.heap_1_39 := by (k_fill; exact ⟨rfl, rfl⟩)
  have hcs : ∀ p ∈ cells, p ∈ rest ++ cells := fun p hp => List.mem_append_right _ hp
  have mP2 : (DP, W.listOf ps.toArray kp) ∈ rest ++ cells := List.mem_append_left _ mP
  show wpAny _ _ (execs (_ :: _) _) _ _ _
  walk1
  refine wpAny_toks ?_
  repeat' ((fail_if_success (with_reducible show wpAny _ _ (subscriptTail _ _ _ _) _ _ _)); (fail_if_success (with_reducible show wpAny _ _ (exec (PySem.Stmt.For _ _ _ _ _) _) _ _ _)); (fail_if_success (with_reducible show wpAny _ _ (exec (PySem.Stmt.While _ _ _ _) _) _ _ _)); (fail_if_success (with_reducible show wpAny _ _ (eval (PySem.Expr.ListComp _ _ _ _) _) _ _ _)); (fail_if_success (with_reducible show wpAny _ _ (eval (PySem.Expr.DictComp _ _ _ _ _) _) _ _ _)); (fail_if_success (with_reducible show wpAny _ _ (exec (PySem.Stmt.Assign _ (PySem.Expr.ListComp _ _ _ _) _) _) _ _ _)); (fail_if_success (with_reducible show wpAny _ _ (exec (PySem.Stmt.Assign _ (PySem.Expr.DictComp _ _ _ _ _) _) _) _ _ _)); (first | (k_unfold; (try dsimp only)) | (k_end; wrow_close) | walk1 | (dsimp only; walk1) | (leave1; walk_say "STEP leave1"; try dsimp only) | fail "no step"))
  rename_i t8 h8 tk8 tz8 t9 h9 tk9 F9 N9 ta9 tb9 tz9
  obtain ⟨hpl, tok, hp1, hp2⟩ := id hP
  obtain ⟨hlast, hl0, hlT⟩ := hp1 (fl - 1) (by omega)
  have hlast' : ps[ps.length - 1]? = some (.int ((2 : Int) ^ (fl - 1)) (tok (fl - 1))) := by rw [hpl]; exact hlast
  refine LL.neg1 N9 mP2 hlast' (by omega) ?_
  repeat' ((fail_if_success (with_reducible show wpAny _ _ (execs (PySem.Stmt.Assign [PySem.Expr.Name (PySem.Str.ofString "turned") _] _ _ :: _) _) _ _ _)); (fail_if_success (with_reducible show wpAny _ _ (exec (PySem.Stmt.For _ _ _ _ _) _) _ _ _)); (fail_if_success (with_reducible show wpAny _ _ (exec (PySem.Stmt.While _ _ _ _) _) _ _ _)); (fail_if_success (with_reducible show wpAny _ _ (eval (PySem.Expr.ListComp _ _ _ _) _) _ _ _)); (fail_if_success (with_reducible show wpAny _ _ (eval (PySem.Expr.DictComp _ _ _ _ _) _) _ _ _)); (fail_if_success (with_reducible show wpAny _ _ (exec (PySem.Stmt.Assign _ (PySem.Expr.ListComp _ _ _ _) _) _) _ _ _)); (fail_if_success (with_reducible show wpAny _ _ (exec (PySem.Stmt.Assign _ (PySem.Expr.DictComp _ _ _ _ _) _) _) _ _ _)); (first | (k_unfold; (try dsimp only)) | (k_end; wrow_close) | walk1 | (dsimp only; walk1) | (leave1; walk_say "STEP leave1"; try dsimp only) | fail "no step"))
  rename_i h10 F10 N10 tz
  have e2 : ((2 : Int) ^ (fl - 1)) = ((2 ^ (fl - 1) : Nat) : Int) := by simp
  rw [and_at htn] at F10
  dsimp only at ta9 tz8
  by_cases hc : (2 : Int) ^ (fl - 1) < ((Nat.land (turn + 1) (Nat.xor turn 127) : Nat) : Int)
  · rw [if_pos hc, if_pos hc] at F10
    have es : stepF fl turn = 2 ^ (fl - 1) := by unfold stepF; rw [e2] at hc; omega
    have es2 : ((2 : Int) ^ (fl - 1)) = ((stepF fl turn : Nat) : Int) := by rw [es]; exact e2
    rw [es2] at F10
    refine hret h10 _ _ F10 N10 tz (Nat.ne_of_gt hl0) (fun i y hy => ?_)
    rw [List.getElem?_map] at hy
    have hi : i < fl := by
      rcases Nat.lt_or_ge i fl with q | q
      · exact q
      · rw [List.getElem?_eq_none (by simp; omega)] at hy; cases hy
    rw [List.getElem?_range hi] at hy
    obtain rfl : (2 : Int) ^ i = y := Option.some.inj hy
    obtain ⟨a, b, c⟩ := hp1 i hi
    refine ⟨tok i, a, Nat.ne_of_gt b, fun hne => hp2 i (fl - 1) hi (by omega) fun q => hne (by rw [q]; exact es2)⟩
  · rw [if_neg hc, if_neg hc] at F10
    have es : stepF fl turn = Nat.land (turn + 1) (Nat.xor turn 127) := by unfold stepF; rw [e2] at hc; omega
    rw [← es] at F10
    refine hret h10 _ _ F10 N10 tz (by omega) (fun i y hy => ?_)
    rw [List.getElem?_map] at hy
    have hi : i < fl := by
      rcases Nat.lt_or_ge i fl with q | q
      · exact q
      · rw [List.getElem?_eq_none (by simp; omega)] at hy; cases hy
    rw [List.getElem?_range hi] at hy
    obtain rfl : (2 : Int) ^ i = y := Option.some.inj hy
    obtain ⟨a, b, c⟩ := hp1 i hi
    exact ⟨tok i, a, Nat.ne_of_gt b, fun _ => by omega⟩
end
end
-- Turn7
section
theorem kr_Turn7 : True := by
  k_with_none
  w_top off
  trivial
open PySem PySem.W PyProof.Rows PySem.Calls PySem.Spec
theorem page_uncell {leadV : Nat → Value} {tokL : Nat → Tok} {nw nw' : List (Addr × Obj)} {its : List Value} {σ : List Nat} (h : PageIs leadV tokL nw its σ) (hs : ∀ p ∈ nw, NC p.2 → p ∈ nw') : PageIs leadV tokL nw' its σ := by
  induction h with
  | nil => exact .nil
  | cons m _ ih => exact .cons (hs _ m (fun v e => by cases e)) ih
theorem deep_mono {prog : Program} {w : World} {val : Nat → Nat → Int} {T T' : Tok} {nw nw' : List (Addr × Obj)} {dd : Addr} (h : DeepIs prog w val T nw dd) (hs : ∀ p ∈ nw, p ∈ nw') (ht : @LE.le Nat _ T T') : DeepIs prog w val T' nw' dd := by
  obtain ⟨od, kvs, m1, d1, h1⟩ := h
  refine ⟨od, kvs, hs _ m1, d1, fun i hi => ?_⟩
  obtain ⟨di, odi, kvi, v1, m2, d2, h2⟩ := h1 i hi
  refine ⟨di, odi, kvi, v1, hs _ m2, d2, fun j hj => ?_⟩
  obtain ⟨t, v2, t0, tT⟩ := h2 j hj
  exact ⟨t, v2, t0, Nat.lt_of_lt_of_le tT ht⟩
section
theorem kw_818633_1 : True := by
  k_with "eval Name" => (k_here; k_dflt (refine' lw_name (by k_asm) (by assumption) (by (intro q9 hq9; (repeat (refine List.mem_cons_of_mem _ ?_)); first | exact List.mem_append_right _ hq9 | solve_by_elim)) (by rfl) (by first | rfl | assumption) ?_ (by exact lawScope_kind) (by rfl) (by rfl); k_whole))
  k_with "eval Name" => (k_here; k_dflt (refine' nameX_L (by k_asm) (by first | rfl | assumption) ?_ (by exact lawScope_kind) (by rfl); k_whole))
  k_with "storeName" => (k_here; k_dflt (first | (refine' lw_putK (by k_asm) (by first | assumption | exact (show News _ _ _ ((_ :: _) ++ _) from by assumption) | exact (show News _ _ _ ((_ :: _ :: _) ++ _) from by assumption) | exact (show News _ _ _ ((_ :: _ :: _ :: _) ++ _) from by assumption) | exact (show News _ _ _ ((_ :: _ :: _ :: _ :: _) ++ _) from by assumption) | exact (show News _ _ _ ((_ :: _ :: _ :: _ :: _ :: _) ++ _) from by assumption) | exact (show News _ _ _ ((_ :: _ :: _ :: _ :: _ :: _ :: _) ++ _) from by assumption)) (by assumption) (by ((repeat (refine List.forall_mem_cons.mpr ⟨by first | (refine Or.inl ?_; intro v9 h9; cases h9; done) | assumption, ?_⟩)); first | assumption | exact (fun _ h => nomatch h))) (by rfl) ?_ (by rfl); k_whole)); intro _ _ _ _ _)
  trivial

theorem kw_818633_2 : True := by
  k_with "execs cons" => (k_here; (with_reducible refine wpAny_execs_cons ?_); try dsimp only)
  k_with "call ref" => (k_here; (with_reducible show wpAny _ _ (call (Value.ref 124) _) _ _ _); k_dflt (refine' xor_spec (m := _) (by assumption) (by assumption) (by assumption) (by assumption) (by assumption) (by exact lawScope_kind) (by omega) ?_; k_whole); intro _ _ _ _ _)
  trivial
theorem turn7 {w : World} {p : Program} {loose : List Str} {mean : ExcName → Option Value} {mg mb : Str → Option Value} {dp un : Nat} {gd : Option (List Code)} {cn : Str} {a : Addr} {ccd : Value} {outer : List Env} {A₀ : Around} {base h₀ : Heap} {L : Addr} {m mc : Str → Option Value} {rest cells : List (Addr × Obj)} {s : Shared} {Q : Flow → Shared → Prop} {E : Value → Shared → Prop} {turned step : Nat} {tt ts : Tok} (B : Below A₀ base outer h₀) (X : (Mine.hA.heap_1_39 w.params).In h₀) (T : Top p loose mean mg mb h₀) (hd : dp + 20 < recursionLimit) (hu : un + 300 < cLine) (F : Fr h₀ L s.heap m) (N : News h₀ L s.heap (rest ++ cells)) (CA : CellsAre mc (cellsFrom (L + 1) lawScope.names []) cells) (hr : ∀ p ∈ rest, NK L p) (hm1 : m (Str.ofString "step") = some (.int (step : Nat) ts)) (hm3 : mc (Str.ofString "turned") = some (.int (turned : Nat) tt)) (ht : turned < 64) (hs : step < 64)
    (hret : ∀ h' tk' cells' t, Fr h₀ L h' m → News h₀ L h' (rest ++ cells') → CellsAre (upd mc (Str.ofString "turned") (.int (Nat.xor turned step : Nat) t)) (cellsFrom (L + 1) lawScope.names []) cells' → s.toks ≤ tk' → wpAny (model Challenge.rw_xg0084_01.row.toRowW.prog w) (ktrTop dp un gd cn lawScope L a ccd (cellsFrom (L + 1) lawScope.names []) outer) (execs (turnBody.drop 7) (envX cn lawScope L a ccd (cellsFrom (L + 1) lawScope.names []))) Q E { s with heap := h', toks := tk' }) :
    wpAny (model Challenge.rw_xg0084_01.row.toRowW.prog w) (ktrTop dp un gd cn lawScope L a ccd (cellsFrom (L + 1) lawScope.names []) outer) (execs (turnBody.drop 6) (envX cn lawScope L a ccd (cellsFrom (L + 1) lawScope.names []))) Q E s := by
  have _q : Challenge.rw_xg0084_01 = Challenge.rw_xg0084_01 ∧ Mine.hA.heap_1_39 = Mine.hA.heap_1_39 := by (k_fill; exact ⟨rfl, rfl⟩)
  have hcs : ∀ p ∈ cells, p ∈ rest ++ cells := fun p hp => List.mem_append_right _ hp
  show wpAny _ _ (execs (_ :: _) _) _ _ _
  walk1
  refine wpAny_toks ?_
  repeat' ((fail_if_success (with_reducible show wpAny _ _ (execs (PySem.Stmt.Expr _ _ :: _) _) _ _ _)); (fail_if_success (with_reducible show wpAny _ _ (exec (PySem.Stmt.For _ _ _ _ _) _) _ _ _)); (fail_if_success (with_reducible show wpAny _ _ (exec (PySem.Stmt.While _ _ _ _) _) _ _ _)); (fail_if_success (with_reducible show wpAny _ _ (eval (PySem.Expr.ListComp _ _ _ _) _) _ _ _)); (fail_if_success (with_reducible show wpAny _ _ (eval (PySem.Expr.DictComp _ _ _ _ _) _) _ _ _)); (fail_if_success (with_reducible show wpAny _ _ (exec (PySem.Stmt.Assign _ (PySem.Expr.ListComp _ _ _ _) _) _) _ _ _)); (fail_if_success (with_reducible show wpAny _ _ (exec (PySem.Stmt.Assign _ (PySem.Expr.DictComp _ _ _ _ _) _) _) _ _ _)); (first | (k_unfold; (try dsimp only)) | (k_end; wrow_close) | walk1 | (dsimp only; walk1) | (leave1; walk_say "STEP leave1"; try dsimp only) | fail "no step"))
  rename_i t9 h9 tk9 h10 cells10 F10 N10 CA10 tz
  rw [xor_at ht hs] at CA10
  exact hret h10 _ cells10 _ F10 N10 CA10 tz
theorem kw_818633_3 : True := by
  k_with "subscriptTail Name Subscript str int" => (k_here; (with_reducible show wpAny _ _ (subscriptTail _ _ (Value.str _ _) (Value.int _ _)) _ _ _); k_dflt (refine' abc_item rfl (by assumption) ?_ (by with_unfolding_all rfl) (by (intro _; with_unfolding_all rfl)); k_whole))
  k_with "subscriptTail" => (k_here; (with_reducible show wpAny _ _ (subscriptTail _ _ (Value.ref _) (Value.int _ _)) _ _ _); k_dflt (refine' LL.item (by k_asm) (by k_mem) (by omega) (by assumption) (by assumption) (by with_unfolding_all rfl) ?_; k_whole))
  trivial
theorem turn8 {w : World} {p : Program} {loose : List Str} {mean : ExcName → Option Value} {mg mb : Str → Option Value} {dp un : Nat} {gd : Option (List Code)} {cn : Str} {a : Addr} {ccd : Value} {outer : List Env} {A₀ : Around} {base h₀ : Heap} {L : Addr} {m mc : Str → Option Value} {rest cells : List (Addr × Obj)} {s : Shared} {Q : Flow → Shared → Prop} {E : Value → Shared → Prop} {DF DP dd kf kp pg dpg n0 : Addr} {its fs ps : List Value} {od : Obj} {rl σ : List Nat} {step i : Nat} {ts tl : Tok} {val : Nat → Nat → Int} {TT : Tok} {leadV : Nat → Value} {tokL : Nat → Tok}      (B : Below A₀ base outer h₀) (X : (Mine.hA.heap_1_39 w.params).In h₀) (T : Top p loose mean mg mb h₀) (hd : dp + 20 < recursionLimit) (hu : un + 300 < cLine) (F : Fr h₀ L s.heap m) (N : News h₀ L s.heap ((pg, accObj dpg its n0) :: (dpg, od) :: (rest ++ cells))) (CA : CellsAre mc (cellsFrom (L + 1) lawScope.names []) cells) (hm1 : m (Str.ofString "step") = some (.int (step : Nat) ts)) (hm2 : m (Str.ofString "page") = some (.ref pg))      (hm3 : mc (Str.ofString "deeper") = some (.ref dd)) (hm4 : mc (Str.ofString "letters") = some (.str (Str.ofString "abcdef") tl)) (hm5 : mc (Str.ofString "free") = some (.ref DF)) (hm6 : mc (Str.ofString "powers") = some (.ref DP))      (mF : (DF, W.listOf fs.toArray kf) ∈ rest) (hF : IntsAre fs (natI (freeF rl))) (mP : (DP, W.listOf ps.toArray kp) ∈ rest) (hpl : ps.length = (freeF rl).length) (hfl6 : (freeF rl).length < 6) (hx6 : ∀ x ∈ freeF rl, x < 6) (hts : @Ne Nat ts 0) (hst : step = 2 ^ i) (hi : i < (freeF rl).length)      (hxs : ∀ (i : Nat) (y : Int), ((List.range (freeF rl).length).map fun j => (2 : Int) ^ j)[i]? = some y → ∃ t, ps[i]? = some (Value.int y t) ∧ @Ne Nat t 0 ∧ (y ≠ ((step : Nat) : Int) → @Ne Nat t ts))      (hod : IsAccD od) (hoff : ∀ p ∈ (dpg, od) :: (rest ++ cells), p.1 ≠ pg) (hP : PageIs leadV tokL rest its σ) (hσ : σ.length = 6) (hσ6 : ∀ j ∈ σ, j < 6) (hσx : ∀ j, j < 6 → j ∈ σ) (hD : DeepIs Challenge.rw_xg0084_01.row.prog w val TT rest dd) (hval : ∀ i j, val i j = 1 ↔ rk rl j < rk rl i) (htok : ∀ i ∈ σ, @LT.lt Nat _ 0 (tokL i) ∧ @LT.lt Nat _ (tokL i) s.toks)
    (hret : ∀ its' n' tl' h' tk', Fr h₀ L h' m → News h₀ L h' ((pg, accObj dpg its' n') :: (dpg, od) :: ((rest ++ cells) ++ tl')) → PageIs leadV tokL ((rest ++ cells) ++ tl') its' (hopL (rk rl) σ ((freeF rl).getD i 0)) → (∀ p ∈ tl', ∃ a b, p.2 = tupO [a, b]) → s.toks ≤ tk' → Q .next { s with heap := h', toks := tk' }) :
    wpAny (model Challenge.rw_xg0084_01.row.toRowW.prog w) (ktrTop dp un gd cn lawScope L a ccd (cellsFrom (L + 1) lawScope.names []) outer) (execs (turnBody.drop 7) (envX cn lawScope L a ccd (cellsFrom (L + 1) lawScope.names []))) Q E s := by
  have _q : Challenge.rw_xg0084_01 = Challenge.rw_xg0084_01 ∧ Mine.hA.heap_1_39 = Mine.hA.heap_1_39 := by (k_fill; exact ⟨rfl, rfl⟩)
  have hcs : ∀ p ∈ cells, p ∈ rest ++ cells := fun p hp => List.mem_append_right _ hp
  have hrs : ∀ p ∈ rest, p ∈ rest ++ cells := fun p hp => List.mem_append_left _ hp
  have mF2 := hrs _ mF
  have mP2 := hrs _ mP
  have hP2 := hP.mono hrs
  generalize hb : rest ++ cells = bb at *
  show wpAny _ _ (execs (_ :: _) _) _ _ _
  walk1
  refine wpAny_toks ?_
  repeat' ((fail_if_success (with_reducible show wpAny _ _ (exec (PySem.Stmt.For _ _ _ _ _) _) _ _ _)); (fail_if_success (with_reducible show wpAny _ _ (exec (PySem.Stmt.While _ _ _ _) _) _ _ _)); (fail_if_success (with_reducible show wpAny _ _ (eval (PySem.Expr.ListComp _ _ _ _) _) _ _ _)); (fail_if_success (with_reducible show wpAny _ _ (eval (PySem.Expr.DictComp _ _ _ _ _) _) _ _ _)); (fail_if_success (with_reducible show wpAny _ _ (exec (PySem.Stmt.Assign _ (PySem.Expr.ListComp _ _ _ _) _) _) _ _ _)); (fail_if_success (with_reducible show wpAny _ _ (exec (PySem.Stmt.Assign _ (PySem.Expr.DictComp _ _ _ _ _) _) _) _ _ _)); (first | (k_unfold; (try dsimp only)) | (k_end; wrow_close) | walk1 | (dsimp only; walk1) | (leave1; walk_say "STEP leave1"; try dsimp only) | fail "no step"))
  have hi5 : i < 5 := by omega
  have hst32 : step ≤ 32 := by
    rw [hst]
    exact pow2_leN hi5
  have hsm : smallInt ((step : Nat) : Int) = true := by
    unfold smallInt
    simp only [Bool.and_eq_true, decide_eq_true_eq]
    omega
  have hn : ((List.range (freeF rl).length).map fun j => (2 : Int) ^ j)[i]? = some ((step : Nat) : Int) := by
    rw [List.getElem?_map, List.getElem?_range hi, hst]; simp
  have hfst : ∀ j, j < i → ((List.range (freeF rl).length).map fun j => (2 : Int) ^ j)[j]? ≠ some ((step : Nat) : Int) := by
    intro j hj q
    rw [List.getElem?_map, List.getElem?_range (by omega), hst] at q
    have q' : (2 : Int) ^ j = ((2 ^ i : Nat) : Int) := Option.some.inj q
    have q2 : 2 ^ j = 2 ^ i := by
      have e : ((2 ^ j : Nat) : Int) = ((2 ^ i : Nat) : Int) := by rw [← q']; simp
      omega
    exact absurd (Nat.pow_lt_pow_right (by decide : 1 < 2) hj) (by omega)
  have mP3 : (DP, W.listOf ps.toArray kp) ∈ (pg, accObj dpg its n0) :: (dpg, od) :: bb := List.mem_cons_of_mem _ (List.mem_cons_of_mem _ mP2)
  refine wpAny_toks ?_
  refine indexOfI_spec (m := m) (n := i) (xs := (List.range (freeF rl).length).map fun j => (2 : Int) ^ j) B F X N T lawScope_kind (by omega) mP3 (by omega) hts hxs (by simp [hpl]) hsm hn hfst ?_
  intro t9 h9 tk9 F9 N9 tz9
  obtain ⟨tf, hfi⟩ := ints_at hF (i := i) (by rw [List.length_map]; exact hi)
  have hgi : (natI (freeF rl)).getD i 0 = (((freeF rl).getD i 0 : Nat) : Int) := by
    rw [List.getD, List.getElem?_map, List.getD, List.getElem?_eq_getElem hi]; rfl
  rw [hgi] at hfi
  have hfi' : fs[((i : Nat) : Int).toNat]? = some (.int (((freeF rl).getD i 0 : Nat) : Int) tf) := hfi
  have hxx : (freeF rl).getD i 0 < 6 := hx6 _ (by rw [List.getD, List.getElem?_eq_getElem hi]; exact List.getElem_mem hi)
  have hfz : fs.length < 2 ^ 62 := by rw [hF.length, List.length_map]; omega
  have mF3 : (DF, W.listOf fs.toArray kf) ∈ (pg, accObj dpg its n0) :: (dpg, od) :: bb := List.mem_cons_of_mem _ (List.mem_cons_of_mem _ mF2)
  clear hxs hn hfst mP3
  repeat' ((fail_if_success (with_reducible show wpAny _ _ (exec (PySem.Stmt.For _ _ _ _ _) _) _ _ _)); (fail_if_success (with_reducible show wpAny _ _ (exec (PySem.Stmt.While _ _ _ _) _) _ _ _)); (fail_if_success (with_reducible show wpAny _ _ (eval (PySem.Expr.ListComp _ _ _ _) _) _ _ _)); (fail_if_success (with_reducible show wpAny _ _ (eval (PySem.Expr.DictComp _ _ _ _ _) _) _ _ _)); (fail_if_success (with_reducible show wpAny _ _ (exec (PySem.Stmt.Assign _ (PySem.Expr.ListComp _ _ _ _) _) _) _ _ _)); (fail_if_success (with_reducible show wpAny _ _ (exec (PySem.Stmt.Assign _ (PySem.Expr.DictComp _ _ _ _ _) _) _) _ _ _)); (first | (k_unfold; (try dsimp only)) | (k_end; wrow_close) | walk1 | (dsimp only; walk1) | (leave1; walk_say "STEP leave1"; try dsimp only) | fail "no step"))
  refine wpAny_toks ?_
  refine hop_spec (m := m) (mid := bb) (r := rk rl) (TT := TT) B F9 X N9 T lawScope_kind hod (by omega) (by omega) rfl hoff hP2 hσ hσ6 (hσx _ hxx) (deep_mono hD hrs (Nat.le_refl _)) hval ?htok' ?htx ?_
  · intro j hj
    have h1 := htok j hj
    exact ⟨Nat.pos_iff_ne_zero.mp h1.1, fun e => Nat.lt_irrefl _ (Nat.lt_of_lt_of_le (e ▸ h1.2) tz9)⟩
  · have h1 := htok _ (hσx _ hxx)
    exact Nat.pos_iff_ne_zero.mp (Nat.lt_of_lt_of_le (Nat.lt_trans h1.1 h1.2) tz9)
  intro its' n' tl' h' tk' F' N' P' K' tz'
  repeat' ((fail_if_success (with_reducible show wpAny _ _ (exec (PySem.Stmt.For _ _ _ _ _) _) _ _ _)); (fail_if_success (with_reducible show wpAny _ _ (exec (PySem.Stmt.While _ _ _ _) _) _ _ _)); (fail_if_success (with_reducible show wpAny _ _ (eval (PySem.Expr.ListComp _ _ _ _) _) _ _ _)); (fail_if_success (with_reducible show wpAny _ _ (eval (PySem.Expr.DictComp _ _ _ _ _) _) _ _ _)); (fail_if_success (with_reducible show wpAny _ _ (exec (PySem.Stmt.Assign _ (PySem.Expr.ListComp _ _ _ _) _) _) _ _ _)); (fail_if_success (with_reducible show wpAny _ _ (exec (PySem.Stmt.Assign _ (PySem.Expr.DictComp _ _ _ _ _) _) _) _ _ _)); (first | (k_unfold; (try dsimp only)) | (k_end; wrow_close) | walk1 | (dsimp only; walk1) | (leave1; walk_say "STEP leave1"; try dsimp only) | fail "no step"))
  rename_i tq
  exact hret its' n' tl' h' _ F' N' P' K' tq
end
end
end
-- Turn8
section
open PySem PySem.W PyProof.Rows PySem.Calls PySem.Spec
structure LoopC (w : World) (mc : PySem.Str → Option Value) (val : Nat → Nat → Int) (TT tkp : Nat) (cs : List Int) (leadV : Nat → Value) (rl : List Nat) (base : List (Addr × Obj)) : Prop where
  ranks : Ranks rl
  rk6 : ∀ x ∈ rl, x < 6
  fl0 : 0 < (freeF rl).length
  fl6 : (freeF rl).length < 6
  cN : ∃ DN rs k, mc (Str.ofString "ranks") = some (.ref DN) ∧ (DN, W.listOf (List.toArray rs) k) ∈ base ∧ IntsAre rs (natI rl)
  cF : ∃ DF fs k, mc (Str.ofString "free") = some (.ref DF) ∧ (DF, W.listOf (List.toArray fs) k) ∈ base ∧ IntsAre fs (natI (freeF rl))
  cP : ∃ DP ps k, mc (Str.ofString "powers") = some (.ref DP) ∧ (DP, W.listOf (List.toArray ps) k) ∈ base ∧ PowAt tkp ps (freeF rl).length
  cB : ∃ DB bs k, mc (Str.ofString "by_rank") = some (.ref DB) ∧ (DB, W.listOf (List.toArray bs) k) ∈ base ∧ ByAt cs rl base bs 6
  cD : ∃ dd, mc (Str.ofString "deeper") = some (.ref dd) ∧ DeepIs Challenge.rw_xg0084_01.row.prog w val TT base dd
  cL : ∃ tl, mc (Str.ofString "letters") = some (.str (Str.ofString "abcdef") tl)
  cK : ∃ tp, mc (Str.ofString "peaks") = some (.int (peaksF rl : Nat) tp)
  val1 : ∀ i j, val i j = 1 ↔ rk rl j < rk rl i
  lead : ∀ j, j < 6 → ∃ u, leadV j = .str (leadS (cs.getD j 0)) u
structure LoopS (w : World) (L : Nat) (mc : PySem.Str → Option Value) (TT tkp : Nat) (pg : Addr) (leadV : Nat → Value) (tokL : Nat → Tok) (rl : List Nat) (base : List (Addr × Obj)) (tk : Nat) (m : PySem.Str → Option Value) (its : List Value) (σ : List Nat) (turned : Nat) (b : Bk) (R cells : List (Addr × Obj)) : Prop where
  cells : ∃ mc' tt, CellsAre mc' (cellsFrom (L + 1) lawScope.names []) cells ∧ (∀ y, y ≠ Str.ofString "turned" → y ≠ Str.ofString "names" → mc' y = mc y) ∧ mc' (Str.ofString "turned") = some (.int (turned : Nat) tt)
  off : ∀ p ∈ R, p.1 ≠ pg
  nk : ∀ p ∈ R, NK L p
  base : ∀ p ∈ base, p ∈ R
  page : PageIs leadV tokL R its σ
  m1 : m (Str.ofString "page") = some (.ref pg)
  m2 : ∃ tm, m (Str.ofString "many") = some (.int ((2 : Int) ^ (freeF rl).length) tm)
  book : ∃ BK DD oD kvs t1 t2 t3 t4, m (Str.ofString "book") = some (.ref BK) ∧ (BK, tupO [.int (b.cc : Nat) t1, .int (b.nc : Nat) t2, .int (b.tt : Nat) t3, .int (b.ct : Nat) t4, .ref DD]) ∈ R ∧ (DD, oD) ∈ R ∧ oD.IsDictOf (PySem.strKind Challenge.rw_xg0084_01.row.prog w) kvs ∧ IntsD kvs (numS b.cs) ∧ (DD == sysModules) = false
  tok : ∀ i ∈ σ, @LT.lt Nat _ 0 (tokL i) ∧ @LT.lt Nat _ (tokL i) tk
  s6 : σ.length = 6
  sx : ∀ j, j ∈ σ ↔ j < 6
  cs5 : ∀ p ∈ b.cs, p.1 ≤ 5
  tks : TT ≤ tk ∧ tkp ≤ tk ∧ 0 < tk

theorem page_sub {leadV : Nat → Value} {tokL : Nat → Tok} {nw nw' : List (Addr × Obj)} {its : List Value} {σ : List Nat} (h : PageIs leadV tokL nw its σ) (hs : ∀ p ∈ nw, (∃ vs k, p.2 = tupN vs k) → p ∈ nw') : PageIs leadV tokL nw' its σ := by
  induction h with
  | nil => exact .nil
  | cons m _ ih => exact .cons (hs _ m ⟨_, _, rfl⟩) ih
theorem nk_addr {h₀ h : Heap} {L : Addr} {mc : PySem.Str → Option Value} {nw cells : List (Addr × Obj)} (N : News h₀ L h nw) (hc : ∀ p ∈ cells, p ∈ nw) (CA : CellsAre mc (cellsFrom (L + 1) lawScope.names []) cells) {p : Addr × Obj} (hp : p ∈ nw) (hn : NK L p) : p.1 ∉ ((cellsFrom (L + 1) lawScope.names [])).map (·.2) := by
  rcases hn with hn | hn
  · intro q
    rw [← cells_addr CA] at q
    obtain ⟨c, hcm, e⟩ := List.mem_map.mp q
    obtain ⟨v, hv⟩ := cells_cell CA c hcm
    have e1 := (N p hp).1
    rw [← e, (N c (hc c hcm)).1] at e1
    exact hn v (by rw [← Option.some.inj e1]; exact hv)
  · exact hn
theorem news_cls {h₀ h : Heap} {L : Addr} {nw : List (Addr × Obj)} (N : News h₀ L h nw) {p q : Addr × Obj} (hp : p ∈ nw) (hq : q ∈ nw) (hne : p.2.cls ≠ q.2.cls) : p.1 ≠ q.1 := by
  intro e
  have e1 := (N p hp).1
  rw [e, (N q hq).1] at e1
  exact hne (by rw [Option.some.inj e1])
theorem dict_cls {prog : Program} {w : World} {od : Obj} {kvs : List (PySem.Str × Value)} (h : od.IsDictOf (PySem.strKind prog w) kvs) : od.cls = .type "dict" := by
  obtain ⟨_, _, h, _⟩ := h
  exact h.1
theorem ifn {x y : PySem.Str} {a b c : Option Value} (h : b = c) (hne : ¬ x = y := by decide) : (if x = y then a else b) = c := (if_neg hne).trans h
theorem turnAll {w : World} {p : Program} {loose : List Str} {mean : ExcName → Option Value} {mg mb : Str → Option Value} {dp un : Nat} {gd : Option (List Code)} {cn : Str} {a : Addr} {ccd : Value} {outer : List Env} {A₀ : Around} {base h₀ : Heap} {L : Addr} {m mc : Str → Option Value} {rest cells : List (Addr × Obj)} {s : Shared} {Q : Flow → Shared → Prop} {E : Value → Shared → Prop} {pg dpg n I : Addr} {its : List Value} {od oI : Obj} {R base9 : List (Addr × Obj)} {σ rl : List Nat} {turned turn nn : Nat} {b : Bk} {val : Nat → Nat → Int} {TT tkp : Nat} {cs : List Int} {leadV : Nat → Value} {tokL : Nat → Tok} {tt : Tok}      (B : Below A₀ base outer h₀) (X : (Mine.hA.heap_1_39 w.params).In h₀) (T : Top p loose mean mg mb h₀) (hd : dp + 20 < recursionLimit) (hu : un + 300 < cLine) (F : Fr h₀ L s.heap m) (N : News h₀ L s.heap (((I, oI) :: (pg, accObj dpg its n) :: (dpg, od) :: R) ++ cells))      (hod : IsAccD od) (hI : oI.cls = .type "range_iterator") (hIo : ∀ p ∈ ((pg, accObj dpg its n) :: (dpg, od) :: R) ++ cells, p.1 ≠ I) (hdp : dpg ≠ pg) (hC : LoopC w mc val TT tkp cs leadV rl base9) (hS : LoopS w L mc TT tkp pg leadV tokL rl base9 s.toks m its σ turned b R cells)      (hm : m (Str.ofString "turn") = some (.int (turn : Nat) tt)) (ht64 : turn < 64) (hz : b.cs.length ≤ 80) (hrun : runF rl (freeF rl) (nn + 1) turn σ turned b = true)
    (hret : ∀ its' n' σ' turned' b' R' h' tk' m' cells', Fr h₀ L h' m' → News h₀ L h' (((I, oI) :: (pg, accObj dpg its' n') :: (dpg, od) :: R') ++ cells') → (∀ p ∈ R', p.1 ≠ I) → LoopS w L mc TT tkp pg leadV tokL rl base9 tk' m' its' σ' turned' b' R' cells' → b'.cs.length ≤ b.cs.length + 1 → runF rl (freeF rl) nn (turn + 1) σ' turned' b' = true → s.toks ≤ tk' → Q .next { s with heap := h', toks := tk' }) :
    wpAny (model Challenge.rw_xg0084_01.row.toRowW.prog w) (ktrTop dp un gd cn lawScope L a ccd (cellsFrom (L + 1) lawScope.names []) outer) (execs turnBody (envX cn lawScope L a ccd (cellsFrom (L + 1) lawScope.names []))) Q E s := by
  have hrun' := hrun
  unfold runF at hrun'
  simp only [Bool.and_eq_true, decide_eq_true_eq, beq_iff_eq] at hrun'
  obtain ⟨⟨⟨⟨r1, r2⟩, r3⟩, r4⟩, r5⟩ := hrun'
  obtain ⟨mc0, tt0, CA, hmc, hmt⟩ := hS.cells
  obtain ⟨DN, rs, kn, cN1, cN2, cN3⟩ := hC.cN
  obtain ⟨DF, fs, kf, cF1, cF2, cF3⟩ := hC.cF
  obtain ⟨DP, ps, kp, cP1, cP2, cP3⟩ := hC.cP
  obtain ⟨DB, bs, kb, cB1, cB2, cB3⟩ := hC.cB
  obtain ⟨dd, cD1, cD2⟩ := hC.cD
  obtain ⟨tl, cL1⟩ := hC.cL
  obtain ⟨BK, DD, oD, kvs, t1, t2, t3, t4, b1, b2, b3, b4, b5, b6⟩ := hS.book
  rw [← hmc _ (by decide) (by decide)] at cN1 cF1 cP1 cB1 cD1 cL1
  have hnI : NK L (I, oI) := .inr fun q => by
    rw [← cells_addr CA] at q
    obtain ⟨c, hcm, e⟩ := List.mem_map.mp q
    exact hIo c (List.mem_append_right _ hcm) e
  have hr0 : ∀ p ∈ (I, oI) :: (pg, accObj dpg its n) :: (dpg, od) :: R, NK L p := List.forall_mem_cons.mpr ⟨hnI, List.forall_mem_cons.mpr ⟨.inl (fun v e => by cases e), List.forall_mem_cons.mpr ⟨.inl (nc_acc hod), hS.nk⟩⟩⟩
  have sR : ∀ p ∈ R, p ∈ (I, oI) :: (pg, accObj dpg its n) :: (dpg, od) :: R := fun p hp => List.mem_cons_of_mem _ (List.mem_cons_of_mem _ (List.mem_cons_of_mem _ hp))
  have sB : ∀ p ∈ base9, p ∈ (I, oI) :: (pg, accObj dpg its n) :: (dpg, od) :: R := fun p hp => sR p (hS.base p hp)
  have up1 : ∀ {l : List (Addr × Obj)} {a : Addr × Obj} {q : Addr × Obj}, q ∈ l → q ∈ a :: l := fun h => List.mem_cons_of_mem _ h
  refine turn1 B X T hd hu F N CA hr0 cN1 cF1 cP1 hmt (sB _ cN2) cN3 hC.ranks (sB _ cF2) cF3 hC.fl6 freeF_lt (sB _ cP2) cP3 r2 ?_
  intro DH hs h1 tk1 F1 N1 iH tz1
  have hr1 : ∀ p ∈ (DH, LCg.lst hs) :: (I, oI) :: (pg, accObj dpg its n) :: (dpg, od) :: R, NK L p := List.forall_mem_cons.mpr ⟨.inl (fun v e => by cases e), hr0⟩
  refine turn2 (s := { s with heap := h1, toks := tk1 }) B X T hd hu F1 N1 CA hr1 cN1 cB1 (if_pos rfl) (ifn hS.m1) (up1 (sB _ cN2)) cN3 hC.ranks List.mem_cons_self iH (Nat.le_trans (hoppedF_le _ _ _) (Nat.le_of_lt hC.fl6)) (up1 (sB _ cB2)) (cB3.up fun p hp => up1 (sB p hp)) (up1 (up1 List.mem_cons_self)) (up1 (up1 (up1 List.mem_cons_self))) (hS.page.mono fun p hp => up1 (sR p hp)) (fun j hj => hC.lead j ((hS.sx j).mp hj)) hS.s6 (fun j hj => (hS.sx j).mp hj) hC.rk6 r1.symm ?_
  intro h2 tk2 F2 N2 tz2
  refine turn3 (s := { s with heap := h2, toks := tk2 }) B X T hd hu F2 N2 CA hr1 (ifn hS.m1) (up1 (up1 List.mem_cons_self)) (up1 (up1 (up1 List.mem_cons_self))) (hS.page.mono fun p hp => up1 (sR p hp)) hS.s6 ?_
  intro DM h3 tk3 cells3 F3 N3 CA3 tz3
  have hr3 : ∀ p ∈ (DM, LCg.lst (σ.map fun j => Value.str (letter j) (tokL j))) :: (DH, LCg.lst hs) :: (I, oI) :: (pg, accObj dpg its n) :: (dpg, od) :: R, NK L p := List.forall_mem_cons.mpr ⟨.inl (fun v e => by cases e), hr1⟩
  have tT : @LE.le Nat _ TT tk3 := Nat.le_trans hS.tks.1 (Nat.le_trans tz1 (Nat.le_trans tz2 tz3))
  refine turn4 (s := { s with heap := h3, toks := tk3 }) B X T hd hu F3 N3 CA3 hr3 (if_pos rfl) (ifn cD1) List.mem_cons_self hS.s6 (fun j hj => (hS.sx j).mp hj) (deep_mono cD2 (fun p hp => up1 (up1 (sB p hp))) (Nat.le_refl _)) tT hC.val1 ?_
  intro h4 tk4 tf F4 N4 tz4
  refine turn5 (s := { s with heap := h4, toks := tk4 }) B X T hd hu F4 N4 CA3 hr3 (ifn (ifn b1)) (if_pos rfl) (fallsF_le rl σ) (up1 (up1 (sR _ b2))) (up1 (up1 (sR _ b3))) b4 b5 b6 (by rw [numS, List.length_map]; omega) ?_
  intro BK' DD' oD' kvs' h5 tk5 u1 u2 u3 u4 F5 N5 d5 i5 l5 tz5
  have hf5 := fallsF_le rl σ
  have e1 : (1 + (b.cc : Int)) = ((b.cc + 1 : Nat) : Int) := by omega
  have e2 : ((fallsF rl σ : Int) + (b.nc : Int)) = ((b.nc + fallsF rl σ : Nat) : Int) := by omega
  have e3 : ((fallsF rl σ : Int) * (fallsF rl σ : Int) + (b.tt : Int)) = ((b.tt + fallsF rl σ * fallsF rl σ : Nat) : Int) := by rw [Int.natCast_add, Int.natCast_mul, Int.add_comm]
  have e4 : ((fallsF rl σ : Int) * (5 - (fallsF rl σ : Int)) + (b.ct : Int)) = ((b.ct + fallsF rl σ * (5 - fallsF rl σ) : Nat) : Int) := by rw [Int.natCast_add, Int.natCast_mul, Int.natCast_sub hf5, Int.add_comm]; rfl
  rw [e1, e2, e3, e4] at N5
  have nd : ((numS b.cs).map (·.1)).Nodup := by
    rw [← b5.keys]
    obtain ⟨_, _, _, _, _, _, q⟩ := b4
    exact q
  have e5 : addS (pfName (fallsF rl σ : Nat)) 1 (numS b.cs) = numS (addK (fallsF rl σ) 1 b.cs) := addS_addK hf5 hS.cs5 nd
  rw [e5] at i5
  obtain ⟨oB, hoB⟩ : ∃ o, o = tupO [.int (b.cc + 1 : Nat) u1, .int (b.nc + fallsF rl σ : Nat) u2, .int (b.tt + fallsF rl σ * fallsF rl σ : Nat) u3, .int (b.ct + fallsF rl σ * (5 - fallsF rl σ) : Nat) u4, .ref DD'] := ⟨_, rfl⟩
  obtain ⟨oM, hoM⟩ : ∃ o, o = LCg.lst (σ.map fun j => Value.str (letter j) (tokL j)) := ⟨_, rfl⟩
  obtain ⟨oH, hoH⟩ : ∃ o, o = LCg.lst hs := ⟨_, rfl⟩
  rw [← hoB, ← hoM, ← hoH] at N5
  rw [← hoM, ← hoH] at hr3
  have hr5 : ∀ p ∈ (BK', oB) :: (DD', oD') :: (DM, oM) :: (DH, oH) :: (I, oI) :: (pg, accObj dpg its n) :: (dpg, od) :: R, NK L p := List.forall_mem_cons.mpr ⟨.inl (fun v e => by rw [hoB] at e; cases e), List.forall_mem_cons.mpr ⟨.inl (nc_dict d5), hr3⟩⟩
  have z0 : @LT.lt Nat _ 0 tk5 := Nat.lt_of_lt_of_le hS.tks.2.2 (Nat.le_trans tz1 (Nat.le_trans tz2 (Nat.le_trans tz3 (Nat.le_trans tz4 tz5))))
  have tP : @LE.le Nat _ tkp tk5 := Nat.le_trans hS.tks.2.1 (Nat.le_trans tz1 (Nat.le_trans tz2 (Nat.le_trans tz3 (Nat.le_trans tz4 tz5))))
  have mP5 := up1 (a := (BK', oB)) (up1 (a := (DD', oD')) (up1 (a := (DM, oM)) (up1 (a := (DH, oH)) (sB _ cP2))))
  refine turn6 (s := { s with heap := h5, toks := tk5 }) B X T hd hu F5 N5 CA3 hr5 (ifn (ifn (ifn hm))) (ifn cP1) ht64 mP5 cP3 hC.fl0 hC.fl6 tP z0 ?_
  intro h6 tk6 ts F6 N6 tz6 hts hxs
  have hst64 : stepF (freeF rl).length turn < 64 := by
    rw [r3]
    have : 2 ^ (stepF (freeF rl).length turn).log2 < 2 ^ 6 := Nat.pow_lt_pow_right (by decide) (Nat.lt_trans r4 hC.fl6)
    exact this
  refine turn7 (s := { s with heap := h6, toks := tk6 }) B X T hd hu F6 N6 CA3 hr5 (if_pos rfl) (ifn hmt) r2 hst64 ?_
  intro h7 tk7 cells7 t7 F7 N7 CA7 tz7
  have cB : oB.cls = .type "tuple" := by rw [hoB]
  have cM : oM.cls = .type "list" := by rw [hoM]
  have cH : oH.cls = .type "list" := by rw [hoH]
  have cD' := dict_cls d5
  have m7 : ∀ p ∈ (BK', oB) :: (DD', oD') :: (DM, oM) :: (DH, oH) :: (I, oI) :: (pg, accObj dpg its n) :: (dpg, od) :: R, p ∈ ((BK', oB) :: (DD', oD') :: (DM, oM) :: (DH, oH) :: (I, oI) :: (pg, accObj dpg its n) :: (dpg, od) :: R) ++ cells7 := fun p hp => List.mem_append_left _ hp
  have mpg7 := m7 (pg, accObj dpg its n) (up1 (up1 (up1 (up1 (up1 List.mem_cons_self)))))
  have npg := nk_addr N7 (fun p hp => List.mem_append_right _ hp) CA7 mpg7 (.inl (fun v e => by cases e))
  have hoff : ∀ p ∈ (dpg, od) :: (((BK', oB) :: (DD', oD') :: (DM, oM) :: (DH, oH) :: (I, oI) :: R) ++ cells7), p.1 ≠ pg := by
    refine List.forall_mem_cons.mpr ⟨hdp, fun p hp => ?_⟩
    rcases List.mem_append.mp hp with hp | hp
    · refine List.forall_mem_cons.mpr ⟨?_, List.forall_mem_cons.mpr ⟨?_, List.forall_mem_cons.mpr ⟨?_, List.forall_mem_cons.mpr ⟨?_, List.forall_mem_cons.mpr ⟨?_, hS.off⟩⟩⟩⟩⟩ p hp
      · exact news_cls N7 (m7 _ List.mem_cons_self) mpg7 (by rw [cB]; simp)
      · exact news_cls N7 (m7 _ (up1 List.mem_cons_self)) mpg7 (by rw [cD']; simp)
      · exact news_cls N7 (m7 _ (up1 (up1 List.mem_cons_self))) mpg7 (by rw [cM]; simp)
      · exact news_cls N7 (m7 _ (up1 (up1 (up1 List.mem_cons_self)))) mpg7 (by rw [cH]; simp)
      · exact Ne.symm (hIo (pg, accObj dpg its n) (List.mem_append_left _ List.mem_cons_self))
    · intro e
      refine npg ?_
      rw [← cells_addr CA7]
      exact List.mem_map.mpr ⟨p, hp, e⟩
  have N7' : News h₀ L h7 ((pg, accObj dpg its n) :: (dpg, od) :: (((BK', oB) :: (DD', oD') :: (DM, oM) :: (DH, oH) :: (I, oI) :: R) ++ cells7)) := cb_drop N7 fun p hp => by
    (revert p; (repeat' (first | refine List.forall_mem_cons.mpr ⟨?_, ?_⟩ | refine List.forall_mem_append.mpr ⟨?_, ?_⟩ | exact List.forall_mem_nil _)); all_goals (first | (intro p9 hp9; solve_by_elim (maxDepth := 24) only [hp9, List.mem_cons_of_mem, List.mem_append_left, List.mem_append_right]) | solve_by_elim (maxDepth := 24) only [List.mem_cons_self, List.mem_cons_of_mem, List.mem_append_left, List.mem_append_right]))
  have s8 : ∀ p ∈ R, p ∈ (BK', oB) :: (DD', oD') :: (DM, oM) :: (DH, oH) :: (I, oI) :: R := fun p hp => up1 (up1 (up1 (up1 (up1 hp))))
  have sb8 : ∀ p ∈ base9, p ∈ (BK', oB) :: (DD', oD') :: (DM, oM) :: (DH, oH) :: (I, oI) :: R := fun p hp => s8 p (hS.base p hp)
  have tk7le : s.toks ≤ tk7 := Nat.le_trans tz1 (Nat.le_trans tz2 (Nat.le_trans tz3 (Nat.le_trans tz4 (Nat.le_trans tz5 (Nat.le_trans tz6 tz7)))))
  refine turn8 (s := { s with heap := h7, toks := tk7 }) B X T hd hu F7 N7' CA7 (if_pos rfl) (ifn (ifn (ifn (ifn hS.m1)))) (ifn (ifn cD1)) (ifn (ifn cL1)) (ifn (ifn cF1)) (ifn (ifn cP1)) (sb8 _ cF2) cF3 (sb8 _ cP2) cP3.1 hC.fl6 freeF_lt hts r3 r4 hxs hod hoff (hS.page.mono s8) hS.s6 (fun j hj => (hS.sx j).mp hj) (fun j hj => (hS.sx j).mpr hj) (deep_mono cD2 sb8 (Nat.le_refl _)) hC.val1 (fun i hi => ⟨(hS.tok i hi).1, Nat.lt_of_lt_of_le (hS.tok i hi).2 tk7le⟩) ?_
  intro its' n' tl' h8 tk8 F8 N8 P8 K8 tz8
  have tk8le : s.toks ≤ tk8 := Nat.le_trans tk7le tz8
  have hop := hop_same (rk rl) σ ((freeF rl).getD (stepF (freeF rl).length turn).log2 0)
  have mI8 : (I, oI) ∈ (pg, accObj dpg its' n') :: (dpg, od) :: ((((BK', oB) :: (DD', oD') :: (DM, oM) :: (DH, oH) :: (I, oI) :: R) ++ cells7) ++ tl') := up1 (up1 (List.mem_append_left _ (List.mem_append_left _ (up1 (up1 (up1 (up1 List.mem_cons_self)))))))
  have mpg8 : (pg, accObj dpg its' n') ∈ (pg, accObj dpg its' n') :: (dpg, od) :: ((((BK', oB) :: (DD', oD') :: (DM, oM) :: (DH, oH) :: (I, oI) :: R) ++ cells7) ++ tl') := List.mem_cons_self
  have mt8 : ∀ p ∈ tl', p ∈ (pg, accObj dpg its' n') :: (dpg, od) :: ((((BK', oB) :: (DD', oD') :: (DM, oM) :: (DH, oH) :: (I, oI) :: R) ++ cells7) ++ tl') := fun p hp => up1 (up1 (List.mem_append_right _ hp))
  have mB8 : (BK', oB) ∈ (pg, accObj dpg its' n') :: (dpg, od) :: ((((BK', oB) :: (DD', oD') :: (DM, oM) :: (DH, oH) :: (I, oI) :: R) ++ cells7) ++ tl') := up1 (up1 (List.mem_append_left _ (List.mem_append_left _ List.mem_cons_self)))
  have mD8 : (DD', oD') ∈ (pg, accObj dpg its' n') :: (dpg, od) :: ((((BK', oB) :: (DD', oD') :: (DM, oM) :: (DH, oH) :: (I, oI) :: R) ++ cells7) ++ tl') := up1 (up1 (List.mem_append_left _ (List.mem_append_left _ (up1 List.mem_cons_self))))
  have ct8 : ∀ p ∈ tl', p.2.cls = .type "tuple" := fun p hp => by obtain ⟨a, b, e⟩ := K8 p hp; rw [e]
  refine hret its' n' (hopL (rk rl) σ ((freeF rl).getD (stepF (freeF rl).length turn).log2 0)) (Nat.xor turned (stepF (freeF rl).length turn)) ⟨b.cc + 1, b.nc + fallsF rl σ, b.tt + fallsF rl σ * fallsF rl σ, b.ct + fallsF rl σ * (5 - fallsF rl σ), addK (fallsF rl σ) 1 b.cs⟩ ((BK', oB) :: (DD', oD') :: (R ++ tl')) h8 tk8 _ cells7 F8 (cb_drop N8 fun p hp => ?_) ?_ ⟨⟨_, _, CA7, fun y h1 h2 => (if_neg h1).trans ((if_neg h2).trans (hmc y h1 h2)), if_pos rfl⟩, ?_, ?_, ?_, ?_, ifn (ifn (ifn (ifn hS.m1))), ?_, ?_, ?_, hop.1.trans hS.s6, fun j => (hop.2 j).trans (hS.sx j), addK_le hf5 hS.cs5, ⟨Nat.le_trans hS.tks.1 tk8le, Nat.le_trans hS.tks.2.1 tk8le, Nat.lt_of_lt_of_le hS.tks.2.2 tk8le⟩⟩ (addK_len _ _ _) r5 tk8le
  · (revert p; (repeat' (first | refine List.forall_mem_cons.mpr ⟨?_, ?_⟩ | refine List.forall_mem_append.mpr ⟨?_, ?_⟩ | exact List.forall_mem_nil _)); all_goals (first | (intro p9 hp9; solve_by_elim (maxDepth := 24) only [hp9, List.mem_cons_of_mem, List.mem_append_left, List.mem_append_right]) | solve_by_elim (maxDepth := 24) only [List.mem_cons_self, List.mem_cons_of_mem, List.mem_append_left, List.mem_append_right]))
  · refine List.forall_mem_cons.mpr ⟨news_cls N8 mB8 mI8 (by rw [cB, hI]; simp), List.forall_mem_cons.mpr ⟨news_cls N8 mD8 mI8 (by rw [cD', hI]; simp), fun p hp => ?_⟩⟩
    rcases List.mem_append.mp hp with hp | hp
    · exact hIo p (List.mem_append_left _ (up1 (up1 hp)))
    · exact news_cls N8 (mt8 p hp) mI8 (by rw [ct8 p hp, hI]; simp)
  · refine List.forall_mem_cons.mpr ⟨news_cls N8 mB8 mpg8 (by rw [cB]; simp), List.forall_mem_cons.mpr ⟨news_cls N8 mD8 mpg8 (by rw [cD']; simp), fun p hp => ?_⟩⟩
    rcases List.mem_append.mp hp with hp | hp
    · exact hS.off p hp
    · exact news_cls N8 (mt8 p hp) mpg8 (by rw [ct8 p hp]; simp)
  · refine List.forall_mem_cons.mpr ⟨.inl (fun v e => by rw [hoB] at e; cases e), List.forall_mem_cons.mpr ⟨.inl (nc_dict d5), fun p hp => ?_⟩⟩
    rcases List.mem_append.mp hp with hp | hp
    · exact hS.nk p hp
    · obtain ⟨a, b, e⟩ := K8 p hp
      exact .inl (fun v q => by rw [e] at q; cases q)
  · exact fun p hp => up1 (up1 (List.mem_append_left _ (hS.base p hp)))
  · refine page_sub P8 fun p hp ⟨vs, k, e⟩ => ?_
    rcases List.mem_append.mp hp with hp | hp
    · rcases List.mem_append.mp hp with hp | hp
      · simp only [List.mem_cons] at hp
        rcases hp with h | h | h | h | h | h
        · simp [h]
        · simp [h]
        · rw [h] at e; rw [show oM = _ from e] at cM; simp at cM
        · rw [h] at e; rw [show oH = _ from e] at cH; simp at cH
        · rw [h] at e; rw [show oI = _ from e] at hI; simp at hI
        · exact up1 (up1 (List.mem_append_left _ h))
      · obtain ⟨v, hv⟩ := cells_cell CA7 p hp
        rw [e] at hv; cases hv
    · exact up1 (up1 (List.mem_append_right _ hp))
  · obtain ⟨tm, h⟩ := hS.m2
    exact ⟨tm, ifn (ifn (ifn (ifn h)))⟩
  · exact ⟨BK', DD', oD', kvs', u1, u2, u3, u4, ifn (if_pos rfl), hoB ▸ List.mem_cons_self, up1 List.mem_cons_self, d5, i5, l5⟩
  · exact fun i hi => ⟨(hS.tok i ((hop.2 i).mp hi)).1, Nat.lt_of_lt_of_le (hS.tok i ((hop.2 i).mp hi)).2 tk8le⟩
end
-- Ranks
section
open PySem PySem.W PyProof.Rows PySem.Calls PySem.Spec
theorem lt3_iff (va vb : Nat → Int) (i j : Nat) : lexLt (keyL va vb i) (keyL va vb j) = true ↔ va i < va j ∨ (va i = va j ∧ (vb i < vb j ∨ (vb i = vb j ∧ i < j))) := by
  have e : lexLt (keyL va vb i) (keyL va vb j) = if va i = va j then (if vb i = vb j then (if (i : Int) = (j : Int) then false else decide ((i : Int) < (j : Int))) else decide (vb i < vb j)) else decide (va i < va j) := by
    unfold keyL
    simp [lexLt]
  rw [e]
  split
  · split
    · split
      · simp; omega
      · rw [decide_eq_true_eq]; omega
    · rw [decide_eq_true_eq]; omega
  · rw [decide_eq_true_eq]; omega
theorem sgn_flip {o a b r : Int} (h : o = 1 ∨ o = -1) : (if a < b then -o else if a > b then o else r) = if o * a < o * b then -1 else if o * b < o * a then 1 else r := by
  rcases h with rfl | rfl
  · rw [Int.one_mul, Int.one_mul]
  · rw [Int.neg_one_mul, Int.neg_one_mul]
    by_cases h1 : a < b
    · rw [if_pos h1, if_neg (by omega), if_pos (by omega)]; rfl
    · rw [if_neg h1]
      by_cases h2 : a > b
      · rw [if_pos h2, if_pos (by omega)]
      · rw [if_neg h2, if_neg (by omega), if_neg (by omega)]
theorem sgn_lex {x1 y1 x2 y2 : Int} {i j : Nat} : (if x1 < y1 then -1 else if y1 < x1 then 1 else if x2 < y2 then -1 else if y2 < x2 then 1 else if (i : Int) < j then -1 else if (i : Int) > j then 1 else 0 : Int) =
    if y1 < x1 ∨ (y1 = x1 ∧ (y2 < x2 ∨ (y2 = x2 ∧ j < i))) then 1 else if x1 < y1 ∨ (x1 = y1 ∧ (x2 < y2 ∨ (x2 = y2 ∧ i < j))) then -1 else 0 := by
  by_cases h1 : x1 < y1
  · rw [if_pos h1, if_neg (by omega), if_pos (.inl h1)]
  · rw [if_neg h1]
    by_cases h2 : y1 < x1
    · rw [if_pos h2, if_pos (.inl h2)]
    · rw [if_neg h2]
      obtain rfl : x1 = y1 := by omega
      by_cases h3 : x2 < y2
      · rw [if_pos h3, if_neg (by omega), if_pos (.inr ⟨rfl, .inl h3⟩)]
      · rw [if_neg h3]
        by_cases h4 : y2 < x2
        · rw [if_pos h4, if_pos (.inr ⟨rfl, .inl h4⟩)]
        · rw [if_neg h4]
          obtain rfl : x2 = y2 := by omega
          by_cases h5 : i < j
          · rw [if_pos (by omega), if_neg (by omega), if_pos (.inr ⟨rfl, .inr ⟨rfl, h5⟩⟩)]
          · rw [if_neg (by omega)]
            by_cases h6 : j < i
            · rw [if_pos (by omega), if_pos (.inr ⟨rfl, .inr ⟨rfl, h6⟩⟩)]
            · rw [if_neg (by omega), if_neg (by omega), if_neg (by omega)]
theorem deepV_lex {o1 o2 : Int} (ho1 : o1 = 1 ∨ o1 = -1) (ho2 : o2 = 1 ∨ o2 = -1) (va vb : Nat → Int) (i j : Nat) :
    deepV o1 o2 va vb i j = if lexLt (keyL (fun k => o1 * va k) (fun k => o2 * vb k) j) (keyL (fun k => o1 * va k) (fun k => o2 * vb k) i) = true then 1 else if lexLt (keyL (fun k => o1 * va k) (fun k => o2 * vb k) i) (keyL (fun k => o1 * va k) (fun k => o2 * vb k) j) = true then -1 else 0 := by
  simp only [lt3_iff]
  unfold deepV
  simp only [cmpF]
  rw [sgn_flip ho1, sgn_flip ho2]
  exact sgn_lex
theorem filter_lt {p q : Nat → Bool} : ∀ {l : List Nat}, (∀ x ∈ l, p x = true → q x = true) → (l.filter p).length ≤ (l.filter q).length ∧ ∀ x ∈ l, p x = false → q x = true → (l.filter p).length < (l.filter q).length
  | [], _ => ⟨Nat.le_refl _, fun _ h => nomatch h⟩
  | a :: l, h => by
    obtain ⟨h1, h2⟩ := filter_lt (l := l) fun x hx => h x (List.mem_cons_of_mem _ hx)
    have ha := h a List.mem_cons_self
    simp only [List.filter_cons]
    cases hp : p a with
    | true =>
      rw [hp] at ha
      rw [ha rfl]
      simp only [if_true, List.length_cons]
      refine ⟨by omega, fun x hx px qx => ?_⟩
      rcases List.mem_cons.mp hx with rfl | hx
      · rw [hp] at px; cases px
      · have := h2 x hx px qx; omega
    | false =>
      cases hq : q a with
      | true =>
        simp only [if_true, Bool.false_eq_true, if_false, List.length_cons]
        exact ⟨by omega, fun x hx px qx => by omega⟩
      | false =>
        simp only [Bool.false_eq_true, if_false]
        refine ⟨h1, fun x hx px qx => ?_⟩
        rcases List.mem_cons.mp hx with rfl | hx
        · rw [hq] at qx; cases qx
        · exact h2 x hx px qx
section
variable {va vb : Nat → Int}
theorem lex_irr (i : Nat) : lexLt (keyL va vb i) (keyL va vb i) = false := by
  cases h : lexLt (keyL va vb i) (keyL va vb i) with
  | false => rfl
  | true => rw [lt3_iff] at h; omega
theorem rank_lt {i j : Nat} (hi : i < 6) (h : lexLt (keyL va vb i) (keyL va vb j) = true) : rankN va vb i < rankN va vb j := by
  unfold rankN
  refine (filter_lt fun x _ hx => ?_).2 i (List.mem_range.mpr hi) (lex_irr i) h
  rw [lt3_iff] at hx h ⊢
  omega
theorem rank_six {i : Nat} (hi : i < 6) : rankN va vb i < 6 := by
  unfold rankN
  have := (filter_lt (p := fun j => lexLt (keyL va vb j) (keyL va vb i)) (q := fun _ => true) (l := List.range 6) fun _ _ _ => rfl).2 i (List.mem_range.mpr hi) (lex_irr i) rfl
  exact Nat.lt_of_lt_of_le this (Nat.le_trans (List.length_filter_le _ _) (by simp))
theorem rank_iff {i j : Nat} (hi : i < 6) (hj : j < 6) : rankN va vb i < rankN va vb j ↔ lexLt (keyL va vb i) (keyL va vb j) = true := by
  refine ⟨fun h => ?_, rank_lt hi⟩
  by_cases q : lexLt (keyL va vb i) (keyL va vb j) = true
  · exact q
  · exfalso
    by_cases e : i = j
    · subst e; omega
    · have : lexLt (keyL va vb j) (keyL va vb i) = true := by rw [lt3_iff] at q ⊢; omega
      have := rank_lt hj this
      omega
noncomputable def rankL (va vb : Nat → Int) : List Nat := (List.range 6).map (rankN va vb)
theorem rankL_rk {i : Nat} (hi : i < 6) : rk (rankL va vb) i = rankN va vb i := by
  unfold rk rankL
  rw [List.getD, List.getElem?_map, List.getElem?_range hi]; rfl
theorem rankL_ranks : Ranks (rankL va vb) := by
  have h1 : (rankL va vb).length = 6 := by simp [rankL]
  have h2 : (rankL va vb).Nodup := by
    refine List.pairwise_map.mpr (List.Pairwise.imp_of_mem (fun {a b} ha hb hne => ?_) (List.nodup_range (n := 6)))
    have ha' := List.mem_range.mp ha
    have hb' := List.mem_range.mp hb
    intro e
    by_cases q : lexLt (keyL va vb a) (keyL va vb b) = true
    · have := rank_lt ha' q; omega
    · have : lexLt (keyL va vb b) (keyL va vb a) = true := by rw [lt3_iff] at q ⊢; omega
      have := rank_lt hb' this; omega
  refine ⟨h1, h2, fun x hx => ?_⟩
  exact pigeon (A := rankL va vb) (B := List.range 6) h2 (fun a ha => by
    obtain ⟨i, hi, rfl⟩ := List.mem_map.mp ha
    exact List.mem_range.mpr (rank_six (List.mem_range.mp hi))) (by simp [h1]) x (List.mem_range.mpr hx)
theorem rankL_six : ∀ x ∈ rankL va vb, x < 6 := fun x hx => by
  obtain ⟨i, hi, rfl⟩ := List.mem_map.mp hx
  exact rank_six (List.mem_range.mp hi)
theorem rankL_nat : rankI va vb 6 = natI (rankL va vb) := by
  unfold rankI rankL natI
  rw [List.map_map]; rfl
theorem rankL_int : rankI va vb 6 = (List.range 6).map fun i => ((rk (rankL va vb) i : Nat) : Int) := by
  unfold rankI
  refine List.map_congr_left fun i hi => ?_
  rw [rankL_rk (List.mem_range.mp hi)]
theorem deepV_rank {o1 o2 : Int} (ho1 : o1 = 1 ∨ o1 = -1) (ho2 : o2 = 1 ∨ o2 = -1) {i j : Nat} (hi : i < 6) (hj : j < 6) :
    deepV o1 o2 va vb i j = cmpR ((rk (rankL (fun k => o1 * va k) (fun k => o2 * vb k)) i : Nat) : Int) ((rk (rankL (fun k => o1 * va k) (fun k => o2 * vb k)) j : Nat) : Int) := by
  rw [deepV_lex ho1 ho2, rankL_rk hi, rankL_rk hj]
  unfold cmpR
  have h1 := rank_iff (va := fun k => o1 * va k) (vb := fun k => o2 * vb k) hj hi
  have h2 := rank_iff (va := fun k => o1 * va k) (vb := fun k => o2 * vb k) hi hj
  simp only [← h1, ← h2, Int.ofNat_lt]
end
theorem cmpR_one (x y : Nat) : cmpR (x : Int) (y : Int) = 1 ↔ y < x := by
  unfold cmpR
  split
  · omega
  · split <;> omega
theorem deep_congr {prog : Program} {w : World} {val val' : Nat → Nat → Int} {T : Tok} {nw : List (Addr × Obj)} {dd : Addr} (h : DeepIs prog w val T nw dd) (hv : ∀ i j, i < 6 → j < 6 → val i j = val' i j) : DeepIs prog w val' T nw dd := by
  obtain ⟨od, kvs, m1, d1, h1⟩ := h
  refine ⟨od, kvs, m1, d1, fun i hi => ?_⟩
  obtain ⟨di, odi, kvi, v1, m2, d2, h2⟩ := h1 i hi
  refine ⟨di, odi, kvi, v1, m2, d2, fun j hj => ?_⟩
  obtain ⟨t, v2, r⟩ := h2 j hj
  exact ⟨t, by rw [v2, hv i j hi hj], r⟩
theorem peaksF_le (rl : List Nat) : peaksF rl ≤ 6 := by
  unfold peaksF
  exact Nat.le_trans (List.length_filter_le _ _) (by simp)
end
section
local macro_rules | `(tactic| k_all) => `(tactic| assumption)
local macro_rules | `(tactic| k_mem) => `(tactic| assumption)
-- Turn9
section
theorem kr_Turn9 : True := by
  k_with_none
  w_top off
  trivial
open PySem PySem.W PyProof.Rows PySem.Calls PySem.Spec
theorem LoopS.next {w : World} {L : Nat} {mc m m' : PySem.Str → Option Value} {TT tkp tk tk' : Nat} {pg : Addr} {leadV : Nat → Value} {tokL : Nat → Tok} {rl σ : List Nat} {base R cells : List (Addr × Obj)} {its : List Value} {turned : Nat} {b : Bk}
    (h : LoopS w L mc TT tkp pg leadV tokL rl base tk m its σ turned b R cells) (hm : ∀ y, y ≠ Str.ofString "turn" → m' y = m y) (ht : tk ≤ tk') : LoopS w L mc TT tkp pg leadV tokL rl base tk' m' its σ turned b R cells := by
  obtain ⟨h1, h2, h3, h4, h5, h6, h7, h8, h9, h10, h11, h12, h13⟩ := h
  refine ⟨h1, h2, h3, h4, h5, (hm _ (by decide)).trans h6, ?_, ?_, fun i hi => ⟨(h9 i hi).1, Nat.lt_of_lt_of_le (h9 i hi).2 ht⟩, h10, h11, h12, ⟨Nat.le_trans h13.1 ht, Nat.le_trans h13.2.1 ht, Nat.lt_of_lt_of_le h13.2.2 ht⟩⟩
  · obtain ⟨tm, h⟩ := h7
    exact ⟨tm, (hm _ (by decide)).trans h⟩
  · obtain ⟨BK, DD, oD, kvs, t1, t2, t3, t4, b1, bb⟩ := h8
    exact ⟨BK, DD, oD, kvs, t1, t2, t3, t4, (hm _ (by decide)).trans b1, bb⟩
theorem pow_six : ∀ fl, fl < 6 → Builtin.Range.small 0 ((2 : Int) ^ fl) 1 = true ∧ Builtin.Range.rangeSize 0 ((2 : Int) ^ fl) 1 = ((2 ^ fl : Nat) : Int) ∧ 2 ^ fl ≤ 32
  | 0, _ => by decide
  | 1, _ => by decide
  | 2, _ => by decide
  | 3, _ => by decide
  | 4, _ => by decide
  | 5, _ => by decide
  | k + 6, h => absurd h (by omega)
inductive PPo (w : World) (L : Addr) (mc : Str → Option Value) (TT tkp : Nat) (pg dpg : Addr) (od : Obj) (leadV : Nat → Value) (tokL : Nat → Tok) (rl : List Nat) (fl : Nat) (base9 : List (Addr × Obj)) (i tk : Nat) (m : Str → Option Value) (nw : List (Addr × Obj)) : Prop
  | mk (its : _) (n : _) (σ : _) (turned : _) (b : _) (R : _) (cells : _)
    (x1 : nw = ((pg, accObj dpg its n) :: (dpg, od) :: R) ++ cells)
    (x2 : LoopS w L mc TT tkp pg leadV tokL rl base9 tk m its σ turned b R cells)
    (x3 : b.cs.length ≤ i)
    (x4 : runF rl (freeF rl) (2 ^ fl - i) i σ turned b = true) : PPo w L mc TT tkp pg dpg od leadV tokL rl fl base9 i tk m nw
section
theorem kw_488526_1 : True := by
  k_with "eval Name" => (k_here; k_dflt (refine' lw_name (by k_asm) (by assumption) (by (intro q9 hq9; (repeat (refine List.mem_cons_of_mem _ ?_)); first | exact List.mem_append_right _ hq9 | solve_by_elim)) (by rfl) (by first | rfl | assumption) ?_ (by exact lawScope_kind) (by rfl) (by rfl); k_whole))
  k_with "eval Name" => (k_here; k_dflt (refine' nameX_L (by k_asm) (by first | rfl | assumption) ?_ (by exact lawScope_kind) (by rfl); k_whole))
  k_with "storeName" => (k_here; k_dflt (first | (refine' lw_putK (by k_asm) (by first | assumption | exact (show News _ _ _ ((_ :: _) ++ _) from by assumption) | exact (show News _ _ _ ((_ :: _ :: _) ++ _) from by assumption) | exact (show News _ _ _ ((_ :: _ :: _ :: _) ++ _) from by assumption) | exact (show News _ _ _ ((_ :: _ :: _ :: _ :: _) ++ _) from by assumption) | exact (show News _ _ _ ((_ :: _ :: _ :: _ :: _ :: _) ++ _) from by assumption) | exact (show News _ _ _ ((_ :: _ :: _ :: _ :: _ :: _ :: _) ++ _) from by assumption)) (by assumption) (by ((repeat (refine List.forall_mem_cons.mpr ⟨by first | (refine Or.inl ?_; intro v9 h9; cases h9; done) | assumption, ?_⟩)); first | assumption | exact (fun _ h => nomatch h))) (by rfl) ?_ (by rfl); k_whole)); intro _ _ _ _ _)
  trivial

theorem kw_488526_2 : True := by
  k_with "execs cons" => (k_here; (with_reducible refine wpAny_execs_cons ?_); try dsimp only)
  trivial
theorem partP {w : World} {p : Program} {loose : List Str} {mean : ExcName → Option Value} {mg mb : Str → Option Value} {dp un : Nat} {gd : Option (List Code)} {cn : Str} {a : Addr} {ccd : Value} {outer : List Env} {A₀ : Around} {base h₀ : Heap} {L : Addr} {m mc : Str → Option Value} {rest cells : List (Addr × Obj)} {s : Shared} {Q : Flow → Shared → Prop} {E : Value → Shared → Prop} {pg dpg n : Addr} {its : List Value} {od : Obj} {R base9 : List (Addr × Obj)} {rl : List Nat} {val : Nat → Nat → Int} {TT tkp : Nat} {cs : List Int} {leadV : Nat → Value} {tokL : Nat → Tok}      (B : Below A₀ base outer h₀) (X : (Mine.hA.heap_1_39 w.params).In h₀) (T : Top p loose mean mg mb h₀) (hd : dp + 20 < recursionLimit) (hu : un + 300 < cLine) (F : Fr h₀ L s.heap m) (N : News h₀ L s.heap (((pg, accObj dpg its n) :: (dpg, od) :: R) ++ cells))      (hod : IsAccD od) (hdp : dpg ≠ pg) (hC : LoopC w mc val TT tkp cs leadV rl base9) (hS : LoopS w L mc TT tkp pg leadV tokL rl base9 s.toks m its [0, 1, 2, 3, 4, 5] 0 ⟨0, 0, 0, 0, []⟩ R cells)      (hrun : runF rl (freeF rl) (2 ^ (freeF rl).length) 0 [0, 1, 2, 3, 4, 5] 0 ⟨0, 0, 0, 0, []⟩ = true)
    (hret : ∀ its' n' σ' turned' b' R' h' tk' m' cells', Fr h₀ L h' m' → News h₀ L h' (((pg, accObj dpg its' n') :: (dpg, od) :: R') ++ cells') → LoopS w L mc TT tkp pg leadV tokL rl base9 tk' m' its' σ' turned' b' R' cells' → endF rl (freeF rl) σ' turned' b' = true → s.toks ≤ tk' → wpAny (model Challenge.rw_xg0084_01.row.toRowW.prog w) (ktrTop dp un gd cn lawScope L a ccd (cellsFrom (L + 1) lawScope.names []) outer) (execs (lawBody.drop 26) (envX cn lawScope L a ccd (cellsFrom (L + 1) lawScope.names []))) Q (fun _ _ => False) { s with heap := h', toks := tk' }) :
    wpAny (model Challenge.rw_xg0084_01.row.toRowW.prog w) (ktrTop dp un gd cn lawScope L a ccd (cellsFrom (L + 1) lawScope.names []) outer) (execs (lawBody.drop 25) (envX cn lawScope L a ccd (cellsFrom (L + 1) lawScope.names []))) Q (fun _ _ => False) s := by
  have _q : Challenge.rw_xg0084_01 = Challenge.rw_xg0084_01 ∧ Mine.hA.heap_1_39 = Mine.hA.heap_1_39 := by (k_fill; exact ⟨rfl, rfl⟩)
  obtain ⟨tm, hm2⟩ := hS.m2
  obtain ⟨fl, hfl⟩ : ∃ k, k = (freeF rl).length := ⟨_, rfl⟩
  have f6 := hC.fl6
  have f0 := hC.fl0
  rw [← hfl] at hm2 hrun f6 f0
  show wpAny _ _ (execs (_ :: _) _) _ _ _
  walk1
  refine wpAny_toks ?_
  refine forK F ?_
  refine wpAny_toks ?_
  k_steps
  rename_i hR F12 N12 _ tz12
  obtain ⟨hsm, hrn, hp64⟩ := pow_six fl f6
  refine ksrc_range (n := 2 ^ fl) (m := m) (news := ((pg, accObj dpg its n) :: (dpg, od) :: R) ++ cells) (PPo w L mc TT tkp pg dpg od leadV tokL rl fl base9) rfl F12 N12 hR hsm hrn ⟨_, _, rfl⟩ ⟨its, n, _, _, _, R, cells, rfl, hS.next (fun _ _ => rfl) tz12, Nat.le_refl _, hrun⟩ ?_ ?_
  · rintro i t m₁ nw gg I tk₀ hi ⟨its, n, σ, turned, b, R, cells, rfl, hS, hbl, hr⟩ tle
    rw [Int.zero_add]
    refine KTurn.name rfl rfl ?_
    intro oI h tk hKI F N off tle2
    obtain ⟨nn, hnn⟩ : ∃ nn, 2 ^ fl - i = nn + 1 := ⟨2 ^ fl - i - 1, by omega⟩
    rw [hnn] at hr
    refine turnAll (rest := []) (n := n) (E := fun _ _ => False) B X T hd hu F N hod hKI off hdp hC (hS.next (fun y hy => if_neg hy) (Nat.le_of_lt tle2)) (if_pos rfl) (by omega) (by omega) hr ?_
    intro its' n' σ' turned' b' R' h' tk' m' cells' F' N' off' hS' hb' hr' tz
    refine TEnd.intro F' N' (((pg, accObj dpg its' n') :: (dpg, od) :: R') ++ cells') (fun p hp => hp) ?_ ⟨its', n', σ', turned', b', R', cells', rfl, hS', by omega, ?_⟩
    · have e1 : cells'.map (·.1) = cells.map (·.1) := by
        obtain ⟨_, _, c1, _⟩ := hS.cells
        obtain ⟨_, _, c2, _⟩ := hS'.cells
        rw [cells_addr c1, cells_addr c2]
      intro p hp
      rcases List.mem_append.mp hp with hp | hp
      · refine List.forall_mem_cons.mpr ⟨?_, List.forall_mem_cons.mpr ⟨?_, off'⟩⟩ p hp
        · exact off (pg, accObj dpg its n) (List.mem_append_left _ List.mem_cons_self)
        · exact off (dpg, od) (List.mem_append_left _ (List.mem_cons_of_mem _ List.mem_cons_self))
      · have : p.1 ∈ cells'.map (·.1) := List.mem_map_of_mem hp
        rw [e1] at this
        obtain ⟨q, hq, e⟩ := List.mem_map.mp this
        rw [← e]
        exact off q (List.mem_append_right _ hq)
    · rw [show 2 ^ fl - (i + 1) = nn from by omega]; exact hr'
  · rintro m₁ nw h tk tk₀ ⟨its, n, σ, turned, b, R, cells, rfl, hS, hbl, hr⟩ F N t1 t2
    rw [Nat.sub_self] at hr
    refine wpAny_execs_nil ?_
    intro tz
    exact hret its n σ turned b R h tk m₁ cells F N (hS.next (fun _ _ => rfl) t2) hr tz
end
end
-- End1
section
theorem kr_End1 : True := by
  k_with_none
  w_top off
  trivial
open PySem PySem.W PyProof.Rows PySem.Calls PySem.Spec
section
theorem kw_674804_1 : True := by
  k_with "eval Name" => (k_here; k_dflt (refine' lw_name (by k_asm) (by assumption) (by (intro q9 hq9; (repeat (refine List.mem_cons_of_mem _ ?_)); first | exact List.mem_append_right _ hq9 | solve_by_elim)) (by rfl) (by first | rfl | assumption) ?_ (by exact lawScope_kind) (by rfl) (by rfl); k_whole))
  k_with "eval Name" => (k_here; k_dflt (refine' nameX_L (by k_asm) (by first | rfl | assumption) ?_ (by exact lawScope_kind) (by rfl); k_whole))
  k_with "storeName" => (k_here; k_dflt (first | (refine' lw_putK (by k_asm) (by first | assumption | exact (show News _ _ _ ((_ :: _) ++ _) from by assumption) | exact (show News _ _ _ ((_ :: _ :: _) ++ _) from by assumption) | exact (show News _ _ _ ((_ :: _ :: _ :: _) ++ _) from by assumption) | exact (show News _ _ _ ((_ :: _ :: _ :: _ :: _) ++ _) from by assumption) | exact (show News _ _ _ ((_ :: _ :: _ :: _ :: _ :: _) ++ _) from by assumption) | exact (show News _ _ _ ((_ :: _ :: _ :: _ :: _ :: _ :: _) ++ _) from by assumption)) (by assumption) (by ((repeat (refine List.forall_mem_cons.mpr ⟨by first | (refine Or.inl ?_; intro v9 h9; cases h9; done) | assumption, ?_⟩)); first | assumption | exact (fun _ h => nomatch h))) (by rfl) ?_ (by rfl); k_whole)); intro _ _ _ _ _)
  trivial

theorem kw_674804_2 : True := by
  k_with "eval Name" => (k_here; (with_reducible show wpAny _ _ (eval (Expr.Name _ _) (compEnvC _ _ _ _)) _ _ _); k_dflt (refine' lw_comp (by k_asm) (by assumption) (by (intro q9 hq9; (repeat (refine List.mem_cons_of_mem _ ?_)); first | exact List.mem_append_right _ hq9 | solve_by_elim)) (by rfl) (by rfl) (by first | rfl | assumption) ?_ (by rfl) (by first | exact .inl rfl | exact .inr rfl) (by rfl) (by rfl); k_whole))
  trivial

theorem kw_674804_3 : True := by
  k_with "execs cons" => (k_here; (with_reducible refine wpAny_execs_cons ?_); try dsimp only)
  k_with "subscriptTail" => (k_here; (with_reducible show wpAny _ _ (subscriptTail _ _ (Value.ref _) (Value.int _ _)) _ _ _); k_dflt (refine' LL.item (by k_asm) (by k_mem) (by omega) (by assumption) (by assumption) (by with_unfolding_all rfl) ?_; k_whole))
  trivial
theorem partQ {w : World} {p : Program} {loose : List Str} {mean : ExcName → Option Value} {mg mb : Str → Option Value} {dp un : Nat} {gd : Option (List Code)} {cn : Str} {a : Addr} {ccd : Value} {outer : List Env} {A₀ : Around} {base h₀ : Heap} {L : Addr} {m mc : Str → Option Value} {rest cells : List (Addr × Obj)} {s : Shared} {Q : Flow → Shared → Prop} {E : Value → Shared → Prop} {DN DB kn kb pg dpg n : Addr} {rs bs its : List Value} {od : Obj} {rl σ : List Nat} {cs : List Int} {leadV : Nat → Value} {tokL : Nat → Tok} {tt : Tok} (B : Below A₀ base outer h₀) (X : (Mine.hA.heap_1_39 w.params).In h₀) (T : Top p loose mean mg mb h₀) (hd : dp + 20 < recursionLimit) (hu : un + 300 < cLine) (F : Fr h₀ L s.heap m) (N : News h₀ L s.heap (rest ++ cells)) (CA : CellsAre mc (cellsFrom (L + 1) lawScope.names []) cells) (hr : ∀ p ∈ rest, NK L p) (hm1 : mc (Str.ofString "ranks") = some (.ref DN)) (hm2 : mc (Str.ofString "by_rank") = some (.ref DB)) (hm3 : mc (Str.ofString "turned") = some (.int (0 : Nat) tt)) (hm4 : m (Str.ofString "page") = some (.ref pg))      (mN : (DN, W.listOf rs.toArray kn) ∈ rest) (hI : IntsAre rs (natI rl)) (hrl : Ranks rl) (mB : (DB, W.listOf bs.toArray kb) ∈ rest) (hB : ByAt cs rl rest bs 6)      (mpg : (pg, accObj dpg its n) ∈ rest) (mdpg : (dpg, od) ∈ rest) (hP : PageIs leadV tokL rest its σ) (hlv : ∀ j ∈ σ, ∃ u, leadV j = .str (leadS (cs.getD j 0)) u) (hσ : σ.length = 6) (hσ6 : ∀ j ∈ σ, j < 6) (hσi : ∀ (a j : Nat), σ[a]? = some j → j = a) (hrk6 : ∀ x ∈ rl, x < 6)
    (hret : ∀ h' tk', Fr h₀ L h' m → News h₀ L h' (rest ++ cells) → s.toks ≤ tk' → wpAny (model Challenge.rw_xg0084_01.row.toRowW.prog w) (ktrTop dp un gd cn lawScope L a ccd (cellsFrom (L + 1) lawScope.names []) outer) (execs (lawBody.drop 27) (envX cn lawScope L a ccd (cellsFrom (L + 1) lawScope.names []))) Q E { s with heap := h', toks := tk' }) :
    wpAny (model Challenge.rw_xg0084_01.row.toRowW.prog w) (ktrTop dp un gd cn lawScope L a ccd (cellsFrom (L + 1) lawScope.names []) outer) (execs (lawBody.drop 26) (envX cn lawScope L a ccd (cellsFrom (L + 1) lawScope.names []))) Q E s := by
  have _q : Challenge.rw_xg0084_01 = Challenge.rw_xg0084_01 ∧ Mine.hA.heap_1_39 = Mine.hA.heap_1_39 := by (k_fill; exact ⟨rfl, rfl⟩)
  have hcs : ∀ p ∈ cells, p ∈ rest ++ cells := fun p hp => List.mem_append_right _ hp
  have hrs : ∀ p ∈ rest, p ∈ rest ++ cells := fun p hp => List.mem_append_left _ hp
  have hB2 := hB.up hrs
  have mN2 := hrs _ mN
  have mB2 := hrs _ mB
  have mpg2 := hrs _ mpg
  have mdpg2 := hrs _ mdpg
  have hP2 := page_pieces (hP.mono hrs) hlv
  have hil := hP.length
  generalize hb : rest ++ cells = bb at *
  show wpAny _ _ (execs (_ :: _) _) _ _ _
  walk1
  refine wpAny_toks ?_
  repeat' ((fail_if_success (with_reducible show wpAny _ _ (exec (PySem.Stmt.For _ _ _ _ _) _) _ _ _)); (fail_if_success (with_reducible show wpAny _ _ (exec (PySem.Stmt.While _ _ _ _) _) _ _ _)); (fail_if_success (with_reducible show wpAny _ _ (eval (PySem.Expr.ListComp _ _ _ _) _) _ _ _)); (fail_if_success (with_reducible show wpAny _ _ (eval (PySem.Expr.DictComp _ _ _ _ _) _) _ _ _)); (fail_if_success (with_reducible show wpAny _ _ (exec (PySem.Stmt.Assign _ (PySem.Expr.ListComp _ _ _ _) _) _) _ _ _)); (fail_if_success (with_reducible show wpAny _ _ (exec (PySem.Stmt.Assign _ (PySem.Expr.DictComp _ _ _ _ _) _) _) _ _ _)); (first | (k_unfold; (try dsimp only)) | (k_end; wrow_close) | walk1 | (dsimp only; walk1) | (leave1; walk_say "STEP leave1"; try dsimp only) | fail "no step"))
  refine compG (s := { s with toks := s.toks + 1 }) (m := m) F (by with_unfolding_all rfl) (by decide) (by rfl) (by decide) ?_
  k_steps
  refine src_acc (K := (Mine.hA.heap_1_39 w.params)) (fun i ys nw => nw = bb ∧ ys = its.take i) rfl F X N (by k_is) (by k_is) ⟨n, mpg2, mdpg2⟩ (by rw [sizeLine_eq]; omega) ⟨rfl, rfl⟩ ?_ ?_
  · rintro i v ys nw gg I hv hly hS ⟨rfl, rfl⟩
    refine CTurn.name rfl rfl ?_
    intro oI C oC D m₁ h tk E' hC hmv F N off ne tle
    refine tests0 ?_
    rw [if_pos rfl]
    k_steps
    refine CEnd.intro F N _ (fun _ h => h) hC off hS ⟨rfl, ?_⟩
    rw [List.take_add_one, hv]; rfl
  · rintro ys nw gg ⟨rfl, rfl⟩ D1 h tk F N of1
    rw [List.take_length] at N
    have hcs2 : ∀ p ∈ cells, p ∈ (D1, LCg.lst its) :: nw := fun p hp => List.mem_cons_of_mem _ (hcs p hp)
    have mD1 : (D1, W.listOf its.toArray its.length) ∈ (D1, LCg.lst its) :: nw := List.mem_cons_self
    have hb2 : ∀ p ∈ nw, p ∈ (D1, LCg.lst its) :: nw := fun p hp => List.mem_cons_of_mem _ hp
    generalize hb9 : (D1, LCg.lst its) :: nw = bb2 at *
    repeat' ((fail_if_success (with_reducible show wpAny _ _ (exec (PySem.Stmt.For _ _ _ _ _) _) _ _ _)); (fail_if_success (with_reducible show wpAny _ _ (exec (PySem.Stmt.While _ _ _ _) _) _ _ _)); (fail_if_success (with_reducible show wpAny _ _ (eval (PySem.Expr.ListComp _ _ _ _) _) _ _ _)); (fail_if_success (with_reducible show wpAny _ _ (eval (PySem.Expr.DictComp _ _ _ _ _) _) _ _ _)); (fail_if_success (with_reducible show wpAny _ _ (exec (PySem.Stmt.Assign _ (PySem.Expr.ListComp _ _ _ _) _) _) _ _ _)); (fail_if_success (with_reducible show wpAny _ _ (exec (PySem.Stmt.Assign _ (PySem.Expr.DictComp _ _ _ _ _) _) _) _ _ _)); (first | (k_unfold; (try dsimp only)) | (k_end; wrow_close) | walk1 | (dsimp only; walk1) | (leave1; walk_say "STEP leave1"; try dsimp only) | fail "no step"))
    refine compG F (by with_unfolding_all rfl) (by decide) (by rfl) (by decide) ?_
    repeat' ((fail_if_success (with_reducible show wpAny _ _ (exec (PySem.Stmt.For _ _ _ _ _) _) _ _ _)); (fail_if_success (with_reducible show wpAny _ _ (exec (PySem.Stmt.While _ _ _ _) _) _ _ _)); (fail_if_success (with_reducible show wpAny _ _ (eval (PySem.Expr.ListComp _ _ _ _) _) _ _ _)); (fail_if_success (with_reducible show wpAny _ _ (eval (PySem.Expr.DictComp _ _ _ _ _) _) _ _ _)); (fail_if_success (with_reducible show wpAny _ _ (exec (PySem.Stmt.Assign _ (PySem.Expr.ListComp _ _ _ _) _) _) _ _ _)); (fail_if_success (with_reducible show wpAny _ _ (exec (PySem.Stmt.Assign _ (PySem.Expr.DictComp _ _ _ _ _) _) _) _ _ _)); (first | (k_unfold; (try dsimp only)) | (k_end; wrow_close) | walk1 | (dsimp only; walk1) | (leave1; walk_say "STEP leave1"; try dsimp only) | fail "no step"))
    have mN3 := hb2 _ mN2
    have hvl : rs.length = 6 := by rw [hI.length, List.length_map, hrl.1]
    have mB5 := hb2 _ mB2
    refine src_list (its := rs.toArray) (fun i zs nw => nw = bb2 ∧ zs.length = i ∧ ∀ (a j : Nat), a < i → σ[a]? = some j → ∃ T u t, zs[a]? = some (Value.ref T) ∧ (T, tupO [.str (leadS (cs.getD j 0)) u, .str (letter j) t]) ∈ bb2) rfl F N (.inr ⟨_, mN3, rfl, _, rfl⟩) (by rw [sizeLine_eq, List.size_toArray, hvl]; decide) ⟨rfl, rfl, fun a j h => absurd h (Nat.not_lt_zero _)⟩ ?_ ?_
    · rintro i v zs nw gg I hv hly hS ⟨rfl, hz, hZ⟩
      have hv' : rs[i]? = some v := by simpa using hv
      have hi : i < 6 := by rw [← hvl]; exact (List.getElem?_eq_some_iff.mp hv').1
      obtain ⟨t, e9⟩ := ints_at hI (i := i) (by simp [hrl.1]; omega)
      have hg : (natI rl).getD i 0 = ((rk rl i : Nat) : Int) := by
        unfold rk
        rw [List.getD, List.getElem?_map, List.getD, List.getElem?_eq_getElem (by rw [hrl.1]; exact hi)]; rfl
      rw [hg] at e9
      obtain rfl : v = .int ((rk rl i : Nat) : Int) t := Option.some.inj (hv'.symm.trans e9)
      obtain ⟨hmr, hix⟩ := idx_rk hrl hi
      have hr6 := hrk6 _ hmr
      obtain ⟨T, u, tb, eb, mT⟩ := hB2.2 _ hr6
      rw [hix] at mT
      have eb' : bs[((rk rl i : Nat) : Int).toNat]? = some (.ref T) := eb
      have hbz : bs.length < 2 ^ 62 := by rw [hB2.1]; decide
      refine CTurn.name rfl rfl ?_
      intro oI C oC D m₁ h tk E' hC hmv F N off ne tle
      refine tests0 ?_
      rw [if_pos rfl]
      repeat' ((fail_if_success (with_reducible show wpAny _ _ (exec (PySem.Stmt.For _ _ _ _ _) _) _ _ _)); (fail_if_success (with_reducible show wpAny _ _ (exec (PySem.Stmt.While _ _ _ _) _) _ _ _)); (fail_if_success (with_reducible show wpAny _ _ (eval (PySem.Expr.ListComp _ _ _ _) _) _ _ _)); (fail_if_success (with_reducible show wpAny _ _ (eval (PySem.Expr.DictComp _ _ _ _ _) _) _ _ _)); (fail_if_success (with_reducible show wpAny _ _ (exec (PySem.Stmt.Assign _ (PySem.Expr.ListComp _ _ _ _) _) _) _ _ _)); (fail_if_success (with_reducible show wpAny _ _ (exec (PySem.Stmt.Assign _ (PySem.Expr.DictComp _ _ _ _ _) _) _) _ _ _)); (first | (k_unfold; (try dsimp only)) | (k_end; wrow_close) | walk1 | (dsimp only; walk1) | (leave1; walk_say "STEP leave1"; try dsimp only) | fail "no step"))
      refine CEnd.intro F N _ (fun _ h => h) hC off hS ⟨rfl, by simp [hz], fun a j ha hj => ?_⟩
      rcases Nat.lt_or_ge a i with q | q
      · obtain ⟨T', u', t', a1, a2⟩ := hZ a j q hj
        exact ⟨T', u', t', by rw [List.getElem?_append_left (by omega)]; exact a1, a2⟩
      · obtain rfl : a = i := by omega
        obtain rfl := hσi _ _ hj
        exact ⟨T, u, tb, by rw [List.getElem?_append_right (by omega), hz]; simp, hb2 _ mT⟩
    · rintro zs nw gg ⟨rfl, hz, hZ⟩ D6 h tk F N of6
      rw [List.size_toArray, hvl] at hz hZ
      have hPz : PiecesAt cs nw zs σ := ⟨by omega, fun i j e => by
        have hi := (List.getElem?_eq_some_iff.mp e).1
        obtain ⟨T, u, t, a1, a2⟩ := hZ i j (by omega) e
        exact ⟨T, 0, u, t, a1, a2⟩⟩
      obtain ⟨as1, rd1⟩ := pieces_reads N (List.mem_cons_of_mem _ mD1) hP2 (fun p hp => List.mem_cons_of_mem _ (hb2 _ hp))
      obtain ⟨as2, rd2⟩ := pieces_reads N List.mem_cons_self hPz (fun p hp => List.mem_cons_of_mem _ hp)
      refine ne_same rd1 rd2 (shaped_pieces cs σ hσ6) (show un + 64 < cLine by omega) ?_
      repeat' ((fail_if_success (with_reducible show wpAny _ _ (execs (PySem.Stmt.Assign [PySem.Expr.Name (PySem.Str.ofString "ways") _] _ _ :: _) _) _ _ _)); (fail_if_success (with_reducible show wpAny _ _ (exec (PySem.Stmt.For _ _ _ _ _) _) _ _ _)); (fail_if_success (with_reducible show wpAny _ _ (exec (PySem.Stmt.While _ _ _ _) _) _ _ _)); (fail_if_success (with_reducible show wpAny _ _ (eval (PySem.Expr.ListComp _ _ _ _) _) _ _ _)); (fail_if_success (with_reducible show wpAny _ _ (eval (PySem.Expr.DictComp _ _ _ _ _) _) _ _ _)); (fail_if_success (with_reducible show wpAny _ _ (exec (PySem.Stmt.Assign _ (PySem.Expr.ListComp _ _ _ _) _) _) _ _ _)); (fail_if_success (with_reducible show wpAny _ _ (exec (PySem.Stmt.Assign _ (PySem.Expr.DictComp _ _ _ _ _) _) _) _ _ _)); (first | (k_unfold; (try dsimp only)) | (k_end; wrow_close) | walk1 | (dsimp only; walk1) | (leave1; walk_say "STEP leave1"; try dsimp only) | fail "no step"))
      rename_i tz
      exact hret _ _ F (cb_drop N fun p hp => List.mem_cons_of_mem _ (hb2 _ (hb ▸ hp))) tz
end
end
-- End2
section
theorem kr_End2 : True := by
  k_with_none
  w_top off
  trivial
open PySem PySem.W PyProof.Rows PySem.Calls PySem.Spec
theorem waysF_len : ∀ n, (waysF n).length = n + 1
  | 0 => rfl
  | n + 1 => by
    unfold waysF
    rw [List.length_zipWith, List.length_cons, List.length_append, waysF_len n]
    simp
theorem ints_mk : ∀ {ns : List Int} {zs : List Value}, zs.length = ns.length → (∀ (i : Nat) (y : Value), zs[i]? = some y → ∃ t, y = .int (ns.getD i 0) t) → IntsAre zs ns
  | [], [], _, _ => .nil
  | [], _ :: _, h, _ => by simp at h
  | _ :: _, [], h, _ => by simp at h
  | n :: ns, z :: zs, h, hz => by
    obtain ⟨t, e⟩ := hz 0 z rfl
    rw [show z = Value.int n t from e]
    exact .cons n t (ints_mk (by simpa using h) fun i y hy => hz (i + 1) y (by simpa using hy))
theorem ints_snoc {vs : List Value} {ns : List Int} (h : IntsAre vs ns) (x : Int) (t : Tok) : IntsAre (vs ++ [.int x t]) (ns ++ [x]) := by
  induction h with
  | nil => exact .cons x t .nil
  | cons n u _ ih => exact .cons n u ih
theorem waysF_at (n i : Nat) (hi : i < n + 2) : ((waysF (n + 1)).getD i 0) = (0 :: waysF n).getD i 0 + (waysF n ++ [0]).getD i 0 := by
  have h := waysF_len n
  have e : (waysF (n + 1)) = List.zipWith (· + ·) (0 :: waysF n) (waysF n ++ [0]) := rfl
  rw [e, List.getD, List.getElem?_zipWith, List.getD, List.getD]
  rw [List.getElem?_eq_getElem (l := 0 :: waysF n) (by simp; omega), List.getElem?_eq_getElem (l := waysF n ++ [0]) (by simp; omega)]
  rfl
theorem natI_getD (l : List Nat) (i : Nat) : (natI l).getD i 0 = ((l.getD i 0 : Nat) : Int) := by
  rw [List.getD, List.getD, List.getElem?_map]
  cases l[i]? <;> rfl
inductive PRo (L : Addr) (mc m : Str → Option Value) (rest : List (Addr × Obj)) (i tk : Nat) (m₁ : Str → Option Value) (nw : List (Addr × Obj)) : Prop
  | mk (DW : Addr) (ws : List Value) (kw : Nat) (mc' : Str → Option Value) (cells' : List (Addr × Obj))
    (x1 : nw = ((DW, W.listOf (List.toArray ws) kw) :: rest) ++ cells')
    (x2 : CellsAre mc' (cellsFrom (L + 1) lawScope.names []) cells')
    (x3 : mc' (Str.ofString "ways") = some (.ref DW))
    (x4 : (∀ y, y ≠ Str.ofString "ways" → mc' y = mc y))
    (x5 : IntsAre ws (natI (waysF i)))
    (x6 : (∀ y, y ≠ Str.ofString "k" → m₁ y = m y)) : PRo L mc m rest i tk m₁ nw
section
theorem kw_865354_1 : True := by
  k_with "eval Name" => (k_here; k_dflt (refine' lw_name (by k_asm) (by assumption) (by (intro q9 hq9; (repeat (refine List.mem_cons_of_mem _ ?_)); first | exact List.mem_append_right _ hq9 | solve_by_elim)) (by rfl) (by first | rfl | assumption) ?_ (by exact lawScope_kind) (by rfl) (by rfl); k_whole))
  k_with "eval Name" => (k_here; k_dflt (refine' nameX_L (by k_asm) (by first | rfl | assumption) ?_ (by exact lawScope_kind) (by rfl); k_whole))
  k_with "storeName" => (k_here; k_dflt (first | (refine' lw_putK (by k_asm) (by first | assumption | exact (show News _ _ _ ((_ :: _) ++ _) from by assumption) | exact (show News _ _ _ ((_ :: _ :: _) ++ _) from by assumption) | exact (show News _ _ _ ((_ :: _ :: _ :: _) ++ _) from by assumption) | exact (show News _ _ _ ((_ :: _ :: _ :: _ :: _) ++ _) from by assumption) | exact (show News _ _ _ ((_ :: _ :: _ :: _ :: _ :: _) ++ _) from by assumption) | exact (show News _ _ _ ((_ :: _ :: _ :: _ :: _ :: _ :: _) ++ _) from by assumption)) (by assumption) (by ((repeat (refine List.forall_mem_cons.mpr ⟨by first | (refine Or.inl ?_; intro v9 h9; cases h9; done) | assumption, ?_⟩)); first | assumption | exact (fun _ h => nomatch h))) (by rfl) ?_ (by rfl); k_whole)); intro _ _ _ _ _)
  trivial

theorem kw_865354_2 : True := by
  k_with "eval Name" => (k_here; (with_reducible show wpAny _ _ (eval (Expr.Name _ _) (compEnvC _ _ _ _)) _ _ _); k_dflt (refine' lw_comp (by k_asm) (by assumption) (by (intro q9 hq9; (repeat (refine List.mem_cons_of_mem _ ?_)); first | exact List.mem_append_right _ hq9 | solve_by_elim)) (by rfl) (by rfl) (by first | rfl | assumption) ?_ (by rfl) (by first | exact .inl rfl | exact .inr rfl) (by rfl) (by rfl); k_whole))
  trivial

theorem kw_865354_3 : True := by
  k_with "execs cons" => (k_here; (with_reducible refine wpAny_execs_cons ?_); try dsimp only)
  k_with "call builtin:len" => (k_here; (with_reducible show wpAny _ _ (call (Value.builtin "len") [Value.ref _]) _ _ _); k_dflt (refine' LL.len (by assumption) (by k_mem) (by first | assumption | omega) ?_; k_whole); intro _ _)
  trivial
theorem partR {w : World} {p : Program} {loose : List Str} {mean : ExcName → Option Value} {mg mb : Str → Option Value} {dp un : Nat} {gd : Option (List Code)} {cn : Str} {a : Addr} {ccd : Value} {outer : List Env} {A₀ : Around} {base h₀ : Heap} {L : Addr} {m mc : Str → Option Value} {rest cells : List (Addr × Obj)} {s : Shared} {Q : Flow → Shared → Prop} {E : Value → Shared → Prop} {DF kf : Addr} {fs : List Value} {rl : List Nat} (B : Below A₀ base outer h₀) (X : (Mine.hA.heap_1_39 w.params).In h₀) (T : Top p loose mean mg mb h₀) (hd : dp + 20 < recursionLimit) (hu : un + 300 < cLine) (F : Fr h₀ L s.heap m) (N : News h₀ L s.heap (rest ++ cells)) (CA : CellsAre mc (cellsFrom (L + 1) lawScope.names []) cells) (hr : ∀ p ∈ rest, NK L p) (hm4 : mc (Str.ofString "free") = some (.ref DF))      (mF : (DF, W.listOf fs.toArray kf) ∈ rest) (hF : IntsAre fs (natI (freeF rl))) (hf6 : (freeF rl).length < 6)
    (hret : ∀ DW ws kw h' tk' m' mc' cells', Fr h₀ L h' m' → News h₀ L h' (((DW, W.listOf (List.toArray ws) kw) :: rest) ++ cells') → CellsAre mc' (cellsFrom (L + 1) lawScope.names []) cells' → mc' (Str.ofString "ways") = some (.ref DW) → (∀ y, y ≠ Str.ofString "ways" → mc' y = mc y) → IntsAre ws (natI (waysF (freeF rl).length)) → (∀ y, y ≠ Str.ofString "k" → m' y = m y) → s.toks ≤ tk' → wpAny (model Challenge.rw_xg0084_01.row.toRowW.prog w) (ktrTop dp un gd cn lawScope L a ccd (cellsFrom (L + 1) lawScope.names []) outer) (execs (lawBody.drop 29) (envX cn lawScope L a ccd (cellsFrom (L + 1) lawScope.names []))) Q (fun _ _ => False) { s with heap := h', toks := tk' }) :
    wpAny (model Challenge.rw_xg0084_01.row.toRowW.prog w) (ktrTop dp un gd cn lawScope L a ccd (cellsFrom (L + 1) lawScope.names []) outer) (execs (lawBody.drop 27) (envX cn lawScope L a ccd (cellsFrom (L + 1) lawScope.names []))) Q (fun _ _ => False) s := by
  have _q : Challenge.rw_xg0084_01 = Challenge.rw_xg0084_01 ∧ Mine.hA.heap_1_39 = Mine.hA.heap_1_39 := by (k_fill; exact ⟨rfl, rfl⟩)
  have hcs : ∀ p ∈ cells, p ∈ rest ++ cells := fun p hp => List.mem_append_right _ hp
  have mF2 : (DF, W.listOf fs.toArray kf) ∈ rest ++ cells := List.mem_append_left _ mF
  have hfl : fs.length = (freeF rl).length := by rw [hF.length, List.length_map]
  have hfz : fs.length < 2 ^ 62 := by omega
  show wpAny _ _ (execs (_ :: _) _) _ _ _
  walk1
  refine wpAny_toks ?_
  repeat' ((fail_if_success (with_reducible show wpAny _ _ (execs (PySem.Stmt.For _ _ _ _ _ :: _) _) _ _ _)); (fail_if_success (with_reducible show wpAny _ _ (exec (PySem.Stmt.For _ _ _ _ _) _) _ _ _)); (fail_if_success (with_reducible show wpAny _ _ (exec (PySem.Stmt.While _ _ _ _) _) _ _ _)); (fail_if_success (with_reducible show wpAny _ _ (eval (PySem.Expr.ListComp _ _ _ _) _) _ _ _)); (fail_if_success (with_reducible show wpAny _ _ (eval (PySem.Expr.DictComp _ _ _ _ _) _) _ _ _)); (fail_if_success (with_reducible show wpAny _ _ (exec (PySem.Stmt.Assign _ (PySem.Expr.ListComp _ _ _ _) _) _) _ _ _)); (fail_if_success (with_reducible show wpAny _ _ (exec (PySem.Stmt.Assign _ (PySem.Expr.DictComp _ _ _ _ _) _) _) _ _ _)); (first | (k_unfold; (try dsimp only)) | (k_end; wrow_close) | walk1 | (dsimp only; walk1) | (leave1; walk_say "STEP leave1"; try dsimp only) | fail "no step"))
  rename_i D0 h1 F1 N1 l1 h2 cells2 F2 N2 CA2 tz2
  walk1
  refine wpAny_toks ?_
  refine forK F2 ?_
  have mF3 : (DF, W.listOf fs.toArray kf) ∈ ((D0, W.listOf #[Value.int 1 s.toks] 0) :: rest) ++ cells2 := List.mem_append_left _ (List.mem_cons_of_mem _ mF)
  have hcs2 : ∀ p ∈ cells2, p ∈ ((D0, W.listOf #[Value.int 1 s.toks] 0) :: rest) ++ cells2 := fun p hp => List.mem_append_right _ hp
  have hv2 : (upd mc (Str.ofString "ways") (Value.ref D0)) (Str.ofString "free") = some (.ref DF) := ifn hm4
  refine wpAny_toks ?_
  repeat' ((fail_if_success (with_reducible show wpAny _ _ (exec (PySem.Stmt.For _ _ _ _ _) _) _ _ _)); (fail_if_success (with_reducible show wpAny _ _ (exec (PySem.Stmt.While _ _ _ _) _) _ _ _)); (fail_if_success (with_reducible show wpAny _ _ (eval (PySem.Expr.ListComp _ _ _ _) _) _ _ _)); (fail_if_success (with_reducible show wpAny _ _ (eval (PySem.Expr.DictComp _ _ _ _ _) _) _ _ _)); (fail_if_success (with_reducible show wpAny _ _ (exec (PySem.Stmt.Assign _ (PySem.Expr.ListComp _ _ _ _) _) _) _ _ _)); (fail_if_success (with_reducible show wpAny _ _ (exec (PySem.Stmt.Assign _ (PySem.Expr.DictComp _ _ _ _ _) _) _) _ _ _)); (first | (k_unfold; (try dsimp only)) | (k_end; wrow_close) | walk1 | (dsimp only; walk1) | (leave1; walk_say "STEP leave1"; try dsimp only) | fail "no step"))
  rename_i hR F12 N12 _ tz12
  rw [List.length_map] at hR
  obtain ⟨fl, hfl2⟩ : ∃ k, k = (freeF rl).length := ⟨_, rfl⟩
  rw [← hfl2] at hR hf6 hret
  refine ksrc_range (n := fl) (m := m) (news := ((D0, W.listOf [Value.int 1 s.toks].toArray 0) :: rest) ++ cells2) (PRo L mc m rest) rfl F12 N12 hR (small_one (by omega) (by omega) (by omega) (by omega)) (by rw [rangeSize_nat]; omega) ⟨_, _, rfl⟩ ⟨D0, [Value.int 1 s.toks], 0, _, cells2, rfl, CA2, if_pos rfl, fun y hy => if_neg hy, .cons 1 _ .nil, fun _ _ => rfl⟩ ?_ ?_
  · rintro i t m₁ nw gg I tk₀ hi ⟨DW, ws, kw, mc', cells', rfl, CA', hw1, hw2, hws, hmk⟩ tle
    rw [Int.zero_add]
    refine KTurn.name rfl rfl ?_
    intro oI h tk hKI F N off tle2
    have hnI : NK L (I, oI) := .inr fun q => by
      rw [← cells_addr CA'] at q
      obtain ⟨c, hcm, e⟩ := List.mem_map.mp q
      exact off c (List.mem_append_right _ hcm) e
    have hwl : ws.length = i + 1 := by rw [hws.length, List.length_map, waysF_len]
    have hcs3 : ∀ p ∈ cells', p ∈ (I, oI) :: (((DW, W.listOf ws.toArray kw) :: rest) ++ cells') := fun p hp => List.mem_cons_of_mem _ (List.mem_append_right _ hp)
    show wpAny _ _ (execs (_ :: _) _) _ _ _
    walk1
    refine PySem.wpAny_Assign_Name ?_ (by rfl)
    refine evalZ (s := { s with heap := h, toks := tk }) F (by with_unfolding_all rfl) (by decide) (by rfl) (by decide) (by rfl) (by rfl) (by decide) ?_
    repeat' ((fail_if_success (with_reducible show wpAny _ _ (exec (PySem.Stmt.For _ _ _ _ _) _) _ _ _)); (fail_if_success (with_reducible show wpAny _ _ (exec (PySem.Stmt.While _ _ _ _) _) _ _ _)); (fail_if_success (with_reducible show wpAny _ _ (eval (PySem.Expr.ListComp _ _ _ _) _) _ _ _)); (fail_if_success (with_reducible show wpAny _ _ (eval (PySem.Expr.DictComp _ _ _ _ _) _) _ _ _)); (fail_if_success (with_reducible show wpAny _ _ (exec (PySem.Stmt.Assign _ (PySem.Expr.ListComp _ _ _ _) _) _) _ _ _)); (fail_if_success (with_reducible show wpAny _ _ (exec (PySem.Stmt.Assign _ (PySem.Expr.DictComp _ _ _ _ _) _) _) _ _ _)); (first | (k_unfold; (try dsimp only)) | (k_end; wrow_close) | walk1 | (dsimp only; walk1) | (leave1; walk_say "STEP leave1"; try dsimp only) | fail "no step"))
    rename_i la ha lta hb lb hc F5 N5 lt5
    refine LL.add (vs := ws) (ws := [Value.int 0 _]) F5 N5 (List.mem_cons_of_mem _ (List.mem_cons_of_mem _ (List.mem_cons_of_mem _ (List.mem_cons_of_mem _ (List.mem_append_left _ List.mem_cons_self))))) List.mem_cons_self (by rw [sizeLine_eq]; simp; omega) ?_
    intro l8 h8 F8 N8 lt8
    have ab8 := F8.above
    have lt9 : ∀ p ∈ (I, oI) :: (((DW, W.listOf ws.toArray kw) :: rest) ++ cells'), p.1 < h8.objs.size := fun p hp => Heap.lt_size (N8 p (List.mem_cons_of_mem _ (List.mem_cons_of_mem _ (List.mem_cons_of_mem _ (List.mem_cons_of_mem _ hp))))).1
    k_steps
    rename_i hz z TI TO i1 i2 zA zS zF zk kz kTO k1 k2 zL kz2 kTO2 k12 k22 hle zN
    have ix : IntsAre ([Value.int 0 tk] ++ ws) (natI (0 :: waysF i)) := .cons 0 tk hws
    have iy : IntsAre (ws ++ [Value.int 0 (tk + 1)]) (natI (waysF i ++ [0])) := by
      rw [natI, List.map_append]
      exact ints_snoc hws 0 (tk + 1)
    have hmin : min ([Value.int 0 tk] ++ ws).length (ws ++ [Value.int 0 (tk + 1)]).length = i + 2 := by simp; omega
    refine ⟨z, TI, TO, i1, i2, ha.objs.size, l8, [Value.int 0 tk] ++ ws, ws ++ [Value.int 0 (tk + 1)], (I, oI) :: (((DW, W.listOf ws.toArray kw) :: rest) ++ cells'), fun i' y => ∃ t, y = .int ((natI (waysF (i + 1))).getD i' 0) t, rfl, rfl, zA, zS, zF, cb_drop zN fun p hp => ?_, ?_, by rw [hmin]; omega, ?_, ?_⟩
    · exact List.mem_cons_of_mem _ (List.mem_cons_of_mem _ (List.mem_cons_of_mem _ (List.mem_cons_of_mem _ hp)))
    · have ltL : ∀ b, L < b → b ≠ L ∧ h₀.get? b = none := fun b hb => ⟨Ne.symm (Nat.ne_of_lt hb), Heap.get?_none_of_le (Nat.le_trans ab8 (Nat.le_of_lt hb))⟩
      have ltz : ∀ b, h8.objs.size ≤ b → ∀ p ∈ (I, oI) :: (((DW, W.listOf ws.toArray kw) :: rest) ++ cells'), p.1 ≠ b := fun b hb p hp => Nat.ne_of_lt (Nat.lt_of_lt_of_le (lt9 p hp) hb)
      intro b hb
      simp only [List.mem_cons, List.mem_nil_iff, or_false] at hb
      rcases hb with rfl | rfl | rfl | rfl
      · exact ⟨(ltL _ zL.1).1, (ltL _ zL.1).2, ltz _ kz⟩
      · exact ⟨(ltL _ zL.2.1).1, (ltL _ zL.2.1).2, ltz _ kTO⟩
      · exact ⟨(ltL _ zL.2.2.1).1, (ltL _ zL.2.2.1).2, ltz _ k1⟩
      · exact ⟨(ltL _ zL.2.2.2).1, (ltL _ zL.2.2.2).2, ltz _ k2⟩
    · intro g i' v₁ v₂ C oC m₂ own D ys h tk3 E' hlt hPt hNs hx1 hx2 F N
      rw [hmin] at hlt
      obtain ⟨x, y, hx, hy, e⟩ := hPt
      obtain ⟨rfl, rfl⟩ : v₁ = x ∧ v₂ = y := by simpa using congrArg Array.toList e
      obtain ⟨tx, ex⟩ := ints_at ix (i := i') (by simp [waysF_len]; omega)
      obtain ⟨ty, ey⟩ := ints_at iy (i := i') (by simp [waysF_len]; omega)
      obtain rfl : v₁ = .int _ tx := Option.some.inj ((by simpa using hx : _ = some v₁).symm.trans ex)
      obtain rfl : v₂ = .int _ ty := Option.some.inj ((by simpa using hy : _ = some v₂).symm.trans ey)
      k_steps
      refine ⟨⟨_, rfl⟩, _, congrArg (Value.int · _) ?_⟩
      rw [natI_getD, natI_getD, natI_getD, waysF_at i i' hlt, Int.natCast_add]
    · intro h tk3 D zs F N hzl hzs
      have hzi : IntsAre zs (natI (waysF (i + 1))) := ints_mk (by rw [hzl, hmin, List.length_map, waysF_len]) hzs
      have N9 : News h₀ L h (((D, LCg.lst zs) :: (I, oI) :: (DW, W.listOf ws.toArray kw) :: rest) ++ cells') := N
      clear N
      repeat' ((fail_if_success (with_reducible show wpAny _ _ (exec (PySem.Stmt.For _ _ _ _ _) _) _ _ _)); (fail_if_success (with_reducible show wpAny _ _ (exec (PySem.Stmt.While _ _ _ _) _) _ _ _)); (fail_if_success (with_reducible show wpAny _ _ (eval (PySem.Expr.ListComp _ _ _ _) _) _ _ _)); (fail_if_success (with_reducible show wpAny _ _ (eval (PySem.Expr.DictComp _ _ _ _ _) _) _ _ _)); (fail_if_success (with_reducible show wpAny _ _ (exec (PySem.Stmt.Assign _ (PySem.Expr.ListComp _ _ _ _) _) _) _ _ _)); (fail_if_success (with_reducible show wpAny _ _ (exec (PySem.Stmt.Assign _ (PySem.Expr.DictComp _ _ _ _ _) _) _) _ _ _)); (first | (k_unfold; (try dsimp only)) | (k_end; wrow_close) | walk1 | (dsimp only; walk1) | (leave1; walk_say "STEP leave1"; try dsimp only) | fail "no step"))
      rename_i h10 cells10 F10 N10 CA10
      have e1 : cells10.map (·.1) = cells'.map (·.1) := by rw [cells_addr CA10, cells_addr CA']
      refine TEnd.intro F10 N10 (((D, LCg.lst zs) :: rest) ++ cells10) (fun p hp => ?_) (fun p hp => ?_) ⟨D, zs, _, _, cells10, rfl, CA10, if_pos rfl, fun y hy => (if_neg hy).trans (hw2 y hy), hzi, fun y hy => (if_neg hy).trans (hmk y hy)⟩
      · (revert p; (repeat' (first | refine List.forall_mem_cons.mpr ⟨?_, ?_⟩ | refine List.forall_mem_append.mpr ⟨?_, ?_⟩ | exact List.forall_mem_nil _)); all_goals (first | (intro p9 hp9; solve_by_elim (maxDepth := 24) only [hp9, List.mem_cons_of_mem, List.mem_append_left, List.mem_append_right]) | solve_by_elim (maxDepth := 24) only [List.mem_cons_self, List.mem_cons_of_mem, List.mem_append_left, List.mem_append_right]))
      · rcases List.mem_append.mp hp with hp | hp
        · rcases List.mem_cons.mp hp with rfl | hp
          · exact news_cls N10 (List.mem_append_left _ List.mem_cons_self) (q := (I, oI)) (List.mem_append_left _ (List.mem_cons_of_mem _ List.mem_cons_self)) (by rw [hKI]; simp)
          · exact off p (List.mem_append_left _ (List.mem_cons_of_mem _ hp))
        · have : p.1 ∈ cells10.map (·.1) := List.mem_map_of_mem hp
          rw [e1] at this
          obtain ⟨q, hq, e⟩ := List.mem_map.mp this
          rw [← e]
          exact off q (List.mem_append_right _ hq)
  · rintro m₁ nw h tk tk₀ ⟨DW, ws, kw, mc', cells', rfl, CA', hw1, hw2, hws, hmk⟩ F N t1 t2
    refine wpAny_execs_nil ?_
    intro tz
    exact hret DW ws kw h tk m₁ mc' cells' F N CA' hw1 hw2 hws hmk (Nat.le_trans tz2 tz)
end
end
-- End3
section
theorem kr_End3 : True := by
  k_with_none
  w_top off
  trivial
open PySem PySem.W PyProof.Rows PySem.Calls PySem.Spec
theorem str_assoc (a b c : PySem.Str) : a ++ b ++ c = a ++ (b ++ c) := by
  cases a; cases b; cases c
  show PySem.Str.mk _ = PySem.Str.mk _
  exact congrArg PySem.Str.mk (Array.append_assoc ..)
theorem due_key (n : Nat) : Str.ofString "page:" ++ Str.ofString (toString ((n : Nat) : Int)) ++ Str.ofString "(falls)" = pfName (n : Int) := by
  unfold pfName
  rw [show Str.ofString "page:" = Str.ofString "page" ++ Str.ofString ":" from by decide +kernel, show Str.ofString "(falls)" = Str.ofString "(" ++ (Str.ofString "falls" ++ Str.ofString ")") from by decide +kernel]
  simp only [str_assoc]
theorem pf_inj12 : ∀ a b : Nat, a < 12 → b < 12 → pfName (a : Nat) = pfName (b : Nat) → a = b := by
  have h : ∀ a : Fin 12, ∀ b : Fin 12, pfName ((a : Nat) : Int) = pfName ((b : Nat) : Int) → a = b := by decide +kernel
  intro a b ha hb e
  have := h ⟨a, by omega⟩ ⟨b, by omega⟩ e
  exact congrArg Fin.val this
theorem dueS_succ {p i c : Nat} {wl : List Nat} (hp : p ≤ 6) (hi : i < 6) (hc : wl.getD i 0 = c) : putS (pfName ((p + i : Nat) : Int)) (c : Int) (dueS p wl i) = dueS p wl (i + 1) := by
  have h : hasS (pfName ((p + i : Nat) : Int)) (dueS p wl i) = false := by
    cases q : hasS (pfName ((p + i : Nat) : Int)) (dueS p wl i) with
    | false => rfl
    | true =>
      exfalso
      unfold hasS dueS at q
      rw [List.any_eq_true] at q
      obtain ⟨x, hx, e⟩ := q
      obtain ⟨j, hj, rfl⟩ := List.mem_map.mp hx
      have hj := List.mem_range.mp hj
      have := pf_inj12 _ _ (by omega) (by omega) (of_decide_eq_true e)
      omega
  unfold putS
  rw [if_neg (by rw [h]; decide)]
  unfold dueS
  rw [List.range_succ, List.map_append, ← hc]
  rfl
section
theorem kw_604901_1 : True := by
  k_with "eval Name" => (k_here; k_dflt (refine' lw_name (by k_asm) (by assumption) (by (intro q9 hq9; (repeat (refine List.mem_cons_of_mem _ ?_)); first | exact List.mem_append_right _ hq9 | solve_by_elim)) (by rfl) (by first | rfl | assumption) ?_ (by exact lawScope_kind) (by rfl) (by rfl); k_whole))
  k_with "eval Name" => (k_here; k_dflt (refine' nameX_L (by k_asm) (by first | rfl | assumption) ?_ (by exact lawScope_kind) (by rfl); k_whole))
  k_with "storeName" => (k_here; k_dflt (first | (refine' lw_putK (by k_asm) (by first | assumption | exact (show News _ _ _ ((_ :: _) ++ _) from by assumption) | exact (show News _ _ _ ((_ :: _ :: _) ++ _) from by assumption) | exact (show News _ _ _ ((_ :: _ :: _ :: _) ++ _) from by assumption) | exact (show News _ _ _ ((_ :: _ :: _ :: _ :: _) ++ _) from by assumption) | exact (show News _ _ _ ((_ :: _ :: _ :: _ :: _ :: _) ++ _) from by assumption) | exact (show News _ _ _ ((_ :: _ :: _ :: _ :: _ :: _ :: _) ++ _) from by assumption)) (by assumption) (by ((repeat (refine List.forall_mem_cons.mpr ⟨by first | (refine Or.inl ?_; intro v9 h9; cases h9; done) | assumption, ?_⟩)); first | assumption | exact (fun _ h => nomatch h))) (by rfl) ?_ (by rfl); k_whole)); intro _ _ _ _ _)
  trivial

theorem kw_604901_2 : True := by
  k_with "eval Name" => (k_here; (with_reducible show wpAny _ _ (eval (Expr.Name _ _) (compEnvC _ _ _ _)) _ _ _); k_dflt (refine' lw_comp (by k_asm) (by assumption) (by (intro q9 hq9; (repeat (refine List.mem_cons_of_mem _ ?_)); first | exact List.mem_append_right _ hq9 | solve_by_elim)) (by rfl) (by rfl) (by first | rfl | assumption) ?_ (by rfl) (by first | exact .inl rfl | exact .inr rfl) (by rfl) (by rfl); k_whole))
  trivial

theorem kw_604901_3 : True := by
  k_with "execs cons" => (k_here; (with_reducible refine wpAny_execs_cons ?_); try dsimp only)
  k_with "call builtin:len" => (k_here; (with_reducible show wpAny _ _ (call (Value.builtin "len") [Value.ref _]) _ _ _); k_dflt (refine' LL.len (by assumption) (by k_mem) (by first | assumption | omega) ?_; k_whole); intro _ _)
  k_with "subscriptTail" => (k_here; (with_reducible show wpAny _ _ (subscriptTail _ _ (Value.ref _) (Value.int _ _)) _ _ _); k_dflt (refine' LL.item (by k_asm) (by k_mem) (by omega) (by assumption) (by assumption) (by with_unfolding_all rfl) ?_; k_whole))
  trivial
theorem partS {w : World} {p : Program} {loose : List Str} {mean : ExcName → Option Value} {mg mb : Str → Option Value} {dp un : Nat} {gd : Option (List Code)} {cn : Str} {a : Addr} {ccd : Value} {outer : List Env} {A₀ : Around} {base h₀ : Heap} {L : Addr} {m mc : Str → Option Value} {rest cells : List (Addr × Obj)} {s : Shared} {Q : Flow → Shared → Prop} {E : Value → Shared → Prop} {DW kw : Addr} {ws : List Value} {wl : List Nat} {pk : Nat} {tp : Tok} (B : Below A₀ base outer h₀) (X : (Mine.hA.heap_1_39 w.params).In h₀) (T : Top p loose mean mg mb h₀) (hd : dp + 20 < recursionLimit) (hu : un + 300 < cLine) (F : Fr h₀ L s.heap m) (N : News h₀ L s.heap (rest ++ cells)) (CA : CellsAre mc (cellsFrom (L + 1) lawScope.names []) cells) (hr : ∀ p ∈ rest, NK L p) (hm1 : mc (Str.ofString "ways") = some (.ref DW)) (hm2 : mc (Str.ofString "peaks") = some (.int (pk : Nat) tp))      (mW : (DW, W.listOf ws.toArray kw) ∈ rest) (hW : IntsAre ws (natI wl)) (hw6 : wl.length ≤ 6) (hpk : pk ≤ 6)
    (hret : ∀ DD oD kvs h' tk', Fr h₀ L h' (upd m (Str.ofString "due") (.ref DD)) → News h₀ L h' (((DD, oD) :: rest) ++ cells) → oD.IsDictOf (PySem.strKind Challenge.rw_xg0084_01.row.prog w) kvs → IntsD kvs (dueS pk wl wl.length) → (∀ p ∈ rest ++ cells, p.1 < DD) → s.toks ≤ tk' → wpAny (model Challenge.rw_xg0084_01.row.toRowW.prog w) (ktrTop dp un gd cn lawScope L a ccd (cellsFrom (L + 1) lawScope.names []) outer) (execs (lawBody.drop 30) (envX cn lawScope L a ccd (cellsFrom (L + 1) lawScope.names []))) Q E { s with heap := h', toks := tk' }) :
    wpAny (model Challenge.rw_xg0084_01.row.toRowW.prog w) (ktrTop dp un gd cn lawScope L a ccd (cellsFrom (L + 1) lawScope.names []) outer) (execs (lawBody.drop 29) (envX cn lawScope L a ccd (cellsFrom (L + 1) lawScope.names []))) Q E s := by
  have _q : Challenge.rw_xg0084_01 = Challenge.rw_xg0084_01 ∧ Mine.hA.heap_1_39 = Mine.hA.heap_1_39 := by (k_fill; exact ⟨rfl, rfl⟩)
  have hcs : ∀ p ∈ cells, p ∈ rest ++ cells := fun p hp => List.mem_append_right _ hp
  have mW2 : (DW, W.listOf ws.toArray kw) ∈ rest ++ cells := List.mem_append_left _ mW
  have hwl : ws.length = wl.length := by rw [hW.length, List.length_map]
  have hwz : ws.length < 2 ^ 62 := by omega
  have hWa : ∀ i, i < wl.length → ∃ t, ws[i]? = some (.int ((wl.getD i 0 : Nat) : Int) t) := fun i hi => by
    obtain ⟨t, e⟩ := ints_at hW (i := i) (by rw [List.length_map]; exact hi)
    exact ⟨t, by rw [e, natI_getD]⟩
  generalize hb : rest ++ cells = base at *
  show wpAny _ _ (execs (_ :: _) _) _ _ _
  walk1
  refine wpAny_toks ?_
  refine assignX (cl := _) F rfl (by with_unfolding_all rfl) rfl rfl (by with_unfolding_all rfl) ok_dict (env_plain (by decide) (by rfl)) (fun Q s h => acc_dict h) rfl (by rfl) (by decide) (by rfl) (by rfl) ?_
  repeat' ((fail_if_success (with_reducible show wpAny _ _ (exec (PySem.Stmt.For _ _ _ _ _) _) _ _ _)); (fail_if_success (with_reducible show wpAny _ _ (exec (PySem.Stmt.While _ _ _ _) _) _ _ _)); (fail_if_success (with_reducible show wpAny _ _ (eval (PySem.Expr.ListComp _ _ _ _) _) _ _ _)); (fail_if_success (with_reducible show wpAny _ _ (eval (PySem.Expr.DictComp _ _ _ _ _) _) _ _ _)); (fail_if_success (with_reducible show wpAny _ _ (exec (PySem.Stmt.Assign _ (PySem.Expr.ListComp _ _ _ _) _) _) _ _ _)); (fail_if_success (with_reducible show wpAny _ _ (exec (PySem.Stmt.Assign _ (PySem.Expr.DictComp _ _ _ _ _) _) _) _ _ _)); (first | (k_unfold; (try dsimp only)) | (k_end; wrow_close) | walk1 | (dsimp only; walk1) | (leave1; walk_say "STEP leave1"; try dsimp only) | fail "no step"))
  rename_i hR F9 N9 _
  rw [List.length_map] at hR
  refine gsrc_range (n := wl.length) (m := m) (news := base) (fun D Xc i tk nw => ∃ oD kvs, nw = (D, oD) :: base ∧ oD.IsDictOf (PySem.strKind Challenge.rw_xg0084_01.row.prog w) kvs ∧ IntsD kvs (dueS pk wl i) ∧ (∀ p ∈ base, p.1 < D)) rfl F9 N9 hR (small_one (by omega) (by omega) (by omega) (by omega)) (by rw [rangeSize_nat]; omega) ⟨_, _, rfl⟩ (fun D X hb hDX => ⟨dct0, [], rfl, dct0_is _, .nil, hb⟩) ?_ ?_
  · rintro D Xc i t nw gg I tk₀ hi ⟨oD, kvs, rfl, hoD, hI, hlt⟩ tle
    rw [Int.zero_add]
    refine GTurn.name rfl rfl ?_
    intro oI C oC m₁ h tk E' hC hmv F N off ne tle2
    refine tests0 ?_
    rw [if_pos rfl]
    refine dbody (PySem.strKind _ _) ?_
    have hcs2 : ∀ p ∈ cells, p ∈ (I, oI) :: (C, oC) :: (D, oD) :: base := fun p hp => List.mem_cons_of_mem _ (List.mem_cons_of_mem _ (List.mem_cons_of_mem _ (hcs p hp)))
    obtain ⟨tw, ew⟩ := hWa i hi
    have ew' : ws[((i : Nat) : Int).toNat]? = some (.int ((wl.getD i 0 : Nat) : Int) tw) := ew
    have hlen : kvs.length = i := by rw [hI.length]; simp [dueS]
    repeat' ((fail_if_success (with_reducible show wpAny _ _ (exec (PySem.Stmt.For _ _ _ _ _) _) _ _ _)); (fail_if_success (with_reducible show wpAny _ _ (exec (PySem.Stmt.While _ _ _ _) _) _ _ _)); (fail_if_success (with_reducible show wpAny _ _ (eval (PySem.Expr.ListComp _ _ _ _) _) _ _ _)); (fail_if_success (with_reducible show wpAny _ _ (eval (PySem.Expr.DictComp _ _ _ _ _) _) _ _ _)); (fail_if_success (with_reducible show wpAny _ _ (exec (PySem.Stmt.Assign _ (PySem.Expr.ListComp _ _ _ _) _) _) _ _ _)); (fail_if_success (with_reducible show wpAny _ _ (exec (PySem.Stmt.Assign _ (PySem.Expr.DictComp _ _ _ _ _) _) _) _ _ _)); (first | (k_unfold; (try dsimp only)) | (k_end; wrow_close) | walk1 | (dsimp only; walk1) | (leave1; walk_say "STEP leave1"; try dsimp only) | fail "no step"))
    refine DEnd.intro F N (strKind_is _ _ _ _) hoD (by omega) base (fun _ h => h) hC off (fun p hp => Nat.ne_of_lt (hlt p hp)) (fun oD' tk' hle hd => ⟨trivial, oD', _, rfl, hd, ?_, hlt⟩)
    have ek : Str.ofString "page:" ++ Str.ofString (toString ((pk : Int) + (i : Int))) ++ Str.ofString "(falls)" = pfName ((pk + i : Nat) : Int) := due_key (pk + i)
    rw [ek, ← dueS_succ hpk (by omega) rfl]
    exact hI.stored _ _ _
  · rintro D Xc nw gg tk₀ ⟨oD, kvs, rfl, hoD, hI, hlt⟩ tle
    intro h tk F N tle2 tz
    subst hb
    exact hret D oD kvs h tk F N hoD hI hlt tz
end
end
-- End4
section
theorem kr_End4 : True := by
  k_with_none
  w_top off
  trivial
open PySem PySem.W PyProof.Rows PySem.Calls PySem.Spec
theorem end_arith : ∀ fl, fl < 6 → ((((2 ^ fl : Nat) : Int) == 2 ^ fl) && ((((2 ^ fl * 5 / 2 : Nat) : Int) == ((2 : Int) ^ fl * 5).fdiv 2) && ((((2 ^ fl * (25 + fl) / 4 : Nat) : Int) == ((2 : Int) ^ fl * (25 + (fl : Int))).fdiv 4) && (((2 ^ fl * (25 - fl) / 4 : Nat) : Int) == ((2 : Int) ^ fl * (25 - (fl : Int))).fdiv 4)))) = true
  | 0, _ => by decide
  | 1, _ => by decide
  | 2, _ => by decide
  | 3, _ => by decide
  | 4, _ => by decide
  | 5, _ => by decide
  | k + 6, h => absurd h (by omega)
section
theorem kw_92326_1 : True := by
  k_with "eval Name" => (k_here; k_dflt (refine' lw_name (by k_asm) (by assumption) (by (intro q9 hq9; (repeat (refine List.mem_cons_of_mem _ ?_)); first | exact List.mem_append_right _ hq9 | solve_by_elim)) (by rfl) (by first | rfl | assumption) ?_ (by exact lawScope_kind) (by rfl) (by rfl); k_whole))
  k_with "eval Name" => (k_here; k_dflt (refine' nameX_L (by k_asm) (by first | rfl | assumption) ?_ (by exact lawScope_kind) (by rfl); k_whole))
  k_with "storeName" => (k_here; k_dflt (first | (refine' lw_putK (by k_asm) (by first | assumption | exact (show News _ _ _ ((_ :: _) ++ _) from by assumption) | exact (show News _ _ _ ((_ :: _ :: _) ++ _) from by assumption) | exact (show News _ _ _ ((_ :: _ :: _ :: _) ++ _) from by assumption) | exact (show News _ _ _ ((_ :: _ :: _ :: _ :: _) ++ _) from by assumption) | exact (show News _ _ _ ((_ :: _ :: _ :: _ :: _ :: _) ++ _) from by assumption) | exact (show News _ _ _ ((_ :: _ :: _ :: _ :: _ :: _ :: _) ++ _) from by assumption)) (by assumption) (by ((repeat (refine List.forall_mem_cons.mpr ⟨by first | (refine Or.inl ?_; intro v9 h9; cases h9; done) | assumption, ?_⟩)); first | assumption | exact (fun _ h => nomatch h))) (by rfl) ?_ (by rfl); k_whole)); intro _ _ _ _ _)
  trivial

theorem kw_92326_2 : True := by
  k_with "eval Name" => (k_here; (with_reducible show wpAny _ _ (eval (Expr.Name _ _) (compEnvC _ _ _ _)) _ _ _); k_dflt (refine' lw_comp (by k_asm) (by assumption) (by (intro q9 hq9; (repeat (refine List.mem_cons_of_mem _ ?_)); first | exact List.mem_append_right _ hq9 | solve_by_elim)) (by rfl) (by rfl) (by first | rfl | assumption) ?_ (by rfl) (by first | exact .inl rfl | exact .inr rfl) (by rfl) (by rfl); k_whole))
  trivial

theorem kw_92326_3 : True := by
  k_with "execs cons" => (k_here; (with_reducible refine wpAny_execs_cons ?_); try dsimp only)
  k_with "call builtin:len" => (k_here; (with_reducible show wpAny _ _ (call (Value.builtin "len") [Value.ref _]) _ _ _); k_dflt (refine' LL.len (by assumption) (by k_mem) (by first | assumption | omega) ?_; k_whole); intro _ _)
  k_with "subscriptTail" => (k_here; (with_reducible show wpAny _ _ (subscriptTail _ _ (Value.ref _) (Value.int _ _)) _ _ _); k_dflt (refine' TT.item (by k_asm) (by k_mem) (by omega) (by first | assumption | rfl) (by (simp only [List.length_cons, List.length_nil]; omega)) ?_ (by with_unfolding_all rfl); k_whole))
  k_with "subscriptTail Name Slice ref ref" => (k_here; k_dflt (refine' TT.upto (by k_asm) (by k_asm) (by k_mem) (by rfl) (by (simp only [List.length_cons, List.length_nil]; omega)) (by (simp only [List.length_cons, List.length_nil]; rw [sizeLine_eq]; omega)) ?_ (by with_unfolding_all rfl) (by (intro _; with_unfolding_all rfl)); k_whole); intro D' h' F' N' l1'; (have l2' := allp_of l1'); (try k_lt l1'); revert D' h' F' N' l1'; intros)
  trivial
theorem partT {w : World} {p : Program} {loose : List Str} {mean : ExcName → Option Value} {mg mb : Str → Option Value} {dp un : Nat} {gd : Option (List Code)} {cn : Str} {a : Addr} {ccd : Value} {outer : List Env} {A₀ : Around} {base h₀ : Heap} {L : Addr} {m mc : Str → Option Value} {rest cells : List (Addr × Obj)} {s : Shared} {Q : Flow → Shared → Prop} {E : Value → Shared → Prop} {BK DD DU DF kf fl : Nat} {oD oU : Obj} {kvs kvsU : List (PySem.Str × Value)} {fs : List Value} {cs : List (Nat × Nat)} {wl : List Nat} {p9 cc nc tt ct : Nat} {t1 t2 t3 t4 tm : Tok} (B : Below A₀ base outer h₀) (X : (Mine.hA.heap_1_39 w.params).In h₀) (T : Top p loose mean mg mb h₀) (hd : dp + 20 < recursionLimit) (hu : un + 300 < cLine) (F : Fr h₀ L s.heap m) (N : News h₀ L s.heap (rest ++ cells)) (CA : CellsAre mc (cellsFrom (L + 1) lawScope.names []) cells) (hr : ∀ p ∈ rest, NK L p) (hm1 : m (Str.ofString "book") = some (.ref BK)) (hm2 : m (Str.ofString "due") = some (.ref DU)) (hm3 : m (Str.ofString "many") = some (.int ((2 : Int) ^ fl) tm)) (hm4 : mc (Str.ofString "free") = some (.ref DF))      (mB : (BK, tupO [.int (cc : Nat) t1, .int (nc : Nat) t2, .int (tt : Nat) t3, .int (ct : Nat) t4, .ref DD]) ∈ rest) (mD : (DD, oD) ∈ rest) (mU : (DU, oU) ∈ rest) (hD : oD.IsDictOf (PySem.strKind Challenge.rw_xg0084_01.row.prog w) kvs) (hU : oU.IsDictOf (PySem.strKind Challenge.rw_xg0084_01.row.prog w) kvsU) (iD : IntsD kvs (numS cs)) (iU : IntsD kvsU (dueS p9 wl wl.length)) (loD : (DD == sysModules) = false) (loU : (DU == sysModules) = false)      (hl : cs.length = wl.length) (hall : ∀ j, j < wl.length → lookK (p9 + j) cs = wl.getD j 0 ∧ p9 + j ∈ cs.map (·.1)) (hsum : (cs.map (·.2)).sum = 2 ^ fl) (mF : (DF, W.listOf fs.toArray kf) ∈ rest) (hfl : fs.length = fl) (hf6 : fl < 6)      (hcc : cc = 2 ^ fl) (hnc : nc = 2 ^ fl * 5 / 2) (htt : tt = 2 ^ fl * (25 + fl) / 4) (hct : ct = 2 ^ fl * (25 - fl) / 4)
    (hret : ∀ h' tk', Fr h₀ L h' m → Q (.ret (.bool true)) { s with heap := h', toks := tk' }) :
    wpAny (model Challenge.rw_xg0084_01.row.toRowW.prog w) (ktrTop dp un gd cn lawScope L a ccd (cellsFrom (L + 1) lawScope.names []) outer) (execs (lawBody.drop 30) (envX cn lawScope L a ccd (cellsFrom (L + 1) lawScope.names []))) Q E s := by
  have _q : Challenge.rw_xg0084_01 = Challenge.rw_xg0084_01 ∧ Mine.hA.heap_1_39 = Mine.hA.heap_1_39 := by (k_fill; exact ⟨rfl, rfl⟩)
  have hcs : ∀ p ∈ cells, p ∈ rest ++ cells := fun p hp => List.mem_append_right _ hp
  have hrs : ∀ p ∈ rest, p ∈ rest ++ cells := fun p hp => List.mem_append_left _ hp
  have mB2 := hrs _ mB
  have mD2 := hrs _ mD
  have mU2 := hrs _ mU
  have mF2 := hrs _ mF
  have hfz : fs.length < 2 ^ 62 := by omega
  generalize hb : rest ++ cells = bb at *
  show wpAny _ _ (execs (_ :: _) _) _ _ _
  repeat' ((fail_if_success (with_reducible show wpAny _ _ (exec (PySem.Stmt.For _ _ _ _ _) _) _ _ _)); (fail_if_success (with_reducible show wpAny _ _ (exec (PySem.Stmt.While _ _ _ _) _) _ _ _)); (fail_if_success (with_reducible show wpAny _ _ (eval (PySem.Expr.ListComp _ _ _ _) _) _ _ _)); (fail_if_success (with_reducible show wpAny _ _ (eval (PySem.Expr.DictComp _ _ _ _ _) _) _ _ _)); (fail_if_success (with_reducible show wpAny _ _ (exec (PySem.Stmt.Assign _ (PySem.Expr.ListComp _ _ _ _) _) _) _ _ _)); (fail_if_success (with_reducible show wpAny _ _ (exec (PySem.Stmt.Assign _ (PySem.Expr.DictComp _ _ _ _ _) _) _) _ _ _)); (first | (k_unfold; (try dsimp only)) | (k_end; wrow_close) | walk1 | (dsimp only; walk1) | (leave1; walk_say "STEP leave1"; try dsimp only) | fail "no step"))
  have nd1 : (kvs.map (·.1)).Nodup := by obtain ⟨_, _, _, _, _, _, q⟩ := hD; exact q
  have nd2 : (kvsU.map (·.1)).Nodup := by obtain ⟨_, _, _, _, _, _, q⟩ := hU; exact q
  have hlen : kvs.length = kvsU.length := by rw [iD.length, iU.length]; simp [numS, dueS, hl]
  refine keq_ne (knd := PySem.strKind _ _) (r := true) loD loU (Heap.dictOf_iff.mpr ⟨oD, (N _ mD2).1, hD⟩) (Heap.dictOf_iff.mpr ⟨oU, (N _ mU2).1, hU⟩) (show un < cLine by omega) (fun _ => book_hits iD iU nd1 nd2 hl hall) ?_
  rw [hlen, beq_self_eq_true]
  repeat' ((fail_if_success (with_reducible show wpAny _ _ (exec (PySem.Stmt.For _ _ _ _ _) _) _ _ _)); (fail_if_success (with_reducible show wpAny _ _ (exec (PySem.Stmt.While _ _ _ _) _) _ _ _)); (fail_if_success (with_reducible show wpAny _ _ (eval (PySem.Expr.ListComp _ _ _ _) _) _ _ _)); (fail_if_success (with_reducible show wpAny _ _ (eval (PySem.Expr.DictComp _ _ _ _ _) _) _ _ _)); (fail_if_success (with_reducible show wpAny _ _ (exec (PySem.Stmt.Assign _ (PySem.Expr.ListComp _ _ _ _) _) _) _ _ _)); (fail_if_success (with_reducible show wpAny _ _ (exec (PySem.Stmt.Assign _ (PySem.Expr.DictComp _ _ _ _ _) _) _) _ _ _)); (first | (k_unfold; (try dsimp only)) | (k_end; wrow_close) | walk1 | (dsimp only; walk1) | (leave1; walk_say "STEP leave1"; try dsimp only) | fail "no step"))
  refine cnt_spec B F X N T lawScope_kind (by omega) mD2 hD iD loD ?_
  rw [numS_sum, hsum]
  intro t9 h9 tk9 F9 N9
  repeat' ((fail_if_success (with_reducible show wpAny _ _ (exec (PySem.Stmt.For _ _ _ _ _) _) _ _ _)); (fail_if_success (with_reducible show wpAny _ _ (exec (PySem.Stmt.While _ _ _ _) _) _ _ _)); (fail_if_success (with_reducible show wpAny _ _ (eval (PySem.Expr.ListComp _ _ _ _) _) _ _ _)); (fail_if_success (with_reducible show wpAny _ _ (eval (PySem.Expr.DictComp _ _ _ _ _) _) _ _ _)); (fail_if_success (with_reducible show wpAny _ _ (exec (PySem.Stmt.Assign _ (PySem.Expr.ListComp _ _ _ _) _) _) _ _ _)); (fail_if_success (with_reducible show wpAny _ _ (exec (PySem.Stmt.Assign _ (PySem.Expr.DictComp _ _ _ _ _) _) _) _ _ _)); (first | (k_unfold; (try dsimp only)) | (k_end; wrow_close) | walk1 | (dsimp only; walk1) | (leave1; walk_say "STEP leave1"; try dsimp only) | fail "no step"))
  try (rename_i hne; exact absurd (by simp) hne)
  subst hcc hnc htt hct
  rw [hfl, end_arith fl hf6]
  refine hret _ _ ?_
  assumption
end
end
end
-- LawP
section
open PySem PySem.W PyProof.Rows PySem.Calls PySem.Spec
theorem page_of {lv : Nat → Value} {tokL : Nat → Tok} {nw : List (Addr × Obj)} : ∀ (l : List Value) (s : Nat), (∀ j, j < l.length → ∃ T k, l[j]? = some (.ref T) ∧ (T, tupN [lv (s + j), .str (letter (s + j)) (tokL (s + j))] k) ∈ nw) → PageIs lv tokL nw l (List.range' s l.length)
  | [], s, _ => .nil
  | v :: l, s, h => by
    obtain ⟨T, k, e, m⟩ := h 0 (by simp)
    obtain rfl : v = .ref T := by simpa using e
    refine .cons (k := k) (by simpa using m) (page_of l (s + 1) fun j hj => ?_)
    obtain ⟨T', k', e', m'⟩ := h (j + 1) (by simpa using hj)
    refine ⟨T', k', by simpa using e', ?_⟩
    rw [show s + 1 + j = s + (j + 1) from by omega]
    exact m'
theorem page_start {lv : Nat → Value} {tk : Nat} {nw : List (Addr × Obj)} {its : List Value} (h : PageAt lv tk nw its 6) : ∃ tokL : Nat → Tok, PageIs lv tokL nw its [0, 1, 2, 3, 4, 5] ∧ ∀ j, j < 6 → @LT.lt Nat _ 0 (tokL j) ∧ @LT.lt Nat _ (tokL j) tk := by
  have h2 : ∀ j, ∃ t : Nat, j < 6 → ∃ T k, its[j]? = some (.ref T) ∧ (T, tupN [lv j, .str (letter j) t] k) ∈ nw ∧ 0 < t ∧ t < tk := fun j => by
    by_cases hj : j < 6
    · obtain ⟨T, k, t, a, b, c, d⟩ := h.2 j hj
      exact ⟨t, fun _ => ⟨T, k, a, b, c, d⟩⟩
    · exact ⟨0, fun q => absurd q hj⟩
  obtain ⟨tokL, ht⟩ := Classical.axiomOfChoice h2
  refine ⟨tokL, ?_, fun j hj => by obtain ⟨_, _, _, _, c, d⟩ := ht j hj; exact ⟨c, d⟩⟩
  have := page_of (lv := lv) (tokL := tokL) (nw := nw) its 0 fun j hj => by
    obtain ⟨T, k, a, b, _⟩ := ht j (by rw [← h.1]; exact hj)
    exact ⟨T, k, a, by rw [Nat.zero_add]; exact b⟩
  rw [h.1] at this
  exact this
theorem by_sub {cs : List Int} {rl : List Nat} {nw nw' : List (Addr × Obj)} {bs : List Value} {i : Nat} (h : ByAt cs rl nw bs i) (hs : ∀ p ∈ nw, p.2.cls ≠ .ref 99 → p ∈ nw') : ByAt cs rl nw' bs i :=
  ⟨h.1, fun r hr => let ⟨T, u, t, a, b⟩ := h.2 r hr; ⟨T, u, t, a, hs _ b (by simp)⟩⟩
theorem deep_sub {prog : Program} {w : World} {val : Nat → Nat → Int} {T : Tok} {nw nw' : List (Addr × Obj)} {dd : Addr} (h : DeepIs prog w val T nw dd) (hs : ∀ p ∈ nw, p.2.cls ≠ .ref 99 → p ∈ nw') : DeepIs prog w val T nw' dd := by
  obtain ⟨od, kvs, m1, d1, h1⟩ := h
  refine ⟨od, kvs, hs _ m1 (by rw [dict_cls d1]; simp), d1, fun i hi => ?_⟩
  obtain ⟨di, odi, kvi, v1, m2, d2, h2⟩ := h1 i hi
  exact ⟨di, odi, kvi, v1, hs _ m2 (by rw [dict_cls d2]; simp), d2, h2⟩
theorem page_sub2 {lv : Nat → Value} {tokL : Nat → Tok} {nw nw' : List (Addr × Obj)} {its : List Value} {σ : List Nat} (h : PageIs lv tokL nw its σ) (hs : ∀ p ∈ nw, p.2.cls ≠ .ref 99 → p ∈ nw') : PageIs lv tokL nw' its σ :=
  page_sub h fun p hp ⟨vs, k, e⟩ => hs p hp (by rw [e]; simp)
theorem endF_facts {rl fl σ : List Nat} {turned : Nat} {b : Bk} (h : endF rl fl σ turned b = true) : turned = 0 ∧ σ = [0, 1, 2, 3, 4, 5] ∧ b.cs.length = (waysF fl.length).length ∧ (∀ j, j < (waysF fl.length).length → lookK (peaksF rl + j) b.cs = (waysF fl.length).getD j 0 ∧ peaksF rl + j ∈ b.cs.map (·.1)) ∧
    (b.cs.map (·.2)).sum = 2 ^ fl.length ∧ b.cc = 2 ^ fl.length ∧ b.nc = 2 ^ fl.length * 5 / 2 ∧ b.tt = 2 ^ fl.length * (25 + fl.length) / 4 ∧ b.ct = 2 ^ fl.length * (25 - fl.length) / 4 := by
  unfold endF at h
  simp only [Bool.and_eq_true, beq_iff_eq, List.all_eq_true, memL_iff, decide_eq_true_eq] at h
  obtain ⟨⟨⟨⟨⟨⟨⟨⟨h1, h2⟩, h3⟩, h4⟩, h5⟩, h6⟩, h7⟩, h8⟩, h9⟩ := h
  exact ⟨h1, h2, h3, fun j hj => h4 j (List.mem_range.mpr hj), h5, h6, h7, h8, h9⟩
theorem lead_val {ys : List Value} {cs : List Int} (h : LeadsAre ys cs) (hl : cs.length = 6) : ∀ j, j < 6 → ∃ u, ys.getD j .none = .str (leadS (cs.getD j 0)) u := fun j hj => by
  obtain ⟨t, e⟩ := h.2 j (cs.getD j 0) (by rw [List.getD, List.getElem?_eq_getElem (by omega)]; rfl)
  exact ⟨t, by rw [List.getD, e]; rfl⟩
end
-- LawAll
section
open PySem PySem.W PyProof.Rows PySem.Calls PySem.Spec
theorem nc_cons {a : Addr} {o : Obj} {l : List (Addr × Obj)} (h : NC o) (hl : ∀ p ∈ l, NC p.2) : ∀ p ∈ (a, o) :: l, NC p.2 := List.forall_mem_cons.mpr ⟨h, hl⟩
theorem nc_app {l l' : List (Addr × Obj)} (h : ∀ p ∈ l, NC p.2) (h' : ∀ p ∈ l', NC p.2) : ∀ p ∈ l ++ l', NC p.2 := fun p hp => (List.mem_append.mp hp).elim (h p) (h' p)
theorem nc_seq {c : Value} {d : Option Addr} {a : Array Value} {n : Nat} : NC { cls := c, dict := d, data := .seq a n } := fun v e => by cases e
theorem law_all {w : World} {p : Program} {loose : List Str} {mean : ExcName → Option Value} {mg mb : Str → Option Value} {dp un : Nat} {gd : Option (List Code)} {cn : Str} {a : Addr} {ccd : Value} {outer : List Env} {A₀ : Around} {base h₀ : Heap} {L : Addr} {m mc : Str → Option Value} {cells : List (Addr × Obj)} {s : Shared} {Q : Flow → Shared → Prop} {E : Value → Shared → Prop} {l1 : Addr} {vs : List Value} {ns : List Int}      (B : Below A₀ base outer h₀) (F : Fr h₀ L s.heap m) (X : (Mine.hA.heap_1_39 w.params).In h₀) (N : News h₀ L s.heap cells) (T : Top p loose mean mg mb h₀) (CA : CellsAre mc (cellsFrom (L + 1) lawScope.names []) cells) (hd : dp + 20 < recursionLimit) (hu : un + 300 < cLine) (hL : h₀.IsList l1 vs.toArray) (i1 : IntsAre vs ns) (z1 : vs.length ≤ 63) (hm : m (Str.ofString "script") = some (.ref l1))      (hret : ∀ h' tk' m' news', Fr h₀ L h' m' → News h₀ L h' news' → Q (.ret (.bool true)) { s with heap := h', toks := tk' }) :
    wpAny (model Challenge.rw_xg0084_01.row.toRowW.prog w) (ktrTop dp un gd cn lawScope L a ccd (cellsFrom (L + 1) lawScope.names []) outer) (execs lawBody (envX cn lawScope L a ccd (cellsFrom (L + 1) lawScope.names []))) Q E s := by
  refine wpAny_mono (E := fun _ _ => False) (Q := Q) ?_ (fun _ _ x => x) (fun _ _ e => e.elim)
  refine partA (rest := []) B X T hd hu F N CA (fun _ h => nomatch h) hL i1 z1 hm ?_
  intro D vs' k cs h1 tk1 m1 mc1 cells1 f g o1 o2 tf tg t1 t2 tl F1 N1 CA1 icl hcs hcb hmc1 hf hg ho1 ho2 hlet f2 f4 g1 g4 oo1 oo2 zt1 tt1 tt2
  refine partB (s := { s with heap := h1, toks := tk1 }) B X T hd hu F1 N1 CA1 (nc_cons nc_seq fun _ h => nomatch h) List.mem_cons_self icl hcs hcb hmc1 ?_
  intro DL ys h2 tk2 cells2 F2 N2 CA2 hLd tz2
  refine partC (s := { s with heap := h2, toks := tk2 }) B X T hd hu F2 N2 CA2 (nc_cons nc_seq (nc_cons nc_seq fun _ h => nomatch h)) List.mem_cons_self hLd hcs (by ((repeat (first | exact if_pos rfl | refine ifn ?_)); try assumption)) (by ((repeat (first | exact if_pos rfl | refine ifn ?_)); try assumption)) (by ((repeat (first | exact if_pos rfl | refine ifn ?_)); try assumption)) (by ((repeat (first | exact if_pos rfl | refine ifn ?_)); try assumption)) f2 f4 g1 g4 ?_
  intro pg dpg od its n DR rv kr tl3 h3 tk3 m3 cells3 F3 N3 CA3 hr3 hod hoff hP hR hmp zt3 tz3
  have hdp : dpg ≠ pg := hoff _ List.mem_cons_self
  generalize hR3 : (pg, accObj dpg its n) :: (dpg, od) :: (DR, W.listOf rv.toArray kr) :: (tl3 ++ [(DL, LCg.lst ys), (D, W.listOf vs'.toArray k)]) = R3 at N3 hr3
  have mpg3 : (pg, accObj dpg its n) ∈ R3 := hR3 ▸ List.mem_cons_self
  have mdpg3 : (dpg, od) ∈ R3 := hR3 ▸ List.mem_cons_of_mem _ List.mem_cons_self
  have mDR3 : (DR, W.listOf rv.toArray kr) ∈ R3 := hR3 ▸ List.mem_cons_of_mem _ (List.mem_cons_of_mem _ List.mem_cons_self)
  have mDL3 : (DL, LCg.lst ys) ∈ R3 := hR3 ▸ List.mem_cons_of_mem _ (List.mem_cons_of_mem _ (List.mem_cons_of_mem _ (List.mem_append_right _ List.mem_cons_self)))
  have sub3 : ∀ p ∈ tl3, p ∈ R3 := fun p hp => hR3 ▸ List.mem_cons_of_mem _ (List.mem_cons_of_mem _ (List.mem_cons_of_mem _ (List.mem_append_left _ hp)))
  have hP3 := hP.up sub3 (Nat.le_refl _)
  have hR3' := hR.up sub3
  have T13 : @LE.le Nat _ tk1 tk3 := Nat.le_trans tz2 tz3
  refine partD (s := { s with heap := h3, toks := tk3 }) B X T hd hu F3 N3 CA3 hr3 mDL3 hLd hcs (by ((repeat (first | exact if_pos rfl | refine ifn ?_)); try assumption)) (by ((repeat (first | exact if_pos rfl | refine ifn ?_)); try assumption)) (by ((repeat (first | exact if_pos rfl | refine ifn ?_)); try assumption)) f2 f4 g1 g4 (by ((repeat (first | exact if_pos rfl | refine ifn ?_)); try assumption)) mDR3 hR3' ?_
  intro h4 tk4 F4 N4 tz4
  refine partE (s := { s with heap := h4, toks := tk4 }) B X T hd hu F4 N4 CA3 hr3 (by ((repeat (first | exact if_pos rfl | refine ifn ?_)); try assumption)) (by ((repeat (first | exact if_pos rfl | refine ifn ?_)); try assumption)) oo1 oo2 (by ((repeat (first | exact if_pos rfl | refine ifn ?_)); try assumption)) mDR3 hR3' (fun j => colN_bound (by omega) f4) (fun j => colN_bound g1 g4) ?_
  intro DK ks tl5 h5 tk5 cells5 F5 N5 CA5 nc5 hK tz5
  have hr5 := nc_cons (a := DK) (o := LCg.lst ks) nc_seq (nc_app nc5 hr3)
  have sub5 : ∀ p ∈ R3, p ∈ (DK, LCg.lst ks) :: (tl5 ++ R3) := fun p hp => List.mem_cons_of_mem _ (List.mem_append_right _ hp)
  have hK5 := hK.up (nw' := (DK, LCg.lst ks) :: (tl5 ++ R3)) fun p hp => List.mem_cons_of_mem _ (List.mem_append_left _ hp)
  have mK5 : (DK, W.listOf ks.toArray ks.length) ∈ (DK, LCg.lst ks) :: (tl5 ++ R3) := List.mem_cons_self
  generalize (DK, LCg.lst ks) :: (tl5 ++ R3) = R5 at N5 hr5 sub5 hK5 mK5
  refine partF (s := { s with heap := h5, toks := tk5 }) B X T hd hu F5 N5 CA5 hr5 (by ((repeat (first | exact if_pos rfl | refine ifn ?_)); try assumption)) mK5 hK5 ?_
  intro DN rs h6 tk6 cells6 F6 N6 CA6 iN tz6
  have hr6 := nc_cons (a := DN) (o := LCg.lst rs) nc_seq hr5
  have T16 : @LE.le Nat _ tk1 tk6 := Nat.le_trans T13 (Nat.le_trans tz4 (Nat.le_trans tz5 tz6))
  refine partG (s := { s with heap := h6, toks := tk6 }) B X T hd hu F6 N6 CA6 hr6 (by ((repeat (first | exact if_pos rfl | refine ifn ?_)); try assumption)) (by ((repeat (first | exact if_pos rfl | refine ifn ?_)); try assumption)) ⟨tt1.1, Nat.lt_of_lt_of_le tt1.2 T16⟩ ⟨tt2.1, Nat.lt_of_lt_of_le tt2.2 T16⟩ ?_
  intro jx tl7 h7 tk7 cells7 F7 N7 CA7 nc7 hJ tz7
  have hr7 := nc_app nc7 hr6
  have sub7 : ∀ p ∈ R3, p ∈ tl7 ++ (DN, LCg.lst rs) :: R5 := fun p hp => List.mem_append_right _ (List.mem_cons_of_mem _ (sub5 p hp))
  have mN7 : (DN, W.listOf rs.toArray rs.length) ∈ tl7 ++ (DN, LCg.lst rs) :: R5 := List.mem_append_right _ List.mem_cons_self
  have hJ7 := hJ.up (nw' := tl7 ++ (DN, LCg.lst rs) :: R5) (fun p hp => List.mem_append_left _ hp) (Nat.le_refl _)
  generalize tl7 ++ (DN, LCg.lst rs) :: R5 = R7 at N7 hr7 sub7 mN7 hJ7
  have z7 : @LT.lt Nat _ 0 tk7 := Nat.lt_of_lt_of_le zt1 (Nat.le_trans T16 tz7)
  refine partH (s := { s with heap := h7, toks := tk7 }) B X T hd hu F7 N7 CA7 hr7 (by ((repeat (first | exact if_pos rfl | refine ifn ?_)); try assumption)) (by ((repeat (first | exact if_pos rfl | refine ifn ?_)); try assumption)) (by ((repeat (first | exact if_pos rfl | refine ifn ?_)); try assumption)) (sub7 _ mDR3) (hR3'.up sub7) hJ7 z7 ?_
  intro dd tl8 h8 tk8 cells8 F8 N8 CA8 nc8 hDp tz8
  have hr8 := nc_app nc8 hr7
  have sub8 : ∀ p ∈ R3, p ∈ tl8 ++ R7 := fun p hp => List.mem_append_right _ (sub7 p hp)
  have mN8 : (DN, W.listOf rs.toArray rs.length) ∈ tl8 ++ R7 := List.mem_append_right _ mN7
  have hDp8 := deep_mono (nw' := tl8 ++ R7) hDp (fun p hp => List.mem_append_left _ hp) (Nat.le_refl _)
  generalize tl8 ++ R7 = R8 at N8 hr8 sub8 mN8 hDp8
  have hDr := deep_congr hDp8 fun i j hi hj => deepV_rank oo1 oo2 hi hj
  have iNn := iN
  rw [rankL_nat] at iNn
  have iNi := iN
  rw [rankL_int] at iNi
  generalize hrl : rankL (fun k => o1 * colN f (cs.getD k 0)) (fun k => o2 * colN g (cs.getD k 0)) = rl at hDr iNn iNi
  have hRk : Ranks rl := hrl ▸ rankL_ranks
  have hR6 : ∀ x ∈ rl, x < 6 := hrl ▸ rankL_six
  refine partI (s := { s with heap := h8, toks := tk8 }) (rk := fun i => ((rk rl i : Nat) : Int)) B X T hd hu F8 N8 CA8 hr8 (by ((repeat (first | exact if_pos rfl | refine ifn ?_)); try assumption)) (by ((repeat (first | exact if_pos rfl | refine ifn ?_)); try assumption)) (by ((repeat (first | exact if_pos rfl | refine ifn ?_)); try assumption)) hDr mN8 iNi (fun _ _ _ _ => rfl) ?_
  intro h9 tk9 F9 N9 tz9
  refine partJ (s := { s with heap := h9, toks := tk9 }) B X T hd hu F9 N9 CA8 hr8 (sub8 _ mDL3) hLd hcs (by ((repeat (first | exact if_pos rfl | refine ifn ?_)); try assumption)) (by ((repeat (first | exact if_pos rfl | refine ifn ?_)); try assumption)) (by ((repeat (first | exact if_pos rfl | refine ifn ?_)); try assumption)) mN8 iNn hRk ?_
  intro DB bs tl10 h10 tk10 cells10 F10 N10 CA10 nc10 hBy tz10
  have hok : okF rl = true := okF_of hRk.1 hRk.2.1 hR6
  unfold okF at hok
  simp only [Bool.and_eq_true, decide_eq_true_eq] at hok
  obtain ⟨⟨fl0, fl6⟩, hrun⟩ := hok
  have hr10 := nc_cons (a := DB) (o := LCg.lst bs) nc_seq (nc_app nc10 hr8)
  have sub10 : ∀ p ∈ R8, p ∈ (DB, LCg.lst bs) :: (tl10 ++ R8) := fun p hp => List.mem_cons_of_mem _ (List.mem_append_right _ hp)
  have mB10 : (DB, W.listOf bs.toArray bs.length) ∈ (DB, LCg.lst bs) :: (tl10 ++ R8) := List.mem_cons_self
  have hBy10 := hBy.up (nw' := (DB, LCg.lst bs) :: (tl10 ++ R8)) fun p hp => List.mem_cons_of_mem _ (List.mem_append_left _ hp)
  generalize (DB, LCg.lst bs) :: (tl10 ++ R8) = R10 at N10 hr10 sub10 mB10 hBy10
  refine partK (s := { s with heap := h10, toks := tk10 }) B X T hd hu F10 N10 CA10 hr10 (by ((repeat (first | exact if_pos rfl | refine ifn ?_)); try assumption)) (sub10 _ mN8) iNn hRk ?_
  intro DE es h11 tk11 cells11 F11 N11 CA11 iE tz11
  have hr11 := nc_cons (a := DE) (o := LCg.lst es) nc_seq hr10
  have mE11 : (DE, W.listOf es.toArray es.length) ∈ (DE, LCg.lst es) :: R10 := List.mem_cons_self
  refine partL (s := { s with heap := h11, toks := tk11 }) B X T hd hu F11 N11 CA11 hr11 (by ((repeat (first | exact if_pos rfl | refine ifn ?_)); try assumption)) mE11 iE ?_
  intro DF fs h12 tk12 cells12 F12 N12 CA12 iF tz12
  have hr12 := nc_cons (a := DF) (o := LCg.lst fs) nc_seq hr11
  have mE12 : (DE, W.listOf es.toArray es.length) ∈ (DF, LCg.lst fs) :: (DE, LCg.lst es) :: R10 := List.mem_cons_of_mem _ mE11
  have mF12 : (DF, W.listOf fs.toArray fs.length) ∈ (DF, LCg.lst fs) :: (DE, LCg.lst es) :: R10 := List.mem_cons_self
  have sub12 : ∀ p ∈ R10, p ∈ (DF, LCg.lst fs) :: (DE, LCg.lst es) :: R10 := fun p hp => List.mem_cons_of_mem _ (List.mem_cons_of_mem _ hp)
  generalize (DF, LCg.lst fs) :: (DE, LCg.lst es) :: R10 = R12 at N12 hr12 mE12 mF12 sub12
  refine partM (s := { s with heap := h12, toks := tk12 }) B X T hd hu F12 N12 CA12 hr12 (by ((repeat (first | exact if_pos rfl | refine ifn ?_)); try assumption)) (by ((repeat (first | exact if_pos rfl | refine ifn ?_)); try assumption)) mE12 iE mF12 iF fl6 ?_
  intro h13 tk13 cells13 tp F13 N13 CA13 tz13
  have T7 : @LE.le Nat _ tk7 tk13 := Nat.le_trans tz8 (Nat.le_trans tz9 (Nat.le_trans tz10 (Nat.le_trans tz11 (Nat.le_trans tz12 tz13))))
  refine partN (s := { s with heap := h13, toks := tk13 }) B X T hd hu F13 N13 CA13 hr12 (by ((repeat (first | exact if_pos rfl | refine ifn ?_)); try assumption)) mF12 iF fl6 (Nat.lt_of_lt_of_le z7 T7) ?_
  intro DP ps h14 tk14 cells14 F14 N14 CA14 hPw tz14
  have hr14 := nc_cons (a := DP) (o := LCg.lst ps) nc_seq hr12
  have mP14 : (DP, W.listOf ps.toArray ps.length) ∈ (DP, LCg.lst ps) :: R12 := List.mem_cons_self
  refine partO (s := { s with heap := h14, toks := tk14 }) B X T hd hu F14 N14 CA14 hr14 (by ((repeat (first | exact if_pos rfl | refine ifn ?_)); try assumption)) (List.mem_cons_of_mem _ mF12) iF fl6 ?_
  intro DD BK oD t0 t1' t2' t3 t4 h15 tk15 m15 cells15 F15 N15 CA15 d15 lo15 mb15 mm15 mp15 tz15
  obtain ⟨oB, hoB⟩ : ∃ o, o = tupO [.int 0 t0, .int 0 t1', .int 0 t2', .int 0 t3, .ref DD] := ⟨_, rfl⟩
  rw [← hoB] at N15
  have hr15 := nc_cons (a := BK) (o := oB) (by rw [hoB]; exact nc_seq) (nc_cons (a := DD) (nc_dict d15) hr14)
  have mB15 : (BK, oB) ∈ (BK, oB) :: (DD, oD) :: (DP, LCg.lst ps) :: R12 := List.mem_cons_self
  have mD15 : (DD, oD) ∈ (BK, oB) :: (DD, oD) :: (DP, LCg.lst ps) :: R12 := List.mem_cons_of_mem _ List.mem_cons_self
  have mP15 : (DP, W.listOf ps.toArray ps.length) ∈ (BK, oB) :: (DD, oD) :: (DP, LCg.lst ps) :: R12 := List.mem_cons_of_mem _ (List.mem_cons_of_mem _ List.mem_cons_self)
  have sub15 : ∀ p ∈ R12, p ∈ (BK, oB) :: (DD, oD) :: (DP, LCg.lst ps) :: R12 := fun p hp => List.mem_cons_of_mem _ (List.mem_cons_of_mem _ (List.mem_cons_of_mem _ hp))
  generalize (BK, oB) :: (DD, oD) :: (DP, LCg.lst ps) :: R12 = R15 at N15 hr15 mB15 mD15 mP15 sub15
  have subA : ∀ p ∈ R3, p ∈ R15 := fun p hp => sub15 _ (sub12 _ (sub10 _ (sub8 _ hp)))
  have keep : ∀ p ∈ R15, p.2.cls ≠ .ref 99 → p ∈ R15.filter fun p => decide (p.1 ≠ pg) := fun p hp hc => List.mem_filter.mpr ⟨hp, decide_eq_true (news_cls N15 (List.mem_append_left _ hp) (q := (pg, accObj dpg its n)) (List.mem_append_left _ (subA _ mpg3)) hc)⟩
  obtain ⟨tokL, hpage, htok⟩ := page_start hP3
  have T315 : @LE.le Nat _ tk3 tk15 := Nat.le_trans tz4 (Nat.le_trans tz5 (Nat.le_trans tz6 (Nat.le_trans tz7 (Nat.le_trans T7 (Nat.le_trans tz14 tz15)))))
  have T815 : @LE.le Nat _ tk8 tk15 := Nat.le_trans tz9 (Nat.le_trans tz10 (Nat.le_trans tz11 (Nat.le_trans tz12 (Nat.le_trans tz13 (Nat.le_trans tz14 tz15)))))
  have hC : LoopC w (upd (upd (upd (upd (upd (upd (upd (upd (upd (upd (upd (upd mc1 (Str.ofString "leads") (.ref DL)) (Str.ofString "rows") (.ref DR)) (Str.ofString "keys") (.ref DK)) (Str.ofString "ranks") (.ref DN)) (Str.ofString "judge") (.ref jx)) (Str.ofString "deeper") (.ref dd)) (Str.ofString "by_rank") (.ref DB)) (Str.ofString "near") (.ref DE)) (Str.ofString "free") (.ref DF)) (Str.ofString "peaks") (.int (peaksF rl : Nat) tp)) (Str.ofString "powers") (.ref DP)) (Str.ofString "turned") (.int 0 t4)) (fun i j => cmpR ((rk rl i : Nat) : Int) ((rk rl j : Nat) : Int)) tk8 tk14 cs (fun j => ys.getD j .none) rl (R15.filter fun p => decide (p.1 ≠ pg)) := {
    ranks := hRk
    rk6 := hR6
    fl0 := fl0
    fl6 := fl6
    cN := ⟨DN, rs, rs.length, by ((repeat (first | exact if_pos rfl | refine ifn ?_)); try assumption), keep _ (sub15 _ (sub12 _ (sub10 _ mN8))) (by simp), iNn⟩
    cF := ⟨DF, fs, fs.length, by ((repeat (first | exact if_pos rfl | refine ifn ?_)); try assumption), keep _ (sub15 _ mF12) (by simp), iF⟩
    cP := ⟨DP, ps, ps.length, by ((repeat (first | exact if_pos rfl | refine ifn ?_)); try assumption), keep _ mP15 (by simp), hPw⟩
    cB := ⟨DB, bs, bs.length, by ((repeat (first | exact if_pos rfl | refine ifn ?_)); try assumption), keep _ (sub15 _ (sub12 _ mB10)) (by simp), by_sub hBy10 fun p hp hc => keep p (sub15 _ (sub12 _ hp)) hc⟩
    cD := ⟨dd, by ((repeat (first | exact if_pos rfl | refine ifn ?_)); try assumption), deep_sub hDr fun p hp hc => keep p (sub15 _ (sub12 _ (sub10 _ hp))) hc⟩
    cL := ⟨tl, by ((repeat (first | exact if_pos rfl | refine ifn ?_)); try assumption)⟩
    cK := ⟨tp, by ((repeat (first | exact if_pos rfl | refine ifn ?_)); try assumption)⟩
    val1 := fun i j => cmpR_one _ _
    lead := lead_val hLd hcs }
  have hS : LoopS w L (upd (upd (upd (upd (upd (upd (upd (upd (upd (upd (upd (upd mc1 (Str.ofString "leads") (.ref DL)) (Str.ofString "rows") (.ref DR)) (Str.ofString "keys") (.ref DK)) (Str.ofString "ranks") (.ref DN)) (Str.ofString "judge") (.ref jx)) (Str.ofString "deeper") (.ref dd)) (Str.ofString "by_rank") (.ref DB)) (Str.ofString "near") (.ref DE)) (Str.ofString "free") (.ref DF)) (Str.ofString "peaks") (.int (peaksF rl : Nat) tp)) (Str.ofString "powers") (.ref DP)) (Str.ofString "turned") (.int 0 t4)) tk8 tk14 pg (fun j => ys.getD j .none) tokL rl (R15.filter fun p => decide (p.1 ≠ pg)) tk15 m15 its [0, 1, 2, 3, 4, 5] 0 ⟨0, 0, 0, 0, []⟩ (R15.filter fun p => decide (p.1 ≠ pg)) cells15 := {
    cells := ⟨_, t4, CA15, fun _ _ _ => rfl, if_pos rfl⟩
    off := fun p hp => of_decide_eq_true (List.mem_filter.mp hp).2
    nk := fun p hp => .inl (hr15 p (List.mem_filter.mp hp).1)
    base := fun p hp => hp
    page := page_sub2 hpage fun p hp hc => keep p (subA _ hp) hc
    m1 := mp15.trans hmp
    m2 := mm15
    book := ⟨BK, DD, oD, [], t0, t1', t2', t3, mb15, hoB ▸ keep _ mB15 (by rw [hoB]; simp), keep _ mD15 (by rw [dict_cls d15]; simp), d15, .nil, lo15⟩
    tok := fun i hi => by
      have hi6 : i < 6 := by simp at hi; omega
      exact ⟨(htok i hi6).1, Nat.lt_of_lt_of_le (htok i hi6).2 T315⟩
    s6 := rfl
    sx := fun j => by simp; omega
    cs5 := fun p hp => nomatch hp
    tks := ⟨T815, tz15, Nat.lt_of_lt_of_le zt3 T315⟩ }
  refine partP (rest := []) (n := n) (E := fun _ _ => False) (s := { s with heap := h15, toks := tk15 }) B X T hd hu F15 (cb_drop N15 fun p hp => ?_) hod hdp hC hS hrun ?_
  · rcases List.mem_append.mp hp with hp | hp
    · refine List.mem_append_left _ ?_
      rcases List.mem_cons.mp hp with rfl | hp
      · exact subA _ mpg3
      · rcases List.mem_cons.mp hp with rfl | hp
        · exact subA _ mdpg3
        · exact (List.mem_filter.mp hp).1
    · exact List.mem_append_right _ hp
  intro its' n' σ' turned' b' R' h16 tk16 m16 cells16 F16 N16 S16 hend tz16
  obtain ⟨e1, e2, e3, e4, e5, e6, e7, e8, e9⟩ := endF_facts hend
  subst e1 e2
  obtain ⟨mc16, tt16, CA16, hmc16, htn16⟩ := S16.cells
  obtain ⟨DN', rs', kn', cN1, cN2, cN3⟩ := hC.cN
  obtain ⟨DF', fs', kf', cF1, cF2, cF3⟩ := hC.cF
  obtain ⟨DB', bs', kb', cB1, cB2, cB3⟩ := hC.cB
  obtain ⟨tp', cK1⟩ := hC.cK
  obtain ⟨BK', DD', oD', kvs', u1, u2, u3, u4, b1, b2, b3, b4, b5, b6⟩ := S16.book
  obtain ⟨tm', hm16⟩ := S16.m2
  have hr16 : ∀ p ∈ (pg, accObj dpg its' n') :: (dpg, od) :: R', NK L p := List.forall_mem_cons.mpr ⟨.inl nc_seq, List.forall_mem_cons.mpr ⟨.inl (nc_acc hod), S16.nk⟩⟩
  have sub16 : ∀ p ∈ R', p ∈ (pg, accObj dpg its' n') :: (dpg, od) :: R' := fun p hp => List.mem_cons_of_mem _ (List.mem_cons_of_mem _ hp)
  have mpg16 : (pg, accObj dpg its' n') ∈ (pg, accObj dpg its' n') :: (dpg, od) :: R' := List.mem_cons_self
  have mdpg16 : (dpg, od) ∈ (pg, accObj dpg its' n') :: (dpg, od) :: R' := List.mem_cons_of_mem _ List.mem_cons_self
  generalize (pg, accObj dpg its' n') :: (dpg, od) :: R' = R16 at N16 hr16 sub16 mpg16 mdpg16
  have subB : ∀ p ∈ R15.filter (fun p => decide (p.1 ≠ pg)), p ∈ R16 := fun p hp => sub16 _ (S16.base _ hp)
  refine partQ (s := { s with heap := h16, toks := tk16 }) B X T hd hu F16 N16 CA16 hr16 ((hmc16 _ (by decide) (by decide)).trans cN1) ((hmc16 _ (by decide) (by decide)).trans cB1) htn16 S16.m1 (subB _ cN2) cN3 hRk (subB _ cB2) (cB3.up subB) mpg16 mdpg16 (S16.page.mono sub16) (fun j hj => hC.lead j ((S16.sx j).mp hj)) S16.s6 (fun j hj => (S16.sx j).mp hj) ?_ hR6 ?_
  · intro a j h
    match a, h with
    | 0, h | 1, h | 2, h | 3, h | 4, h | 5, h => simpa using h.symm
    | a + 6, h => simp at h
  intro h17 tk17 F17 N17 tz17
  refine partR (E := fun _ _ => False) (s := { s with heap := h17, toks := tk17 }) B X T hd hu F17 N17 CA16 hr16 ((hmc16 _ (by decide) (by decide)).trans cF1) (subB _ cF2) cF3 fl6 ?_
  intro DW ws kw h18 tk18 m18 mc18 cells18 F18 N18 CA18 hw1 hw2 iW hmk tz18
  have hr18 : ∀ p ∈ (DW, W.listOf ws.toArray kw) :: R16, NK L p := List.forall_mem_cons.mpr ⟨.inl nc_seq, hr16⟩
  refine partS (s := { s with heap := h18, toks := tk18 }) (wl := waysF (freeF rl).length) B X T hd hu F18 N18 CA18 hr18 hw1 ((hw2 _ (by decide)).trans ((hmc16 _ (by decide) (by decide)).trans cK1)) List.mem_cons_self iW (by rw [waysF_len]; omega) (peaksF_le rl) ?_
  intro DU oU kvsU h19 tk19 F19 N19 dU iU ltU tz19
  have hLU : @LT.lt Nat _ L DU := by
    have : L + 1 ∈ cells18.map (·.1) := by
      rw [cells_addr CA18]
      have e : ((cellsFrom (L + 1) lawScope.names [])).map (·.2) = (List.range 19).map (fun i => L + 1 + (18 - i)) := by
        show List.map _ (cellsFrom (L + 1) (lawScope.names) []) = _
        rfl
      rw [e]
      exact List.mem_map.mpr ⟨18, List.mem_range.mpr (by decide), rfl⟩
    obtain ⟨q, hq, e⟩ := List.mem_map.mp this
    have h9 := ltU q (List.mem_append_right _ hq)
    rw [e] at h9
    exact Nat.lt_trans (Nat.lt_succ_self L) h9
  have up19 : ∀ p ∈ R16, p ∈ (DU, oU) :: (DW, W.listOf ws.toArray kw) :: R16 := fun p hp => List.mem_cons_of_mem _ (List.mem_cons_of_mem _ hp)
  refine partT (s := { s with heap := h19, toks := tk19 }) B X T hd hu F19 N19 CA18 (List.forall_mem_cons.mpr ⟨.inl (nc_dict dU), hr18⟩) (ifn ((hmk _ (by decide)).trans b1)) (if_pos rfl) (ifn ((hmk _ (by decide)).trans hm16)) ((hw2 _ (by decide)).trans ((hmc16 _ (by decide) (by decide)).trans cF1)) (up19 _ (sub16 _ b2)) (up19 _ (sub16 _ b3)) List.mem_cons_self b4 dU b5 iU b6 (lo_of X F19 hLU) e3 e4 e5 (up19 _ (subB _ cF2)) (by rw [cF3.length, List.length_map]) fl6 e6 e7 e8 e9 ?_
  intro h20 tk20 F20
  exact hret h20 tk20 _ [] F20 (fun _ h => nomatch h)
end
-- Ent2
section
theorem kr_Ent2 : True := by
  k_with_none
  w_top off
  trivial
open PySem PySem.W PyProof.Rows
local macro_rules | `(tactic| cells_open $x:ident) => `(tactic| skip)
theorem entry_all.tw17238744849647624370 : True := trivial
theorem entry_all.tw2936442729918408781 : True := trivial
theorem entry_all.tw14665918251075380620 : True := trivial
theorem entry_all.tw2452357807376991295 : True := trivial
theorem entry_all.tw3234149224630185235 : True := trivial
theorem entry_all.tw15350141861983521817 : True := trivial
theorem entry_all.tw1456868276888511864 : True := trivial
theorem entry_all.tw6889393027354560002 : True := trivial
theorem entry_all.tw14744476316727673611 : True := trivial
theorem entry_all.tw5618138267168702991 : True := trivial
theorem entry_all.tw8770338951961941675 : True := trivial
theorem entry_all.tw2020650924867575772 : True := trivial
theorem entry_all.tw4476924995172664278 : True := trivial
theorem entry_all.tw11345136438232064048 : True := trivial
theorem entry_all.tw4092178631960240094 : True := trivial
theorem entry_all.tw375777285600585067 : True := trivial
theorem entry_all.tw17976973391873369721 : True := trivial
theorem entry_all.tw1315633616312172032 : True := trivial
theorem entry_all.tw6501276344013509857 : True := trivial
theorem entry_all.tw1418235757981008026 : True := trivial
theorem entry_all.tw5716346246924541906 : True := trivial
theorem entry_all.tw798366037161995342 : True := trivial
theorem entry_all.tw11301819309013020704 : True := trivial
theorem entry_all.tw9564879891105207842 : True := trivial
theorem entry_all.tw4215113373571595240 : True := trivial
theorem entry_all.tw8140705927388985143 : True := trivial
theorem entry_all.tw1384376599822934149 : True := trivial
theorem entry_all.tw14162712365414998807 : True := trivial
theorem entry_all.tw11681213732321381936 : True := trivial
theorem entry_all.tw7135093893172299850 : True := trivial
theorem entry_all.tw18287850919504728584 : True := trivial
theorem entry_all.tw9266764294264294528 : True := trivial
theorem entry_all.tw3363510793731633981 : True := trivial
theorem entry_all.tw6984164784502385722 : True := trivial
theorem entry_all.tw12963988283217381003 : True := trivial
theorem entry_all.tw4225605597867229435 : True := trivial
theorem entry_all.tw12172395974777460558 : True := trivial
theorem entry_all.tw5712314422553925678 : True := trivial
theorem entry_all.tw11734639441200561117 : True := trivial
theorem entry_all.tw7277866762902110327 : True := trivial
theorem entry_all.tw4010653782933522926 : True := trivial
theorem entry_all.tw4449725791027417664 : True := trivial
theorem entry_all.tw8087988357120111833 : True := trivial
theorem entry_all.tw14248056556083975035 : True := trivial
theorem entry_all.tw6963835839848082170 : True := trivial
theorem entry_all.tw16941368455654192254 : True := trivial
theorem entry_all.tw11094280058271424571 : True := trivial
theorem entry_all.tw9041329200152431141 : True := trivial
theorem entry_all.tw5385367830811832594 : True := trivial
theorem entry_all.tw6745432751129146776 : True := trivial
theorem entry_all.tw5491770425219869908 : True := trivial
theorem entry_all.tw9508394634177687479 : True := trivial
theorem entry_all.tw7846953131933425216 : True := trivial
theorem entry_all.tw16603184096096166597 : True := trivial
theorem entry_all.tw12333111436626330958 : True := trivial
theorem entry_all.tw10281600183121600916 : True := trivial
theorem entry_all.tw10939880187864617696 : True := trivial
theorem entry_all.tw11769779746583915611 : True := trivial
theorem entry_all.tw5408045773098949880 : True := trivial
theorem entry_all.tw2684598468571094770 : True := trivial
theorem entry_all.tw10242526100774952035 : True := trivial
theorem entry_all.tw17438803885861781497 : True := trivial
theorem entry_all.tw7392317789299494159 : True := trivial
theorem entry_all.tw10173582004999148931 : True := trivial
theorem entry_all.tw2502739188754475918 : True := trivial
theorem entry_all.tw16524223965971316761 : True := trivial
theorem entry_all.tw14053782937214995733 : True := trivial
theorem entry_all.tw1963317770116264399 : True := trivial
theorem entry_all.tw6788405918671040664 : True := trivial
theorem entry_all.tw7624782128141658232 : True := trivial
theorem entry_all.tw1511244566864666152 : True := trivial
theorem entry_all.tw1052229633853331993 : True := trivial
theorem entry_all.tw18365158220111567870 : True := trivial
theorem entry_all.tw9373422804566500521 : True := trivial
theorem entry_all.tw11715004455793090527 : True := trivial
theorem entry_all.tw9432437341794337769 : True := trivial
theorem entry_all.tw10523275064692791260 : True := trivial
theorem entry_all.tw17855033028821573750 : True := trivial
theorem entry_all.tw14680728930584593232 : True := trivial
theorem entry_all.tw18341850370781357331 : True := trivial
theorem entry_all.tw12994676739312599426 : True := trivial
theorem entry_all.tw576924641057822708 : True := trivial
theorem entry_all.tw7120323793744218832 : True := trivial
theorem entry_all.tw18284001306654916335 : True := trivial
theorem entry_all.tw1185094769707043141 : True := trivial
theorem entry_all.tw8524542569621412882 : True := trivial
theorem entry_all.tw2478651246537142754 : True := trivial
theorem entry_all.tw3600251000031501153 : True := trivial
theorem entry_all.tw14240986167971703429 : True := trivial
theorem entry_all.tw8333359603266913259 : True := trivial
theorem entry_all.tw12577186430018127870 : True := trivial
theorem entry_all.tw15341869253934328840 : True := trivial
theorem entry_all.tw2102411575126050944 : True := trivial
theorem entry_all.tw766596490720752843 : True := trivial
theorem entry_all.tw16916928482020241566 : True := trivial
theorem entry_all.tw2650079208181255874 : True := trivial
theorem entry_all.tw2630196509197441494 : True := trivial
theorem entry_all.tw16866253094023223492 : True := trivial
theorem entry_all.tw3132490530623672153 : True := trivial
theorem entry_all.tw11012197686361549674 : True := trivial
theorem entry_all.tw4142497813582996605 : True := trivial
theorem entry_all.tw5867199483371001471 : True := trivial
theorem entry_all.tw7470175009015010919 : True := trivial
theorem entry_all.tw1258253280843890002 : True := trivial
theorem entry_all.tw8646226382851450661 : True := trivial
theorem entry_all.tw2297945685832381139 : True := trivial
theorem entry_all.tw12618582928209345624 : True := trivial
theorem entry_all.tw7273058119364370135 : True := trivial
theorem entry_all.tw6413482894552183209 : True := trivial
theorem entry_all.tw14051376821660763868 : True := trivial
theorem entry_all.tw16317486013956245869 : True := trivial
theorem entry_all.tw17603910051213122401 : True := trivial
theorem entry_all.tw8325195366649677832 : True := trivial
theorem entry_all.tw11772481630425733177 : True := trivial
theorem entry_all.tw2725903807099339593 : True := trivial
theorem entry_all.tw7361025421351691091 : True := trivial
theorem entry_all.tw14052541761196074455 : True := trivial
theorem entry_all.tw10452792836079342212 : True := trivial
theorem entry_all.tw8857395579589666116 : True := trivial
theorem entry_all.tw3378552077637700641 : True := trivial
theorem entry_all.tw12654585552939173318 : True := trivial
theorem entry_all.tw9169561275577222598 : True := trivial
theorem entry_all.tw4566097213896824201 : True := trivial
theorem entry_all.tw8104290599466008395 : True := trivial
theorem entry_all.tw16706494785566016500 : True := trivial
theorem entry_all.tw3076552755604847327 : True := trivial
theorem entry_all.tw16090534180103299775 : True := trivial
theorem entry_all.tw9182171238910464760 : True := trivial
theorem entry_all.tw12960260396040870128 : True := trivial
theorem entry_all.tw17159647213351082620 : True := trivial
theorem entry_all.tw11370522267786905319 : True := trivial
theorem entry_all.tw12436158610418934032 : True := trivial
theorem entry_all.tw16879179300315531523 : True := trivial
theorem entry_all.tw5380430842269461577 : True := trivial
theorem entry_all.tw14716246416357851175 : True := trivial
theorem entry_all.tw16715804880404535953 : True := trivial
theorem entry_all.tw13969496848704835821 : True := trivial
theorem entry_all.tw18334277526511072086 : True := trivial
theorem entry_all.tw6058236958810628173 : True := trivial
theorem entry_all.tw14442230266956399634 : True := trivial
theorem entry_all.tw3182507735178779948 : True := trivial
theorem entry_all.tw18100922511438366107 : True := trivial
theorem entry_all.tw1670656889150917450 : True := trivial
theorem entry_all.tw3431893007270501622 : True := trivial
theorem entry_all.tw6340514123012413800 : True := trivial
theorem entry_all.tw14350069488888463009 : True := trivial
theorem entry_all.tw15392889129769109281 : True := trivial
theorem entry_all.tw13230790545194039314 : True := trivial
theorem entry_all.tw3429977081736513997 : True := trivial
theorem entry_all.tw4480139238868103770 : True := trivial
theorem entry_all.tw472777492441964728 : True := trivial
theorem entry_all.tw14919369573042848678 : True := trivial
theorem entry_all.tw11525686500840653802 : True := trivial
theorem entry_all.tw2885567409071704755 : True := trivial
theorem entry_all.tw13455050757607236036 : True := trivial
theorem entry_all.tw7178871874001679188 : True := trivial
theorem entry_all.tw2992123478068987311 : True := trivial
theorem entry_all.tw13327478723312598855 : True := trivial
theorem entry_all.tw5972977732037999218 : True := trivial
theorem entry_all.tw9139613762843255004 : True := trivial
theorem entry_all.tw3188009344006080461 : True := trivial
theorem entry_all.tw1468013419921301095 : True := trivial
theorem entry_all.tw2776699569559896630 : True := trivial
theorem entry_all.tw3533498929210565274 : True := trivial
theorem entry_all.tw3832193241874848555 : True := trivial
theorem entry_all.tw5318684780338492723 : True := trivial
theorem entry_all.tw13925923451518201553 : True := trivial
theorem entry_all.tw10410385551950821784 : True := trivial
theorem entry_all.tw1907713171314929418 : True := trivial
theorem entry_all.tw16436200611861534407 : True := trivial
theorem entry_all.tw17588944770397003764 : True := trivial
theorem entry_all.tw11574960668086610248 : True := trivial
theorem entry_all.tw729758477700514388 : True := trivial
theorem entry_all.tw536454698425520903 : True := trivial
theorem entry_all.tw9290640949163051988 : True := trivial
theorem entry_all.tw12536825778021446204 : True := trivial
theorem entry_all.tw5901376460835130792 : True := trivial
theorem entry_all.tw4464573996677723222 : True := trivial
theorem entry_all.tw18009024372475377331 : True := trivial
theorem entry_all.tw17408172331991542652 : True := trivial
theorem entry_all.tw17775293063047947591 : True := trivial
theorem entry_all.tw5840649750050421634 : True := trivial
theorem entry_all.tw5316019685907998335 : True := trivial
theorem entry_all.tw10495462628988173156 : True := trivial
theorem entry_all.tw4110324774019023670 : True := trivial
theorem entry_all.tw763369849911535175 : True := trivial
theorem entry_all.tw325033988770809636 : True := trivial
theorem entry_all.tw2717620139134948037 : True := trivial
theorem entry_all.tw7661110846784766121 : True := trivial
theorem entry_all.tw5199744312192690882 : True := trivial
theorem entry_all.tw11351773221393401582 : True := trivial
theorem entry_all.tw7669884962958262543 : True := trivial
theorem entry_all.tw17504843457412693148 : True := trivial
theorem entry_all.tw3937797799250821940 : True := trivial
theorem entry_all.tw278307675936525220 : True := trivial
theorem entry_all.tw7155019826835956122 : True := trivial
theorem entry_all.tw3382697821974248041 : True := trivial
theorem entry_all.tw11995290568959247169 : True := trivial
theorem entry_all.tw17667550946564918272 : True := trivial
theorem entry_all.tw11484509533503997341 : True := trivial
theorem entry_all.tw13170812849568779784 : True := trivial
theorem entry_all.tw18016493932065200164 : True := trivial
theorem entry_all.tw18389105008047957296 : True := trivial
theorem entry_all.tw1084966877973703921 : True := trivial
theorem entry_all.tw8269844820930766303 : True := trivial
theorem entry_all.tw6919151261406038798 : True := trivial
theorem entry_all.tw1964196010532319019 : True := trivial
theorem entry_all.tw789539406563370423 : True := trivial
theorem entry_all.tw8277535733832304045 : True := trivial
theorem entry_all.tw2158405142993712232 : True := trivial
theorem entry_all.tw13536718767314312329 : True := trivial
theorem entry_all.tw1615365909824682127 : True := trivial
theorem entry_all.tw9958818219935741299 : True := trivial
theorem entry_all.tw14239756085037711946 : True := trivial
theorem entry_all.tw7329000632132925056 : True := trivial
theorem entry_all.tw12140487224244103054 : True := trivial
theorem entry_all.tw1056120009705415458 : True := trivial
theorem entry_all.tw12500523906561849779 : True := trivial
theorem entry_all.tw493269078220935092 : True := trivial
theorem entry_all.tw8237332686207227889 : True := trivial
theorem entry_all.tw7386981330431015925 : True := trivial
theorem entry_all.tw270452055368275931 : True := trivial
theorem entry_all.tw7634433431456356577 : True := trivial
theorem entry_all.tw7265485328299230116 : True := trivial
theorem entry_all.tw9620795862374774194 : True := trivial
theorem entry_all.tw13443131340806645982 : True := trivial
theorem entry_all.tw9563552224008921499 : True := trivial
theorem entry_all.tw10534447028936292516 : True := trivial
theorem entry_all.tw13444764598300801227 : True := trivial
theorem entry_all.tw15455390340737836565 : True := trivial
theorem entry_all.tw2368496502805874010 : True := trivial
theorem entry_all.tw9573043752033616222 : True := trivial
theorem entry_all.tw13714863509797847525 : True := trivial
theorem entry_all.tw6684733466960928973 : True := trivial
theorem entry_all.tw11954522590313852421 : True := trivial
theorem entry_all.tw10354540026100953142 : True := trivial
theorem entry_all.tw2349751328357548262 : True := trivial
theorem entry_all.tw11181036431234301841 : True := trivial
theorem entry_all.tw309684605900748864 : True := trivial
theorem entry_all.tw15296948506410718896 : True := trivial
theorem entry_all.tw5266351106929962553 : True := trivial
theorem entry_all.tw11563633081019670415 : True := trivial
theorem entry_all.tw1161245392131778925 : True := trivial
theorem entry_all.tw13291550921714807608 : True := trivial
theorem entry_all.tw7720870856681923857 : True := trivial
theorem entry_all.tw2947040586201600688 : True := trivial
theorem entry_all.tw7267496367761485061 : True := trivial
theorem entry_all.tw13654508687140773242 : True := trivial
theorem entry_all.tw5277379958853892917 : True := trivial
theorem entry_all.tw608225363272206657 : True := trivial
theorem entry_all.tw4416857304743062549 : True := trivial
theorem entry_all.tw9786103647257062160 : True := trivial
theorem entry_all.tw10064785005211992478 : True := trivial
theorem entry_all.tw5764329708950883223 : True := trivial
theorem entry_all.tw1838840343062740437 : True := trivial
theorem entry_all.tw2612432435931205904 : True := trivial
theorem entry_all.tw6784651106687867327 : True := trivial
theorem entry_all.tw16093588938011736595 : True := trivial
theorem entry_all.tw6694819006674495399 : True := trivial
theorem entry_all.tw8746665484144608102 : True := trivial
theorem entry_all.tw16569736915780703401 : True := trivial
theorem entry_all.tw6474617567444975079 : True := trivial
theorem entry_all.tw13654535609339178751 : True := trivial
theorem entry_all.tw12143156843475226891 : True := trivial
theorem entry_all.tw15852189598595443518 : True := trivial
theorem entry_all.tw5595324797450633541 : True := trivial
theorem entry_all.tw9022717911070615874 : True := trivial
theorem entry_all.tw1105304091310206908 : True := trivial
theorem entry_all.tw532125047513373129 : True := trivial
theorem entry_all.tw13040441787140160755 : True := trivial
theorem entry_all.tw3662071374420729513 : True := trivial
theorem entry_all.tw11140587079899588214 : True := trivial
theorem entry_all.tw1876194020105087860 : True := trivial
theorem entry_all.tw9212428806380867520 : True := trivial
theorem entry_all.tw18435588830540329397 : True := trivial
theorem entry_all.tw2868774976026082705 : True := trivial
theorem entry_all.tw6469042420238299583 : True := trivial
theorem entry_all.tw15041349090591482254 : True := trivial
theorem entry_all.tw3051911202894469202 : True := trivial
set_option Elab.async true in
theorem entry_all : Challenge.rw_xg0084_01.Holds := by
  w_on; o_law; k_head; (case hw => w_witness2)
  k_go0
  rename_i hI _ _ _ K0 _ _ _ cells F N0 X0
  (try k_fold)
  have hlen := hI.length
  refine law_all K0 F (by assumption) N0 (by assumption) X0 (by decide) (by decide) (by assumption) hI (by omega) rfl ?_
  intro h' tk' m' news' F' N'
  k_steps
end
end Mine
theorem PySem.Challenge.cw_xg0084_01_holds : PySem.Challenge.rw_xg0084_01.Holds :=
  Mine.entry_all
