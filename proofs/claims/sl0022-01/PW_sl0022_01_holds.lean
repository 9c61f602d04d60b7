import PyProof.Rows.All
import Wide.All
import OpenK.AllK
import Wide.FinOn
import Lean
import PySem.Challenge.RW_sl0022_01
set_option Elab.async false
set_option maxRecDepth 100000
set_option maxHeartbeats 0
set_option rowWalk.seconds 0
set_option linter.all false
namespace Mine
section
open PySem PySem.W PyProof.Rows
-- with small instances alone the head is checked at once, in place of pieces: a fifth of the room
set_option synthInstance.maxSize 1 in
open_top hd for PySem.Challenge.rw_sl0022_01
theorem fill : PySem.Challenge.rw_sl0022_01 = PySem.Challenge.rw_sl0022_01 ∧ hd.heap_39 = hd.heap_39 → True := by
  w_top off
  k_fill
  exact fun _ => trivial
end
open PySem PySem.W PyProof.Rows
local macro_rules | `(tactic| walk_at $s:str) => `(tactic| k_extra $s)
local macro_rules | `(tactic| k_all) => `(tactic| (intro pAll hAll; refine neN ?_; have hAll' := (by assumption : ∀ p ∈ _, @LT.lt Nat _ p.1 _) pAll hAll; omega))
section
open PySem PySem.W PyProof.Rows

noncomputable abbrev PR : Program := PySem.Challenge.pw_sl0022_01
/-- a claim about one call of a function of the text -/
noncomputable def Tells (w : World) (p : Program) (loose : List Str) (mean : ExcName → Option Value) (mg mb : Str → Option Value) (f : Addr) (vs : List Value) (news : List (Addr × Obj)) (dep uni : Nat)
    (Post : Value → Heap → Heap → Addr → (Str → Option Value) → Prop) : Prop :=
  ∀ (dp un : Nat) (gd : Option (List Code)) (cn : Str) (cs : Scope) (a : Addr) (ccd : Value) (cl : List (Str × Addr)) (outer : List Env) (A₀ : Around) (base h₀ : Heap) (L : Addr) (m : Str → Option Value) (s : Shared) (Q E : Value → Shared → Prop),
    Below A₀ base outer h₀ → Fr h₀ L s.heap m → (hd.heap_39 w.params).In h₀ → News h₀ L s.heap news → Top p loose mean mg mb h₀ → cs.kind = .function →
    dp + dep < recursionLimit → un + uni < cLine →
    (∀ (v : Value) (h' : Heap) (tk' : Nat), Post v h₀ h' L m → Q v { s with heap := h', toks := tk' }) →
    wpAny (model PR w) (ktrTop dp un gd cn cs L a ccd cl outer) (call (.ref f) vs) Q E s
end
section
open PySem PySem.W PyProof.Rows
noncomputable def bodyOf : Stmt → List Stmt
  | .FunctionDef _ _ b _ _ _ _ _ _ _ => b
  | .For _ _ b _ _ => b
  | .While _ b _ _ => b
  | _ => []
noncomputable def scopeOf : Stmt → Scope
  | .FunctionDef _ _ _ _ _ _ sc _ _ _ => sc
  | _ => default
noncomputable def nth (l : List Stmt) (i : Nat) : Stmt := l.getD i (.Pass ⟨0, 0, 0, 0⟩)
noncomputable def topAt (i : Nat) : Stmt := nth PR.main.body i
noncomputable def sqFor : List Stmt := bodyOf (nth (bodyOf (topAt 22)) 1)
noncomputable def sqSc : Scope := scopeOf (topAt 22)
noncomputable def wdFor : List Stmt := bodyOf (nth (bodyOf (topAt 23)) 1)
noncomputable def wdSc : Scope := scopeOf (topAt 23)
noncomputable abbrev wdEnv (sc : Scope) (L : Addr) : Env := envOf (Str.ofString "_law_words") sc L 110 (.ref 109)
noncomputable def lvFor : List Stmt := bodyOf (nth (bodyOf (topAt 19)) 15)
noncomputable def lvSc : Scope := scopeOf (topAt 19)
noncomputable abbrev lvEnv (sc : Scope) (L : Addr) : Env := envOf (Str.ofString "_levenshtein_distance") sc L 91 (.ref 90)
end
section
open PySem PySem.Spec PySem.Calls PySem.W PyProof.Rows PyProof.Rows.LCg
theorem apart2 {I D : Nat} (h : I < D) : I ≠ D ∧ I ≠ D + 1 ∧ I ≠ D + 2 := ⟨by omega, by omega, by omega⟩
theorem those3 (D : Nat) : D + 1 ≠ D + 2 ∧ D + 1 ≠ D ∧ D + 2 ≠ D := ⟨by omega, by omega, by omega⟩
theorem gt_ne {a b : Nat} (h : a < b) : b ≠ a := by omega
noncomputable abbrev cellO (v : Option Value) : Obj := { cls := .type "cell", data := .cell v }
noncomputable abbrev nsO : Obj := { cls := .type "dict", data := .dict #[] }
theorem nsO_ns {h : Heap} {C : Addr} (e : h.get? C = some nsO) : h.Ns C fun _ => none := ⟨nsO, #[], 0, e, rfl, fun _ he => by simp at he, fun _ => rfl⟩
section
variable {prog : Program} {w : World} {A : Around} {E : Value → Shared → Prop} {s : Shared} {h₀ : Heap} {L : Addr} {m : Str → Option Value} {env : Env} {news : List (Addr × Obj)}
/-- where a block's own objects lie: behind all that stood, ahead of all that its elements make -/
structure Lie (I D C : Addr) (new news : List (Addr × Obj)) : Prop where
  below : ∀ p ∈ news, @LT.lt Nat _ p.1 I
  id : @LT.lt Nat _ I D
  dc : @LT.lt Nat _ D C
  above : ∀ p ∈ new, @LT.lt Nat _ C p.1
/-- the end of a turn (its list is not yet grown) -/
noncomputable def LEnd (h₀ : Heap) (L : Addr) (m : Str → Option Value) (news : List (Addr × Obj)) (s : Shared) (own : List (Addr × Obj)) (D C : Addr) (oD : Obj) (rest : Value → List (Addr × Obj) → Prop) (y : Value) (s' : Shared) : Prop :=
  ∃ h' tk new, s' = { s with heap := h', toks := tk } ∧ Fr h₀ L h' m ∧ News h₀ L h' (own ++ (D, oD) :: (new ++ news)) ∧ (∀ p ∈ new, @LT.lt Nat _ C p.1) ∧ rest y new
/-- what is left of a block: k turns -/
noncomputable def LRest (prog : Program) (w : World) (A : Around) (h₀ : Heap) (L : Addr) (m : Str → Option Value) (env : Env) (elt : Expr) (ct : Option Expr) (x : Str) (scope : Scope) (cl : List (Str × Addr)) (news : List (Addr × Obj)) (s : Shared) (P : Nat → Value → Prop)
    (Fin : List Value → List (Addr × Obj) → Prop) : Nat → Nat → List Value → List (Addr × Obj) → Prop
  | 0, _, ys, new => Fin ys new
  | k + 1, i, ys, new => ∀ v I oI C oC D mm h tk (E' : Value → Shared → Prop), P i v → NsObj oC mm → mm x = some v → Fr h₀ L h m → News h₀ L h ((I, oI) :: (C, oC) :: (D, lst ys) :: (new ++ news)) → Lie I D C new news →
      match ct with
      | none => wpAny (model prog w) A (eval elt (compEnvC scope cl C env)) (LEnd h₀ L m news { s with heap := h, toks := tk } [(I, oI), (C, oC)] D C (lst ys) (fun y new => LRest prog w A h₀ L m env elt ct x scope cl news s P Fin k (i + 1) (ys ++ [y]) new)) E' { s with heap := h, toks := tk }
      | some c => wpAny (model prog w) A (isTrue c (compEnvC scope cl C env) (eval c (compEnvC scope cl C env))) (fun ok s' => if ok = true then
          wpAny (model prog w) A (eval elt (compEnvC scope cl C env)) (LEnd h₀ L m news { s with heap := h, toks := tk } [(I, oI), (C, oC)] D C (lst ys) (fun y new => LRest prog w A h₀ L m env elt ct x scope cl news s P Fin k (i + 1) (ys ++ [y]) new)) E' s'
          else LEnd h₀ L m news { s with heap := h, toks := tk } [(I, oI), (C, oC)] D C (lst ys) (fun _ new => LRest prog w A h₀ L m env elt ct x scope cl news s P Fin k (i + 1) ys new) .none s') E' { s with heap := h, toks := tk }

theorem newEnv_C {M : Model} {scope : Scope} {cl : List (Str × Addr)} {x : Str} {Q : Env → Shared → Prop} (hcells : ∀ n, cellsFrom n scope.names cl = (x, n) :: cl) (hpush : ∀ h, pushCells h scope.names = h.push (cellO none))
    (h : Q { scope, locals := s.heap.objs.size, globals := env.globals, cells := (x, s.heap.objs.size + 1) :: cl, qual := env.qual, func := none, code := env.code, frame := env.frame, builtins := env.builtins }
      { s with heap := (s.heap.push { cls := .type "dict", data := .dict #[] }).push (cellO none) }) :
    wpAny M A (newFunctionEnv scope env.globals cl [] env.qual none .none (some env)) Q E s := by
  simp only [newFunctionEnv, Option.isSome_some, if_true]
  refine wpAny_bind (wpAny_alloc ?_)
  refine wpAny_bind (wpAny_layCells _ (fun name kind cells => by cases hkc : kind == NameKind.cell <;> simp [hkc]) _ _ _ _ ?_)
  dsimp only
  rw [hcells, hpush, Heap.size_push]
  exact wpAny_bind (by rw [List.forIn_nil]; exact wpAny_pure (wpAny_pure h))

theorem store_C {M : Model} {env : Env} {name : Str} {c : Addr} {o : Obj} {v₀ : Option Value} {v : Value} {Q : Unit → Shared → Prop} (hk : env.scope.kind = .function) (hl : env.kindOf name = some .cell)
    (hc : env.cells.lookup name = some c) (ho : s.heap.get? c = some o) (hd : o.data = .cell v₀)
    (h : ∀ h', h'.get? c = some { o with data := .cell (some v) } → Heap.SameBut c s.heap h' → Q () { s with heap := h' }) : wpAny M A (storeName env name v) Q E s := by
  unfold storeName
  simp only [hl, hk]
  refine wpAny_bind (wpAny_cellOf hc ?_)
  unfold cellSet
  refine wpAny_bind (wpAny_load ho ?_)
  rw [hd]
  exact wpAny_update ho (h _ (Heap.get?_update_self _ ho rfl) (Heap.SameBut.update ..))

theorem block_L {elt iter : Expr} {ct : Option Expr} {x : Str} {px : Pos} {scope : Scope} {cl : List (Str × Addr)} {pos : Pos} {s₂ : Shared} {I : Addr} {fp : List Addr} {n : Nat} {P : Nat → Value → Prop} {St : Nat → Heap → Prop}
    {Fin : List Value → List (Addr × Obj) → Prop} {RR : Value → Addr → Result → Shared → Prop}
    (W : Walks prog w A I fp [I] n P St) (hsz : n ≤ sizeLine) (hIo : ∀ i h, St i h → ∃ o, h.get? I = some o)
    (hSt : ∀ i h h' o, St i h → h.get? I = some o → h'.get? I = some o → (∀ b o, h₀.get? b = some o → h'.get? b = some o) → News h₀ L h' news → St i h')
    (hcell : ∀ y ∈ scope.names, y.2 ≠ .cell) (hkind : scope.kind = .function) (hx : scope.names.lookup x = some .local) (hst : St 0 s₂.heap) (hfp : ∀ b ∈ fp, b < s₂.heap.objs.size)
    (F : Fr h₀ L s₂.heap m) (N : News h₀ L s₂.heap news) (hIL : L ≠ I) (hI₀ : h₀.get? I = none) (off : ∀ p ∈ news, @LT.lt Nat _ p.1 I)
    (R : LRest prog w A h₀ L m env elt ct x scope cl news s₂ P Fin n 0 [] [])
    (hRR : ∀ D C h tk oC mm ys new, Fr h₀ L h m → NsObj oC mm → News h₀ L h ((C, oC) :: (D, lst ys) :: (new ++ news)) → (∀ p ∈ news, @LT.lt Nat _ p.1 D) → @LT.lt Nat _ D C → (∀ p ∈ new, @LT.lt Nat _ C p.1) → Fin ys new → RR (.ref D) C (.ok .next) { s₂ with heap := h, toks := tk }) :
    wpAny (model prog w) A (newList []) (fun acc s₃ => wpAny (model prog w) A (newFunctionEnv scope env.globals cl [] env.qual none .none (some env)) (fun cenv s₄ =>
      codeAny (model prog w) A (.compStart (.ListComp elt [⟨.Name x px, iter, ct.toList, 0⟩] scope pos) 0 (.ref I) acc { cenv with scope := relabel scope env }) (RR acc cenv.locals) s₄) E s₃) E s₂ := by
  refine wpAny_newObj_type (wpAny_newFunctionEnv hcell (by intro y hy; simp at hy) (fun h₁ hns₁ hsb₁ => ?_) hkind)
  dsimp only at hns₁ hsb₁ ⊢
  rw [Heap.size_push] at hns₁ hsb₁ ⊢
  generalize hD : s₂.heap.objs.size = D at hns₁ hsb₁ ⊢
  have fresh : ∀ a, D ≤ a → h₀.get? a = none := fun a ha => by
    cases e : h₀.get? a with
    | none => rfl
    | some o' => have := Heap.lt_size (F.keep a o' e); rw [hD] at this; exact absurd this (Nat.not_lt.mpr ha)
  have hLlt : L < D := hD ▸ F.ns.lt
  have hIlt : I < D := hD ▸ hfp I (W.sub I (List.mem_singleton.mpr rfl))
  obtain ⟨iD, iC, -⟩ := apart2 hIlt
  obtain ⟨lD, lC, -⟩ := apart2 hLlt
  obtain ⟨-, cD, -⟩ := those3 D
  have fD := fresh D (Nat.le_refl D)
  have fC := fresh (D + 1) (Nat.le_add_right D 1)
  have fpD : ∀ b, b ∈ fp → b ≠ D ∧ b ≠ D + 1 ∧ b ≠ D + 2 := fun b hb => apart2 (hD ▸ hfp b hb)
  have nlt : ∀ p ∈ news, p.1 < D := fun p hp => Nat.lt_trans (off p hp) hIlt
  have old : ∀ b o, s₂.heap.get? b = some o → h₁.get? b = some o := fun b o e => hsb₁.extBut b o (by have := Heap.lt_size e; rw [hD] at this; exact (apart2 this).2.1) (Heap.get?_push_of_some _ (Heap.get?_push_of_some _ e))
  have gD : h₁.get? D = some (lst []) := hsb₁.extBut _ _ (Ne.symm cD) (Heap.get?_push_of_some _ (by rw [← hD]; exact Heap.get?_push_size _ rfl))
  have hst₁ : St 0 h₁ := W.frame _ _ _ hst fun b _ o e => old b o e
  obtain ⟨oI₀, gI₀⟩ := hIo _ _ hst₁
  obtain ⟨oC₀, gC₀, hoC₀⟩ := ns_obj hns₁
  have loop : ∀ s₃ : Shared, s₃ = { s₂ with heap := h₁, toks := s₂.toks + ([] : List (Str × Value)).length } →
      codeAny (model prog w) A (.compLoop (.ListComp elt [⟨.Name x px, iter, ct.toList, 0⟩] scope pos) 0 (.ref I) (.ref D) (compEnvC scope cl (D + 1) env)) (RR (.ref D) (D + 1)) s₃ := by
    rintro s₃ rfl
    refine codeAny_compLoop_tests
      (fun k s' => ∃ h' tk i ys oI oC mm new, s' = { s₂ with heap := h', toks := tk } ∧ i ≤ n ∧ k = n + 1 - i ∧ ys.length ≤ i ∧ St i h' ∧ NsObj oC mm ∧ Fr h₀ L h' m ∧
        News h₀ L h' ((I, oI) :: (D + 1, oC) :: (D, lst ys) :: (new ++ news)) ∧ (∀ p ∈ new, @LT.lt Nat _ (D + 1) p.1) ∧ LRest prog w A h₀ L m env elt ct x scope cl news s₂ P Fin (n - i) i ys new) ?_ (n + 1)
      ⟨h₁, _, 0, [], oI₀, oC₀, _, [], rfl, Nat.zero_le _, rfl, Nat.le_refl _, hst₁, hoC₀, F.keeps old, ?_, (fun _ hp => nomatch hp), R⟩
    · rintro k s' ⟨h', tk, i, ys, oI, oC, mm, new, rfl, hi, rfl, hyl, hst', hoC, F', N', abv, R'⟩
      have offA : ∀ p ∈ new ++ news, p.1 ≠ I ∧ p.1 ≠ D + 1 ∧ p.1 ≠ D := fun p hp => by
        rcases List.mem_append.mp hp with hp | hp
        · have h1 := abv p hp
          exact ⟨gt_ne (Nat.lt_trans hIlt (Nat.lt_of_succ_lt h1)), gt_ne h1, gt_ne (Nat.lt_of_succ_lt h1)⟩
        · exact ⟨Nat.ne_of_lt (off p hp), (apart2 (nlt p hp)).2.1, (apart2 (nlt p hp)).1⟩
      have sub : ∀ {p}, p ∈ new ++ news → p ∈ ((I, oI) :: (D + 1, oC) :: (D, lst ys) :: (new ++ news)) := fun hp => List.mem_cons_of_mem _ (List.mem_cons_of_mem _ (List.mem_cons_of_mem _ hp))
      by_cases hlt : i < n
      · obtain ⟨j, hj⟩ : ∃ j, n - i = j + 1 := ⟨n - i - 1, by omega⟩
        rw [hj] at R'
        refine W.item i _ _ _ hlt hst' fun v h₂ tk₂ hPv hst₂ hk₂ => ?_
        have kp : ∀ p ∈ ((I, oI) :: (D + 1, oC) :: (D, lst ys) :: (new ++ news)), p.1 ≠ I → h₂.get? p.1 = some p.2 := fun p hp hne => hk₂ _ _ (by simpa using hne) (N' p hp).1
        have zC : h₂.get? (D + 1) = some oC := kp (D + 1, oC) (by simp) (Ne.symm iC)
        refine wpAny_assign_Name (wpAny_storeName_local (lookup_relabel_local hx) (hoC.ns zC) (fun h₃ hn₃ hs₃ => ?_) (by simp [compEnvC, relabel, hkind]))
        have hst₃ : St (i + 1) h₃ := W.frame _ _ _ hst₂ fun b hb o e => hs₃.extBut b o (fpD b hb).2.1 e
        obtain ⟨oI', heI⟩ := hIo _ _ hst₃
        obtain ⟨oC', heC, hoC'⟩ := ns_obj hn₃
        have F₃ : Fr h₀ L h₃ m := (fr_but F' hk₂ hIL hI₀).change hs₃ (Ne.symm lC) fC
        have N₃ : News h₀ L h₃ ((I, oI') :: (D + 1, oC') :: (D, lst ys) :: (new ++ news)) := fun p hp => by
          rcases List.mem_cons.mp hp with rfl | hp
          · exact ⟨heI, Ne.symm hIL, hI₀⟩
          rcases List.mem_cons.mp hp with rfl | hp
          · exact ⟨heC, Ne.symm lC, fC⟩
          rcases List.mem_cons.mp hp with rfl | hp
          · exact ⟨hs₃.extBut _ _ (Ne.symm cD) (kp (D, lst ys) (by simp) (Ne.symm iD)), Ne.symm lD, fD⟩
          · exact ⟨hs₃.extBut _ _ (offA p hp).2.1 (kp p (sub hp) (offA p hp).1), (N' p (sub hp)).2⟩
        have turn := R' v I oI' (D + 1) oC' D _ h₃ (tk₂ + 1) (notedBy (model prog w) A (compEnvC scope cl (D + 1) env) fun e s' => RR (.ref D) (D + 1) (.error e) s') hPv hoC' (by simp) F₃ N₃ ⟨off, hIlt, Nat.lt_succ_self D, abv⟩
        have close : ∀ (y : Value) (ys' : List Value) (s₄ : Shared), (LEnd h₀ L m news { s₂ with heap := h₃, toks := tk₂ + 1 } [(I, oI'), (D + 1, oC')] D (D + 1) (lst ys) (fun _ new => LRest prog w A h₀ L m env elt ct x scope cl news s₂ P Fin j (i + 1) ys' new) y s₄) →
            ∃ h₄ tk₄ new₄, s₄ = { s₂ with heap := h₄, toks := tk₄ } ∧ Fr h₀ L h₄ m ∧ St (i + 1) h₄ ∧ News h₀ L h₄ ((I, oI') :: (D + 1, oC') :: (D, lst ys) :: (new₄ ++ news)) ∧ (∀ p ∈ new₄, @LT.lt Nat _ (D + 1) p.1) ∧ LRest prog w A h₀ L m env elt ct x scope cl news s₂ P Fin j (i + 1) ys' new₄ := by
          rintro y ys' s₄ ⟨h₄, tk₄, new₄, rfl, F₄, N₄, abv₄, R₄⟩
          have N₄' : News h₀ L h₄ ((I, oI') :: (D + 1, oC') :: (D, lst ys) :: (new₄ ++ news)) := N₄
          exact ⟨h₄, tk₄, new₄, rfl, F₄, hSt _ _ _ _ hst₃ heI (N₄' (I, oI') (by simp)).1 F₄.keep (fun p hp => N₄' p (by simp [hp])), N₄', abv₄, R₄⟩
        have grow : ∀ (y : Value) (s₄ : Shared), (LEnd h₀ L m news { s₂ with heap := h₃, toks := tk₂ + 1 } [(I, oI'), (D + 1, oC')] D (D + 1) (lst ys) (fun y new => LRest prog w A h₀ L m env elt ct x scope cl news s₂ P Fin j (i + 1) (ys ++ [y]) new) y s₄) →
            wpAny (model prog w) A (call (.builtin "list.append") [.ref D, y]) (fun _ s₅ => ∃ k, k < n + 1 - i ∧ ∃ h' tk i ys oI oC mm new, s₅ = { s₂ with heap := h', toks := tk } ∧ i ≤ n ∧ k = n + 1 - i ∧ ys.length ≤ i ∧ St i h' ∧ NsObj oC mm ∧ Fr h₀ L h' m ∧
              News h₀ L h' ((I, oI) :: (D + 1, oC) :: (D, lst ys) :: (new ++ news)) ∧ (∀ p ∈ new, @LT.lt Nat _ (D + 1) p.1) ∧ LRest prog w A h₀ L m env elt ct x scope cl news s₂ P Fin (n - i) i ys new)
              (notedBy (model prog w) A (compEnvC scope cl (D + 1) env) fun e s' => RR (.ref D) (D + 1) (.error e) s') s₄ := by
          intro y s₄ h₄
          obtain ⟨h₄, tk₄, new₄, rfl, F₄, hst₄, N₄, abv₄, R₄⟩ := close y (ys ++ [y]) s₄ h₄
          refine append_at (hsz := by show ys.toArray.size ≤ sizeLine; rw [List.size_toArray]; exact Nat.le_trans (Nat.le_trans hyl hi) hsz) (N₄ (D, lst ys) (by simp)).1 fun h₅ hs₅ hD₅ => ?_
          refine ⟨n + 1 - (i + 1), by omega, h₅, tk₄, i + 1, ys ++ [y], oI', oC', _, new₄, rfl, hlt, rfl, by rw [List.length_append, List.length_singleton]; exact Nat.succ_le_succ hyl, W.frame _ _ _ hst₄ fun b hb o e => hs₅.extBut b o (fpD b hb).1 e, hoC',
            F₄.change hs₅ (Ne.symm lD) fD, fun p hp => ?_, abv₄, by rw [show n - (i + 1) = j by omega]; exact R₄⟩
          rcases List.mem_cons.mp hp with rfl | hp
          · exact ⟨hs₅.extBut _ _ iD (N₄ (I, oI') (by simp)).1, Ne.symm hIL, hI₀⟩
          rcases List.mem_cons.mp hp with rfl | hp
          · exact ⟨hs₅.extBut _ _ cD (N₄ (D + 1, oC') (by simp)).1, Ne.symm lC, fC⟩
          rcases List.mem_cons.mp hp with rfl | hp
          · exact ⟨hD₅.trans (congrArg some (lst_snoc ys y)), Ne.symm lD, fD⟩
          · have np : p.1 ≠ D := by
              rcases List.mem_append.mp hp with hp | hp
              · exact gt_ne (Nat.lt_of_succ_lt (abv₄ p hp))
              · exact (apart2 (nlt p hp)).1
            have z := N₄ p (List.mem_cons_of_mem _ (List.mem_cons_of_mem _ (List.mem_cons_of_mem _ hp)))
            exact ⟨hs₅.extBut _ _ np z.1, z.2⟩
        cases ct with
        | none =>
          refine wpAny_tests_nil ?_
          simp only [if_true]
          exact wpAny_mono turn grow fun _ _ e => e
        | some c =>
          refine wpAny_tests_one ?_
          refine wpAny_mono turn (fun ok s₄ h₄ => ?_) fun _ _ e => e
          cases ok with
          | true =>
            simp only [if_true] at h₄ ⊢
            exact wpAny_mono h₄ grow fun _ _ e => e
          | false =>
            simp only [Bool.false_eq_true, if_false] at h₄ ⊢
            obtain ⟨h₅, tk₄, new₄, rfl, F₄, hst₄, N₄, abv₄, R₄⟩ := close .none ys s₄ h₄
            exact ⟨n + 1 - (i + 1), by omega, h₅, tk₄, i + 1, ys, oI', oC', _, new₄, rfl, hlt, rfl, Nat.le_succ_of_le hyl, hst₄, hoC', F₄, N₄, abv₄, by rw [show n - (i + 1) = j by omega]; exact R₄⟩
      · obtain rfl : i = n := Nat.le_antisymm hi (Nat.not_lt.mp hlt)
        rw [Nat.sub_self] at R'
        refine W.done _ _ _ hst' fun h₂ tk₂ hk₂ => ?_
        refine hRR _ _ h₂ tk₂ oC mm ys new (fr_but F' hk₂ hIL hI₀) hoC (fun p hp => ?_) (fun p hp => nlt p hp) (Nat.lt_succ_self D) abv R'
        have hp' : p ∈ ((I, oI) :: (D + 1, oC) :: (D, lst ys) :: (new ++ news)) := List.mem_cons_of_mem _ hp
        refine ⟨hk₂ _ _ ?_ (N' p hp').1, (N' p hp').2⟩
        rcases List.mem_cons.mp hp with rfl | hp
        · simpa using Ne.symm iC
        rcases List.mem_cons.mp hp with rfl | hp
        · simpa using Ne.symm iD
        · simpa using (offA p hp).1
    · intro p hp
      rcases List.mem_cons.mp hp with rfl | hp
      · exact ⟨gI₀, Ne.symm hIL, hI₀⟩
      rcases List.mem_cons.mp hp with rfl | hp
      · exact ⟨gC₀, Ne.symm lC, fC⟩
      rcases List.mem_cons.mp hp with rfl | hp
      · exact ⟨gD, Ne.symm lD, fD⟩
      · exact ⟨old _ _ (N p hp).1, (N p hp).2⟩
  exact codeAny_compStart_list (loop _ rfl) (W.self 0 _ _ _ hst₁ (loop _ rfl))

/-- what is left of a block whose own name is a cell: k turns -/
noncomputable def CRest (prog : Program) (w : World) (A : Around) (h₀ : Heap) (L : Addr) (m : Str → Option Value) (env : Env) (elt : Expr) (x : Str) (scope : Scope) (cl : List (Str × Addr)) (news : List (Addr × Obj)) (s : Shared) (P : Nat → Value → Prop)
    (Fin : List Value → List (Addr × Obj) → Prop) : Nat → Nat → List Value → List (Addr × Obj) → Prop
  | 0, _, ys, new => Fin ys new
  | k + 1, i, ys, new => ∀ v I oI C X oX D h tk (E' : Value → Shared → Prop), P i v → oX.data = .cell (some v) → Fr h₀ L h m → News h₀ L h ((I, oI) :: (C, nsO) :: (X, oX) :: (D, lst ys) :: (new ++ news)) → Lie I D X new news →
      wpAny (model prog w) A (eval elt (compEnvC scope ((x, X) :: cl) C env)) (LEnd h₀ L m news { s with heap := h, toks := tk } [(I, oI), (C, nsO), (X, oX)] D X (lst ys) (fun y new => CRest prog w A h₀ L m env elt x scope cl news s P Fin k (i + 1) (ys ++ [y]) new)) E' { s with heap := h, toks := tk }

theorem block_C {elt iter : Expr} {x : Str} {px : Pos} {scope : Scope} {cl : List (Str × Addr)} {pos : Pos} {s₂ : Shared} {I : Addr} {fp : List Addr} {n : Nat} {P : Nat → Value → Prop} {St : Nat → Heap → Prop}
    {Fin : List Value → List (Addr × Obj) → Prop} {RR : Value → Addr → Result → Shared → Prop}
    (W : Walks prog w A I fp [I] n P St) (hsz : n ≤ sizeLine) (hIo : ∀ i h, St i h → ∃ o, h.get? I = some o)
    (hSt : ∀ i h h' o, St i h → h.get? I = some o → h'.get? I = some o → (∀ b o, h₀.get? b = some o → h'.get? b = some o) → News h₀ L h' news → St i h')
    (hcells : ∀ n, cellsFrom n scope.names cl = (x, n) :: cl) (hpush : ∀ h, pushCells h scope.names = h.push (cellO none)) (hkind : scope.kind = .function) (hx : (relabel scope env).names.lookup x = some .cell)
    (hst : St 0 s₂.heap) (hfp : ∀ b ∈ fp, b < s₂.heap.objs.size)
    (F : Fr h₀ L s₂.heap m) (N : News h₀ L s₂.heap news) (hIL : L ≠ I) (hI₀ : h₀.get? I = none) (off : ∀ p ∈ news, @LT.lt Nat _ p.1 I)
    (R : CRest prog w A h₀ L m env elt x scope cl news s₂ P Fin n 0 [] [])
    (hRR : ∀ D C h tk oC mm ys new, Fr h₀ L h m → NsObj oC mm → News h₀ L h ((C, oC) :: (D, lst ys) :: (new ++ news)) → (∀ p ∈ news, @LT.lt Nat _ p.1 D) → @LT.lt Nat _ D C → (∀ p ∈ new, @LT.lt Nat _ C p.1) → Fin ys new → RR (.ref D) C (.ok .next) { s₂ with heap := h, toks := tk }) :
    wpAny (model prog w) A (newList []) (fun acc s₃ => wpAny (model prog w) A (newFunctionEnv scope env.globals cl [] env.qual none .none (some env)) (fun cenv s₄ =>
      codeAny (model prog w) A (.compStart (.ListComp elt [⟨.Name x px, iter, [], 0⟩] scope pos) 0 (.ref I) acc { cenv with scope := relabel scope env }) (RR acc cenv.locals) s₄) E s₃) E s₂ := by
  refine wpAny_newObj_type (newEnv_C hcells hpush ?_)
  dsimp only
  rw [Heap.size_push]
  generalize hD : s₂.heap.objs.size = D
  have fresh : ∀ a, D ≤ a → h₀.get? a = none := fun a ha => by
    cases e : h₀.get? a with
    | none => rfl
    | some o' => have := Heap.lt_size (F.keep a o' e); rw [hD] at this; exact absurd this (Nat.not_lt.mpr ha)
  have hLlt : L < D := hD ▸ F.ns.lt
  have hIlt : I < D := hD ▸ hfp I (W.sub I (List.mem_singleton.mpr rfl))
  obtain ⟨iD, iC, iX⟩ := apart2 hIlt
  obtain ⟨lD, lC, lX⟩ := apart2 hLlt
  obtain ⟨cX, cD, xD⟩ := those3 D
  have fD := fresh D (Nat.le_refl D)
  have fC := fresh (D + 1) (Nat.le_add_right D 1)
  have fX := fresh (D + 2) (Nat.le_add_right D 2)
  have fpD : ∀ b, b ∈ fp → b ≠ D ∧ b ≠ D + 1 ∧ b ≠ D + 2 := fun b hb => apart2 (hD ▸ hfp b hb)
  have nlt : ∀ p ∈ news, p.1 < D := fun p hp => Nat.lt_trans (off p hp) hIlt
  generalize hH : ((s₂.heap.push (lst [])).push nsO).push (cellO none) = H
  have sz1 : (s₂.heap.push (lst [])).objs.size = D + 1 := by rw [Heap.size_push, hD]
  have sz2 : ((s₂.heap.push (lst [])).push nsO).objs.size = D + 2 := by rw [Heap.size_push, sz1]
  have old : ∀ b o, s₂.heap.get? b = some o → H.get? b = some o := fun b o e => hH ▸ Heap.get?_push_of_some _ (Heap.get?_push_of_some _ (Heap.get?_push_of_some _ e))
  have gD : H.get? D = some (lst []) := hH ▸ Heap.get?_push_of_some _ (Heap.get?_push_of_some _ (by rw [← hD]; exact Heap.get?_push_size _ rfl))
  have gC : H.get? (D + 1) = some nsO := hH ▸ Heap.get?_push_of_some _ (by rw [← sz1]; exact Heap.get?_push_size _ rfl)
  have gX : H.get? (D + 2) = some (cellO none) := hH ▸ (by rw [← sz2]; exact Heap.get?_push_size _ rfl)
  have hst₁ : St 0 H := W.frame _ _ _ hst fun b _ o e => old b o e
  obtain ⟨oI₀, gI₀⟩ := hIo _ _ hst₁
  have loop : ∀ s₃ : Shared, s₃ = { s₂ with heap := H } →
      codeAny (model prog w) A (.compLoop (.ListComp elt [⟨.Name x px, iter, [], 0⟩] scope pos) 0 (.ref I) (.ref D) (compEnvC scope ((x, D + 2) :: cl) (D + 1) env)) (RR (.ref D) (D + 1)) s₃ := by
    rintro s₃ rfl
    refine codeAny_compLoop_tests
      (fun k s' => ∃ h' tk i ys oI oX cv new, s' = { s₂ with heap := h', toks := tk } ∧ i ≤ n ∧ k = n + 1 - i ∧ ys.length = i ∧ St i h' ∧ oX.data = .cell cv ∧ Fr h₀ L h' m ∧
        News h₀ L h' ((I, oI) :: (D + 1, nsO) :: (D + 2, oX) :: (D, lst ys) :: (new ++ news)) ∧ (∀ p ∈ new, @LT.lt Nat _ (D + 2) p.1) ∧ CRest prog w A h₀ L m env elt x scope cl news s₂ P Fin (n - i) i ys new) ?_ (n + 1)
      ⟨H, s₂.toks, 0, [], oI₀, cellO none, none, [], rfl, Nat.zero_le _, rfl, rfl, hst₁, rfl, F.keeps old, ?_, (fun _ hp => nomatch hp), R⟩
    · rintro k s' ⟨h', tk, i, ys, oI, oX, cv, new, rfl, hi, rfl, hyl, hst', hdX, F', N', abv, R'⟩
      have offA : ∀ p ∈ new ++ news, p.1 ≠ I ∧ p.1 ≠ D + 1 ∧ p.1 ≠ D + 2 ∧ p.1 ≠ D := fun p hp => by
        rcases List.mem_append.mp hp with hp | hp
        · have h1 := abv p hp
          have h2 := Nat.lt_of_succ_lt h1
          exact ⟨gt_ne (Nat.lt_trans hIlt (Nat.lt_of_succ_lt h2)), gt_ne h2, gt_ne h1, gt_ne (Nat.lt_of_succ_lt h2)⟩
        · exact ⟨Nat.ne_of_lt (off p hp), (apart2 (nlt p hp)).2.1, (apart2 (nlt p hp)).2.2, (apart2 (nlt p hp)).1⟩
      have sub : ∀ {p}, p ∈ new ++ news → p ∈ ((I, oI) :: (D + 1, nsO) :: (D + 2, oX) :: (D, lst ys) :: (new ++ news)) := fun hp => List.mem_cons_of_mem _ (List.mem_cons_of_mem _ (List.mem_cons_of_mem _ (List.mem_cons_of_mem _ hp)))
      by_cases hlt : i < n
      · obtain ⟨j, hj⟩ : ∃ j, n - i = j + 1 := ⟨n - i - 1, by omega⟩
        rw [hj] at R'
        refine W.item i _ _ _ hlt hst' fun v h₂ tk₂ hPv hst₂ hk₂ => ?_
        have kp : ∀ p ∈ ((I, oI) :: (D + 1, nsO) :: (D + 2, oX) :: (D, lst ys) :: (new ++ news)), p.1 ≠ I → h₂.get? p.1 = some p.2 := fun p hp hne => hk₂ _ _ (by simpa using hne) (N' p hp).1
        refine wpAny_assign_Name (store_C (c := D + 2) hkind hx (by simp [compEnvC]) (kp (D + 2, oX) (by simp) (Ne.symm iX)) hdX (fun h₃ hc₃ hs₃ => ?_))
        refine wpAny_tests_nil ?_
        simp only [if_true]
        have hst₃ : St (i + 1) h₃ := W.frame _ _ _ hst₂ fun b hb o e => hs₃.extBut b o (fpD b hb).2.2 e
        obtain ⟨oI', heI⟩ := hIo _ _ hst₃
        have F₃ : Fr h₀ L h₃ m := (fr_but F' hk₂ hIL hI₀).change hs₃ (Ne.symm lX) fX
        have N₃ : News h₀ L h₃ ((I, oI') :: (D + 1, nsO) :: (D + 2, { oX with data := .cell (some v) }) :: (D, lst ys) :: (new ++ news)) := fun p hp => by
          rcases List.mem_cons.mp hp with rfl | hp
          · exact ⟨heI, Ne.symm hIL, hI₀⟩
          rcases List.mem_cons.mp hp with rfl | hp
          · exact ⟨hs₃.extBut _ _ cX (kp (D + 1, nsO) (by simp) (Ne.symm iC)), Ne.symm lC, fC⟩
          rcases List.mem_cons.mp hp with rfl | hp
          · exact ⟨hc₃, Ne.symm lX, fX⟩
          rcases List.mem_cons.mp hp with rfl | hp
          · exact ⟨hs₃.extBut _ _ (Ne.symm xD) (kp (D, lst ys) (by simp) (Ne.symm iD)), Ne.symm lD, fD⟩
          · exact ⟨hs₃.extBut _ _ (offA p hp).2.2.1 (kp p (sub hp) (offA p hp).1), (N' p (sub hp)).2⟩
        refine wpAny_mono (R' v I oI' (D + 1) (D + 2) _ D h₃ _ _ hPv rfl F₃ N₃ ⟨off, hIlt, (Nat.lt_succ_of_lt (Nat.lt_succ_self D)), abv⟩) (fun y s₄ h₄ => ?_) fun _ _ e => e
        obtain ⟨h₄, tk₄, new₄, rfl, F₄, N₄, abv₄, R₄⟩ := h₄
        have N₄ : News h₀ L h₄ ((I, oI') :: (D + 1, nsO) :: (D + 2, { oX with data := .cell (some v) }) :: (D, lst ys) :: (new₄ ++ news)) := N₄
        have hst₄ : St (i + 1) h₄ := hSt _ _ _ _ hst₃ heI (N₄ (I, oI') (by simp)).1 F₄.keep (fun p hp => N₄ p (by simp [hp]))
        refine append_at (hsz := by show ys.toArray.size ≤ sizeLine; rw [List.size_toArray, hyl]; exact Nat.le_trans hi hsz) (N₄ (D, lst ys) (by simp)).1 fun h₅ hs₅ hD₅ => ?_
        refine ⟨n + 1 - (i + 1), by omega, h₅, tk₄, i + 1, ys ++ [y], oI', { oX with data := .cell (some v) }, some v, new₄, rfl, hlt, rfl, by rw [List.length_append, List.length_singleton, hyl], W.frame _ _ _ hst₄ fun b hb o e => hs₅.extBut b o (fpD b hb).1 e, rfl,
          F₄.change hs₅ (Ne.symm lD) fD, fun p hp => ?_, abv₄, by rw [show n - (i + 1) = j by omega]; exact R₄⟩
        rcases List.mem_cons.mp hp with rfl | hp
        · exact ⟨hs₅.extBut _ _ iD (N₄ (I, oI') (by simp)).1, Ne.symm hIL, hI₀⟩
        rcases List.mem_cons.mp hp with rfl | hp
        · exact ⟨hs₅.extBut _ _ cD (N₄ (D + 1, nsO) (by simp)).1, Ne.symm lC, fC⟩
        rcases List.mem_cons.mp hp with rfl | hp
        · exact ⟨hs₅.extBut _ _ xD (N₄ (D + 2, _) (List.mem_cons_of_mem _ (List.mem_cons_of_mem _ List.mem_cons_self))).1, Ne.symm lX, fX⟩
        rcases List.mem_cons.mp hp with rfl | hp
        · exact ⟨hD₅.trans (congrArg some (lst_snoc ys y)), Ne.symm lD, fD⟩
        · have np : p.1 ≠ D := by
            rcases List.mem_append.mp hp with hp | hp
            · exact gt_ne (Nat.lt_of_succ_lt (Nat.lt_of_succ_lt (abv₄ p hp)))
            · exact (apart2 (nlt p hp)).1
          have z := N₄ p (List.mem_cons_of_mem _ (List.mem_cons_of_mem _ (List.mem_cons_of_mem _ (List.mem_cons_of_mem _ hp))))
          exact ⟨hs₅.extBut _ _ np z.1, z.2⟩
      · obtain rfl : i = n := Nat.le_antisymm hi (Nat.not_lt.mp hlt)
        rw [Nat.sub_self] at R'
        refine W.done _ _ _ hst' fun h₂ tk₂ hk₂ => ?_
        refine hRR _ _ h₂ tk₂ nsO (fun _ => none) ys new (fr_but F' hk₂ hIL hI₀) ⟨#[], 0, rfl, fun _ he => by simp at he, fun _ => rfl⟩ (fun p hp => ?_) (fun p hp => nlt p hp) (Nat.lt_succ_self D) (fun p hp => Nat.lt_of_succ_lt (abv p hp)) R'
        have hp' : p ∈ ((I, oI) :: (D + 1, nsO) :: (D + 2, oX) :: (D, lst ys) :: (new ++ news)) := by
          rcases List.mem_cons.mp hp with rfl | hp
          · simp
          · exact List.mem_cons_of_mem _ (List.mem_cons_of_mem _ (List.mem_cons_of_mem _ hp))
        refine ⟨hk₂ _ _ ?_ (N' p hp').1, (N' p hp').2⟩
        rcases List.mem_cons.mp hp with rfl | hp
        · simpa using Ne.symm iC
        rcases List.mem_cons.mp hp with rfl | hp
        · simpa using Ne.symm iD
        · simpa using (offA p hp).1
    · intro p hp
      rcases List.mem_cons.mp hp with rfl | hp
      · exact ⟨gI₀, Ne.symm hIL, hI₀⟩
      rcases List.mem_cons.mp hp with rfl | hp
      · exact ⟨gC, Ne.symm lC, fC⟩
      rcases List.mem_cons.mp hp with rfl | hp
      · exact ⟨gX, Ne.symm lX, fX⟩
      rcases List.mem_cons.mp hp with rfl | hp
      · exact ⟨gD, Ne.symm lD, fD⟩
      · exact ⟨old _ _ (N p hp).1, (N p hp).2⟩
  exact codeAny_compStart_list (loop _ rfl) (W.self 0 _ _ _ hst₁ (loop _ rfl))

/-- the list is made: as a value, or bound to a name -/
noncomputable def FinV (h₀ : Heap) (L : Addr) (m : Str → Option Value) (news : List (Addr × Obj)) (s : Shared) (Q : Value → Shared → Prop) (ys : List Value) (new : List (Addr × Obj)) : Prop :=
  ∀ D h tk, Fr h₀ L h m → News h₀ L h ((D, lst ys) :: (new ++ news)) → (∀ p ∈ news, @LT.lt Nat _ p.1 D) → (∀ p ∈ new, @LT.lt Nat _ D p.1) → Q (.ref D) { s with heap := h, toks := tk }
noncomputable def FinB (h₀ : Heap) (L : Addr) (m : Str → Option Value) (news : List (Addr × Obj)) (s : Shared) (y : Str) (Q : Flow → Shared → Prop) (ys : List Value) (new : List (Addr × Obj)) : Prop :=
  ∀ D h tk, Fr h₀ L h (fun z => if z = y then some (.ref D) else m z) → News h₀ L h ((D, lst ys) :: (new ++ news)) → (∀ p ∈ news, @LT.lt Nat _ p.1 D) → (∀ p ∈ new, @LT.lt Nat _ D p.1) → Q .next { s with heap := h, toks := tk }

/-- the source of a block: a list of the ledger's, or a range; `R` says what is left for that many turns -/
noncomputable def SrcM (A : Around) (h₀ : Heap) (L : Addr) (m : Str → Option Value) (R : List (Addr × Obj) → Shared → (Nat → Value → Prop) → Nat → Prop) (xv : Value) (s₁ : Shared) : Prop :=
  (∃ ax its k news, xv = .ref ax ∧ A.handled = none ∧ Fr h₀ L s₁.heap m ∧ News h₀ L s₁.heap news ∧ (ax, ({ cls := .type "list", data := .seq its k } : Obj)) ∈ news ∧ its.size ≤ sizeLine ∧
    ∀ s₂ : Shared, (∃ h, s₂ = { s₁ with heap := h }) → R news s₂ (fun i v => its[i]? = some v) its.size) ∨
  (∃ r a b t u v n news, xv = .ref r ∧ A.handled = none ∧ Fr h₀ L s₁.heap m ∧ News h₀ L s₁.heap news ∧ IsRange s₁.heap r a b 1 t u v ∧ Builtin.Range.small a b 1 = true ∧ Builtin.Range.rangeSize a b 1 = ((n : Nat) : Int) ∧ n ≤ sizeLine ∧
    ∀ s₂ : Shared, (∃ h, s₂ = { s₁ with heap := h }) → R news s₂ (fun i v => ∃ t, v = .int (a + (i : Int)) t) n)
theorem SrcM.ledger {R : List (Addr × Obj) → Shared → (Nat → Value → Prop) → Nat → Prop} {ax : Addr} {its : Array Value} {k : Nat} (n : Nat) {news : List (Addr × Obj)} {s₁ : Shared}
    (hh : A.handled = none) (F : Fr h₀ L s₁.heap m) (N : News h₀ L s₁.heap news) (hm : (ax, ({ cls := .type "list", data := .seq its k } : Obj)) ∈ news) (hn : its.size = n) (hsz : n ≤ sizeLine)
    (h : ∀ g, R news { s₁ with heap := g } (fun i v => its[i]? = some v) n) : SrcM A h₀ L m R (.ref ax) s₁ := by
  subst hn
  exact .inl ⟨ax, its, k, news, rfl, hh, F, N, hm, hsz, fun _ ⟨g, e⟩ => e ▸ h g⟩
theorem SrcM.range {R : List (Addr × Obj) → Shared → (Nat → Value → Prop) → Nat → Prop} {r : Addr} {a b : Int} {t u v : Tok} (n : Nat) {news : List (Addr × Obj)} {s₁ : Shared}
    (hh : A.handled = none) (F : Fr h₀ L s₁.heap m) (N : News h₀ L s₁.heap news) (hr : IsRange s₁.heap r a b 1 t u v) (hsm : Builtin.Range.small a b 1 = true) (hn : Builtin.Range.rangeSize a b 1 = ((n : Nat) : Int)) (hsz : n ≤ sizeLine)
    (h : ∀ g, R news { s₁ with heap := g } (fun i v => ∃ t, v = .int (a + (i : Int)) t) n) : SrcM A h₀ L m R (.ref r) s₁ := .inr ⟨r, a, b, t, u, v, n, news, rfl, hh, F, N, hr, hsm, hn, hsz, fun _ ⟨g, e⟩ => e ▸ h g⟩

theorem iter_M {R : List (Addr × Obj) → Shared → (Nat → Value → Prop) → Nat → Prop} {xv : Value} {s₁ : Shared} {T : Value → Shared → Prop} (h : SrcM A h₀ L m R xv s₁)
    (hT : ∀ (s₂ : Shared), (∃ h, s₂ = { s₁ with heap := h }) → ∀ (I : Addr) (fp : List Addr) (n : Nat) (P : Nat → Value → Prop) (St : Nat → Heap → Prop) (news : List (Addr × Obj)), Walks prog w A I fp [I] n P St → n ≤ sizeLine → (∀ i h, St i h → ∃ o, h.get? I = some o) →
      (∀ i h h' o, St i h → h.get? I = some o → h'.get? I = some o → (∀ b o, h₀.get? b = some o → h'.get? b = some o) → News h₀ L h' news → St i h') → St 0 s₂.heap → (∀ b ∈ fp, b < s₂.heap.objs.size) →
      Fr h₀ L s₂.heap m → News h₀ L s₂.heap news → L ≠ I → h₀.get? I = none → (∀ p ∈ news, @LT.lt Nat _ p.1 I) → R news s₂ P n → T (.ref I) s₂) :
    wpAny (model prog w) A (pyIter xv) T E s₁ := by
  rcases h with ⟨ax, its, k, news, rfl, hh, F, N, hm, hsz, R⟩ | ⟨r, a, b, t, u, v, n, news, rfl, hh, F, N, hr, hsm, hn, hsz, R⟩
  · have hl : s₁.heap.IsList ax its := ⟨_, (N _ hm).1, rfl, _, rfl⟩
    have hlt : ax < s₁.heap.objs.size := Heap.lt_size (N _ hm).1
    refine wpAny_pyIter_list hl ?_
    have up : ∀ b o, s₁.heap.get? b = some o → (s₁.heap.push { cls := .type "list_iterator", data := .fields #[.ref ax, .int 0 0] }).get? b = some o := fun b o e => Heap.get?_push_of_some _ e
    refine hT _ ⟨_, rfl⟩ _ _ _ _ _ news (Walks.list hh s₁.heap.objs.size ax (Nat.ne_of_lt hlt) its) hsz (fun i h st => by obtain ⟨o, e, _⟩ := st.1; exact ⟨o, e⟩)
      (fun i h h' o st e e' _ N' => ⟨by obtain ⟨o', q, r⟩ := st.1; rw [e] at q; cases q; exact ⟨o, e', r⟩, ⟨_, (N' _ hm).1, rfl, _, rfl⟩⟩) ⟨⟨_, Heap.get?_push_size _ rfl, rfl, rfl⟩, hl.push _⟩ (fun b hb => ?_)
      (F.keeps up) (N.grown up) (Nat.ne_of_lt F.ns.lt) (next_is_new F) (fun p hp => Heap.lt_size (N p hp).1) (R _ ⟨_, rfl⟩)
    show b < (s₁.heap.push _).objs.size
    rw [Heap.size_push]
    rcases List.mem_cons.mp hb with rfl | hb
    · exact Nat.lt_succ_self _
    · rw [List.mem_singleton.mp hb]; exact Nat.lt_succ_of_lt hlt
  · refine wpAny_pyIter_range hr hsm ?_
    refine hT _ ⟨_, rfl⟩ _ _ _ _ _ news (range_walks hh a n) hsz (fun i h st => ⟨_, st⟩) (fun i h h' o st e e' k N' => range_st (h₀ := h₀) (L := L) i h h' o news st e e' k N' trivial) (by show IsRangeIter _ _ _ _ _; rw [hn]; simpa using Heap.get?_push_size _ rfl) (fun b hb => ?_)
      (F.keeps fun _ _ e => Heap.get?_push_of_some _ e) (N.grown fun _ _ e => Heap.get?_push_of_some _ e) (Nat.ne_of_lt F.ns.lt) (next_is_new F) (fun p hp => Heap.lt_size (N p hp).1) (R _ ⟨_, rfl⟩)
    rw [List.mem_singleton.mp hb]
    show s₁.heap.objs.size < (s₁.heap.push _).objs.size
    rw [Heap.size_push]; exact Nat.lt_succ_self _

theorem post_V {Q : Value → Shared → Prop} {D C : Addr} {h : Heap} {tk : Nat} {oC : Obj} {mm : Str → Option Value} {ys : List Value} {new : List (Addr × Obj)} {s₂ : Shared} (F' : Fr h₀ L h m) (hC : NsObj oC mm) (N' : News h₀ L h ((C, oC) :: (D, lst ys) :: (new ++ news)))
    (nlt : ∀ p ∈ news, @LT.lt Nat _ p.1 D) (dc : @LT.lt Nat _ D C) (abv : ∀ p ∈ new, @LT.lt Nat _ C p.1) (fin : FinV h₀ L m news s₂ Q ys new) : compPost (model prog w) A E none Q (.ref D) C (.ok .next) { s₂ with heap := h, toks := tk } := by
  have nC := N' (C, oC) (by simp)
  refine ⟨_, hC.ns nC.1, fun h'' hs'' => fin D h'' tk (F'.change hs'' nC.2.1 nC.2.2) (fun p hp => ?_) nlt fun p hp => Nat.lt_trans dc (abv p hp)⟩
  have np := N' p (List.mem_cons_of_mem _ hp)
  refine ⟨hs''.extBut _ _ ?_ np.1, np.2⟩
  rcases List.mem_cons.mp hp with rfl | hp
  · exact Nat.ne_of_lt dc
  rcases List.mem_append.mp hp with hp | hp
  · exact gt_ne (abv p hp)
  · exact Nat.ne_of_lt (Nat.lt_trans (nlt p hp) dc)
theorem post_B {Q : Flow → Shared → Prop} {y : Str} {py : Pos} {D C : Addr} {h : Heap} {tk : Nat} {oC : Obj} {mm : Str → Option Value} {ys : List Value} {new : List (Addr × Obj)} {s₂ : Shared} (hy : env.kindOf y = some .local)
    (hp : (env.scope.kind == .class || (env.scope.kind == .module && env.locals != env.globals)) = false) (F' : Fr h₀ env.locals h m) (hC : NsObj oC mm) (N' : News h₀ env.locals h ((C, oC) :: (D, lst ys) :: (new ++ news)))
    (nlt : ∀ p ∈ news, @LT.lt Nat _ p.1 D) (dc : @LT.lt Nat _ D C) (abv : ∀ p ∈ new, @LT.lt Nat _ C p.1) (fin : FinB h₀ env.locals m news s₂ y Q ys new) :
    compPost (model prog w) A E (some (assign (.Name y py) env)) (fun _ s' => Q .next s') (.ref D) C (.ok .next) { s₂ with heap := h, toks := tk } := by
  have nC := N' (C, oC) (by simp)
  show wpAny _ A (assign (.Name y py) env (.ref D)) _ _ _
  refine wpAny_assign_Name (wpAny_storeName_local hy F'.ns (fun h₂ hn₂ hs₂ => ?_) hp)
  have hL₀ : h₀.get? env.locals = none := Heap.get?_none_of_le F'.above
  have F₂ : Fr h₀ env.locals h₂ (fun z => if z = y then some (.ref D) else m z) := ⟨hn₂, fun b o e => hs₂.extBut b o (fun q => by rw [q, hL₀] at e; cases e) (F'.keep b o e), F'.above⟩
  have gC : h₂.get? C = some oC := hs₂.extBut _ _ nC.2.1 nC.1
  refine ⟨_, hC.ns gC, fun h'' hs'' => fin D h'' _ (F₂.change hs'' nC.2.1 nC.2.2) (fun p hp => ?_) nlt fun p hp => Nat.lt_trans dc (abv p hp)⟩
  have np := N' p (List.mem_cons_of_mem _ hp)
  refine ⟨hs''.extBut _ _ ?_ (hs₂.extBut _ _ np.2.1 np.1), np.2⟩
  rcases List.mem_cons.mp hp with rfl | hp
  · exact Nat.ne_of_lt dc
  rcases List.mem_append.mp hp with hp | hp
  · exact gt_ne (abv p hp)
  · exact Nat.ne_of_lt (Nat.lt_trans (nlt p hp) dc)

section
variable {elt iter : Expr} {x y : Str} {px py : Pos} {scope : Scope} {cl : List (Str × Addr)} {pos spos : Pos}
theorem ListComp_L {ct : Option Expr} {Q : Value → Shared → Prop} (_F₀ : Fr h₀ L s.heap m) (hclos : closureFor scope env = pure cl) (hcell : ∀ y ∈ scope.names, y.2 ≠ .cell) (hkind : scope.kind = .function)
    (hnames : ∀ y ∈ scope.names, y.2 = .local → scope.names.lookup y.1 = some .local) (hx : scope.names.lookup x = some .local)
    (h : wpAny (model prog w) A (eval iter env) (SrcM A h₀ L m fun news s₂ P n => LRest prog w A h₀ L m env elt ct x scope cl news s₂ P (FinV h₀ L m news s₂ Q) n 0 [] []) E s)
    (hs : ∀ x, foldedSetIterable iter env x = pure x := by intro _; rfl) :
    wpAny (model prog w) A (eval (.ListComp elt [⟨.Name x px, iter, ct.toList, 0⟩] scope pos) env) Q E s := by
  rw [eval_ListComp]
  refine wpAny_comprehension_free (use := none) rfl hs hclos hkind hnames (wpAny_mono h (fun xv s₁ h₁ => ?_) fun _ _ e => e)
  refine iter_M h₁ ?_
  rintro s₂ ⟨g, rfl⟩ I fp n P St news W hsz hIo hSt hst hfp F N hIL hI₀ off R
  exact block_L W hsz hIo hSt hcell hkind hx hst hfp F N hIL hI₀ off R fun D C h tk oC mm ys new F' hC N' nlt dc abv fin => post_V F' hC N' nlt dc abv fin
theorem ListComp_C {Q : Value → Shared → Prop} (_F₀ : Fr h₀ L s.heap m) (hclos : closureFor scope env = pure cl) (hcells : ∀ n, cellsFrom n scope.names cl = (x, n) :: cl) (hpush : ∀ h, pushCells h scope.names = h.push (cellO none)) (hkind : scope.kind = .function)
    (hx : (relabel scope env).names.lookup x = some .cell) (hnames : ∀ y ∈ scope.names, y.2 = .local → scope.names.lookup y.1 = some .local)
    (h : wpAny (model prog w) A (eval iter env) (SrcM A h₀ L m fun news s₂ P n => CRest prog w A h₀ L m env elt x scope cl news s₂ P (FinV h₀ L m news s₂ Q) n 0 [] []) E s)
    (hs : ∀ x, foldedSetIterable iter env x = pure x := by intro _; rfl) :
    wpAny (model prog w) A (eval (.ListComp elt [⟨.Name x px, iter, [], 0⟩] scope pos) env) Q E s := by
  rw [eval_ListComp]
  refine wpAny_comprehension_free (use := none) rfl hs hclos hkind hnames (wpAny_mono h (fun xv s₁ h₁ => ?_) fun _ _ e => e)
  refine iter_M h₁ ?_
  rintro s₂ ⟨g, rfl⟩ I fp n P St news W hsz hIo hSt hst hfp F N hIL hI₀ off R
  exact block_C W hsz hIo hSt hcells hpush hkind hx hst hfp F N hIL hI₀ off R fun D C h tk oC mm ys new F' hC N' nlt dc abv fin => post_V F' hC N' nlt dc abv fin
theorem Assign_L {ct : Option Expr} {Q : Flow → Shared → Prop} (_F₀ : Fr h₀ L s.heap m) (hLe : env.locals = L) (hsw : swapsWith (.ListComp elt [⟨.Name x px, iter, ct.toList, 0⟩] scope pos) (some (.Name y py)) spos.line env = pure true)
    (hclos : closureFor scope env = pure cl) (hcell : ∀ y ∈ scope.names, y.2 ≠ .cell) (hkind : scope.kind = .function)
    (hnames : ∀ y ∈ scope.names, y.2 = .local → scope.names.lookup y.1 = some .local) (hx : scope.names.lookup x = some .local)
    (hy : env.kindOf y = some .local) (hp : (env.scope.kind == .class || (env.scope.kind == .module && env.locals != env.globals)) = false)
    (h : wpAny (model prog w) A (eval iter env) (SrcM A h₀ L m fun news s₂ P n => LRest prog w A h₀ L m env elt ct x scope cl news s₂ P (FinB h₀ L m news s₂ y Q) n 0 [] []) E s)
    (hs : ∀ x, foldedSetIterable iter env x = pure x := by intro _; rfl) :
    wpAny (model prog w) A (exec (.Assign [.Name y py] (.ListComp elt [⟨.Name x px, iter, ct.toList, 0⟩] scope pos) spos) env) Q E s := by
  subst hLe
  rw [exec_Assign_Name_used _ _ _ _ hsw]
  refine wpAny_bind (wpAny_standAt (wpAny_bind ?_))
  show wpAny _ A (do let _ ← comprehension (.ListComp elt [⟨.Name x px, iter, ct.toList, 0⟩] scope pos) scope env _ (newList []) false (eval iter env) (some (assign (.Name y py) env))) _ _ s
  refine wpAny_bind (wpAny_mono (wpAny_comprehension_free (use := some (assign (.Name y py) env)) (Q := fun _ s' => Q .next s') rfl hs hclos hkind hnames
    (wpAny_mono h (fun xv s₁ h₁ => ?_) fun _ _ e => e)) (fun _ s' hq => wpAny_pure (wpAny_pure hq)) fun _ _ e => e)
  refine iter_M h₁ ?_
  rintro s₂ ⟨g, rfl⟩ I fp n P St news W hsz hIo hSt hst hfp F N hIL hI₀ off R
  exact block_L W hsz hIo hSt hcell hkind hx hst hfp F N hIL hI₀ off R fun D C h tk oC mm ys new F' hC N' nlt dc abv fin => post_B hy hp F' hC N' nlt dc abv fin
theorem Assign_C {Q : Flow → Shared → Prop} (_F₀ : Fr h₀ L s.heap m) (hLe : env.locals = L) (hsw : swapsWith (.ListComp elt [⟨.Name x px, iter, [], 0⟩] scope pos) (some (.Name y py)) spos.line env = pure true)
    (hclos : closureFor scope env = pure cl) (hcells : ∀ n, cellsFrom n scope.names cl = (x, n) :: cl) (hpush : ∀ h, pushCells h scope.names = h.push (cellO none)) (hkind : scope.kind = .function)
    (hx : (relabel scope env).names.lookup x = some .cell) (hnames : ∀ y ∈ scope.names, y.2 = .local → scope.names.lookup y.1 = some .local)
    (hy : env.kindOf y = some .local) (hp : (env.scope.kind == .class || (env.scope.kind == .module && env.locals != env.globals)) = false)
    (h : wpAny (model prog w) A (eval iter env) (SrcM A h₀ L m fun news s₂ P n => CRest prog w A h₀ L m env elt x scope cl news s₂ P (FinB h₀ L m news s₂ y Q) n 0 [] []) E s)
    (hs : ∀ x, foldedSetIterable iter env x = pure x := by intro _; rfl) :
    wpAny (model prog w) A (exec (.Assign [.Name y py] (.ListComp elt [⟨.Name x px, iter, [], 0⟩] scope pos) spos) env) Q E s := by
  subst hLe
  rw [exec_Assign_Name_used _ _ _ _ hsw]
  refine wpAny_bind (wpAny_standAt (wpAny_bind ?_))
  show wpAny _ A (do let _ ← comprehension (.ListComp elt [⟨.Name x px, iter, [], 0⟩] scope pos) scope env _ (newList []) false (eval iter env) (some (assign (.Name y py) env))) _ _ s
  refine wpAny_bind (wpAny_mono (wpAny_comprehension_free (use := some (assign (.Name y py) env)) (Q := fun _ s' => Q .next s') rfl hs hclos hkind hnames
    (wpAny_mono h (fun xv s₁ h₁ => ?_) fun _ _ e => e)) (fun _ s' hq => wpAny_pure (wpAny_pure hq)) fun _ _ e => e)
  refine iter_M h₁ ?_
  rintro s₂ ⟨g, rfl⟩ I fp n P St news W hsz hIo hSt hst hfp F N hIL hI₀ off R
  exact block_C W hsz hIo hSt hcells hpush hkind hx hst hfp F N hIL hI₀ off R fun D C h tk oC mm ys new F' hC N' nlt dc abv fin => post_B hy hp F' hC N' nlt dc abv fin
end

section
variable {elt : Expr} {ct : Option Expr} {c : Expr} {x : Str} {scope : Scope} {cl : List (Str × Addr)} {P : Nat → Value → Prop} {Fin : List Value → List (Addr × Obj) → Prop} {i k : Nat} {ys : List Value} {new : List (Addr × Obj)}
theorem LRest.zero (h : Fin ys new) : LRest prog w A h₀ L m env elt ct x scope cl news s P Fin 0 i ys new := h
theorem LRest.turn (h : ∀ v I oI C oC D mm h tk (E' : Value → Shared → Prop), P i v → NsObj oC mm → mm x = some v → Fr h₀ L h m → News h₀ L h ((I, oI) :: (C, oC) :: (D, lst ys) :: (new ++ news)) → Lie I D C new news →
      wpAny (model prog w) A (eval elt (compEnvC scope cl C env)) (LEnd h₀ L m news { s with heap := h, toks := tk } [(I, oI), (C, oC)] D C (lst ys) (fun y new => LRest prog w A h₀ L m env elt none x scope cl news s P Fin k (i + 1) (ys ++ [y]) new)) E' { s with heap := h, toks := tk }) :
    LRest prog w A h₀ L m env elt none x scope cl news s P Fin (k + 1) i ys new := h
theorem LRest.test (h : ∀ v I oI C oC D mm h tk (E' : Value → Shared → Prop), P i v → NsObj oC mm → mm x = some v → Fr h₀ L h m → News h₀ L h ((I, oI) :: (C, oC) :: (D, lst ys) :: (new ++ news)) → Lie I D C new news →
      wpAny (model prog w) A (isTrue c (compEnvC scope cl C env) (eval c (compEnvC scope cl C env))) (fun ok s' => if ok = true then
          wpAny (model prog w) A (eval elt (compEnvC scope cl C env)) (LEnd h₀ L m news { s with heap := h, toks := tk } [(I, oI), (C, oC)] D C (lst ys) (fun y new => LRest prog w A h₀ L m env elt (some c) x scope cl news s P Fin k (i + 1) (ys ++ [y]) new)) E' s'
          else LEnd h₀ L m news { s with heap := h, toks := tk } [(I, oI), (C, oC)] D C (lst ys) (fun _ new => LRest prog w A h₀ L m env elt (some c) x scope cl news s P Fin k (i + 1) ys new) .none s') E' { s with heap := h, toks := tk }) :
    LRest prog w A h₀ L m env elt (some c) x scope cl news s P Fin (k + 1) i ys new := h
theorem CRest.zero (h : Fin ys new) : CRest prog w A h₀ L m env elt x scope cl news s P Fin 0 i ys new := h
theorem CRest.turn (h : ∀ v I oI C X oX D h tk (E' : Value → Shared → Prop), P i v → oX.data = .cell (some v) → Fr h₀ L h m → News h₀ L h ((I, oI) :: (C, nsO) :: (X, oX) :: (D, lst ys) :: (new ++ news)) → Lie I D X new news →
      wpAny (model prog w) A (eval elt (compEnvC scope ((x, X) :: cl) C env)) (LEnd h₀ L m news { s with heap := h, toks := tk } [(I, oI), (C, nsO), (X, oX)] D X (lst ys) (fun y new => CRest prog w A h₀ L m env elt x scope cl news s P Fin k (i + 1) (ys ++ [y]) new)) E' { s with heap := h, toks := tk }) :
    CRest prog w A h₀ L m env elt x scope cl news s P Fin (k + 1) i ys new := h
theorem LEnd.push0 {I D C : Addr} {own : List (Addr × Obj)} {oD : Obj} {rest : Value → List (Addr × Obj) → Prop} {y : Value} {h' : Heap} {tk : Nat} (K : Lie I D C new news) (F : Fr h₀ L h' m) (N : News h₀ L h' (own ++ (D, oD) :: (new ++ news))) (r : rest y new) :
    LEnd h₀ L m news s own D C oD rest y { s with heap := h', toks := tk } := ⟨h', tk, new, rfl, F, N, K.above, r⟩
theorem LEnd.push1 {I D C D₁ : Addr} {o₁ : Obj} {own : List (Addr × Obj)} {oD : Obj} {rest : Value → List (Addr × Obj) → Prop} {y : Value} {h' : Heap} {tk : Nat} (K : Lie I D C new news) (F : Fr h₀ L h' m) (N : News h₀ L h' ((D₁, o₁) :: (own ++ (D, oD) :: (new ++ news))))
    (lt : @LT.lt Nat _ C D₁) (r : rest y ((D₁, o₁) :: new)) : LEnd h₀ L m news s own D C oD rest y { s with heap := h', toks := tk } := by
  refine ⟨h', tk, (D₁, o₁) :: new, rfl, F, fun p hp => N p ?_, fun p hp => ?_, r⟩
  · rcases List.mem_append.mp hp with hp | hp
    · exact List.mem_cons_of_mem _ (List.mem_append_left _ hp)
    rcases List.mem_cons.mp hp with rfl | hp
    · exact List.mem_cons_of_mem _ (List.mem_append_right _ (by simp))
    rcases List.mem_cons.mp hp with rfl | hp
    · exact List.mem_cons_self
    · exact List.mem_cons_of_mem _ (List.mem_append_right _ (List.mem_cons_of_mem _ hp))
  · rcases List.mem_cons.mp hp with rfl | hp
    · exact lt
    · exact K.above p hp
end

section
variable {elt c : Expr} {x : Str} {scope : Scope} {cl : List (Str × Addr)} {P : Nat → Value → Prop} {Fin : List Value → List (Addr × Obj) → Prop}
/-- a turn of a block that takes just one of its items -/
noncomputable def HitPost (prog : Program) (w : World) (A : Around) (h₀ : Heap) (L : Addr) (m : Str → Option Value) (news : List (Addr × Obj)) (elt : Expr) (ce : Env) (E' : Value → Shared → Prop) (s : Shared) (own : List (Addr × Obj)) (D C : Addr) (oD : Obj) (here : Prop) (R : Value → Prop) (ok : Bool) (s' : Shared) : Prop :=
  match ok with
  | true => here ∧ wpAny (model prog w) A (eval elt ce) (LEnd h₀ L m news s own D C oD fun y new => new = [] ∧ R y) E' s'
  | false => ¬ here ∧ LEnd h₀ L m news s own D C oD (fun _ new => new = []) .none s'
theorem HitPost.yes {ce : Env} {E' : Value → Shared → Prop} {own : List (Addr × Obj)} {D C : Addr} {oD : Obj} {here : Prop} {R : Value → Prop} {s' : Shared} (h : here) (k : wpAny (model prog w) A (eval elt ce) (LEnd h₀ L m news s own D C oD fun y new => new = [] ∧ R y) E' s') :
    HitPost prog w A h₀ L m news elt ce E' s own D C oD here R true s' := ⟨h, k⟩
theorem HitPost.yes' {ce : Env} {E' : Value → Shared → Prop} {own : List (Addr × Obj)} {D C : Addr} {oD : Obj} {here : Prop} {R : Value → Prop} {s' : Shared} (h : here) (k : here → wpAny (model prog w) A (eval elt ce) (LEnd h₀ L m news s own D C oD fun y new => new = [] ∧ R y) E' s') :
    HitPost prog w A h₀ L m news elt ce E' s own D C oD here R true s' := ⟨h, k h⟩
theorem HitPost.no {ce : Env} {E' : Value → Shared → Prop} {own : List (Addr × Obj)} {D C : Addr} {oD : Obj} {here : Prop} {R : Value → Prop} {s' : Shared} (h : ¬ here) (k : LEnd h₀ L m news s own D C oD (fun _ new => new = []) .none s') :
    HitPost prog w A h₀ L m news elt ce E' s own D C oD here R false s' := ⟨h, k⟩
theorem LRest.hit {n n₀ : Nat} (hn : n₀ < n) (R : Value → Prop)
    (turn : ∀ i v I oI C oC D mm h tk (E' : Value → Shared → Prop) ys, i < n → P i v → NsObj oC mm → mm x = some v → Fr h₀ L h m → News h₀ L h ((I, oI) :: (C, oC) :: (D, lst ys) :: news) → Lie I D C [] news →
      wpAny (model prog w) A (isTrue c (compEnvC scope cl C env) (eval c (compEnvC scope cl C env)))
        (HitPost prog w A h₀ L m news elt (compEnvC scope cl C env) E' { s with heap := h, toks := tk } [(I, oI), (C, oC)] D C (lst ys) (i = n₀) R) E' { s with heap := h, toks := tk })
    (fin : ∀ y, R y → Fin [y] []) : LRest prog w A h₀ L m env elt (some c) x scope cl news s P Fin n 0 [] [] := by
  have key : ∀ k i ys, i + k = n → (i ≤ n₀ → ys = []) → (n₀ < i → ∃ y, R y ∧ ys = [y]) → LRest prog w A h₀ L m env elt (some c) x scope cl news s P Fin k i ys [] := by
    intro k
    induction k with
    | zero =>
      intro i ys e _ h2
      obtain ⟨y, hy, rfl⟩ := h2 (by omega)
      exact fin y hy
    | succ k ih =>
      intro i ys e h1 h2
      refine LRest.test fun v I oI C oC D mm h tk E' hP hC hx F N lie => ?_
      refine wpAny_mono (turn i v I oI C oC D mm h tk E' ys (by omega) hP hC hx F N lie) (fun ok s' p => ?_) fun _ _ q => q
      cases ok with
      | true =>
        obtain ⟨rfl, p⟩ := p
        simp only [if_true]
        refine wpAny_mono p (fun y s₂ q => ?_) fun _ _ q => q
        obtain ⟨h', tk', new, e1, F', N', abv, rfl, hR⟩ := q
        refine ⟨h', tk', [], e1, F', N', abv, ih (i + 1) (ys ++ [y]) (by omega) (by omega) fun _ => ⟨y, hR, ?_⟩⟩
        rw [h1 (Nat.le_refl _)]; rfl
      | false =>
        obtain ⟨hne, p⟩ := p
        simp only [Bool.false_eq_true, if_false]
        obtain ⟨h', tk', new, e1, F', N', abv, rfl⟩ := p
        exact ⟨h', tk', [], e1, F', N', abv, ih (i + 1) ys (by omega) (fun _ => h1 (by omega)) fun _ => h2 (by omega)⟩
  exact key n 0 [] (by omega) (fun _ => rfl) fun h => absurd h (by omega)
/-- a mark for the walk: this block takes the item at n₀ alone, and makes of it what R says -/
structure One (n₀ n : Nat) (R : Value → Prop) : Prop where
  lt : n₀ < n
theorem LRest.one {n n₀ : Nat} {R : Value → Prop} (o : One n₀ n R)
    (turn : ∀ i v I oI C oC D mm h tk (E' : Value → Shared → Prop) ys, i < n → P i v → NsObj oC mm → mm x = some v → Fr h₀ L h m → News h₀ L h ((I, oI) :: (C, oC) :: (D, lst ys) :: news) → Lie I D C [] news →
      wpAny (model prog w) A (isTrue c (compEnvC scope cl C env) (eval c (compEnvC scope cl C env)))
        (HitPost prog w A h₀ L m news elt (compEnvC scope cl C env) E' { s with heap := h, toks := tk } [(I, oI), (C, oC)] D C (lst ys) (i = n₀) R) E' { s with heap := h, toks := tk })
    (fin : ∀ y, R y → Fin [y] []) : LRest prog w A h₀ L m env elt (some c) x scope cl news s P Fin n 0 [] [] := LRest.hit o.lt R turn fin
end
end
end
section
/-! the plain law of the squares: exchanges of two rows along a chain of columns -/
/-- a square's rows and columns hold each of 0 .. 3 once -/
structure Lat (P : Nat → Nat → Int) : Prop where
  lo : ∀ a b, a < 4 → b < 4 → 0 ≤ P a b
  hi : ∀ a b, a < 4 → b < 4 → P a b < 4
  row : ∀ a b c, a < 4 → b < 4 → c < 4 → P a b = P a c → b = c
  col : ∀ a b c, a < 4 → b < 4 → c < 4 → P a b = P c b → a = c

/-- four unlike numbers out of 0 .. 3 are all of them -/
theorem four_tab : ∀ a < 4, ∀ b < 4, ∀ c < 4, ∀ d < 4, ∀ v < 4, (a == b || a == c || a == d || b == c || b == d || c == d || a == v || b == v || c == v || d == v) = true := by decide +kernel
theorem four_onto (f : Nat → Int) (lo : ∀ b, b < 4 → 0 ≤ f b) (hi : ∀ b, b < 4 → f b < 4) (inj : ∀ b c, b < 4 → c < 4 → f b = f c → b = c) (v : Int) (h0 : 0 ≤ v) (h4 : v < 4) : ∃ b, b < 4 ∧ f b = v := by
  have lt : ∀ b, b < 4 → (f b).toNat < 4 := fun b hb => (Int.toNat_lt (lo b hb)).mpr (hi b hb)
  have ne : ∀ b c, b < 4 → c < 4 → b ≠ c → ¬ (f b).toNat = (f c).toNat := fun b c hb hc n e => n (inj b c hb hc (by rw [← Int.toNat_of_nonneg (lo b hb), ← Int.toNat_of_nonneg (lo c hc), e]))
  have h := four_tab _ (lt 0 (by decide)) _ (lt 1 (by decide)) _ (lt 2 (by decide)) _ (lt 3 (by decide)) _ ((Int.toNat_lt h0).mpr h4)
  simp only [Bool.or_eq_true, beq_iff_eq, ne 0 1 (by decide) (by decide) (by decide), ne 0 2 (by decide) (by decide) (by decide), ne 0 3 (by decide) (by decide) (by decide), ne 1 2 (by decide) (by decide) (by decide), ne 1 3 (by decide) (by decide) (by decide), ne 2 3 (by decide) (by decide) (by decide), false_or, or_assoc] at h
  have at_ : ∀ b, b < 4 → (f b).toNat = v.toNat → f b = v := fun b hb e => by rw [← Int.toNat_of_nonneg (lo b hb), e, Int.toNat_of_nonneg h0]
  rcases h with h | h | h | h
  · exact ⟨0, by decide, at_ 0 (by decide) h⟩
  · exact ⟨1, by decide, at_ 1 (by decide) h⟩
  · exact ⟨2, by decide, at_ 2 (by decide) h⟩
  · exact ⟨3, by decide, at_ 3 (by decide) h⟩

/-- the square with the columns of U turned between the rows i and j -/
noncomputable def turned (P : Nat → Nat → Int) (i j : Nat) (U : Nat → Bool) (x y : Nat) : Int :=
  if U y then (if x = i then P j y else if x = j then P i y else P x y) else P x y
/-- what holds ahead of an exchange at column k: U the columns turned so far -/
structure Chain (P : Nat → Nat → Int) (i j k₀ k : Nat) (U : Nat → Bool) : Prop where
  k4 : k < 4
  out : U k = false
  fwd : ∀ y, y < 4 → (U y = true ∨ y = k) → P i y = P i k₀ ∨ ∃ z, z < 4 ∧ U z = true ∧ P i y = P j z
  bwd : ∀ z, z < 4 → U z = true → ∃ y, y < 4 ∧ (U y = true ∨ y = k) ∧ P j z = P i y
  first : ∃ y, y < 4 ∧ (U y = true ∨ y = k) ∧ P i y = P i k₀
noncomputable def add (U : Nat → Bool) (k : Nat) (y : Nat) : Bool := U y || y == k
theorem add_true {U : Nat → Bool} {k y : Nat} : add U k y = true ↔ U y = true ∨ y = k := by simp [add]
theorem add_false {U : Nat → Bool} {k y : Nat} : add U k y = false ↔ U y = false ∧ y ≠ k := by simp [add]

section
variable {P : Nat → Nat → Int} {i j k₀ k : Nat} {U : Nat → Bool}
theorem chain_start (hk : k₀ < 4) : Chain P i j k₀ k₀ fun _ => false :=
  ⟨hk, rfl, (fun y _ h => h.elim (fun h => Bool.noConfusion h) (fun h => .inl (by rw [h]))), (fun z _ h => Bool.noConfusion h), ⟨k₀, hk, .inr rfl, rfl⟩⟩
theorem turned_none : turned P i j (fun _ => false) = P := by funext x y; simp [turned]
theorem turned_at (hU : U k = false) (x : Nat) : turned P i j U x k = P x k := by simp [turned, hU]

/-- a swap of two rows keeps the places and parts them as before -/
theorem swap_lt {i j a : Nat} (hi : i < 4) (hj : j < 4) (ha : a < 4) : (if a = i then j else if a = j then i else a) < 4 := by split <;> (try split) <;> assumption
theorem swap_tab : ∀ i < 4, ∀ j < 4, ∀ a < 4, ∀ c < 4, ((if a = i then j else if a = j then i else a) != (if c = i then j else if c = j then i else c) || a == c) = true := by decide +kernel
theorem swap_inj {i j a c : Nat} (hi : i < 4) (hj : j < 4) (ha : a < 4) (hc : c < 4) (e : (if a = i then j else if a = j then i else a) = (if c = i then j else if c = j then i else c)) : a = c := by
  have z := swap_tab i hi j hj a ha c hc
  rw [e] at z
  simpa using z

/-- the chain closes: the square is whole again -/
theorem chain_done (L : Lat P) (hi : i < 4) (hj : j < 4) (C : Chain P i j k₀ k U) (hs : P j k = P i k₀) : Lat (turned P i j (add U k)) := by
  have A : ∀ y, y < 4 → add U k y = true → ∃ z, z < 4 ∧ add U k z = true ∧ P i y = P j z := fun y hy h => by
    rcases C.fwd y hy (add_true.mp h) with e | ⟨z, hz, hu, e⟩
    · exact ⟨k, C.k4, add_true.mpr (.inr rfl), e.trans hs.symm⟩
    · exact ⟨z, hz, add_true.mpr (.inl hu), e⟩
  have B : ∀ z, z < 4 → add U k z = true → ∃ y, y < 4 ∧ add U k y = true ∧ P j z = P i y := fun z hz h => by
    rcases add_true.mp h with h | rfl
    · obtain ⟨y, hy, hu, e⟩ := C.bwd z hz h
      exact ⟨y, hy, add_true.mpr hu, e⟩
    · obtain ⟨y, hy, hu, e⟩ := C.first
      exact ⟨y, hy, add_true.mpr hu, hs.trans e.symm⟩
  generalize add U k = V at A B
  refine ⟨fun a b ha hb => ?_, fun a b ha hb => ?_, fun a b c ha hb hc e => ?_, fun a b c ha hb hc e => ?_⟩
  · unfold turned; split
    · split
      · exact L.lo _ _ hj hb
      · split
        · exact L.lo _ _ hi hb
        · exact L.lo _ _ ha hb
    · exact L.lo _ _ ha hb
  · unfold turned; split
    · split
      · exact L.hi _ _ hj hb
      · split
        · exact L.hi _ _ hi hb
        · exact L.hi _ _ ha hb
    · exact L.hi _ _ ha hb
  · unfold turned at e
    by_cases ai : a = i
    · subst ai
      simp only [if_true] at e
      cases hb' : V b <;> cases hc' : V c <;> simp only [hb', hc', if_true, Bool.false_eq_true, if_false] at e
      · exact L.row _ _ _ ha hb hc e
      · obtain ⟨z, hz, hv, e'⟩ := B c hc hc'
        have := L.row _ _ _ ha hb hz (e.trans e')
        rw [this, hv] at hb'; cases hb'
      · obtain ⟨z, hz, hv, e'⟩ := B b hb hb'
        have := L.row _ _ _ ha hz hc (e'.symm.trans e)
        rw [← this, hv] at hc'; cases hc'
      · exact L.row _ _ _ hj hb hc e
    · by_cases aj : a = j
      · subst aj
        simp only [ai, if_true, if_false] at e
        cases hb' : V b <;> cases hc' : V c <;> simp only [hb', hc', if_true, Bool.false_eq_true, if_false] at e
        · exact L.row _ _ _ ha hb hc e
        · obtain ⟨z, hz, hv, e'⟩ := A c hc hc'
          have := L.row _ _ _ ha hb hz (e.trans e')
          rw [this, hv] at hb'; cases hb'
        · obtain ⟨z, hz, hv, e'⟩ := A b hb hb'
          have := L.row _ _ _ ha hz hc (e'.symm.trans e)
          rw [← this, hv] at hc'; cases hc'
        · exact L.row _ _ _ hi hb hc e
      · simp only [ai, aj, if_false, ite_self] at e
        exact L.row _ _ _ ha hb hc e
  · unfold turned at e
    cases hb' : V b
    · simp only [hb', Bool.false_eq_true, if_false] at e
      exact L.col _ _ _ ha hb hc e
    · simp only [hb', if_true] at e
      have key : ∀ x, (if x = i then P j b else if x = j then P i b else P x b) = P (if x = i then j else if x = j then i else x) b := fun x => by split <;> (try split) <;> rfl
      rw [key, key] at e
      exact swap_inj hi hj ha hc (L.col _ _ _ (swap_lt hi hj ha) hb (swap_lt hi hj hc) e)

/-- the chain goes on: the next column, the only one whose sign is the one just given away -/
theorem chain_next (L : Lat P) (hi : i < 4) (hj : j < 4) (C : Chain P i j k₀ k U) (hs : P j k ≠ P i k₀) :
    ∃ k', Chain P i j k₀ k' (add U k) ∧ ∀ y, y < 4 → ((y ≠ k ∧ turned P i j (add U k) i y = P j k) ↔ y = k') := by
  obtain ⟨k', h4, e⟩ := four_onto (P i) (fun b hb => L.lo i b hi hb) (fun b hb => L.hi i b hi hb) (fun b c hb hc e => L.row i b c hi hb hc e) (P j k) (L.lo j k hj C.k4) (L.hi j k hj C.k4)
  have hne : i ≠ j := fun q => by
    subst q
    rcases C.fwd k C.k4 (.inr rfl) with q | ⟨z, hz, hu, q⟩
    · exact hs q
    · have := L.row _ _ _ hi C.k4 hz q
      rw [← this, C.out] at hu; cases hu
  have out' : add U k k' = false := by
    cases q : add U k k' with
    | false => rfl
    | true =>
      rcases C.fwd k' h4 (add_true.mp q) with q | ⟨z, hz, hu, q⟩
      · exact absurd (e.symm.trans q) hs
      · have := L.row _ _ _ hj C.k4 hz (e.symm.trans q)
        rw [← this, C.out] at hu; cases hu
  have hkk : k' ≠ k := (add_false.mp out').2
  refine ⟨k', ⟨h4, out', fun y hy h => ?_, fun z hz h => ?_, ?_⟩, fun y hy => ⟨fun ⟨h1, h2⟩ => ?_, fun h => ?_⟩⟩
  · rcases h with h | rfl
    · rcases C.fwd y hy (add_true.mp h) with q | ⟨z, hz, hu, q⟩
      · exact .inl q
      · exact .inr ⟨z, hz, add_true.mpr (.inl hu), q⟩
    · exact .inr ⟨k, C.k4, add_true.mpr (.inr rfl), e⟩
  · rcases add_true.mp h with h | rfl
    · obtain ⟨y, hy, hu, q⟩ := C.bwd z hz h
      exact ⟨y, hy, .inl (add_true.mpr hu), q⟩
    · exact ⟨k', h4, .inr rfl, e.symm⟩
  · obtain ⟨y, hy, hu, q⟩ := C.first
    exact ⟨y, hy, .inl (add_true.mpr hu), q⟩
  · unfold turned at h2
    simp only [if_true] at h2
    cases q : add U k y
    · simp only [q, Bool.false_eq_true, if_false] at h2
      exact L.row _ _ _ hi hy h4 (h2.trans e.symm)
    · simp only [q, if_true] at h2
      exact absurd (L.row _ _ _ hj hy C.k4 h2) h1
  · subst h
    refine ⟨hkk, ?_⟩
    unfold turned
    simp only [out', Bool.false_eq_true, if_false]
    exact e

/-- an exchange at column k, as two stores make it -/
theorem turned_add (hU : U k = false) (x y : Nat) : (if x = i ∧ y = k then turned P i j U j k else if x = j ∧ y = k then turned P i j U i k else turned P i j U x y) = turned P i j (add U k) x y := by
  unfold turned
  by_cases hy : y = k
  · subst hy
    have hV : add U y y = true := add_true.mpr (.inr rfl)
    simp only [hU, hV, and_true, if_true, Bool.false_eq_true, if_false]
  · have hV : add U k y = U y := by simp [add, hy]
    simp only [hy, and_false, if_false, hV]
end
/-- how many columns are still unturned -/
noncomputable def left (U : Nat → Bool) : Nat := (if U 0 then 0 else 1) + (if U 1 then 0 else 1) + (if U 2 then 0 else 1) + (if U 3 then 0 else 1)
theorem left_add {U : Nat → Bool} {k : Nat} (hk : k < 4) (hU : U k = false) : left (add U k) < left U := by
  have : k = 0 ∨ k = 1 ∨ k = 2 ∨ k = 3 := by omega
  rcases this with rfl | rfl | rfl | rfl <;> simp [left, add, hU] <;> (repeat' split) <;> omega
/-- the square that it begins with -/
noncomputable def sq0 (a b : Nat) : Int := ((a ^^^ b : Nat) : Int)
theorem lat_sq0 : Lat sq0 := by
  have key : ∀ a < 4, ∀ b < 4, (a ^^^ b) < 4 ∧ (∀ c < 4, (a ^^^ b = a ^^^ c → b = c) ∧ (a ^^^ b = c ^^^ b → a = c)) := by decide
  refine ⟨fun a b _ _ => Int.natCast_nonneg _, fun a b ha hb => ?_, fun a b c ha hb hc e => ?_, fun a b c ha hb hc e => ?_⟩
  · have := (key a ha b hb).1
    unfold sq0; omega
  · exact ((key a ha b hb).2 c hc).1 (Int.ofNat.inj e)
  · exact ((key a ha b hb).2 c hc).2 (Int.ofNat.inj e)
end
section
open PySem PySem.Spec PySem.Calls PySem.W PyProof.Rows PyProof.Rows.LCg
/-- a list of four references; a list of four ints -/
noncomputable def refs4 (r : Nat → Addr) : Obj := lst [.ref (r 0), .ref (r 1), .ref (r 2), .ref (r 3)]
noncomputable def row4 (P : Nat → Int) (T : Nat → Tok) : Obj := lst [.int (P 0) (T 0), .int (P 1) (T 1), .int (P 2) (T 2), .int (P 3) (T 3)]
theorem lt4 {a : Nat} (h : a < 4) : a = 0 ∨ a = 1 ∨ a = 2 ∨ a = 3 := by omega
/-- addresses far from the four rows' -/
noncomputable def Far (r : Nat → Addr) (l : List Addr) : Prop := (∀ a b, a < 4 → b < 4 → r a = r b → a = b) ∧ ∀ x ∈ l, ∀ a, a < 4 → x ≠ r a
section
variable {prog : Program} {w : World} {A : Around} {E : Value → Shared → Prop} {s : Shared} {h₀ : Heap} {L : Addr} {m : Str → Option Value} {env : Env} {news : List (Addr × Obj)} {r : Nat → Addr} {P : Nat → Nat → Int} {T : Nat → Nat → Tok}
theorem item_refs {value slice : PySem.Expr} {l : Addr} {k : Int} {u : Tok} {Q : Value → Shared → Prop} (N : News h₀ L s.heap news) (hm : (l, refs4 r) ∈ news) (h0 : 0 ≤ k) (h4 : k < 4) (h : ∀ i, i < 4 → Q (.ref (r i)) s)
    (hs : subscripted slice false (.ref l) (.int k u) = operate [.ref l, .int k u] (getItem (.ref l) (.int k u)) := by with_unfolding_all rfl) :
    wpAny (model prog w) A (subscriptTail value slice (.ref l) (.int k u)) Q E s := by
  have hl : s.heap.IsList l #[.ref (r 0), .ref (r 1), .ref (r 2), .ref (r 3)] := ⟨_, (N _ hm).1, rfl, _, rfl⟩
  refine tail_any hl.typeIs slot_list_getitem.lookup (wpAny_getItem_list hl h0 (by omega) ?_ (h k.toNat (by omega))) hs
  have : k.toNat = 0 ∨ k.toNat = 1 ∨ k.toNat = 2 ∨ k.toNat = 3 := by omega
  rcases this with e | e | e | e <;> rw [e] <;> rfl
theorem mod4 {a : Int} {t u : Tok} {Q : Value → Shared → Prop} (h : ∀ x : Int, 0 ≤ x → x < 4 → Q (.int x s.toks) { s with toks := s.toks + 1 }) : wpAny (model prog w) A (binaryOp .Mod (.int a t) (.int 4 u)) Q E s :=
  mod_int' (by decide) (h _ (Int.fmod_nonneg_of_pos a (by decide)) (Int.fmod_lt_of_pos a (by decide)))
theorem row_mem (hm : ∀ a, a < 4 → (r a, row4 (P a) (T a)) ∈ news) {a : Nat} (ha : a < 4) : (r a, row4 (P a) (T a)) ∈ news := hm a ha
theorem rows_mem (h0 : (r 0, row4 (P 0) (T 0)) ∈ news) (h1 : (r 1, row4 (P 1) (T 1)) ∈ news) (h2 : (r 2, row4 (P 2) (T 2)) ∈ news) (h3 : (r 3, row4 (P 3) (T 3)) ∈ news) {a : Nat} (ha : a < 4) : (r a, row4 (P a) (T a)) ∈ news := by
  rcases lt4 ha with rfl | rfl | rfl | rfl <;> assumption
theorem item_row {value slice : PySem.Expr} {a : Nat} {k : Int} {u : Tok} {Q : Value → Shared → Prop} (N : News h₀ L s.heap news) (ha : a < 4) (hm0 : (r 0, row4 (P 0) (T 0)) ∈ news) (hm1 : (r 1, row4 (P 1) (T 1)) ∈ news) (hm2 : (r 2, row4 (P 2) (T 2)) ∈ news) (hm3 : (r 3, row4 (P 3) (T 3)) ∈ news)
    (h0 : 0 ≤ k) (h4 : k < 4) (h : Q (.int (P a k.toNat) (T a k.toNat)) s)
    (hs : subscripted slice false (.ref (r a)) (.int k u) = operate [.ref (r a), .int k u] (getItem (.ref (r a)) (.int k u)) := by with_unfolding_all rfl) :
    wpAny (model prog w) A (subscriptTail value slice (.ref (r a)) (.int k u)) Q E s := by
  have hl : s.heap.IsList (r a) #[.int (P a 0) (T a 0), .int (P a 1) (T a 1), .int (P a 2) (T a 2), .int (P a 3) (T a 3)] := ⟨_, (N _ (rows_mem hm0 hm1 hm2 hm3 ha)).1, rfl, _, rfl⟩
  refine tail_any hl.typeIs slot_list_getitem.lookup (wpAny_getItem_list hl h0 (by omega) ?_ h) hs
  have : k.toNat = 0 ∨ k.toNat = 1 ∨ k.toNat = 2 ∨ k.toNat = 3 := by omega
  rcases this with e | e | e | e <;> rw [e] <;> rfl
noncomputable abbrev updI (P : Nat → Nat → Int) (a k : Nat) (v : Int) : Nat → Nat → Int := fun x y => if x = a ∧ y = k then v else P x y
noncomputable abbrev updT (P : Nat → Nat → Tok) (a k : Nat) (v : Tok) : Nat → Nat → Tok := fun x y => if x = a ∧ y = k then v else P x y
theorem News.put1 {h₀ h : Heap} {L : Addr} {l' : List (Addr × Obj)} {p : Addr × Obj} (x : h.get? p.1 = some p.2 ∧ p.1 ≠ L ∧ h₀.get? p.1 = none) (r : News h₀ L h l') : News h₀ L h (p :: l') := fun q hq => (List.mem_cons.mp hq).elim (fun e => e ▸ x) (r q)
theorem row_set (P : Nat → Nat → Int) (T : Nat → Nat → Tok) {a k : Nat} (hk : k < 4) (v : Int) (t : Tok) :
    (Obj.mapSeq (·.setIfInBounds k (.int v t)) (row4 (P a) (T a))) = row4 (updI P a k v a) (updT T a k t a) := by
  rcases lt4 hk with rfl | rfl | rfl | rfl <;> simp [row4, Obj.mapSeq, updI, updT]
theorem store_row {p₁ p₂ : Addr × Obj} {post : List (Addr × Obj)} {a : Nat} {k v : Int} {u t : Tok} {Q : Unit → Shared → Prop} (F : Fr h₀ L s.heap m) (N : News h₀ L s.heap (p₁ :: p₂ :: (r 0, row4 (P 0) (T 0)) :: (r 1, row4 (P 1) (T 1)) :: (r 2, row4 (P 2) (T 2)) :: (r 3, row4 (P 3) (T 3)) :: post))
    (far : Far r (p₁.1 :: p₂.1 :: post.map (·.1))) (ha : a < 4) (h0 : 0 ≤ k) (h4 : k < 4)
    (h : ∀ h', Fr h₀ L h' m → News h₀ L h' (p₁ :: p₂ :: (r 0, row4 (updI P a k.toNat v 0) (updT T a k.toNat t 0)) :: (r 1, row4 (updI P a k.toNat v 1) (updT T a k.toNat t 1)) :: (r 2, row4 (updI P a k.toNat v 2) (updT T a k.toNat t 2)) :: (r 3, row4 (updI P a k.toNat v 3) (updT T a k.toNat t 3)) :: post) → Q () { s with heap := h' }) :
    wpAny (model prog w) A (setItem (.ref (r a)) (.int k u) (.int v t)) Q E s := by
  have hm : (r a, row4 (P a) (T a)) ∈ (p₁ :: p₂ :: (r 0, row4 (P 0) (T 0)) :: (r 1, row4 (P 1) (T 1)) :: (r 2, row4 (P 2) (T 2)) :: (r 3, row4 (P 3) (T 3)) :: post) := rows_mem (.tail _ (.tail _ (.head _))) (.tail _ (.tail _ (.tail _ (.head _)))) (.tail _ (.tail _ (.tail _ (.tail _ (.head _))))) (.tail _ (.tail _ (.tail _ (.tail _ (.tail _ (.head _)))))) ha
  have z := N _ hm
  have hk : k.toNat < 4 := by omega
  have hg : s.heap.get? (r a) = some (listOf #[.int (P a 0) (T a 0), .int (P a 1) (T a 1), .int (P a 2) (T a 2), .int (P a 3) (T a 3)] 4) := z.1
  refine ki_setAt hg h0 (by omega) (by show k < 4; exact h4) ?_
  have hs : Heap.SameBut (r a) s.heap (s.heap.update (r a) (Obj.mapSeq (·.setIfInBounds k.toNat (.int v t)))) := Heap.SameBut.update ..
  have ge : (s.heap.update (r a) (Obj.mapSeq (·.setIfInBounds k.toNat (.int v t)))).get? (r a) = some (row4 (updI P a k.toNat v a) (updT T a k.toNat t a)) := by
    rw [← row_set P T hk]
    exact Heap.get?_update_self _ z.1 (by rcases lt4 hk with e | e | e | e <;> rw [e] <;> rfl)
  have other : ∀ b, b < 4 → b ≠ a → News h₀ L s.heap [(r b, row4 (P b) (T b))] → (s.heap.update (r a) (Obj.mapSeq (·.setIfInBounds k.toNat (.int v t)))).get? (r b) = some (row4 (updI P a k.toNat v b) (updT T a k.toNat t b)) := fun b hb hne N1 => by
    have e1 : updI P a k.toNat v b = P b := by funext y; simp [updI, hne]
    have e2 : updT T a k.toNat t b = T b := by funext y; simp [updT, hne]
    rw [e1, e2]
    exact hs.extBut _ _ (fun q => hne (far.1 b a hb ha q)) (N1 (r b, row4 (P b) (T b)) (by simp)).1
  have row : ∀ b, b < 4 → (s.heap.update (r a) (Obj.mapSeq (·.setIfInBounds k.toNat (.int v t)))).get? (r b) = some (row4 (updI P a k.toNat v b) (updT T a k.toNat t b)) := fun b hb => by
    by_cases e : b = a
    · rw [e]; exact ge
    · exact other b hb e fun p hp => by rw [List.mem_singleton.mp hp]; exact N _ (rows_mem (.tail _ (.tail _ (.head _))) (.tail _ (.tail _ (.tail _ (.head _)))) (.tail _ (.tail _ (.tail _ (.tail _ (.head _))))) (.tail _ (.tail _ (.tail _ (.tail _ (.tail _ (.head _)))))) hb)
  have keep : ∀ p ∈ (p₁ :: p₂ :: (r 0, row4 (P 0) (T 0)) :: (r 1, row4 (P 1) (T 1)) :: (r 2, row4 (P 2) (T 2)) :: (r 3, row4 (P 3) (T 3)) :: post), p.1 ∈ (p₁.1 :: p₂.1 :: post.map (·.1)) → (s.heap.update (r a) (Obj.mapSeq (·.setIfInBounds k.toNat (.int v t)))).get? p.1 = some p.2 := fun p hp hx => hs.extBut _ _ (far.2 _ hx a ha) (N p hp).1
  have N4 : ∀ b, b < 4 → (r b) ≠ L ∧ h₀.get? (r b) = none := fun b hb => (N _ (rows_mem (P := P) (T := T) (.tail _ (.tail _ (.head _))) (.tail _ (.tail _ (.tail _ (.head _)))) (.tail _ (.tail _ (.tail _ (.tail _ (.head _))))) (.tail _ (.tail _ (.tail _ (.tail _ (.tail _ (.head _)))))) hb)).2
  refine h _ (F.change hs z.2.1 z.2.2) (News.put1 ⟨keep _ (.head _) (.head _), (N _ (.head _)).2⟩ (News.put1 ⟨keep _ (.tail _ (.head _)) (.tail _ (.head _)), (N _ (.tail _ (.head _))).2⟩
    (News.put1 ⟨row 0 (by decide), N4 0 (by decide)⟩ (News.put1 ⟨row 1 (by decide), N4 1 (by decide)⟩ (News.put1 ⟨row 2 (by decide), N4 2 (by decide)⟩ (News.put1 ⟨row 3 (by decide), N4 3 (by decide)⟩ fun p hp => ?_))))))
  have hm : p ∈ (p₁ :: p₂ :: (r 0, row4 (P 0) (T 0)) :: (r 1, row4 (P 1) (T 1)) :: (r 2, row4 (P 2) (T 2)) :: (r 3, row4 (P 3) (T 3)) :: post) := .tail _ (.tail _ (.tail _ (.tail _ (.tail _ (.tail _ hp)))))
  exact ⟨keep p hm (.tail _ (.tail _ (List.mem_map_of_mem hp))), (N p hm).2⟩

/-- a range's turns by what holds between them -/
theorem range_inv {x : Str} {body : List Stmt} {Q : Flow → Shared → Prop} {I : Addr} {a : Int} {n : Nat} (J : Nat → (Str → Option Value) → List (Addr × Obj) → Prop)
    (turn : ∀ i m news, i < n → J i m news → ∀ t h tk, Fr h₀ env.locals h (fun y => if y = x then some (.int (a + (i : Int)) t) else m y) →
      News h₀ env.locals h ((I, itR (a + ((i + 1 : Nat) : Int)) ((n : Int) - ((i + 1 : Nat) : Int))) :: news) →
      wpAny (model prog w) A (execs body env) (UnrPost h₀ env.locals { s with heap := h, toks := tk } I (itR (a + ((i + 1 : Nat) : Int)) ((n : Int) - ((i + 1 : Nat) : Int))) (J (i + 1)) Q) E { s with heap := h, toks := tk })
    (done : ∀ m news, J n m news → ∀ h tk, Fr h₀ env.locals h m → News h₀ env.locals h news → Q .next { s with heap := h, toks := tk }) :
    ∀ (k i : Nat) (m : Str → Option Value) (news : List (Addr × Obj)), i + k = n → J i m news → RangeRest prog w A E h₀ env x body Q s I a n k i m news
  | 0, i, m, news, e, j => RangeRest.zero fun h tk F N => done m news (by have : i = n := by omega
                                                                          rw [← this]; exact j) h tk F N
  | k + 1, i, m, news, e, j => RangeRest.succ fun t h tk F N => by
    refine wpAny_mono (turn i m news (by omega) j t h tk F N) (fun f s₂ p => ?_) fun _ _ q => q
    have ih := range_inv J turn done k (i + 1)
    cases f with
    | next => obtain ⟨h', tk', m', news', e1, F', N', o, j'⟩ := p; exact ⟨h', tk', m', news', e1, F', N', o, ih m' news' (by omega) j'⟩
    | cont => obtain ⟨h', tk', m', news', e1, F', N', o, j'⟩ := p; exact ⟨h', tk', m', news', e1, F', N', o, ih m' news' (by omega) j'⟩
    | brk => exact p
    | ret v => exact p

/-- the square behind an exchange at column k -/
noncomputable abbrev swp (P : Nat → Nat → Int) (i j k : Nat) : Nat → Nat → Int := updI (updI P j k (P i k)) i k (P j k)
theorem swp_turned {P Pc : Nat → Nat → Int} {i j k : Nat} {U : Nat → Bool} (h : Pc = turned P i j U) (hU : U k = false) : swp Pc i j k = turned P i j (add U k) := by
  subst h
  funext x y
  exact turned_add hU x y
theorem chain_cases {P Pc : Nat → Nat → Int} {i j k₀ : Nat} {kk : Int} {U : Nat → Bool} (lat : Lat P) (hi : i < 4) (hj : j < 4) (C : Chain P i j k₀ kk.toNat U) (h : Pc = turned P i j U) :
    (Pc j kk.toNat = P i k₀ ∧ Lat (swp Pc i j kk.toNat)) ∨
    (Pc j kk.toNat ≠ P i k₀ ∧ ∃ k', One k' 4 (fun y => ∃ t, y = .int (0 + ((k' : Nat) : Int)) t) ∧ (∀ y, y < 4 → ((y ≠ kk.toNat ∧ swp Pc i j kk.toNat i y = Pc j kk.toNat) ↔ y = k')) ∧ ∃ U', left U' < left U ∧ Chain P i j k₀ k' U' ∧ swp Pc i j kk.toNat = turned P i j U') := by
  have e := swp_turned (k := kk.toNat) h C.out
  have hs : Pc j kk.toNat = P j kk.toNat := by rw [h]; exact turned_at C.out j
  rw [e, hs]
  by_cases q : P j kk.toNat = P i k₀
  · exact .inl ⟨q, chain_done lat hi hj C q⟩
  · obtain ⟨k', C', hit⟩ := chain_next lat hi hj C q
    exact .inr ⟨q, k', ⟨C'.k4⟩, hit, add U kk.toNat, left_add C.k4 C.out, C', rfl⟩

/-- what holds between two exchanges -/
noncomputable def JW (P : Nat → Nat → Int) (i j : Nat) (k₀ : Nat) (I : Addr) (oI : Obj) (D : Addr) (r : Nat → Addr) (c : Addr) (base : List (Addr × Obj)) (n : Nat) (m : Str → Option Value) (news : List (Addr × Obj)) : Prop :=
  ∃ (Pc : Nat → Nat → Int) (T : Nat → Nat → Tok) (kk : Int) (tk tf : Tok) (nn : Int) (tn : Tok) (b : Bool) (o1 o2 o3 : Obj) (v1 : Option Value), m "rows" = some (.ref D) ∧ m "number" = some (.int nn tn) ∧ m "two" = some (.ref (r j)) ∧ m "first" = some (.int (P i k₀) tf) ∧
    m "more" = some (.bool b) ∧ o1.data = Data.cell v1 ∧ o2.data = Data.cell (some (.int kk tk)) ∧ o3.data = Data.cell (some (.ref (r i))) ∧
    news = (I, oI) :: (D, refs4 r) :: (r 0, row4 (Pc 0) (T 0)) :: (r 1, row4 (Pc 1) (T 1)) :: (r 2, row4 (Pc 2) (T 2)) :: (r 3, row4 (Pc 3) (T 3)) :: (c + 1 + 1, o1) :: (c + 1, o2) :: (c, o3) :: base ∧
    (b = true → 0 ≤ kk ∧ kk < 4 ∧ ∃ U, n = left U + 1 ∧ Chain P i j k₀ kk.toNat U ∧ Pc = turned P i j U) ∧ (b = false → n = 0 ∧ Lat Pc)
theorem while_sq {test : PySem.Expr} {body : List Stmt} {pos : Pos} {Q : Flow → Shared → Prop} {i j : Nat} {kk : Int} {tk tf tn : Tok} {nn : Int} {I D c : Addr} {oI o1 o2 o3 : Obj} {v1 : Option Value} {base : List (Addr × Obj)} {x : Addr × Obj}
    (hk0 : 0 ≤ kk) (hk4 : kk < 4) (F : Fr h₀ L s.heap m)
    (N : News h₀ L s.heap (x :: (I, oI) :: (D, refs4 r) :: (r 0, row4 (P 0) (T 0)) :: (r 1, row4 (P 1) (T 1)) :: (r 2, row4 (P 2) (T 2)) :: (r 3, row4 (P 3) (T 3)) :: (c + 1 + 1, o1) :: (c + 1, o2) :: (c, o3) :: base))
    (h1 : m "rows" = some (.ref D)) (h2 : m "number" = some (.int nn tn)) (h3 : m "two" = some (.ref (r j))) (h4 : m "first" = some (.int (P i kk.toNat) tf)) (h5 : m "more" = some (.bool true))
    (d1 : o1.data = Data.cell v1) (d2 : o2.data = Data.cell (some (.int kk tk))) (d3 : o3.data = Data.cell (some (.ref (r i))))
    (turn : ∀ n m₁ news₁ h₁ tk₁, Fr h₀ L h₁ m₁ → News h₀ L h₁ news₁ → JW P i j kk.toNat I oI D r c base n m₁ news₁ →
      wpAny (model prog w) A (isTrue test env (eval test env)) (fun b s₂ =>
        if b = true then wpAny (model prog w) A (execs body env) (WhileStep2 h₀ L s (JW P i j kk.toNat I oI D r c base) Q n) E s₂ else Q .next s₂) E { s with heap := h₁, toks := tk₁ })
    (hE : PassesOwn (model prog w) A env E := by passes_own) :
    wpAny (model prog w) A (exec (.While test body [] pos) env) Q E s :=
  While_inv2 (JW P i j kk.toNat I oI D r c base) (n₀ := left (fun _ => false) + 1) F (fun p hp => N p (List.mem_cons_of_mem _ hp))
    ⟨P, T, kk, tk, tf, nn, tn, true, o1, o2, o3, v1, h1, h2, h3, h4, h5, d1, d2, d3, rfl, fun _ => ⟨hk0, hk4, _, rfl, chain_start (by omega), turned_none.symm⟩, fun e => by cases e⟩ turn hE

theorem jw_next {bb : Bool} {Pc : Nat → Nat → Int} {i j k₀ k' n : Nat} {I D c : Addr} {oI o1 o2 o3 : Obj} {v1 : Option Value} {base : List (Addr × Obj)} {tk tf tn : Tok} {nn : Int} {U' : Nat → Bool} {s₀ : Shared} {x : Addr × Obj} {h' : Heap} {tk' : Nat} {Q : Flow → Shared → Prop} (F : Fr h₀ L h' m)
    (N : News h₀ L h' (x :: (I, oI) :: (D, refs4 r) :: (r 0, row4 (Pc 0) (T 0)) :: (r 1, row4 (Pc 1) (T 1)) :: (r 2, row4 (Pc 2) (T 2)) :: (r 3, row4 (Pc 3) (T 3)) :: (c + 1 + 1, o1) :: (c + 1, o2) :: (c, o3) :: base))
    (h1 : m "rows" = some (.ref D)) (h2 : m "number" = some (.int nn tn)) (h3 : m "two" = some (.ref (r j))) (h4 : m "first" = some (.int (P i k₀) tf)) (hbb : bb = true) (h5 : m "more" = some (.bool bb))
    (d1 : o1.data = Data.cell v1) (d2 : o2.data = Data.cell (some (.int (0 + ((k' : Nat) : Int)) tk))) (d3 : o3.data = Data.cell (some (.ref (r i)))) (hn : left U' + 1 < n) (C : Chain P i j k₀ k' U') (e : Pc = turned P i j U') :
    WhileStep2 h₀ L s₀ (JW P i j k₀ I oI D r c base) Q n .next { s₀ with heap := h', toks := tk' } := by
  subst hbb
  exact ⟨h', tk', m, _, left U' + 1, rfl, F, (fun p hp => N p (List.mem_cons_of_mem _ hp)), hn, Pc, T, 0 + ((k' : Nat) : Int), tk, tf, nn, tn, true, o1, o2, o3, v1, h1, h2, h3, h4, h5, d1, d2, d3, rfl,
    fun _ => ⟨by omega, by have := C.k4; omega, U', rfl, by rw [show (0 + ((k' : Nat) : Int)).toNat = k' by omega]; exact C, e⟩, fun q => nomatch q⟩
theorem jw_last {bb : Bool} {Pc : Nat → Nat → Int} {i j k₀ n : Nat} {I D c : Addr} {oI o1 o2 o3 : Obj} {v1 : Option Value} {base : List (Addr × Obj)} {kk : Int} {tk tf tn : Tok} {nn : Int} {s₀ : Shared} {h' : Heap} {tk' : Nat} {Q : Flow → Shared → Prop} (F : Fr h₀ L h' m)
    (N : News h₀ L h' ((I, oI) :: (D, refs4 r) :: (r 0, row4 (Pc 0) (T 0)) :: (r 1, row4 (Pc 1) (T 1)) :: (r 2, row4 (Pc 2) (T 2)) :: (r 3, row4 (Pc 3) (T 3)) :: (c + 1 + 1, o1) :: (c + 1, o2) :: (c, o3) :: base))
    (h1 : m "rows" = some (.ref D)) (h2 : m "number" = some (.int nn tn)) (h3 : m "two" = some (.ref (r j))) (h4 : m "first" = some (.int (P i k₀) tf)) (hbb : bb = false) (h5 : m "more" = some (.bool bb))
    (d1 : o1.data = Data.cell v1) (d2 : o2.data = Data.cell (some (.int kk tk))) (d3 : o3.data = Data.cell (some (.ref (r i)))) (hn : 0 < n) (lat : Lat Pc) :
    WhileStep2 h₀ L s₀ (JW P i j k₀ I oI D r c base) Q n .next { s₀ with heap := h', toks := tk' } := by
  subst hbb
  exact ⟨h', tk', m, _, 0, rfl, F, N, hn, Pc, T, kk, tk, tf, nn, tn, false, o1, o2, o3, v1, h1, h2, h3, h4, h5, d1, d2, d3, rfl, (fun q => nomatch q), fun _ => ⟨rfl, lat⟩⟩

/-- what holds between the turns of the squares' loop -/
noncomputable def JF (D : Addr) (r : Nat → Addr) (c : Addr) (base : List (Addr × Obj)) (_ : Nat) (m : Str → Option Value) (news : List (Addr × Obj)) : Prop :=
  ∃ (P : Nat → Nat → Int) (T : Nat → Nat → Tok) (nn : Int) (t : Tok) (o1 o2 o3 : Obj) (v1 v2 v3 : Option Value), Lat P ∧ m "rows" = some (.ref D) ∧ m "number" = some (.int nn t) ∧ o1.data = Data.cell v1 ∧ o2.data = Data.cell v2 ∧ o3.data = Data.cell v3 ∧
    news = (D, refs4 r) :: (r 0, row4 (P 0) (T 0)) :: (r 1, row4 (P 1) (T 1)) :: (r 2, row4 (P 2) (T 2)) :: (r 3, row4 (P 3) (T 3)) :: (c + 1 + 1, o1) :: (c + 1, o2) :: (c, o3) :: base
theorem jf_end {Pc : Nat → Nat → Int} {n : Nat} {I D c : Addr} {oI o1 o2 o3 : Obj} {v1 v2 v3 : Option Value} {base : List (Addr × Obj)} {tn : Tok} {nn : Int} {s₀ : Shared} {h' : Heap} {tk' : Nat} (F : Fr h₀ L h' m)
    (N : News h₀ L h' ((I, oI) :: (D, refs4 r) :: (r 0, row4 (Pc 0) (T 0)) :: (r 1, row4 (Pc 1) (T 1)) :: (r 2, row4 (Pc 2) (T 2)) :: (r 3, row4 (Pc 3) (T 3)) :: (c + 1 + 1, o1) :: (c + 1, o2) :: (c, o3) :: base))
    (h1 : m "rows" = some (.ref D)) (h2 : m "number" = some (.int nn tn)) (d1 : o1.data = Data.cell v1) (d2 : o2.data = Data.cell v2) (d3 : o3.data = Data.cell v3) (lat : Lat Pc)
    (lb : ∀ p ∈ base, @LT.lt Nat _ p.1 c) (lD : @LT.lt Nat _ (c + 1 + 1) D) (l0 : @LT.lt Nat _ D (r 0)) (lI : @LT.lt Nat _ (r 0) I ∧ @LT.lt Nat _ (r 1) I ∧ @LT.lt Nat _ (r 2) I ∧ @LT.lt Nat _ (r 3) I) :
    UnrEnd h₀ L s₀ I oI (JF D r c base n) { s₀ with heap := h', toks := tk' } := by
  refine UnrEnd.intro F N _ (fun p hp => hp) (fun p hp => ?_) ⟨Pc, T, nn, tn, o1, o2, o3, v1, v2, v3, lat, h1, h2, d1, d2, d3, rfl⟩
  have lt : @LT.lt Nat _ p.1 I := by
    simp only [List.mem_cons] at hp
    rcases hp with rfl | rfl | rfl | rfl | rfl | rfl | rfl | rfl | hp
    · exact Nat.lt_trans l0 lI.1
    · exact lI.1
    · exact lI.2.1
    · exact lI.2.2.1
    · exact lI.2.2.2
    · exact Nat.lt_trans lD (Nat.lt_trans l0 lI.1)
    · exact Nat.lt_trans (Nat.lt_succ_self _) (Nat.lt_trans lD (Nat.lt_trans l0 lI.1))
    · exact Nat.lt_trans (Nat.lt_succ_of_lt (Nat.lt_succ_self _)) (Nat.lt_trans lD (Nat.lt_trans l0 lI.1))
    · exact Nat.lt_trans (lb p hp) (Nat.lt_trans (Nat.lt_succ_of_lt (Nat.lt_succ_self _)) (Nat.lt_trans lD (Nat.lt_trans l0 lI.1)))
  exact Nat.ne_of_lt lt
end
theorem hit_yes {i : Nat} {kk v : Int} {k' : Nat} {f : Nat → Int} (hit : ∀ y, y < 4 → ((y ≠ kk.toNat ∧ f y = v) ↔ y = k')) (hi : i < 4) (h0 : 0 ≤ kk) (a : 0 + (i : Int) ≠ kk) (b : f (0 + (i : Int)).toNat = v) : i = k' := by
  have e : (0 + (i : Int)).toNat = i := by omega
  rw [e] at b
  exact (hit i hi).mp ⟨fun q => by omega, b⟩
theorem hit_no1 {i : Nat} {kk v : Int} {k' : Nat} {f : Nat → Int} (hit : ∀ y, y < 4 → ((y ≠ kk.toNat ∧ f y = v) ↔ y = k')) (hi : i < 4) (a : 0 + (i : Int) = kk) : ¬ i = k' := fun q => by
  have h := ((hit i hi).mpr q).1
  omega
theorem hit_no2 {i : Nat} {kk v : Int} {k' : Nat} {f : Nat → Int} (hit : ∀ y, y < 4 → ((y ≠ kk.toNat ∧ f y = v) ↔ y = k')) (hi : i < 4) (b : ¬ f (0 + (i : Int)).toNat = v) : ¬ i = k' := fun q => by
  have h := ((hit i hi).mpr q).2
  have e : (0 + (i : Int)).toNat = i := by omega
  rw [e] at b
  exact b h
theorem bne_no {a b : Int} (h : a = b) : (a != b) = false := by simp [h]
theorem bne_yes {a b : Int} (h : a ≠ b) : (a != b) = true := by simp [h]
end
section
open PySem PySem.Spec PySem.Calls PySem.W PyProof.Rows PyProof.Rows.LCg
theorem walkT6 : True := by
  k_with_none
  k_with "enterC" => (k_dflt (refine' code_defC ?wek1 ?wek2 ?wek3 ?wek4 ?wek5 ?wekA ?wekF ?wekK ?wek6 ?wek7 ?wek8 ?wek9 ?wekB ?wekD ?_ ?wec2 ?wec3 ?wec4; (case wekA => exact rfl); (case wekF => exact rfl); (case wekK => assumption); (case wek1 => k_asm); (case wek2 => k_asm); (case wek3 => k_asm); (case wek4 => k_asm); (case wek5 => k_asm); (case wek6 => k_is); (case wek7 => k_is); (case wek8 => ktr_room); (case wek9 => exact BindsTo.of_eq rfl); (case wekB => exact rfl); (case wekD => decide +kernel); (case wec2 => exact rfl); (case wec3 => exact rfl); (case wec4 => exact rfl); k_whole; intro g' L' h' tk' cells' FG' F' N' Y' B' X' T' l1; (try k_lt l1); k_cells Y'; (try simp only [List.cons_append, List.nil_append] at N'); (try dsimp only); (try k_lift B'); (try k_fold)))
  k_with "exec Assign cons ListComp" => (k_here; k_dflt (first
  | refine Mine.Assign_C (_F₀ := by k_asm) (by rfl) (by with_unfolding_all rfl) (by with_unfolding_all rfl) (fun _ => rfl) (fun _ => rfl) (by rfl) (by rfl) (by decide) (by rfl) (by rfl) ?_
  | refine Mine.Assign_L (ct := none) (_F₀ := by k_asm) (by rfl) (by with_unfolding_all rfl) (by with_unfolding_all rfl) (by decide) (by rfl) (by decide) (by rfl) (by rfl) (by rfl) ?_
  | refine Mine.Assign_L (ct := some _) (_F₀ := by k_asm) (by rfl) (by with_unfolding_all rfl) (by with_unfolding_all rfl) (by decide) (by rfl) (by decide) (by rfl) (by rfl) (by rfl) ?_))
  k_with "eval ListComp BinOp cons" => (k_here; k_dflt (refine Mine.ListComp_L (ct := none) (_F₀ := by k_asm) (by with_unfolding_all rfl) (by decide) (by rfl) (by decide) (by rfl) ?_))
  k_with "eval ListComp Call cons" => (k_here; k_dflt (refine Mine.ListComp_L (ct := none) (_F₀ := by k_asm) (by with_unfolding_all rfl) (by decide) (by rfl) (by decide) (by rfl) ?_))
  k_with "eval ListComp Subscript cons" => (k_here; k_dflt (refine Mine.ListComp_L (ct := none) (_F₀ := by k_asm) (by with_unfolding_all rfl) (by decide) (by rfl) (by decide) (by rfl) ?_))
  k_with "eval ListComp Name cons" => (k_here; k_dflt (refine Mine.ListComp_L (ct := none) (_F₀ := by k_asm) (by with_unfolding_all rfl) (by decide) (by rfl) (by decide) (by rfl) ?_))
  k_with "eval ListComp Name cons" => (k_here; k_dflt (refine Mine.ListComp_L (ct := some _) (_F₀ := by k_asm) (by with_unfolding_all rfl) (by decide) (by rfl) (by decide) (by rfl) ?_))
  k_with "eval ListComp ListComp cons" => (k_here; k_dflt (refine Mine.ListComp_C (_F₀ := by k_asm) (by with_unfolding_all rfl) (fun _ => rfl) (fun _ => rfl) (by rfl) (by rfl) (by decide) ?_))
  k_with "SrcM" => (k_here; k_dflt (first
  | (refine Mine.SrcM.range 4 (by rfl) (by k_asm) (by k_asm) (by assumption) (by first | decide | rfl) (by first | rfl | decide) (by exact Nat.le_of_ble_eq_true rfl) ?_; intro g'; (try dsimp only))
  | (refine Mine.SrcM.range 3 (by rfl) (by k_asm) (by k_asm) (by assumption) (by first | decide | rfl) (by first | rfl | decide) (by exact Nat.le_of_ble_eq_true rfl) ?_; intro g'; (try dsimp only))
  | (refine Mine.SrcM.ledger 3 (by rfl) (by k_asm) (by k_asm) (by k_mem) (by rfl) (by exact Nat.le_of_ble_eq_true rfl) ?_; intro g'; (try dsimp only))))
  k_with "LRest" => (with_unfolding_all first
  | (refine Mine.LRest.turn ?_; intro v' I' oI' C' oC' D' m' h' tk' E' hv' hC' hx' F' N' lie'; (first | lcg_open hv' | (obtain ⟨t9', hv9'⟩ := hv'; subst hv9')); (try simp only [List.nil_append, List.cons_append] at N'))
  | (refine Mine.LRest.test ?_; intro v' I' oI' C' oC' D' m' h' tk' E' hv' hC' hx' F' N' lie'; (first | lcg_open hv' | (obtain ⟨t9', hv9'⟩ := hv'; subst hv9')); (try simp only [List.nil_append, List.cons_append] at N'))
  | refine Mine.LRest.zero ?_)
  k_with "CRest" => (with_unfolding_all first
  | (refine Mine.CRest.turn ?_; intro v' I' oI' C' X' oX' D' h' tk' E' hv' hdX' F' N' lie'; (first | lcg_open hv' | (obtain ⟨t9', hv9'⟩ := hv'; subst hv9')); (try simp only [List.nil_append, List.cons_append] at N'))
  | refine Mine.CRest.zero ?_)
  k_with "LEnd" => (k_dflt (first
  | refine Mine.LEnd.push0 (by k_asm) (by k_asm) (by k_asm) ?_
  | refine Mine.LEnd.push1 (by k_asm) (by k_asm) (by k_asm) (by omega) ?_))
  k_with "FinV" => ((unfold Mine.FinV); intro D' h' tk' F' N' nlt' abv'; (k_lt nlt'); (try simp only [List.forall_mem_cons, List.forall_mem_nil, and_true] at abv'); (try simp only [List.nil_append, List.cons_append] at N'); (try dsimp only))
  k_with "FinB" => ((unfold Mine.FinB); intro D' h' tk' F' N' nlt' abv'; (k_lt nlt'); (try simp only [List.forall_mem_cons, List.forall_mem_nil, and_true] at abv'); (try simp only [List.nil_append, List.cons_append] at N'); (try dsimp only))
  k_with "mine_map" => ((repeat (refine (if_neg (by decide)).trans ?_)); first | exact if_pos rfl | assumption | exact rfl)
  k_with "eval Name" => (k_here; k_dflt (refine' nameX_L ?v15F ?v15v ?_ ?v15a ?v15b; (case v15a => rfl); (case v15b => rfl); (case v15F => k_asm); (case v15v => k_extra "mine_map"); k_whole))
  k_with "subscriptTail Name BinOp ref int" => (k_here; k_dflt (refine' Mine.item_refs ?v16N ?v16m ?v16a ?v16b ?_ ?v16s; (case v16N => k_asm); (case v16m => k_mem); (case v16a => omega); (case v16b => omega); (case v16s => with_unfolding_all rfl); k_whole); intro i' hi')
  k_with "binaryOp Mod int int" => (k_here; (with_reducible refine' Mine.mod4 ?_); intro x' hx0' hx4')
  k_with "subscriptTail Name Name ref int" => (k_here; k_dflt (refine' Mine.item_row ?v18N ?v18ha ?v18m0 ?v18m1 ?v18m2 ?v18m3 ?v18a ?v18b ?_ ?v18s; (case v18N => k_asm); (case v18m0 => k_mem); (case v18m1 => k_mem); (case v18m2 => k_mem); (case v18m3 => k_mem); (case v18ha => omega); (case v18a => omega); (case v18b => omega); (case v18s => with_unfolding_all rfl); k_whole))
  k_with "setItem ref int" => (k_here; k_dflt (refine' Mine.store_row ?v19F ?v19N ?v19f ?v19ha ?v19a ?v19b ?_; (case v19F => k_asm); (case v19N => k_asm); (case v19f => assumption); (case v19ha => omega); (case v19a => omega); (case v19b => omega); k_whole); intro h' F' N')
  k_with "loadName" => (k_here; k_dflt (refine' wpAny_loadName_local ?v20a ?v20b ?v20c ?v20v ?_; (case v20a => rfl); (case v20b => rfl); (case v20c => exact Fr.ns (by k_asm)); (case v20v => k_extra "mine_map"); k_whole))
  k_with "exec While" => (k_here; k_dflt (refine' Mine.while_sq ?v21a ?v21b ?v21F ?v21N ?v21h1 ?v21h2 ?v21h3 ?v21h4 ?v21h5 ?v21d1 ?v21d2 ?v21d3 ?_ ?v21hE; (case v21hE => first | assumption | passes_own); (case v21F => k_asm); (case v21N => k_asm); (case v21h1 => k_extra "mine_map"); (case v21h2 => k_extra "mine_map"); (case v21h3 => k_extra "mine_map"); (case v21h4 => k_extra "mine_map"); (case v21h5 => k_extra "mine_map"); (case v21d1 => assumption); (case v21d2 => assumption); (case v21d3 => assumption); (case v21a => omega); (case v21b => omega); k_whole))
  k_with "LRest" => (k_dflt (refine' Mine.LRest.one ?v22o ?v22turn ?v22fin; (case v22o => assumption)); (case' v22fin => (intro y' hy'; (try (obtain ⟨t8', hy8'⟩ := hy'; subst hy8')))); (case' v22turn => (intro i' v' I' oI' C' oC' D' m' h' tk' E' ys' hi' hv' hC' hx' F' N' lie'; (first | (obtain ⟨t9', hv9'⟩ := hv'; subst hv9') | skip))))
  k_with "mine_hit" => (first | (refine' Mine.hit_yes ?v23hit ?v23hi ?v23h0 ?v23a ?v23b; (case v23hit => assumption); (case v23hi => assumption); (case v23h0 => assumption); (case v23a => assumption); (case v23b => assumption)) | (refine' Mine.hit_no1 ?v23hit ?v23hi ?v23a; (case v23hit => assumption); (case v23hi => assumption); (case v23a => assumption)) | (refine' Mine.hit_no2 ?v23hit ?v23hi ?v23a; (case v23hit => assumption); (case v23hi => assumption); (case v23a => assumption)))
  k_with "HitPost" => (k_dflt (first | (refine Mine.HitPost.yes' ?v24hh ?_; (case v24hh => k_extra "mine_hit"); intro hh'; (try subst hh')) | (refine Mine.HitPost.no ?v24hh ?_; (case v24hh => k_extra "mine_hit"))))
  k_with "WhileStep2" => (k_dflt (first
  | (refine' Mine.jw_next ?v25F ?v25N ?v25h1 ?v25h2 ?v25h3 ?v25h4 ?v25hb ?v25h5 ?v25d1 ?v25d2 ?v25d3 ?v25hn ?v25C ?v25e; (case v25F => k_asm); (case v25N => k_asm); (case v25C => assumption); (case v25e => assumption); (case v25h1 => k_extra "mine_map"); (case v25h2 => k_extra "mine_map"); (case v25h3 => k_extra "mine_map"); (case v25h4 => k_extra "mine_map"); (case v25h5 => k_extra "mine_map"); (case v25hb => first | assumption | rfl); (case v25d1 => assumption); (case v25d2 => assumption); (case v25d3 => assumption); (case v25hn => omega))
  | (refine' Mine.jw_last ?v25F ?v25N ?v25h1 ?v25h2 ?v25h3 ?v25h4 ?v25hb ?v25h5 ?v25d1 ?v25d2 ?v25d3 ?v25hn ?v25C; (case v25F => k_asm); (case v25N => k_asm); (case v25C => assumption); (case v25h1 => k_extra "mine_map"); (case v25h2 => k_extra "mine_map"); (case v25h3 => k_extra "mine_map"); (case v25h4 => k_extra "mine_map"); (case v25h5 => k_extra "mine_map"); (case v25hb => first | assumption | rfl); (case v25d1 => assumption); (case v25d2 => assumption); (case v25d3 => assumption); (case v25hn => omega))))
  k_with "UnrEnd" => (k_dflt (refine' Mine.jf_end ?v26F ?v26N ?v26h1 ?v26h2 ?v26d1 ?v26d2 ?v26d3 ?v26C ?v26lb ?v26lD ?v26l0 ?v26lI; (case v26F => k_asm); (case v26N => k_asm); (case v26C => assumption); (case v26h1 => k_extra "mine_map"); (case v26h2 => k_extra "mine_map"); (case v26d1 => assumption); (case v26d2 => assumption); (case v26d3 => assumption); (case v26lb => assumption); (case v26lD => assumption); (case v26l0 => assumption); (case v26lI => assumption)))
  trivial
noncomputable abbrev sqEnv (sc : Scope) (L : Addr) : Env := envOfC (Str.ofString "_law_square") sc L 103 (.ref 102)
theorem sq_turn (w : World) {p : Program} {loose : List Str} {mean : ExcName → Option Value} {mg mb : Str → Option Value} {dp un : Nat} {gd : Option (List Code)} {cn : Str} {cs : Scope} {L a : Addr} {ccd : Value} {cl : List (Str × Addr)} {outer : List Env}
    {g : Heap} {L' : Addr} (X : (hd.heap_39 w.params).In g) (T : Top p loose mean mg mb g) (hu : un + 8 < cLine) (sc : Scope) (b : List Stmt) (hsc : sc = sqSc) (hb : b = sqFor) {base : List (Addr × Obj)} {D I : Addr} {r : Nat → Addr} {s : Shared} {Q : Flow → Shared → Prop} {E : Value → Shared → Prop}
    (lb : ∀ p ∈ base, @LT.lt Nat _ p.1 (L' + 1)) (lD : @LT.lt Nat _ (L' + 1 + 1 + 1) D) (l0 : @LT.lt Nat _ D (r 0)) (l1 : @LT.lt Nat _ D (r 1)) (l2 : @LT.lt Nat _ D (r 2)) (l3 : @LT.lt Nat _ D (r 3)) (lI : @LT.lt Nat _ (r 0) I ∧ @LT.lt Nat _ (r 1) I ∧ @LT.lt Nat _ (r 2) I ∧ @LT.lt Nat _ (r 3) I)
    (far : Far r (I :: D :: (L' + 1 + 1 + 1) :: (L' + 1 + 1) :: (L' + 1) :: base.map (·.1)))
    (hE : PassesOwn (model PR w) ((ktrTop dp un gd cn cs L a ccd cl outer).deeper (sqEnv sc L')) (sqEnv sc L') E) :
    ∀ i m news, i < 3 → JF D r (L' + 1) base i m news → ∀ t h tk, Fr g (sqEnv sc L').locals h (fun y => if y = (Str.ofString "turn") then some (.int (0 + (i : Int)) t) else m y) →
      News g (sqEnv sc L').locals h ((I, itR (0 + ((i + 1 : Nat) : Int)) (((3 : Nat) : Int) - ((i + 1 : Nat) : Int))) :: news) →
      wpAny (model PR w) ((ktrTop dp un gd cn cs L a ccd cl outer).deeper (sqEnv sc L')) (execs b (sqEnv sc L')) (UnrPost g (sqEnv sc L').locals { s with heap := h, toks := tk } I (itR (0 + ((i + 1 : Nat) : Int)) (((3 : Nat) : Int) - ((i + 1 : Nat) : Int))) (JF D r (L' + 1) base (i + 1)) Q) E { s with heap := h, toks := tk } := by
  conv at hsc => rhs; whnf
  conv at hb => rhs; whnf
  subst hsc hb
  rintro i m news hi ⟨P, Tk, nn, tn, o1, o2, o3, v1, v2, v3, lat, hr, hn, d1, d2, d3, rfl⟩ t h tk F N
  replace F : Fr g L' h _ := F
  replace N : News g L' h _ := N
  (try k_unmd); (try k_fold)
  iterate 63 (first | (k_unfold; (try dsimp only)) | walk1 | (dsimp only; walk1))
  rintro n m₁ news₁ h₁ tk₁ F₁ N₁ ⟨Pc, T', kk, tk', tf', nn', tn', bb, q1, q2, q3, w1, e1, e2, e3, e4, e5, dd1, dd2, dd3, rfl, run, stop⟩
  cases bb with
  | false =>
    clear run
    obtain ⟨-, lat'⟩ := stop rfl
    k_steps
  | true =>
    clear stop
    obtain ⟨hk0, hk4, U, hnU, C, hPc⟩ := run rfl
    clear run
    rcases chain_cases (by assumption) (by assumption) (by assumption) C hPc with ⟨hs, lat2⟩ | ⟨hs, k', one, hit, U', hU', C', e'⟩
    · have hb := bne_no hs
      k_steps
    · have hb := bne_yes hs
      k_steps
end
section
open PySem PySem.Spec PySem.Calls PySem.W PyProof.Rows PyProof.Rows.LCg
theorem walkT7 : True := by
  k_with_none
  k_with "enterC" => (k_dflt (refine' code_defC ?wek1 ?wek2 ?wek3 ?wek4 ?wek5 ?wekA ?wekF ?wekK ?wek6 ?wek7 ?wek8 ?wek9 ?wekB ?wekD ?_ ?wec2 ?wec3 ?wec4; (case wekA => exact rfl); (case wekF => exact rfl); (case wekK => assumption); (case wek1 => k_asm); (case wek2 => k_asm); (case wek3 => k_asm); (case wek4 => k_asm); (case wek5 => k_asm); (case wek6 => k_is); (case wek7 => k_is); (case wek8 => ktr_room); (case wek9 => exact BindsTo.of_eq rfl); (case wekB => exact rfl); (case wekD => decide +kernel); (case wec2 => exact rfl); (case wec3 => exact rfl); (case wec4 => exact rfl); k_whole; intro g' L' h' tk' cells' FG' F' N' Y' B' X' T' l1; (try k_lt l1); k_cells Y'; (try simp only [List.cons_append, List.nil_append] at N'); (try dsimp only); (try k_lift B'); (try k_fold)))
  k_with "exec Assign cons ListComp" => (k_here; k_dflt (first
  | refine Mine.Assign_C (_F₀ := by k_asm) (by rfl) (by with_unfolding_all rfl) (by with_unfolding_all rfl) (fun _ => rfl) (fun _ => rfl) (by rfl) (by rfl) (by decide) (by rfl) (by rfl) ?_
  | refine Mine.Assign_L (ct := none) (_F₀ := by k_asm) (by rfl) (by with_unfolding_all rfl) (by with_unfolding_all rfl) (by decide) (by rfl) (by decide) (by rfl) (by rfl) (by rfl) ?_
  | refine Mine.Assign_L (ct := some _) (_F₀ := by k_asm) (by rfl) (by with_unfolding_all rfl) (by with_unfolding_all rfl) (by decide) (by rfl) (by decide) (by rfl) (by rfl) (by rfl) ?_))
  k_with "eval ListComp BinOp cons" => (k_here; k_dflt (refine Mine.ListComp_L (ct := none) (_F₀ := by k_asm) (by with_unfolding_all rfl) (by decide) (by rfl) (by decide) (by rfl) ?_))
  k_with "eval ListComp Call cons" => (k_here; k_dflt (refine Mine.ListComp_L (ct := none) (_F₀ := by k_asm) (by with_unfolding_all rfl) (by decide) (by rfl) (by decide) (by rfl) ?_))
  k_with "eval ListComp Subscript cons" => (k_here; k_dflt (refine Mine.ListComp_L (ct := none) (_F₀ := by k_asm) (by with_unfolding_all rfl) (by decide) (by rfl) (by decide) (by rfl) ?_))
  k_with "eval ListComp Name cons" => (k_here; k_dflt (refine Mine.ListComp_L (ct := none) (_F₀ := by k_asm) (by with_unfolding_all rfl) (by decide) (by rfl) (by decide) (by rfl) ?_))
  k_with "eval ListComp Name cons" => (k_here; k_dflt (refine Mine.ListComp_L (ct := some _) (_F₀ := by k_asm) (by with_unfolding_all rfl) (by decide) (by rfl) (by decide) (by rfl) ?_))
  k_with "eval ListComp ListComp cons" => (k_here; k_dflt (refine Mine.ListComp_C (_F₀ := by k_asm) (by with_unfolding_all rfl) (fun _ => rfl) (fun _ => rfl) (by rfl) (by rfl) (by decide) ?_))
  k_with "SrcM" => (k_here; k_dflt (first
  | (refine Mine.SrcM.range 4 (by rfl) (by k_asm) (by k_asm) (by assumption) (by first | decide | rfl) (by first | rfl | decide) (by exact Nat.le_of_ble_eq_true rfl) ?_; intro g'; (try dsimp only))
  | (refine Mine.SrcM.range 3 (by rfl) (by k_asm) (by k_asm) (by assumption) (by first | decide | rfl) (by first | rfl | decide) (by exact Nat.le_of_ble_eq_true rfl) ?_; intro g'; (try dsimp only))
  | (refine Mine.SrcM.ledger 3 (by rfl) (by k_asm) (by k_asm) (by k_mem) (by rfl) (by exact Nat.le_of_ble_eq_true rfl) ?_; intro g'; (try dsimp only))))
  k_with "LRest" => (with_unfolding_all first
  | (refine Mine.LRest.turn ?_; intro v' I' oI' C' oC' D' m' h' tk' E' hv' hC' hx' F' N' lie'; (first | lcg_open hv' | (obtain ⟨t9', hv9'⟩ := hv'; subst hv9')); (try simp only [List.nil_append, List.cons_append] at N'))
  | (refine Mine.LRest.test ?_; intro v' I' oI' C' oC' D' m' h' tk' E' hv' hC' hx' F' N' lie'; (first | lcg_open hv' | (obtain ⟨t9', hv9'⟩ := hv'; subst hv9')); (try simp only [List.nil_append, List.cons_append] at N'))
  | refine Mine.LRest.zero ?_)
  k_with "CRest" => (with_unfolding_all first
  | (refine Mine.CRest.turn ?_; intro v' I' oI' C' X' oX' D' h' tk' E' hv' hdX' F' N' lie'; (first | lcg_open hv' | (obtain ⟨t9', hv9'⟩ := hv'; subst hv9')); (try simp only [List.nil_append, List.cons_append] at N'))
  | refine Mine.CRest.zero ?_)
  k_with "LEnd" => (k_dflt (first
  | refine Mine.LEnd.push0 (by k_asm) (by k_asm) (by k_asm) ?_
  | refine Mine.LEnd.push1 (by k_asm) (by k_asm) (by k_asm) (by omega) ?_))
  k_with "FinV" => ((unfold Mine.FinV); intro D' h' tk' F' N' nlt' abv'; (k_lt nlt'); (try simp only [List.forall_mem_cons, List.forall_mem_nil, and_true] at abv'); (try simp only [List.nil_append, List.cons_append] at N'); (try dsimp only))
  k_with "FinB" => ((unfold Mine.FinB); intro D' h' tk' F' N' nlt' abv'; (k_lt nlt'); (try simp only [List.forall_mem_cons, List.forall_mem_nil, and_true] at abv'); (try simp only [List.nil_append, List.cons_append] at N'); (try dsimp only))
  k_with "mine_map" => ((repeat (refine (if_neg (by decide)).trans ?_)); first | exact if_pos rfl | assumption | exact rfl)
  k_with "eval Name" => (k_here; k_dflt (refine' nameX_L ?v15F ?v15v ?_ ?v15a ?v15b; (case v15a => rfl); (case v15b => rfl); (case v15F => k_asm); (case v15v => k_extra "mine_map"); k_whole))
  k_with "subscriptTail Name BinOp ref int" => (k_here; k_dflt (refine' Mine.item_refs ?v16N ?v16m ?v16a ?v16b ?_ ?v16s; (case v16N => k_asm); (case v16m => k_mem); (case v16a => omega); (case v16b => omega); (case v16s => with_unfolding_all rfl); k_whole); intro i' hi')
  k_with "binaryOp Mod int int" => (k_here; (with_reducible refine' Mine.mod4 ?_); intro x' hx0' hx4')
  k_with "subscriptTail Name Name ref int" => (k_here; k_dflt (refine' Mine.item_row ?v18N ?v18ha ?v18m0 ?v18m1 ?v18m2 ?v18m3 ?v18a ?v18b ?_ ?v18s; (case v18N => k_asm); (case v18m0 => k_mem); (case v18m1 => k_mem); (case v18m2 => k_mem); (case v18m3 => k_mem); (case v18ha => omega); (case v18a => omega); (case v18b => omega); (case v18s => with_unfolding_all rfl); k_whole))
  k_with "setItem ref int" => (k_here; k_dflt (refine' Mine.store_row ?v19F ?v19N ?v19f ?v19ha ?v19a ?v19b ?_; (case v19F => k_asm); (case v19N => k_asm); (case v19f => assumption); (case v19ha => omega); (case v19a => omega); (case v19b => omega); k_whole); intro h' F' N')
  k_with "loadName" => (k_here; k_dflt (refine' wpAny_loadName_local ?v20a ?v20b ?v20c ?v20v ?_; (case v20a => rfl); (case v20b => rfl); (case v20c => exact Fr.ns (by k_asm)); (case v20v => k_extra "mine_map"); k_whole))
  k_with "exec While" => (k_here; k_dflt (refine' Mine.while_sq ?v21a ?v21b ?v21F ?v21N ?v21h1 ?v21h2 ?v21h3 ?v21h4 ?v21h5 ?v21d1 ?v21d2 ?v21d3 ?_ ?v21hE; (case v21hE => first | assumption | passes_own); (case v21F => k_asm); (case v21N => k_asm); (case v21h1 => k_extra "mine_map"); (case v21h2 => k_extra "mine_map"); (case v21h3 => k_extra "mine_map"); (case v21h4 => k_extra "mine_map"); (case v21h5 => k_extra "mine_map"); (case v21d1 => assumption); (case v21d2 => assumption); (case v21d3 => assumption); (case v21a => omega); (case v21b => omega); k_whole))
  k_with "LRest" => (k_dflt (refine' Mine.LRest.one ?v22o ?v22turn ?v22fin; (case v22o => assumption)); (case' v22fin => (intro y' hy'; (try (obtain ⟨t8', hy8'⟩ := hy'; subst hy8')))); (case' v22turn => (intro i' v' I' oI' C' oC' D' m' h' tk' E' ys' hi' hv' hC' hx' F' N' lie'; (first | (obtain ⟨t9', hv9'⟩ := hv'; subst hv9') | skip))))
  k_with "mine_hit" => (first | (refine' Mine.hit_yes ?v23hit ?v23hi ?v23h0 ?v23a ?v23b; (case v23hit => assumption); (case v23hi => assumption); (case v23h0 => assumption); (case v23a => assumption); (case v23b => assumption)) | (refine' Mine.hit_no1 ?v23hit ?v23hi ?v23a; (case v23hit => assumption); (case v23hi => assumption); (case v23a => assumption)) | (refine' Mine.hit_no2 ?v23hit ?v23hi ?v23a; (case v23hit => assumption); (case v23hi => assumption); (case v23a => assumption)))
  k_with "HitPost" => (k_dflt (first | (refine Mine.HitPost.yes' ?v24hh ?_; (case v24hh => k_extra "mine_hit"); intro hh'; (try subst hh')) | (refine Mine.HitPost.no ?v24hh ?_; (case v24hh => k_extra "mine_hit"))))
  k_with "WhileStep2" => (k_dflt (first
  | (refine' Mine.jw_next ?v25F ?v25N ?v25h1 ?v25h2 ?v25h3 ?v25h4 ?v25hb ?v25h5 ?v25d1 ?v25d2 ?v25d3 ?v25hn ?v25C ?v25e; (case v25F => k_asm); (case v25N => k_asm); (case v25C => assumption); (case v25e => assumption); (case v25h1 => k_extra "mine_map"); (case v25h2 => k_extra "mine_map"); (case v25h3 => k_extra "mine_map"); (case v25h4 => k_extra "mine_map"); (case v25h5 => k_extra "mine_map"); (case v25hb => first | assumption | rfl); (case v25d1 => assumption); (case v25d2 => assumption); (case v25d3 => assumption); (case v25hn => omega))
  | (refine' Mine.jw_last ?v25F ?v25N ?v25h1 ?v25h2 ?v25h3 ?v25h4 ?v25hb ?v25h5 ?v25d1 ?v25d2 ?v25d3 ?v25hn ?v25C; (case v25F => k_asm); (case v25N => k_asm); (case v25C => assumption); (case v25h1 => k_extra "mine_map"); (case v25h2 => k_extra "mine_map"); (case v25h3 => k_extra "mine_map"); (case v25h4 => k_extra "mine_map"); (case v25h5 => k_extra "mine_map"); (case v25hb => first | assumption | rfl); (case v25d1 => assumption); (case v25d2 => assumption); (case v25d3 => assumption); (case v25hn => omega))))
  k_with "UnrEnd" => (k_dflt (refine' Mine.jf_end ?v26F ?v26N ?v26h1 ?v26h2 ?v26d1 ?v26d2 ?v26d3 ?v26C ?v26lb ?v26lD ?v26l0 ?v26lI; (case v26F => k_asm); (case v26N => k_asm); (case v26C => assumption); (case v26h1 => k_extra "mine_map"); (case v26h2 => k_extra "mine_map"); (case v26d1 => assumption); (case v26d2 => assumption); (case v26d3 => assumption); (case v26lb => assumption); (case v26lD => assumption); (case v26l0 => assumption); (case v26lI => assumption)))
  trivial
/-- the ledger of a square -/
noncomputable def sqPost (news : List (Addr × Obj)) (v : Value) (h₀ h' : Heap) (L : Addr) (m : Str → Option Value) : Prop :=
  Fr h₀ L h' m ∧ ∃ (D : Addr) (r : Nat → Addr) (P : Nat → Nat → Int) (T : Nat → Nat → Tok), v = .ref D ∧ Lat P ∧ (∀ p ∈ news, @LT.lt Nat _ p.1 D) ∧ (@LT.lt Nat _ D (r 0) ∧ @LT.lt Nat _ D (r 1) ∧ @LT.lt Nat _ D (r 2) ∧ @LT.lt Nat _ D (r 3)) ∧
    News h₀ L h' ((D, refs4 r) :: (r 0, row4 (P 0) (T 0)) :: (r 1, row4 (P 1) (T 1)) :: (r 2, row4 (P 2) (T 2)) :: (r 3, row4 (P 3) (T 3)) :: news)
noncomputable def mk4 {α : Type} (a b c d : α) : Nat → α
  | 0 => a
  | 1 => b
  | 2 => c
  | _ => d
theorem range_sub {prog : Program} {w : World} {A : Around} {E : Value → Shared → Prop} {h₀ : Heap} {env : Env} {x : Str} {body : List Stmt} {Q : Flow → Shared → Prop} {s : Shared} {I : Addr} {a : Int} {n k i : Nat} {m : Str → Option Value} {news news' : List (Addr × Obj)}
    (hs : ∀ p ∈ news', p ∈ news) (h : RangeRest prog w A E h₀ env x body Q s I a n k i m news') : RangeRest prog w A E h₀ env x body Q s I a n k i m news := by
  cases k with
  | zero => exact fun g tk F N => h g tk F fun p hp => N p (hs p hp)
  | succ k => exact fun t g tk F N => h t g tk F fun p hp => N p (by
      rcases List.mem_cons.mp hp with rfl | hp
      · exact List.mem_cons_self
      · exact List.mem_cons_of_mem _ (hs p hp))
theorem sq_loop (w : World) {p : Program} {loose : List Str} {mean : ExcName → Option Value} {mg mb : Str → Option Value} {dp un : Nat} {gd : Option (List Code)} {cn : Str} {cs : Scope} {L a : Addr} {ccd : Value} {cl : List (Str × Addr)} {outer : List Env}
    {g : Heap} {L' : Addr} (X : (hd.heap_39 w.params).In g) (T : Top p loose mean mg mb g) (hu : un + 8 < cLine) (sc : Scope) (b : List Stmt) (hsc : sc = sqSc) (hb : b = sqFor) {base : List (Addr × Obj)} {D I d0 d1 d2 d3 : Addr} {s : Shared} {Q : Flow → Shared → Prop} {E : Value → Shared → Prop}
    {v00 v01 v02 v03 v10 v11 v12 v13 v20 v21 v22 v23 v30 v31 v32 v33 : Int} {t00 t01 t02 t03 t10 t11 t12 t13 t20 t21 t22 t23 t30 t31 t32 t33 : Tok} {o1 o2 o3 : Obj} {c1 c2 c3 : Option Value} {m : Str → Option Value} {nn : Int} {tn : Tok}
    (lb : ∀ p ∈ base, @LT.lt Nat _ p.1 L') (lD : @LT.lt Nat _ (L' + 1 + 1 + 1) D) (l0 : @LT.lt Nat _ D d0) (l1 : @LT.lt Nat _ d0 d1) (l2 : @LT.lt Nat _ d1 d2) (l3 : @LT.lt Nat _ d2 d3) (lI : @LT.lt Nat _ d3 I)
    (hE : PassesOwn (model PR w) ((ktrTop dp un gd cn cs L a ccd cl outer).deeper (sqEnv sc L')) (sqEnv sc L') E)
    (h1 : m "rows" = some (.ref D)) (h2 : m "number" = some (.int nn tn)) (e1 : o1.data = Data.cell c1) (e2 : o2.data = Data.cell c2) (e3 : o3.data = Data.cell c3)
    (hv : [v00, v01, v02, v03, v10, v11, v12, v13, v20, v21, v22, v23, v30, v31, v32, v33] = [sq0 0 0, sq0 0 1, sq0 0 2, sq0 0 3, sq0 1 0, sq0 1 1, sq0 1 2, sq0 1 3, sq0 2 0, sq0 2 1, sq0 2 2, sq0 2 3, sq0 3 0, sq0 3 1, sq0 3 2, sq0 3 3])
    (done : ∀ (r : Nat → Addr) (P : Nat → Nat → Int) (T : Nat → Nat → Tok) (m : Str → Option Value) (h : Heap) (tk : Nat), Lat P → m "rows" = some (.ref D) → Fr g (sqEnv sc L').locals h m → (D < r 0 ∧ D < r 1 ∧ D < r 2 ∧ D < r 3) → (∀ a b, a < 4 → b < 4 → r a = r b → a = b) →
      News g (sqEnv sc L').locals h ((D, refs4 r) :: (r 0, row4 (P 0) (T 0)) :: (r 1, row4 (P 1) (T 1)) :: (r 2, row4 (P 2) (T 2)) :: (r 3, row4 (P 3) (T 3)) :: base) → Q .next { s with heap := h, toks := tk }) :
    RangeRest PR w ((ktrTop dp un gd cn cs L a ccd cl outer).deeper (sqEnv sc L')) E g (sqEnv sc L') (Str.ofString "turn") b Q s I 0 3 3 0 m
      ((D, lst [.ref d0, .ref d1, .ref d2, .ref d3]) :: (d3, lst [.int v30 t30, .int v31 t31, .int v32 t32, .int v33 t33]) :: (d2, lst [.int v20 t20, .int v21 t21, .int v22 t22, .int v23 t23]) ::
        (d1, lst [.int v10 t10, .int v11 t11, .int v12 t12, .int v13 t13]) :: (d0, lst [.int v00 t00, .int v01 t01, .int v02 t02, .int v03 t03]) :: (L' + 1 + 1 + 1, o1) :: (L' + 1 + 1, o2) :: (L' + 1, o3) :: base) := by
  simp only [List.cons.injEq, and_true] at hv
  obtain ⟨rfl, rfl, rfl, rfl, rfl, rfl, rfl, rfl, rfl, rfl, rfl, rfl, rfl, rfl, rfl, rfl⟩ := hv
  have lb' : ∀ p ∈ base, @LT.lt Nat _ p.1 (L' + 1) := fun p hp => Nat.lt_succ_of_lt (lb p hp)
  have hr : ∀ a, a < 4 → @LT.lt Nat _ D (mk4 d0 d1 d2 d3 a) ∧ @LT.lt Nat _ (mk4 d0 d1 d2 d3 a) I := fun a ha => by
    rcases lt4 ha with rfl | rfl | rfl | rfl <;> simp only [mk4] <;> constructor <;> omega
  have inj : ∀ a b, a < 4 → b < 4 → mk4 d0 d1 d2 d3 a = mk4 d0 d1 d2 d3 b → a = b := fun a b ha hb e => by
    have e' : @Eq Nat (mk4 d0 d1 d2 d3 a) (mk4 d0 d1 d2 d3 b) := e
    rcases lt4 ha with rfl | rfl | rfl | rfl <;> rcases lt4 hb with rfl | rfl | rfl | rfl <;> simp only [mk4] at e' <;> first | rfl | (exfalso; omega)
  have far : Far (mk4 d0 d1 d2 d3) (I :: D :: (L' + 1 + 1 + 1) :: (L' + 1 + 1) :: (L' + 1) :: base.map (·.1)) := ⟨inj, fun x hx a ha => by
    have h1 := hr a ha
    have lt : @LT.lt Nat _ x (mk4 d0 d1 d2 d3 a) ∨ @LT.lt Nat _ (mk4 d0 d1 d2 d3 a) x := by
      simp only [List.mem_cons] at hx
      rcases hx with rfl | rfl | rfl | rfl | rfl | hx
      · exact .inr h1.2
      · exact .inl h1.1
      · exact .inl (by omega)
      · exact .inl (by omega)
      · exact .inl (by omega)
      · obtain ⟨q, hq, rfl⟩ := List.mem_map.mp hx
        exact .inl (by have := lb q hq; omega)
    rcases lt with h | h
    · exact Nat.ne_of_lt h
    · exact gt_ne h⟩
  refine range_sub (news' := (D, refs4 (mk4 d0 d1 d2 d3)) :: (mk4 d0 d1 d2 d3 0, row4 (sq0 0) (mk4 t00 t01 t02 t03)) :: (mk4 d0 d1 d2 d3 1, row4 (sq0 1) (mk4 t10 t11 t12 t13)) :: (mk4 d0 d1 d2 d3 2, row4 (sq0 2) (mk4 t20 t21 t22 t23)) :: (mk4 d0 d1 d2 d3 3, row4 (sq0 3) (mk4 t30 t31 t32 t33)) :: (L' + 1 + 1 + 1, o1) :: (L' + 1 + 1, o2) :: (L' + 1, o3) :: base) (fun q hq => ?_) ?_
  · simp only [List.mem_cons] at hq ⊢
    rcases hq with h | h | h | h | h | h
    · exact .inl h
    · exact .inr (.inr (.inr (.inr (.inl h))))
    · exact .inr (.inr (.inr (.inl h)))
    · exact .inr (.inr (.inl h))
    · exact .inr (.inl h)
    · exact .inr (.inr (.inr (.inr (.inr h))))
  refine range_inv (JF D (mk4 d0 d1 d2 d3) (L' + 1) base) (sq_turn w X T hu sc b hsc hb lb' lD (hr 0 (by omega)).1 (hr 1 (by omega)).1 (hr 2 (by omega)).1 (hr 3 (by omega)).1 ⟨(hr 0 (by omega)).2, (hr 1 (by omega)).2, (hr 2 (by omega)).2, (hr 3 (by omega)).2⟩ far hE)
    ?_ 3 0 m _ (by omega) ⟨sq0, mk4 (mk4 t00 t01 t02 t03) (mk4 t10 t11 t12 t13) (mk4 t20 t21 t22 t23) (mk4 t30 t31 t32 t33), nn, tn, o1, o2, o3, c1, c2, c3, lat_sq0, h1, h2, e1, e2, e3, rfl⟩
  rintro m' news' ⟨P, T', nn', t', q1, q2, q3, w1, w2, w3, lat, a1, a2, b1, b2, b3, rfl⟩ h tk F N
  refine done _ P T' m' h tk lat a1 F ⟨(hr 0 (by omega)).1, (hr 1 (by omega)).1, (hr 2 (by omega)).1, (hr 3 (by omega)).1⟩ inj fun p hp => N p ?_
  simp only [List.mem_cons] at hp ⊢
  rcases hp with h | h | h | h | h | h
  · exact .inl h
  · exact .inr (.inl h)
  · exact .inr (.inr (.inl h))
  · exact .inr (.inr (.inr (.inl h)))
  · exact .inr (.inr (.inr (.inr (.inl h))))
  · exact .inr (.inr (.inr (.inr (.inr (.inr (.inr (.inr h)))))))

theorem sq_ok (w : World) {p : Program} {loose : List Str} {mean : ExcName → Option Value} {mg mb : Str → Option Value} {news : List (Addr × Obj)} (n : Int) (t : Tok) :
   Tells w p loose mean mg mb 103 [.int n t] news 1 8 (sqPost news) := by
  intro dp un gd cn cs a ccd cl outer A₀ base h₀ L m s Q E B F X N T hk hd hu hret
  refine wpAny_call ?_
  k_extra "enterC"
  iterate 170 (first | (k_unfold; (try dsimp only)) | walk1 | (dsimp only; walk1))
  refine' sq_loop w ?X ?T ?hu _ _ rfl rfl ?lb ?lD ?l0 ?l1 ?l2 ?l3 ?lI ?hE ?h1 ?h2 ?e1 ?e2 ?e3 ?hv ?done
  case X => k_asm
  case T => k_asm
  case hu => assumption
  case lb => assumption
  case lD => omega
  case l0 => omega
  case l1 => omega
  case l2 => omega
  case l3 => omega
  case lI => omega
  case hE => passes_own
  case h1 => k_extra "mine_map"
  case h2 => exact rfl
  case e1 => assumption
  case e2 => assumption
  case e3 => assumption
  case hv => decide +kernel
  case done =>
    intro r P T m' h tk lat e F lr inj N
    replace F : Fr _ _ h m' := F
    k_steps
    refine hret _ _ _ ⟨by k_asm, _, r, P, T, rfl, lat, ?_, lr, by k_asm⟩
    intro p hp
    have h1 := (by assumption : ∀ p ∈ news, @LT.lt Nat _ p.1 _) p hp
    omega
end
section
open PySem PySem.Spec PySem.Calls PySem.W PyProof.Rows PyProof.Rows.LCg
/-- a letter a .. d; a word of three of them -/
noncomputable def ltr (n : Nat) : Str := ⟨#[97 + n]⟩
noncomputable def two (a b : Nat) : Str := ⟨#[97 + a, 97 + b]⟩
noncomputable def wrd (a b c : Nat) : Str := ⟨#[97 + a, 97 + b, 97 + c]⟩
/-- the n-th word of a square -/
noncomputable def wrdAt (P : Nat → Nat → Int) (n : Nat) : Str := wrd (n / 4) (n % 4) (P (n / 4) (n % 4)).toNat
/-- the list of its first n words -/
noncomputable def wlist (P : Nat → Nat → Int) (T : Nat → Tok) (n : Nat) : Obj := lst ((List.range n).map fun q => .str (wrdAt P q) (T q))
section
variable {prog : Program} {w : World} {A : Around} {E : Value → Shared → Prop} {s : Shared} {h₀ : Heap} {L : Addr} {m : Str → Option Value} {env : Env} {news : List (Addr × Obj)} {r : Nat → Addr} {P : Nat → Nat → Int} {T : Nat → Tok}
theorem abcd_item {value slice : PySem.Expr} {t u : Tok} {k : Int} {Q : Value → Shared → Prop} (h0 : 0 ≤ k) (h4 : k < 4) (h : Q (.str (ltr k.toNat) s.toks) { s with toks := s.toks + 1 })
    (hs : subscripted slice false (.str (Str.ofString "abcd") t) (.int k u) = operate [.str (Str.ofString "abcd") t, .int k u] (getItem (.str (Str.ofString "abcd") t) (.int k u)) := by with_unfolding_all rfl)
    (ht : ∀ r, letTemporaryGo value (.str (Str.ofString "abcd") t) r = pure () := by intro _; with_unfolding_all rfl) :
    wpAny (model prog w) A (subscriptTail value slice (.str (Str.ofString "abcd") t) (.int k u)) Q E s := by
  have e : k = 0 ∨ k = 1 ∨ k = 2 ∨ k = 3 := by omega
  have q : Txt.item (Str.ofString "abcd") k = ltr k.toNat := by rcases e with rfl | rfl | rfl | rfl <;> decide +kernel
  have l : (Str.ofString "abcd").length = 4 := by decide +kernel
  refine item_str (by rcases e with rfl | rfl | rfl | rfl <;> decide +kernel) (by rw [l]; omega) (by rw [l]; omega) (fun _ => by rw [q]; exact h) hs ht
theorem cat_1 {a b : Nat} {t u : Tok} {Q : Value → Shared → Prop} (h : ∀ t' tk, Q (.str (two a b) t') { s with toks := tk }) : wpAny (model prog w) A (binaryOp .Add (.str (ltr a) t) (.str (ltr b) u)) Q E s :=
  PyProof.Rows.add_str h (by show 1 + 1 ≤ sizeLine; decide)
theorem cat_2 {a b c : Nat} {t u : Tok} {Q : Value → Shared → Prop} (h : ∀ t' tk, Q (.str (wrd a b c) t') { s with toks := tk }) : wpAny (model prog w) A (binaryOp .Add (.str (two a b) t) (.str (ltr c) u)) Q E s :=
  PyProof.Rows.add_str h (by show 2 + 1 ≤ sizeLine; decide)
theorem item_refsX {value slice : PySem.Expr} {l : Addr} {k : Int} {u : Tok} {Q : Value → Shared → Prop} (N : News h₀ L s.heap news) (hm : (l, refs4 r) ∈ news) (h0 : 0 ≤ k) (h4 : k < 4) (h : Q (.ref (r k.toNat)) s)
    (hs : subscripted slice false (.ref l) (.int k u) = operate [.ref l, .int k u] (getItem (.ref l) (.int k u)) := by with_unfolding_all rfl) :
    wpAny (model prog w) A (subscriptTail value slice (.ref l) (.int k u)) Q E s := by
  have hl : s.heap.IsList l #[.ref (r 0), .ref (r 1), .ref (r 2), .ref (r 3)] := ⟨_, (N _ hm).1, rfl, _, rfl⟩
  refine tail_any hl.typeIs slot_list_getitem.lookup (wpAny_getItem_list hl h0 (by omega) ?_ h) hs
  have : k.toNat = 0 ∨ k.toNat = 1 ∨ k.toNat = 2 ∨ k.toNat = 3 := by omega
  rcases this with e | e | e | e <;> rw [e] <;> rfl
theorem wlist_snoc {n : Nat} {x : Str} {t : Tok} (hx : x = wrdAt P n) : ({ cls := .type "list", data := .seq (((List.range n).map fun q => Value.str (wrdAt P q) (T q)).toArray.push (.str x t)) (((List.range n).map fun q => Value.str (wrdAt P q) (T q)).length + 1) } : Obj) =
    wlist P (fun q => if q = n then t else T q) (n + 1) := by
  subst hx
  refine (lst_snoc _ _).trans (congrArg lst ?_)
  rw [List.range_succ, List.map_append, List.map_cons, List.map_nil]
  simp only [if_true]
  refine congrArg (· ++ _) (List.map_congr_left fun q hq => ?_)
  have : q ≠ n := Nat.ne_of_lt (List.mem_range.mp hq)
  simp only [this, if_false]
theorem append_w {p₁ p₂ : Addr × Obj} {rest : List (Addr × Obj)} {W : Addr} {n : Nat} {x : Str} {t : Tok} {Q : Value → Shared → Prop} (F : Fr h₀ L s.heap m) (N : News h₀ L s.heap (p₁ :: p₂ :: (W, wlist P T n) :: rest)) (far : ∀ y ∈ p₁.1 :: p₂.1 :: rest.map (·.1), y ≠ W) (hn : n < 16) (hx : x = wrdAt P n)
    (h : ∀ h', Fr h₀ L h' m → News h₀ L h' (p₁ :: p₂ :: (W, wlist P (fun q => if q = n then t else T q) (n + 1)) :: rest) → Q .none { s with heap := h' }) :
    wpAny (model prog w) A (call (.builtin "list.append") [.ref W, .str x t]) Q E s := by
  have z := N (W, wlist P T n) (by simp)
  refine append_at (D := W) (its := ((List.range n).map fun q => Value.str (wrdAt P q) (T q)).toArray) (n := ((List.range n).map fun q => Value.str (wrdAt P q) (T q)).length) z.1 (fun h' hs hW => h h' (F.change hs z.2.1 z.2.2) fun p hp => ?_) (by simp; exact Nat.le_trans (Nat.le_of_lt hn) (by decide))
  rw [wlist_snoc hx] at hW
  have keep : ∀ q ∈ (p₁ :: p₂ :: (W, wlist P T n) :: rest), q.1 ≠ W → h'.get? q.1 = some q.2 := fun q hq hne => hs.extBut _ _ hne (N q hq).1
  simp only [List.mem_cons] at hp
  rcases hp with rfl | rfl | rfl | hp
  · exact ⟨keep _ (by simp) (far _ (by simp)), (N _ (by simp)).2⟩
  · exact ⟨keep _ (by simp) (far _ (by simp)), (N _ (by simp)).2⟩
  · exact ⟨hW, z.2⟩
  · exact ⟨keep p (by simp [hp]) (far _ (by simp only [List.mem_cons]; exact .inr (.inr (List.mem_map_of_mem hp)))), (N p (by simp [hp])).2⟩
end
end
section
open PySem PySem.Spec PySem.Calls PySem.W PyProof.Rows PyProof.Rows.LCg PySem.Builtin.Str
noncomputable def pat0 (i j : Nat) : Str := ⟨#[97 + i, 97 + j, 46, 46, 46]⟩
noncomputable def pat1 (i j : Nat) : Str := ⟨#[97 + i, 46, 46, 46, 97 + j]⟩
noncomputable def pat2 (i j : Nat) : Str := ⟨#[46, 46, 46, 97 + i, 97 + j]⟩
noncomputable def dots : Str := Str.ofString "..."
/-- a text that falls in two at the three dots -/
structure Splits (p a b : Str) : Prop where
  has : (occurrences p (Str.ofString "...") 0 p.length 1).isEmpty = false
  parts : Txt.split p (Str.ofString "...") = [a, b]
  short : p.length + 2 ≤ sizeLine
section
variable {prog : Program} {w : World} {A : Around} {E : Value → Shared → Prop} {s : Shared} {h₀ : Heap} {L : Addr} {m : Str → Option Value} {env : Env} {news : List (Addr × Obj)} {p a b : Str}
theorem notin_dots {t u : Tok} {Q : Value → Shared → Prop} (hp : Splits p a b) (h : Q (.bool false) s) : wpAny (model prog w) A (compareOp .NotIn (.str (Str.ofString "...") t) (.str p u)) Q E s :=
  notIn_str (by rw [hp.has]; exact h)
theorem split_dots {t u : Tok} {Q : Value → Shared → Prop} (hp : Splits p a b) (F : Fr h₀ L s.heap m) (N : News h₀ L s.heap news)
    (h : ∀ D t1 t2 h' tk, Fr h₀ L h' m → News h₀ L h' ((D, { cls := .type "list", data := .seq #[.str a t1, .str b t2] }) :: news) → (∀ p ∈ news, @LT.lt Nat _ p.1 D) → Q (.ref D) { s with heap := h', toks := tk }) :
    wpAny (model prog w) A (call (.builtin "str.split") [.str p t, .str (Str.ofString "...") u]) Q E s :=
  splitN1 F N (by decide +kernel) (fun l h' k hl F' N' => by
    rw [hp.parts] at hl
    match l, hl with
    | [(_, t1), (_, t2)], hl =>
      simp only [List.map_cons, List.map_nil, List.cons.injEq, and_true] at hl
      obtain ⟨rfl, rfl⟩ := hl
      rename_i a' b'
      have e : ({ cls := Value.type "list", data := Data.seq (strValues [(a', t1), (b', t2)]).toArray } : Obj) = { cls := .type "list", data := .seq #[.str a' t1, .str b' t2] } := rfl
      rw [e] at N'
      exact h _ t1 t2 _ _ F' N' fun q hq => Heap.lt_size (N q hq).1) hp.short
theorem starts_is {x y : Str} {t u : Tok} {b : Bool} {Q : Value → Shared → Prop} (e : Txt.startswith x y = b) (h : Q (.bool b) s) : wpAny (model prog w) A (call (.builtin "str.startswith") [.str x t, .str y u]) Q E s := by
  subst e; exact SC.startswith h
theorem ends_is {x y : Str} {t u : Tok} {b : Bool} {Q : Value → Shared → Prop} (e : Txt.endswith x y = b) (h : Q (.bool b) s) : wpAny (model prog w) A (call (.builtin "str.endswith") [.str x t, .str y u]) Q E s := by
  subst e; exact SC.endswith h
theorem truthy_len {x : Str} {t : Tok} {n : Nat} {Q : Bool → Shared → Prop} (e : x.length = n + 1) (hn : n < 100) (h : Q true { s with toks := s.toks + 1 + 1 }) : wpAny (model prog w) A (truthy (.str x t)) Q E s := by
  refine P.truthy_str (by rw [e]; omega) ?_
  rw [e]
  have : (((n + 1 : Nat) : Int) != 0) = true := by simp; omega
  rw [this]
  exact h
theorem len_is {x : Str} {t : Tok} {n : Nat} {Q : Value → Shared → Prop} (e : x.length = n) (hn : n < 100) (h : Q (.int n (s.toks + 1)) { s with toks := s.toks + 1 + 1 }) : wpAny (model prog w) A (call (.builtin "len") [.str x t]) Q E s := by
  subst e
  exact len_str (by omega) h
theorem addr_lt {d : Addr} : ∀ {l : List (Addr × Obj)}, AllLt d l → ∀ y ∈ l.map (·.1), @LT.lt Nat _ y d
  | [], _, _, h => nomatch h
  | p :: l, h, y, hy => by
    rcases List.mem_cons.mp hy with rfl | hy
    · exact h.1
    · exact addr_lt h.2 y hy
theorem endW {L I : Addr} {it : Obj} {rest : (Str → Option Value) → List (Addr × Obj) → Prop} {s₁ : Shared} {h' : Heap} {tk : Nat} {m' : Str → Option Value} {news' : List (Addr × Obj)} (F : Fr h₀ L h' m') (N : News h₀ L h' ((I, it) :: news'))
    (off : AllLt I news') (r : rest m' news') : UnrEndW h₀ L s₁ [(I, it)] rest { s₁ with heap := h', toks := tk } :=
  ⟨h', tk, m', news', rfl, F, N, fun p hp q hq => by
    rw [List.mem_singleton.mp hq]
    exact Nat.ne_of_lt (addr_lt off p.1 (List.mem_map_of_mem hp)), r⟩
theorem newsTail {L : Addr} {h : Heap} {a : Addr × Obj} {l : List (Addr × Obj)} (N : News h₀ L h (a :: l)) : News h₀ L h l := fun p hp => N p (List.mem_cons_of_mem _ hp)
theorem gives_find_range (x y : Str) (i j : Int) (t u v z : Tok) (k : Nat) (rest : List Nat) (e : occurrences x y (fromIndex x.length i) (min (fromIndex x.length j) x.length) 1 = k :: rest) : Gives (PySem.Builtin.«str.find» ⟨[.str x t, .str y u, .int i v, .int j z], []⟩) (.int k) := by
  show Gives (match occurrences x y (fromIndex x.length i) (min (fromIndex x.length j) x.length) 1 with | k :: _ => PySem.retInt k | [] => (do rule "str.find.not-found"; PySem.retInt (-1))) _
  rw [e]
  exact .of_eq rfl
theorem find_is {x y : Str} {i j : Int} {t u v z : Tok} {k : Nat} {rest : List Nat} {Q : Value → Shared → Prop} (e : occurrences x y (fromIndex x.length i) (min (fromIndex x.length j) x.length) 1 = k :: rest) (h : Q (.int k s.toks) { s with toks := s.toks + 1 }) :
    wpAny (model prog w) A (call (.builtin "str.find") [.str x t, .str y u, .int i v, .int j z]) Q E s :=
  call_gives F.slot_str_find (typeIs_str _ _ _) F.entry_str_find (F.args_str_find_4 _ _ _ _) (gives_find_range x y i j t u v z k rest e) h
end
theorem pat0_splits : ∀ i j, i < 4 → j < 4 → Splits (pat0 i j) (two i j) Str.empty := fun i j hi hj =>
  ⟨(by decide +kernel : ∀ i < 4, ∀ j < 4, (occurrences (pat0 i j) (Str.ofString "...") 0 (pat0 i j).length 1).isEmpty = false) i hi j hj, (by decide +kernel : ∀ i < 4, ∀ j < 4, Txt.split (pat0 i j) (Str.ofString "...") = [two i j, Str.empty]) i hi j hj, by show 5 + 2 ≤ sizeLine; decide⟩
theorem pat1_splits : ∀ i j, i < 4 → j < 4 → Splits (pat1 i j) (ltr i) (ltr j) := fun i j hi hj =>
  ⟨(by decide +kernel : ∀ i < 4, ∀ j < 4, (occurrences (pat1 i j) (Str.ofString "...") 0 (pat1 i j).length 1).isEmpty = false) i hi j hj, (by decide +kernel : ∀ i < 4, ∀ j < 4, Txt.split (pat1 i j) (Str.ofString "...") = [ltr i, ltr j]) i hi j hj, by show 5 + 2 ≤ sizeLine; decide⟩
theorem pat2_splits : ∀ i j, i < 4 → j < 4 → Splits (pat2 i j) Str.empty (two i j) := fun i j hi hj =>
  ⟨(by decide +kernel : ∀ i < 4, ∀ j < 4, (occurrences (pat2 i j) (Str.ofString "...") 0 (pat2 i j).length 1).isEmpty = false) i hi j hj, (by decide +kernel : ∀ i < 4, ∀ j < 4, Txt.split (pat2 i j) (Str.ofString "...") = [Str.empty, two i j]) i hi j hj, by show 5 + 2 ≤ sizeLine; decide⟩
theorem starts2 : ∀ x < 4, ∀ y < 4, ∀ z < 4, ∀ i < 4, ∀ j < 4, Txt.startswith (wrd x y z) (two i j) = decide (x = i ∧ y = j) := by decide +kernel
theorem ends2 : ∀ x < 4, ∀ y < 4, ∀ z < 4, ∀ i < 4, ∀ j < 4, Txt.endswith (wrd x y z) (two i j) = decide (y = i ∧ z = j) := by decide +kernel
theorem starts1 : ∀ x < 4, ∀ y < 4, ∀ z < 4, ∀ i < 4, Txt.startswith (wrd x y z) (ltr i) = decide (x = i) := by decide +kernel
theorem ends1 : ∀ x < 4, ∀ y < 4, ∀ z < 4, ∀ i < 4, Txt.endswith (wrd x y z) (ltr i) = decide (z = i) := by decide +kernel
theorem find2 : ∀ x < 4, ∀ y < 4, ∀ z < 4, occurrences (wrd x y z) Str.empty 2 3 1 = [2] := by decide +kernel
theorem find0 : ∀ x < 4, ∀ y < 4, ∀ z < 4, occurrences (wrd x y z) Str.empty 0 1 1 = [0] := by decide +kernel
end
section
open PySem PySem.Spec PySem.Calls PySem.W PyProof.Rows PyProof.Rows.LCg
theorem walkT8 : True := by
  k_with_none
  k_with "enterC" => (k_dflt (refine' code_defC ?wek1 ?wek2 ?wek3 ?wek4 ?wek5 ?wekA ?wekF ?wekK ?wek6 ?wek7 ?wek8 ?wek9 ?wekB ?wekD ?_ ?wec2 ?wec3 ?wec4; (case wekA => exact rfl); (case wekF => exact rfl); (case wekK => assumption); (case wek1 => k_asm); (case wek2 => k_asm); (case wek3 => k_asm); (case wek4 => k_asm); (case wek5 => k_asm); (case wek6 => k_is); (case wek7 => k_is); (case wek8 => ktr_room); (case wek9 => exact BindsTo.of_eq rfl); (case wekB => exact rfl); (case wekD => decide +kernel); (case wec2 => exact rfl); (case wec3 => exact rfl); (case wec4 => exact rfl); k_whole; intro g' L' h' tk' cells' FG' F' N' Y' B' X' T' l1; (try k_lt l1); k_cells Y'; (try simp only [List.cons_append, List.nil_append] at N'); (try dsimp only); (try k_lift B'); (try k_fold)))
  k_with "exec Assign cons ListComp" => (k_here; k_dflt (first
  | refine Mine.Assign_C (_F₀ := by k_asm) (by rfl) (by with_unfolding_all rfl) (by with_unfolding_all rfl) (fun _ => rfl) (fun _ => rfl) (by rfl) (by rfl) (by decide) (by rfl) (by rfl) ?_
  | refine Mine.Assign_L (ct := none) (_F₀ := by k_asm) (by rfl) (by with_unfolding_all rfl) (by with_unfolding_all rfl) (by decide) (by rfl) (by decide) (by rfl) (by rfl) (by rfl) ?_
  | refine Mine.Assign_L (ct := some _) (_F₀ := by k_asm) (by rfl) (by with_unfolding_all rfl) (by with_unfolding_all rfl) (by decide) (by rfl) (by decide) (by rfl) (by rfl) (by rfl) ?_))
  k_with "eval ListComp BinOp cons" => (k_here; k_dflt (refine Mine.ListComp_L (ct := none) (_F₀ := by k_asm) (by with_unfolding_all rfl) (by decide) (by rfl) (by decide) (by rfl) ?_))
  k_with "eval ListComp Call cons" => (k_here; k_dflt (refine Mine.ListComp_L (ct := none) (_F₀ := by k_asm) (by with_unfolding_all rfl) (by decide) (by rfl) (by decide) (by rfl) ?_))
  k_with "eval ListComp Subscript cons" => (k_here; k_dflt (refine Mine.ListComp_L (ct := none) (_F₀ := by k_asm) (by with_unfolding_all rfl) (by decide) (by rfl) (by decide) (by rfl) ?_))
  k_with "eval ListComp Name cons" => (k_here; k_dflt (refine Mine.ListComp_L (ct := none) (_F₀ := by k_asm) (by with_unfolding_all rfl) (by decide) (by rfl) (by decide) (by rfl) ?_))
  k_with "eval ListComp Name cons" => (k_here; k_dflt (refine Mine.ListComp_L (ct := some _) (_F₀ := by k_asm) (by with_unfolding_all rfl) (by decide) (by rfl) (by decide) (by rfl) ?_))
  k_with "eval ListComp ListComp cons" => (k_here; k_dflt (refine Mine.ListComp_C (_F₀ := by k_asm) (by with_unfolding_all rfl) (fun _ => rfl) (fun _ => rfl) (by rfl) (by rfl) (by decide) ?_))
  k_with "SrcM" => (k_here; k_dflt (first
  | (refine Mine.SrcM.range 4 (by rfl) (by k_asm) (by k_asm) (by assumption) (by first | decide | rfl) (by first | rfl | decide) (by exact Nat.le_of_ble_eq_true rfl) ?_; intro g'; (try dsimp only))
  | (refine Mine.SrcM.range 3 (by rfl) (by k_asm) (by k_asm) (by assumption) (by first | decide | rfl) (by first | rfl | decide) (by exact Nat.le_of_ble_eq_true rfl) ?_; intro g'; (try dsimp only))
  | (refine Mine.SrcM.ledger 3 (by rfl) (by k_asm) (by k_asm) (by k_mem) (by rfl) (by exact Nat.le_of_ble_eq_true rfl) ?_; intro g'; (try dsimp only))))
  k_with "LRest" => (with_unfolding_all first
  | (refine Mine.LRest.turn ?_; intro v' I' oI' C' oC' D' m' h' tk' E' hv' hC' hx' F' N' lie'; (first | lcg_open hv' | (obtain ⟨t9', hv9'⟩ := hv'; subst hv9')); (try simp only [List.nil_append, List.cons_append] at N'))
  | (refine Mine.LRest.test ?_; intro v' I' oI' C' oC' D' m' h' tk' E' hv' hC' hx' F' N' lie'; (first | lcg_open hv' | (obtain ⟨t9', hv9'⟩ := hv'; subst hv9')); (try simp only [List.nil_append, List.cons_append] at N'))
  | refine Mine.LRest.zero ?_)
  k_with "CRest" => (with_unfolding_all first
  | (refine Mine.CRest.turn ?_; intro v' I' oI' C' X' oX' D' h' tk' E' hv' hdX' F' N' lie'; (first | lcg_open hv' | (obtain ⟨t9', hv9'⟩ := hv'; subst hv9')); (try simp only [List.nil_append, List.cons_append] at N'))
  | refine Mine.CRest.zero ?_)
  k_with "LEnd" => (k_dflt (first
  | refine Mine.LEnd.push0 (by k_asm) (by k_asm) (by k_asm) ?_
  | refine Mine.LEnd.push1 (by k_asm) (by k_asm) (by k_asm) (by omega) ?_))
  k_with "FinV" => ((unfold Mine.FinV); intro D' h' tk' F' N' nlt' abv'; (k_lt nlt'); (try simp only [List.forall_mem_cons, List.forall_mem_nil, and_true] at abv'); (try simp only [List.nil_append, List.cons_append] at N'); (try dsimp only))
  k_with "FinB" => ((unfold Mine.FinB); intro D' h' tk' F' N' nlt' abv'; (k_lt nlt'); (try simp only [List.forall_mem_cons, List.forall_mem_nil, and_true] at abv'); (try simp only [List.nil_append, List.cons_append] at N'); (try dsimp only))
  k_with "mine_map" => ((repeat (refine (if_neg (by decide)).trans ?_)); first | exact if_pos rfl | assumption | exact rfl)
  k_with "eval Name" => (k_here; k_dflt (refine' nameX_L ?v15F ?v15v ?_ ?v15a ?v15b; (case v15a => rfl); (case v15b => rfl); (case v15F => k_asm); (case v15v => k_extra "mine_map"); k_whole))
  k_with "subscriptTail Name BinOp ref int" => (k_here; k_dflt (refine' Mine.item_refs ?v16N ?v16m ?v16a ?v16b ?_ ?v16s; (case v16N => k_asm); (case v16m => k_mem); (case v16a => omega); (case v16b => omega); (case v16s => with_unfolding_all rfl); k_whole); intro i' hi')
  k_with "binaryOp Mod int int" => (k_here; (with_reducible refine' Mine.mod4 ?_); intro x' hx0' hx4')
  k_with "subscriptTail Name Name ref int" => (k_here; k_dflt (refine' Mine.item_row ?v18N ?v18ha ?v18m0 ?v18m1 ?v18m2 ?v18m3 ?v18a ?v18b ?_ ?v18s; (case v18N => k_asm); (case v18m0 => k_mem); (case v18m1 => k_mem); (case v18m2 => k_mem); (case v18m3 => k_mem); (case v18ha => omega); (case v18a => omega); (case v18b => omega); (case v18s => with_unfolding_all rfl); k_whole))
  k_with "setItem ref int" => (k_here; k_dflt (refine' Mine.store_row ?v19F ?v19N ?v19f ?v19ha ?v19a ?v19b ?_; (case v19F => k_asm); (case v19N => k_asm); (case v19f => assumption); (case v19ha => omega); (case v19a => omega); (case v19b => omega); k_whole); intro h' F' N')
  k_with "loadName" => (k_here; k_dflt (refine' wpAny_loadName_local ?v20a ?v20b ?v20c ?v20v ?_; (case v20a => rfl); (case v20b => rfl); (case v20c => exact Fr.ns (by k_asm)); (case v20v => k_extra "mine_map"); k_whole))
  k_with "exec While" => (k_here; k_dflt (refine' Mine.while_sq ?v21a ?v21b ?v21F ?v21N ?v21h1 ?v21h2 ?v21h3 ?v21h4 ?v21h5 ?v21d1 ?v21d2 ?v21d3 ?_ ?v21hE; (case v21hE => first | assumption | passes_own); (case v21F => k_asm); (case v21N => k_asm); (case v21h1 => k_extra "mine_map"); (case v21h2 => k_extra "mine_map"); (case v21h3 => k_extra "mine_map"); (case v21h4 => k_extra "mine_map"); (case v21h5 => k_extra "mine_map"); (case v21d1 => assumption); (case v21d2 => assumption); (case v21d3 => assumption); (case v21a => omega); (case v21b => omega); k_whole))
  k_with "LRest" => (k_dflt (refine' Mine.LRest.one ?v22o ?v22turn ?v22fin; (case v22o => assumption)); (case' v22fin => (intro y' hy'; (try (obtain ⟨t8', hy8'⟩ := hy'; subst hy8')))); (case' v22turn => (intro i' v' I' oI' C' oC' D' m' h' tk' E' ys' hi' hv' hC' hx' F' N' lie'; (first | (obtain ⟨t9', hv9'⟩ := hv'; subst hv9') | skip))))
  k_with "mine_hit" => (first | (refine' Mine.hit_yes ?v23hit ?v23hi ?v23h0 ?v23a ?v23b; (case v23hit => assumption); (case v23hi => assumption); (case v23h0 => assumption); (case v23a => assumption); (case v23b => assumption)) | (refine' Mine.hit_no1 ?v23hit ?v23hi ?v23a; (case v23hit => assumption); (case v23hi => assumption); (case v23a => assumption)) | (refine' Mine.hit_no2 ?v23hit ?v23hi ?v23a; (case v23hit => assumption); (case v23hi => assumption); (case v23a => assumption)))
  k_with "HitPost" => (k_dflt (first | (refine Mine.HitPost.yes' ?v24hh ?_; (case v24hh => k_extra "mine_hit"); intro hh'; (try subst hh')) | (refine Mine.HitPost.no ?v24hh ?_; (case v24hh => k_extra "mine_hit"))))
  k_with "WhileStep2" => (k_dflt (first
  | (refine' Mine.jw_next ?v25F ?v25N ?v25h1 ?v25h2 ?v25h3 ?v25h4 ?v25hb ?v25h5 ?v25d1 ?v25d2 ?v25d3 ?v25hn ?v25C ?v25e; (case v25F => k_asm); (case v25N => k_asm); (case v25C => assumption); (case v25e => assumption); (case v25h1 => k_extra "mine_map"); (case v25h2 => k_extra "mine_map"); (case v25h3 => k_extra "mine_map"); (case v25h4 => k_extra "mine_map"); (case v25h5 => k_extra "mine_map"); (case v25hb => first | assumption | rfl); (case v25d1 => assumption); (case v25d2 => assumption); (case v25d3 => assumption); (case v25hn => omega))
  | (refine' Mine.jw_last ?v25F ?v25N ?v25h1 ?v25h2 ?v25h3 ?v25h4 ?v25hb ?v25h5 ?v25d1 ?v25d2 ?v25d3 ?v25hn ?v25C; (case v25F => k_asm); (case v25N => k_asm); (case v25C => assumption); (case v25h1 => k_extra "mine_map"); (case v25h2 => k_extra "mine_map"); (case v25h3 => k_extra "mine_map"); (case v25h4 => k_extra "mine_map"); (case v25h5 => k_extra "mine_map"); (case v25hb => first | assumption | rfl); (case v25d1 => assumption); (case v25d2 => assumption); (case v25d3 => assumption); (case v25hn => omega))))
  k_with "UnrEnd" => (k_dflt (refine' Mine.jf_end ?v26F ?v26N ?v26h1 ?v26h2 ?v26d1 ?v26d2 ?v26d3 ?v26C ?v26lb ?v26lD ?v26l0 ?v26lI; (case v26F => k_asm); (case v26N => k_asm); (case v26C => assumption); (case v26h1 => k_extra "mine_map"); (case v26h2 => k_extra "mine_map"); (case v26d1 => assumption); (case v26d2 => assumption); (case v26d3 => assumption); (case v26lb => assumption); (case v26lD => assumption); (case v26l0 => assumption); (case v26lI => assumption)))
  k_with "subscriptTail Constant str Name str int" => (k_here; k_dflt (refine' Mine.abcd_item ?v27a ?v27b ?_ ?v27s ?v27t; (case v27a => omega); (case v27b => omega); (case v27s => with_unfolding_all rfl); (case v27t => (intro _; with_unfolding_all rfl)); k_whole))
  k_with "subscriptTail Constant str Subscript str int" => (k_here; k_dflt (refine' Mine.abcd_item ?v28a ?v28b ?_ ?v28s ?v28t; (case v28a => first | omega | k_extra "mine_lat"); (case v28b => first | omega | k_extra "mine_lat"); (case v28s => with_unfolding_all rfl); (case v28t => (intro _; with_unfolding_all rfl)); k_whole))
  k_with "mine_lat" => (first | exact Lat.lo (by assumption) _ _ (by omega) (by omega) | exact Lat.hi (by assumption) _ _ (by omega) (by omega))
  k_with "binaryOp Add str str" => (k_here; (first | with_reducible refine' Mine.cat_1 ?_ | with_reducible refine' Mine.cat_2 ?_); intro t' tk')
  k_with "subscriptTail Name Name ref int" => (k_here; k_dflt (refine' Mine.item_refsX ?v31N ?v31m ?v31a ?v31b ?_ ?v31s; (case v31N => k_asm); (case v31m => k_mem); (case v31a => omega); (case v31b => omega); (case v31s => with_unfolding_all rfl); k_whole))
  k_with "subscriptTail Name Name ref int" => (k_here; k_dflt (refine' Mine.item_row ?v32N ?v32ha ?v32m0 ?v32m1 ?v32m2 ?v32m3 ?v32a ?v32b ?_ ?v32s; (case v32N => k_asm); (case v32m0 => k_mem); (case v32m1 => k_mem); (case v32m2 => k_mem); (case v32m3 => k_mem); (case v32ha => omega); (case v32a => omega); (case v32b => omega); (case v32s => with_unfolding_all rfl); k_whole))
  k_with "subscriptTail Subscript Name Name Name ref int" => (k_here; k_dflt (refine' Mine.item_row ?v33N ?v33ha ?v33m0 ?v33m1 ?v33m2 ?v33m3 ?v33a ?v33b ?_ ?v33s; (case v33N => k_asm); (case v33m0 => k_mem); (case v33m1 => k_mem); (case v33m2 => k_mem); (case v33m3 => k_mem); (case v33ha => omega); (case v33a => omega); (case v33b => omega); (case v33s => with_unfolding_all rfl); k_whole))
  k_with "call builtin:list.append cons nil" => (k_here; k_dflt (refine' Mine.append_w ?v34F ?v34N ?v34f ?v34n ?v34x ?_; (case v34F => k_asm); (case v34N => k_asm); (case v34f => assumption); (case v34n => omega); (case v34x => assumption); k_whole); intro h' F' N')
  trivial
noncomputable abbrev sqL (D : Addr) (r : Nat → Addr) (P : Nat → Nat → Int) (T : Nat → Nat → Tok) (base : List (Addr × Obj)) : List (Addr × Obj) :=
  (D, refs4 r) :: (r 0, row4 (P 0) (T 0)) :: (r 1, row4 (P 1) (T 1)) :: (r 2, row4 (P 2) (T 2)) :: (r 3, row4 (P 3) (T 3)) :: base
noncomputable def wdPost (P : Nat → Nat → Int) (news : List (Addr × Obj)) (v : Value) (h₀ h' : Heap) (L : Addr) (m : Str → Option Value) : Prop :=
  Fr h₀ L h' m ∧ ∃ (W : Addr) (T : Nat → Tok), v = .ref W ∧ (∀ p ∈ news, @LT.lt Nat _ p.1 W) ∧ News h₀ L h' ((W, wlist P T 16) :: news)
theorem unr_tail {h₀ : Heap} {L I : Addr} {it : Obj} {rest : (Str → Option Value) → List (Addr × Obj) → Prop} {s₁ : Shared} {h' : Heap} {tk : Nat} {m' : Str → Option Value} {news' : List (Addr × Obj)} (F : Fr h₀ L h' m') (N : News h₀ L h' ((I, it) :: news'))
    (off : ∀ y ∈ news'.map (·.1), @LT.lt Nat _ y I) (r : rest m' news') : UnrEnd h₀ L s₁ I it rest { s₁ with heap := h', toks := tk } :=
  UnrEnd.intro F N news' (fun p hp => hp) (fun p hp => Nat.ne_of_lt (off p.1 (List.mem_map_of_mem hp))) r
noncomputable def JO (W D : Addr) (P : Nat → Nat → Int) (led : List (Addr × Obj)) (i : Nat) (m : Str → Option Value) (news : List (Addr × Obj)) : Prop :=
  ∃ (T : Nat → Tok), m "rows" = some (.ref D) ∧ m "words" = some (.ref W) ∧ news = (W, wlist P T (4 * i)) :: led
noncomputable def JI (W D I : Addr) (it : Obj) (P : Nat → Nat → Int) (led : List (Addr × Obj)) (x : Nat) (i : Nat) (m : Str → Option Value) (news : List (Addr × Obj)) : Prop :=
  ∃ (T : Nat → Tok) (tx : Tok), m "rows" = some (.ref D) ∧ m "words" = some (.ref W) ∧ m "x" = some (.int (0 + (x : Int)) tx) ∧ news = (I, it) :: (W, wlist P T (4 * x + i)) :: led
theorem wd_turn (w : World) {p : Program} {loose : List Str} {mean : ExcName → Option Value} {mg mb : Str → Option Value} {dp un : Nat} {gd : Option (List Code)} {cn : Str} {cs : Scope} {L a : Addr} {ccd : Value} {cl : List (Str × Addr)} {outer : List Env}
    {g : Heap} {L' : Addr} (X : (hd.heap_39 w.params).In g) (T : Top p loose mean mg mb g) (hu : un + 8 < cLine) (sc : Scope) (b : List Stmt) (hsc : sc = wdSc) (hb : b = wdFor) {base : List (Addr × Obj)} {W D I : Addr} {r : Nat → Addr} {P : Nat → Nat → Int} {Tk : Nat → Nat → Tok} {s : Shared} {Q : Flow → Shared → Prop} {E : Value → Shared → Prop}
    (lat : Lat P) (lW : ∀ y ∈ (sqL D r P Tk base).map (·.1), @LT.lt Nat _ y W) (lI : ∀ y ∈ W :: (sqL D r P Tk base).map (·.1), @LT.lt Nat _ y I)
    (hE : PassesOwn (model PR w) ((ktrTop dp un gd cn cs L a ccd cl outer).deeper (wdEnv sc L')) (wdEnv sc L') E) :
    ∀ i m news, i < 4 → JO W D P (sqL D r P Tk base) i m news → ∀ t h tk, Fr g (wdEnv sc L').locals h (fun y => if y = (Str.ofString "x") then some (.int (0 + (i : Int)) t) else m y) →
      News g (wdEnv sc L').locals h ((I, itR (0 + ((i + 1 : Nat) : Int)) (((4 : Nat) : Int) - ((i + 1 : Nat) : Int))) :: news) →
      wpAny (model PR w) ((ktrTop dp un gd cn cs L a ccd cl outer).deeper (wdEnv sc L')) (execs b (wdEnv sc L')) (UnrPost g (wdEnv sc L').locals { s with heap := h, toks := tk } I (itR (0 + ((i + 1 : Nat) : Int)) (((4 : Nat) : Int) - ((i + 1 : Nat) : Int))) (JO W D P (sqL D r P Tk base) (i + 1)) Q) E { s with heap := h, toks := tk } := by
  conv at hsc => rhs; whnf
  conv at hb => rhs; whnf
  subst hsc hb
  rintro i m news hi ⟨T', hr, hw, rfl⟩ t h tk F N
  replace F : Fr g L' h _ := F
  replace N : News g L' h _ := N
  (try k_unmd); (try k_fold)
  iterate 10 (first | (k_unfold; (try dsimp only)) | walk1 | (dsimp only; walk1))
  rename_i i9 l9
  refine range_inv (JI W D I (itR (0 + ((i + 1 : Nat) : Int)) (((4 : Nat) : Int) - ((i + 1 : Nat) : Int))) P (sqL D r P Tk base) i) ?turn ?done 4 0 _ _ (by omega) ⟨T', t, by k_extra "mine_map", by k_extra "mine_map", by k_extra "mine_map", rfl⟩
  case turn =>
    rintro j m₁ news₁ hj ⟨T1, tx, a1, a2, a3, rfl⟩ t1 h1 tk1 F1 N1
    have lI9 := addr_lt (l := (I, nsO) :: (W, nsO) :: sqL D r P Tk base) l9
    have far : ∀ y ∈ i9 :: I :: (sqL D r P Tk base).map (·.1), y ≠ W := fun y hy => by
      rcases List.mem_cons.mp hy with rfl | hy
      · exact gt_ne (lI9 W (by simp))
      rcases List.mem_cons.mp hy with rfl | hy
      · exact gt_ne (lI W (by simp))
      · exact Nat.ne_of_lt (lW y hy)
    have hx : wrd (0 + (i : Int)).toNat (0 + (j : Int)).toNat (P (0 + (i : Int)).toNat (0 + (j : Int)).toNat).toNat = wrdAt P (4 * i + j) := by
      rw [show (0 + (i : Int)).toNat = i by omega, show (0 + (j : Int)).toNat = j by omega]
      show wrd i j (P i j).toNat = wrd ((4 * i + j) / 4) ((4 * i + j) % 4) (P ((4 * i + j) / 4) ((4 * i + j) % 4)).toNat
      rw [show (4 * i + j) / 4 = i by omega, show (4 * i + j) % 4 = j by omega]
    iterate 34 (first | (k_unfold; (try dsimp only)) | walk1 | (dsimp only; walk1))
    refine' unr_tail ?F ?N ?off ?r
    case F => k_asm
    case N => k_asm
    case off => exact fun y hy => lI9 y hy
    case r => refine ⟨_, tx, ?_, ?_, ?_, rfl⟩ <;> k_extra "mine_map"
  case done =>
    rintro m₁ news₁ ⟨T1, tx, a1, a2, a3, rfl⟩ h1 tk1 F1 N1
    iterate 3 (first | (k_unfold; (try dsimp only)) | walk1 | (dsimp only; walk1))
    refine' unr_tail ?F ?N ?off ?r
    case F => k_asm
    case N => k_asm
    case off => exact fun y hy => lI y hy
    case r =>
      refine ⟨T1, ?_, ?_, ?_⟩
      · k_extra "mine_map"
      · k_extra "mine_map"
      · exact congrArg (fun n => (W, wlist P T1 n) :: sqL D r P Tk base) (by omega)
theorem words_ok (w : World) {p : Program} {loose : List Str} {mean : ExcName → Option Value} {mg mb : Str → Option Value} {base : List (Addr × Obj)} {D : Addr} {r : Nat → Addr} {P : Nat → Nat → Int} {Tk : Nat → Nat → Tok} (lat : Lat P) :
   Tells w p loose mean mg mb 110 [.ref D] (sqL D r P Tk base) 1 8 (wdPost P (sqL D r P Tk base)) := by
  intro dp un gd cn cs a ccd cl outer A₀ bs h₀ L m s Q E B F X N T hk hd hu hret
  refine wpAny_call ?_
  k_dflt cell_enter
  iterate 18 (first | (k_unfold; (try dsimp only)) | walk1 | (dsimp only; walk1))
  rename_i i9 l9
  have lI := addr_lt (l := (_, nsO) :: sqL D r P Tk base) l9
  refine range_inv (JO _ D P (sqL D r P Tk base)) (wd_turn w (by k_asm) (by k_asm) hu _ _ rfl rfl lat ?lW lI (by passes_own)) ?done 4 0 _ _ (by omega) ⟨fun _ => 0, by k_extra "mine_map", by k_extra "mine_map", rfl⟩
  case lW => exact addr_lt (l := sqL D r P Tk base) (by assumption)
  case done =>
    rintro m₁ news₁ ⟨T1, a1, a2, rfl⟩ h1 tk1 F1 N1
    k_steps
    refine hret _ _ _ ⟨by k_asm, _, T1, rfl, fun p hp => addr_lt (l := sqL D r P Tk base) (by assumption) p.1 (List.mem_map_of_mem hp), by k_asm⟩
end
section
open PySem PySem.Spec PySem.Calls PySem.W PyProof.Rows PyProof.Rows.LCg
theorem walkT9 : True := by
  k_with_none
  k_with "enterC" => (k_dflt (refine' code_defC ?wek1 ?wek2 ?wek3 ?wek4 ?wek5 ?wekA ?wekF ?wekK ?wek6 ?wek7 ?wek8 ?wek9 ?wekB ?wekD ?_ ?wec2 ?wec3 ?wec4; (case wekA => exact rfl); (case wekF => exact rfl); (case wekK => assumption); (case wek1 => k_asm); (case wek2 => k_asm); (case wek3 => k_asm); (case wek4 => k_asm); (case wek5 => k_asm); (case wek6 => k_is); (case wek7 => k_is); (case wek8 => ktr_room); (case wek9 => exact BindsTo.of_eq rfl); (case wekB => exact rfl); (case wekD => decide +kernel); (case wec2 => exact rfl); (case wec3 => exact rfl); (case wec4 => exact rfl); k_whole; intro g' L' h' tk' cells' FG' F' N' Y' B' X' T' l1; (try k_lt l1); k_cells Y'; (try simp only [List.cons_append, List.nil_append] at N'); (try dsimp only); (try k_lift B'); (try k_fold)))
  k_with "exec Assign cons ListComp" => (k_here; k_dflt (first
  | refine Mine.Assign_C (_F₀ := by k_asm) (by rfl) (by with_unfolding_all rfl) (by with_unfolding_all rfl) (fun _ => rfl) (fun _ => rfl) (by rfl) (by rfl) (by decide) (by rfl) (by rfl) ?_
  | refine Mine.Assign_L (ct := none) (_F₀ := by k_asm) (by rfl) (by with_unfolding_all rfl) (by with_unfolding_all rfl) (by decide) (by rfl) (by decide) (by rfl) (by rfl) (by rfl) ?_
  | refine Mine.Assign_L (ct := some _) (_F₀ := by k_asm) (by rfl) (by with_unfolding_all rfl) (by with_unfolding_all rfl) (by decide) (by rfl) (by decide) (by rfl) (by rfl) (by rfl) ?_))
  k_with "eval ListComp BinOp cons" => (k_here; k_dflt (refine Mine.ListComp_L (ct := none) (_F₀ := by k_asm) (by with_unfolding_all rfl) (by decide) (by rfl) (by decide) (by rfl) ?_))
  k_with "eval ListComp Call cons" => (k_here; k_dflt (refine Mine.ListComp_L (ct := none) (_F₀ := by k_asm) (by with_unfolding_all rfl) (by decide) (by rfl) (by decide) (by rfl) ?_))
  k_with "eval ListComp Subscript cons" => (k_here; k_dflt (refine Mine.ListComp_L (ct := none) (_F₀ := by k_asm) (by with_unfolding_all rfl) (by decide) (by rfl) (by decide) (by rfl) ?_))
  k_with "eval ListComp Name cons" => (k_here; k_dflt (refine Mine.ListComp_L (ct := none) (_F₀ := by k_asm) (by with_unfolding_all rfl) (by decide) (by rfl) (by decide) (by rfl) ?_))
  k_with "eval ListComp Name cons" => (k_here; k_dflt (refine Mine.ListComp_L (ct := some _) (_F₀ := by k_asm) (by with_unfolding_all rfl) (by decide) (by rfl) (by decide) (by rfl) ?_))
  k_with "eval ListComp ListComp cons" => (k_here; k_dflt (refine Mine.ListComp_C (_F₀ := by k_asm) (by with_unfolding_all rfl) (fun _ => rfl) (fun _ => rfl) (by rfl) (by rfl) (by decide) ?_))
  k_with "SrcM" => (k_here; k_dflt (first
  | (refine Mine.SrcM.range 4 (by rfl) (by k_asm) (by k_asm) (by assumption) (by first | decide | rfl) (by first | rfl | decide) (by exact Nat.le_of_ble_eq_true rfl) ?_; intro g'; (try dsimp only))
  | (refine Mine.SrcM.range 3 (by rfl) (by k_asm) (by k_asm) (by assumption) (by first | decide | rfl) (by first | rfl | decide) (by exact Nat.le_of_ble_eq_true rfl) ?_; intro g'; (try dsimp only))
  | (refine Mine.SrcM.ledger 3 (by rfl) (by k_asm) (by k_asm) (by k_mem) (by rfl) (by exact Nat.le_of_ble_eq_true rfl) ?_; intro g'; (try dsimp only))))
  k_with "LRest" => (with_unfolding_all first
  | (refine Mine.LRest.turn ?_; intro v' I' oI' C' oC' D' m' h' tk' E' hv' hC' hx' F' N' lie'; (first | lcg_open hv' | (obtain ⟨t9', hv9'⟩ := hv'; subst hv9')); (try simp only [List.nil_append, List.cons_append] at N'))
  | (refine Mine.LRest.test ?_; intro v' I' oI' C' oC' D' m' h' tk' E' hv' hC' hx' F' N' lie'; (first | lcg_open hv' | (obtain ⟨t9', hv9'⟩ := hv'; subst hv9')); (try simp only [List.nil_append, List.cons_append] at N'))
  | refine Mine.LRest.zero ?_)
  k_with "CRest" => (with_unfolding_all first
  | (refine Mine.CRest.turn ?_; intro v' I' oI' C' X' oX' D' h' tk' E' hv' hdX' F' N' lie'; (first | lcg_open hv' | (obtain ⟨t9', hv9'⟩ := hv'; subst hv9')); (try simp only [List.nil_append, List.cons_append] at N'))
  | refine Mine.CRest.zero ?_)
  k_with "LEnd" => (k_dflt (first
  | refine Mine.LEnd.push0 (by k_asm) (by k_asm) (by k_asm) ?_
  | refine Mine.LEnd.push1 (by k_asm) (by k_asm) (by k_asm) (by omega) ?_))
  k_with "FinV" => ((unfold Mine.FinV); intro D' h' tk' F' N' nlt' abv'; (k_lt nlt'); (try simp only [List.forall_mem_cons, List.forall_mem_nil, and_true] at abv'); (try simp only [List.nil_append, List.cons_append] at N'); (try dsimp only))
  k_with "FinB" => ((unfold Mine.FinB); intro D' h' tk' F' N' nlt' abv'; (k_lt nlt'); (try simp only [List.forall_mem_cons, List.forall_mem_nil, and_true] at abv'); (try simp only [List.nil_append, List.cons_append] at N'); (try dsimp only))
  k_with "mine_map" => ((repeat (refine (if_neg (by decide)).trans ?_)); first | exact if_pos rfl | assumption | exact rfl)
  k_with "eval Name" => (k_here; k_dflt (refine' nameX_L ?v15F ?v15v ?_ ?v15a ?v15b; (case v15a => rfl); (case v15b => rfl); (case v15F => k_asm); (case v15v => k_extra "mine_map"); k_whole))
  k_with "subscriptTail Name BinOp ref int" => (k_here; k_dflt (refine' Mine.item_refs ?v16N ?v16m ?v16a ?v16b ?_ ?v16s; (case v16N => k_asm); (case v16m => k_mem); (case v16a => omega); (case v16b => omega); (case v16s => with_unfolding_all rfl); k_whole); intro i' hi')
  k_with "binaryOp Mod int int" => (k_here; (with_reducible refine' Mine.mod4 ?_); intro x' hx0' hx4')
  k_with "subscriptTail Name Name ref int" => (k_here; k_dflt (refine' Mine.item_row ?v18N ?v18ha ?v18m0 ?v18m1 ?v18m2 ?v18m3 ?v18a ?v18b ?_ ?v18s; (case v18N => k_asm); (case v18m0 => k_mem); (case v18m1 => k_mem); (case v18m2 => k_mem); (case v18m3 => k_mem); (case v18ha => omega); (case v18a => omega); (case v18b => omega); (case v18s => with_unfolding_all rfl); k_whole))
  k_with "setItem ref int" => (k_here; k_dflt (refine' Mine.store_row ?v19F ?v19N ?v19f ?v19ha ?v19a ?v19b ?_; (case v19F => k_asm); (case v19N => k_asm); (case v19f => assumption); (case v19ha => omega); (case v19a => omega); (case v19b => omega); k_whole); intro h' F' N')
  k_with "loadName" => (k_here; k_dflt (refine' wpAny_loadName_local ?v20a ?v20b ?v20c ?v20v ?_; (case v20a => rfl); (case v20b => rfl); (case v20c => exact Fr.ns (by k_asm)); (case v20v => k_extra "mine_map"); k_whole))
  k_with "exec While" => (k_here; k_dflt (refine' Mine.while_sq ?v21a ?v21b ?v21F ?v21N ?v21h1 ?v21h2 ?v21h3 ?v21h4 ?v21h5 ?v21d1 ?v21d2 ?v21d3 ?_ ?v21hE; (case v21hE => first | assumption | passes_own); (case v21F => k_asm); (case v21N => k_asm); (case v21h1 => k_extra "mine_map"); (case v21h2 => k_extra "mine_map"); (case v21h3 => k_extra "mine_map"); (case v21h4 => k_extra "mine_map"); (case v21h5 => k_extra "mine_map"); (case v21d1 => assumption); (case v21d2 => assumption); (case v21d3 => assumption); (case v21a => omega); (case v21b => omega); k_whole))
  k_with "LRest" => (k_dflt (refine' Mine.LRest.one ?v22o ?v22turn ?v22fin; (case v22o => assumption)); (case' v22fin => (intro y' hy'; (try (obtain ⟨t8', hy8'⟩ := hy'; subst hy8')))); (case' v22turn => (intro i' v' I' oI' C' oC' D' m' h' tk' E' ys' hi' hv' hC' hx' F' N' lie'; (first | (obtain ⟨t9', hv9'⟩ := hv'; subst hv9') | skip))))
  k_with "mine_hit" => (first | (refine' Mine.hit_yes ?v23hit ?v23hi ?v23h0 ?v23a ?v23b; (case v23hit => assumption); (case v23hi => assumption); (case v23h0 => assumption); (case v23a => assumption); (case v23b => assumption)) | (refine' Mine.hit_no1 ?v23hit ?v23hi ?v23a; (case v23hit => assumption); (case v23hi => assumption); (case v23a => assumption)) | (refine' Mine.hit_no2 ?v23hit ?v23hi ?v23a; (case v23hit => assumption); (case v23hi => assumption); (case v23a => assumption)))
  k_with "HitPost" => (k_dflt (first | (refine Mine.HitPost.yes' ?v24hh ?_; (case v24hh => k_extra "mine_hit"); intro hh'; (try subst hh')) | (refine Mine.HitPost.no ?v24hh ?_; (case v24hh => k_extra "mine_hit"))))
  k_with "WhileStep2" => (k_dflt (first
  | (refine' Mine.jw_next ?v25F ?v25N ?v25h1 ?v25h2 ?v25h3 ?v25h4 ?v25hb ?v25h5 ?v25d1 ?v25d2 ?v25d3 ?v25hn ?v25C ?v25e; (case v25F => k_asm); (case v25N => k_asm); (case v25C => assumption); (case v25e => assumption); (case v25h1 => k_extra "mine_map"); (case v25h2 => k_extra "mine_map"); (case v25h3 => k_extra "mine_map"); (case v25h4 => k_extra "mine_map"); (case v25h5 => k_extra "mine_map"); (case v25hb => first | assumption | rfl); (case v25d1 => assumption); (case v25d2 => assumption); (case v25d3 => assumption); (case v25hn => omega))
  | (refine' Mine.jw_last ?v25F ?v25N ?v25h1 ?v25h2 ?v25h3 ?v25h4 ?v25hb ?v25h5 ?v25d1 ?v25d2 ?v25d3 ?v25hn ?v25C; (case v25F => k_asm); (case v25N => k_asm); (case v25C => assumption); (case v25h1 => k_extra "mine_map"); (case v25h2 => k_extra "mine_map"); (case v25h3 => k_extra "mine_map"); (case v25h4 => k_extra "mine_map"); (case v25h5 => k_extra "mine_map"); (case v25hb => first | assumption | rfl); (case v25d1 => assumption); (case v25d2 => assumption); (case v25d3 => assumption); (case v25hn => omega))))
  k_with "UnrEnd" => (k_dflt (refine' Mine.jf_end ?v26F ?v26N ?v26h1 ?v26h2 ?v26d1 ?v26d2 ?v26d3 ?v26C ?v26lb ?v26lD ?v26l0 ?v26lI; (case v26F => k_asm); (case v26N => k_asm); (case v26C => assumption); (case v26h1 => k_extra "mine_map"); (case v26h2 => k_extra "mine_map"); (case v26d1 => assumption); (case v26d2 => assumption); (case v26d3 => assumption); (case v26lb => assumption); (case v26lD => assumption); (case v26l0 => assumption); (case v26lI => assumption)))
  k_with "subscriptTail Constant str Name str int" => (k_here; k_dflt (refine' Mine.abcd_item ?v27a ?v27b ?_ ?v27s ?v27t; (case v27a => omega); (case v27b => omega); (case v27s => with_unfolding_all rfl); (case v27t => (intro _; with_unfolding_all rfl)); k_whole))
  k_with "subscriptTail Constant str Subscript str int" => (k_here; k_dflt (refine' Mine.abcd_item ?v28a ?v28b ?_ ?v28s ?v28t; (case v28a => first | omega | k_extra "mine_lat"); (case v28b => first | omega | k_extra "mine_lat"); (case v28s => with_unfolding_all rfl); (case v28t => (intro _; with_unfolding_all rfl)); k_whole))
  k_with "mine_lat" => (first | exact Lat.lo (by assumption) _ _ (by omega) (by omega) | exact Lat.hi (by assumption) _ _ (by omega) (by omega))
  k_with "binaryOp Add str str" => (k_here; (first | with_reducible refine' Mine.cat_1 ?_ | with_reducible refine' Mine.cat_2 ?_); intro t' tk')
  k_with "subscriptTail Name Name ref int" => (k_here; k_dflt (refine' Mine.item_refsX ?v31N ?v31m ?v31a ?v31b ?_ ?v31s; (case v31N => k_asm); (case v31m => k_mem); (case v31a => omega); (case v31b => omega); (case v31s => with_unfolding_all rfl); k_whole))
  k_with "subscriptTail Name Name ref int" => (k_here; k_dflt (refine' Mine.item_row ?v32N ?v32ha ?v32m0 ?v32m1 ?v32m2 ?v32m3 ?v32a ?v32b ?_ ?v32s; (case v32N => k_asm); (case v32m0 => k_mem); (case v32m1 => k_mem); (case v32m2 => k_mem); (case v32m3 => k_mem); (case v32ha => omega); (case v32a => omega); (case v32b => omega); (case v32s => with_unfolding_all rfl); k_whole))
  k_with "subscriptTail Subscript Name Name Name ref int" => (k_here; k_dflt (refine' Mine.item_row ?v33N ?v33ha ?v33m0 ?v33m1 ?v33m2 ?v33m3 ?v33a ?v33b ?_ ?v33s; (case v33N => k_asm); (case v33m0 => k_mem); (case v33m1 => k_mem); (case v33m2 => k_mem); (case v33m3 => k_mem); (case v33ha => omega); (case v33a => omega); (case v33b => omega); (case v33s => with_unfolding_all rfl); k_whole))
  k_with "call builtin:list.append cons nil" => (k_here; k_dflt (refine' Mine.append_w ?v34F ?v34N ?v34f ?v34n ?v34x ?_; (case v34F => k_asm); (case v34N => k_asm); (case v34f => assumption); (case v34n => omega); (case v34x => assumption); k_whole); intro h' F' N')
  k_with "compareOp NotIn str str" => (k_here; refine' Mine.notin_dots ?v35a ?_; (case v35a => assumption); k_whole)
  k_with "call builtin:str.split cons nil" => (k_here; k_dflt (refine' Mine.split_dots ?v36a ?v36F ?v36N ?_; (case v36a => assumption); (case v36F => k_asm); (case v36N => k_asm); k_whole); intro D' t1' t2' h' tk' F' N' l1; (try k_lt l1))
  k_with "call builtin:str.startswith cons nil" => (k_here; refine' Mine.starts_is ?v37a ?_; (case v37a => assumption); k_whole)
  k_with "call builtin:str.endswith cons nil" => (k_here; refine' Mine.ends_is ?v38a ?_; (case v38a => assumption); k_whole)
  k_with "call builtin:str.find cons nil" => (k_here; refine' Mine.find_is ?v39a ?_; (case v39a => assumption); k_whole)
  k_with "truthy str" => (k_here; refine' Mine.truthy_len ?v40a ?v40b ?_; (case v40a => assumption); (case v40b => decide); k_whole)
  k_with "call builtin:len cons nil" => (k_here; refine' Mine.len_is ?v41a ?v41b ?_; (case v41a => first | assumption | exact (by decide : Str.empty.length = 0)); (case v41b => decide); k_whole)
  k_with "exec For Name Name cons nil" => (k_here; k_dflt (refine' For_turns ?v42F ?_; (case v42F => k_asm); k_whole))
  k_with "pyIter ref" => (k_here; k_dflt (refine' iter_listTurns ?v43a ?v43F ?v43N ?v43m ?v43c ?v43d ?_; (case v43a => rfl); (case v43F => k_asm); (case v43N => k_asm); (case v43m => k_mem); (case v43c => rfl); (case v43d => with_unfolding_all rfl); k_whole); intro i' l1; (try k_lt l1))
  k_with "UnrEndW" => (k_here; k_dflt (refine' Mine.endW ?v44F ?v44N ?v44off ⟨?v44sub, ?_⟩; (case v44F => k_asm); (case v44N => k_asm); (case v44off => assumption); (case v44sub => k_subL); k_whole))
  trivial
noncomputable def emPost (b : Bool) (news : List (Addr × Obj)) (v : Value) (h₀ h' : Heap) (L : Addr) (m : Str → Option Value) : Prop :=
  Fr h₀ L h' m ∧ v = .bool b ∧ News h₀ L h' news
theorem em0 (w : World) {p : Program} {loose : List Str} {mean : ExcName → Option Value} {mg mb : Str → Option Value} {news : List (Addr × Obj)} {pp g x : Str} {b : Bool} {t u : Tok} (hp : Splits pp x Str.empty) (hs : Txt.startswith g x = b) (hl : x.length = 1 + 1) (hg : g.length = 3)
    (hf : PySem.Builtin.Str.occurrences g Str.empty (fromIndex g.length 2) (min (fromIndex g.length 3) g.length) 1 = [2]) :
   Tells w p loose mean mg mb 77 [.str pp t, .str g u] news 1 8 (emPost b news) := by
  intro dp un gd cn cs a ccd cl outer A₀ bs h₀ L m s Q E B F X N T hk hd hu hret
  refine wpAny_call ?_
  k_dflt cell_enter
  cases b
  · k_steps
    refine hret _ _ _ ⟨by k_asm, rfl, by first | k_asm | exact newsTail (by assumption) | exact newsTail (newsTail (by assumption))⟩
  · k_steps
    refine hret _ _ _ ⟨by k_asm, rfl, by first | k_asm | exact newsTail (by assumption) | exact newsTail (newsTail (by assumption))⟩
theorem em1 (w : World) {p : Program} {loose : List Str} {mean : ExcName → Option Value} {mg mb : Str → Option Value} {news : List (Addr × Obj)} {pp g x y : Str} {b c : Bool} {t u : Tok} (hp : Splits pp x y) (hs : Txt.startswith g x = b) (he : Txt.endswith g y = c) (hl : x.length = 0 + 1) (hl' : y.length = 0 + 1) (hg : g.length = 3) :
   Tells w p loose mean mg mb 77 [.str pp t, .str g u] news 1 8 (emPost (b && c) news) := by
  intro dp un gd cn cs a ccd cl outer A₀ bs h₀ L m s Q E B F X N T hk hd hu hret
  refine wpAny_call ?_
  k_dflt cell_enter
  cases b
  · k_steps
    refine hret _ _ _ ⟨by k_asm, rfl, by first | k_asm | exact newsTail (by assumption) | exact newsTail (newsTail (by assumption))⟩
  · cases c
    · k_steps
      refine hret _ _ _ ⟨by k_asm, rfl, by first | k_asm | exact newsTail (by assumption) | exact newsTail (newsTail (by assumption))⟩
    · k_steps
      refine hret _ _ _ ⟨by k_asm, rfl, by first | k_asm | exact newsTail (by assumption) | exact newsTail (newsTail (by assumption))⟩
theorem em2 (w : World) {p : Program} {loose : List Str} {mean : ExcName → Option Value} {mg mb : Str → Option Value} {news : List (Addr × Obj)} {pp g x : Str} {b : Bool} {t u : Tok} (hp : Splits pp Str.empty x) (hs : Txt.endswith g x = b) (hl : x.length = 1 + 1) (hg : g.length = 3)
    (hf : PySem.Builtin.Str.occurrences g Str.empty (fromIndex g.length 0) (min (fromIndex g.length 1) g.length) 1 = [0]) :
   Tells w p loose mean mg mb 77 [.str pp t, .str g u] news 1 8 (emPost b news) := by
  intro dp un gd cn cs a ccd cl outer A₀ bs h₀ L m s Q E B F X N T hk hd hu hret
  refine wpAny_call ?_
  k_dflt cell_enter
  cases b
  · k_steps
    refine hret _ _ _ ⟨by k_asm, rfl, by first | k_asm | exact newsTail (by assumption) | exact newsTail (newsTail (by assumption))⟩
  · k_steps
    refine hret _ _ _ ⟨by k_asm, rfl, by first | k_asm | exact newsTail (by assumption) | exact newsTail (newsTail (by assumption))⟩
theorem em0_ok (w : World) {p : Program} {loose : List Str} {mean : ExcName → Option Value} {mg mb : Str → Option Value} {news : List (Addr × Obj)} {i j x y z : Nat} {t u : Tok} (hi : i < 4) (hj : j < 4) (hx : x < 4) (hy : y < 4) (hz : z < 4) :
   Tells w p loose mean mg mb 77 [.str (pat0 i j) t, .str (wrd x y z) u] news 1 8 (emPost (decide (x = i ∧ y = j)) news) :=
  em0 w (pat0_splits i j hi hj) (starts2 x hx y hy z hz i hi j hj) rfl rfl (find2 x hx y hy z hz)
theorem em1_ok (w : World) {p : Program} {loose : List Str} {mean : ExcName → Option Value} {mg mb : Str → Option Value} {news : List (Addr × Obj)} {i j x y z : Nat} {t u : Tok} (hi : i < 4) (hj : j < 4) (hx : x < 4) (hy : y < 4) (hz : z < 4) :
   Tells w p loose mean mg mb 77 [.str (pat1 i j) t, .str (wrd x y z) u] news 1 8 (emPost (decide (x = i) && decide (z = j)) news) :=
  em1 w (pat1_splits i j hi hj) (starts1 x hx y hy z hz i hi) (ends1 x hx y hy z hz j hj) rfl rfl rfl
theorem em2_ok (w : World) {p : Program} {loose : List Str} {mean : ExcName → Option Value} {mg mb : Str → Option Value} {news : List (Addr × Obj)} {i j x y z : Nat} {t u : Tok} (hi : i < 4) (hj : j < 4) (hx : x < 4) (hy : y < 4) (hz : z < 4) :
   Tells w p loose mean mg mb 77 [.str (pat2 i j) t, .str (wrd x y z) u] news 1 8 (emPost (decide (y = i ∧ z = j)) news) :=
  em2 w (pat2_splits i j hi hj) (ends2 x hx y hy z hz i hi j hj) rfl rfl (find0 x hx y hy z hz)
end
section
open PySem PySem.Spec PySem.Calls PySem.W PyProof.Rows PyProof.Rows.LCg PySem.Builtin.Str
/-- what it costs to put one letter for another -/
noncomputable def cst (x y : Nat) : Int := if x = y then 0 else 2
/-- a word of n letters -/
noncomputable def word (n : Nat) (f : Nat → Nat) : Str := ⟨((List.range n).map fun q => 97 + f q).toArray⟩
section
variable {prog : Program} {w : World} {A : Around} {E : Value → Shared → Prop} {s : Shared} {h₀ : Heap} {L : Addr} {m : Str → Option Value} {env : Env} {news : List (Addr × Obj)} {p a b : Str}
theorem ltr_inj {x y : Nat} : (ltr x = ltr y) ↔ x = y := by
  constructor
  · intro h
    have := congrArg (fun z : Str => z.cps[0]!) h
    simp [ltr] at this
    exact this
  · rintro rfl; rfl
theorem eq_ltr {x y : Nat} {t u : Tok} {Q : Value → Shared → Prop} (h : Q (.bool (decide (x = y))) s) : wpAny (model prog w) A (compareOp .Eq (.str (ltr x) t) (.str (ltr y) u)) Q E s := by
  refine PyProof.Rows.eq_str ?_
  have : (ltr x == ltr y) = decide (x = y) := by
    rw [Bool.eq_iff_iff, beq_iff_eq, decide_eq_true_eq]
    simp [ltr]
  rw [this]; exact h
theorem lower_ltr {x : Nat} {t : Tok} {Q : Value → Shared → Prop} (hx : x < 4) (h : Q (.str (ltr x) s.toks) { s with toks := s.toks + 1 }) : wpAny (model prog w) A (call (.builtin "str.lower") [.str (ltr x) t]) Q E s := by
  have e : Txt.lower (ltr x) = ltr x := (by decide +kernel : ∀ x < 4, Txt.lower (ltr x) = ltr x) x hx
  have l : tooLong (Txt.lower (ltr x)).length = false := by rw [e]; rfl
  refine SC.lower l ?_
  rw [e]
  exact h
end
theorem word_length (n : Nat) (f : Nat → Nat) : (word n f).length = n := by simp [word, Str.length]
theorem word_list (n : Nat) (f : Nat → Nat) : (word n f).cps.toList = (List.range n).map fun q => 97 + f q := by simp [word]
theorem word_drop {n p : Nat} {f : Nat → Nat} (h : p ≤ n) : Txt.slice (word n f) (some (p : Int)) none = word (n - p) fun q => f (p + q) := by
  rw [slice_from_eq (b := (n : Int)) (by omega) (by rw [word_length]; omega) (by rw [word_length]), word_list]
  refine congrArg (fun l : List Nat => (⟨l.toArray⟩ : Str)) (List.ext_getElem? fun i => ?_)
  simp only [List.getElem?_take, List.getElem?_drop, List.getElem?_map]
  by_cases hi : i < n - p
  · rw [if_pos (by omega), List.getElem?_range (by omega), List.getElem?_range (by omega)]
    simp
  · rw [if_neg (by omega), List.getElem?_eq_none (by simp; omega)]
    rfl
theorem word_take {n q : Nat} {f : Nat → Nat} (h : q ≤ n) (h0 : 0 < q) : Txt.slice (word n f) none (some (-(q : Int))) = word (n - q) f := by
  rw [beq_iff_eq.mp (slice_closes_to_neg (k := (n : Int) - q) (by omega) (by rw [word_length]; omega) (by rw [word_length]; omega)), word_list]
  refine congrArg (fun l : List Nat => (⟨l.toArray⟩ : Str)) (List.ext_getElem? fun i => ?_)
  simp only [List.getElem?_take, List.getElem?_drop, List.getElem?_map]
  by_cases hi : i < n - q
  · rw [if_pos (by omega), List.getElem?_range (by simp; omega), List.getElem?_range (by omega)]
    simp
  · rw [if_neg (by omega), List.getElem?_eq_none (by simp; omega)]
    rfl
theorem word_all {n : Nat} {f : Nat → Nat} : Txt.slice (word n f) none none = word n f := by
  unfold Txt.slice
  rw [if_pos]
  have : (strSliceIndices none none 1 (word n f).length).length = (word n f).length := by
    rw [word_length]
    unfold strSliceIndices sliceRange
    simp
    omega
  simp [this]
theorem word_item {n p : Nat} {f : Nat → Nat} {k : Int} (h : p < n) (hk : k = p) : Txt.item (word n f) k = ltr (f p) := by
  rw [beq_iff_eq.mp (item_closes ⟨by omega, by rw [word_length]; omega⟩)]
  subst hk
  show (⟨#[(word n f).cps.getD (p : Int).toNat 0]⟩ : Str) = ⟨#[97 + f p]⟩
  have : (word n f).cps.getD (p : Int).toNat 0 = 97 + f p := by simp [word, h]
  rw [this]
theorem word_item_neg {n q : Nat} {f : Nat → Nat} {k : Int} (h : q < n) (hk : k = -(q : Int) - 1) : Txt.item (word n f) k = ltr (f (n - 1 - q)) := by
  rw [beq_iff_eq.mp (item_closes_neg (j := (n : Int) - 1 - q) (by omega) (by rw [word_length]; omega) (by rw [word_length]; omega))]
  show (⟨#[(word n f).cps.getD ((n : Int) - 1 - q).toNat 0]⟩ : Str) = ⟨#[97 + f (n - 1 - q)]⟩
  have e : ((n : Int) - 1 - q).toNat = n - 1 - q := by omega
  have : (word n f).cps.getD (n - 1 - q) 0 = 97 + f (n - 1 - q) := by
    have h' : n - 1 - q < n := by omega
    simp [word, h']
  rw [e, this]
/-- the value of «post or None» -/
noncomputable def orN (q : Nat) (t : Tok) : Value := if q = 0 then .none else .int (-(q : Int)) t
section
variable {prog : Program} {w : World} {A : Around} {E : Value → Shared → Prop} {s : Shared} {h₀ : Heap} {L : Addr} {m : Str → Option Value} {env : Env} {news : List (Addr × Obj)} {value slice : PySem.Expr} {n p q : Nat} {f g : Nat → Nat} {k : Int} {t u : Tok} {Q : Value → Shared → Prop}
theorem wslice_from (hk : k = p) (hp : p ≤ n) (hn : n ≤ 3) (F : Fr h₀ L s.heap m) (N : News h₀ L s.heap news) (h : ∀ h' t' k', Fr h₀ L h' m → News h₀ L h' news → Q (.str (word (n - p) fun q => f (p + q)) t') { s with heap := h', toks := k' })
    (hs : subscripted slice false (.str (word n f) t) (.ref s.heap.objs.size) = operate [.ref s.heap.objs.size, .str (word n f) t] (getItem (.str (word n f) t) (.ref s.heap.objs.size)) := by with_unfolding_all rfl)
    (ht : ∀ r, letTemporaryGo value (.str (word n f) t) r = pure () := by intro _; with_unfolding_all rfl) :
    wpAny (model prog w) A (subscriptTail value slice (.str (word n f) t) (.ref s.heap.objs.size)) Q E { s with heap := s.heap.push { cls := .type "slice", data := .fields #[.int k u, .none, .none] } } := by
  subst hk
  exact slice_strN_sn F N (fun h' t' k' F' N' => by rw [word_drop hp]; exact h h' t' k' F' N') hs ht (by rw [word_length]; exact Nat.le_trans hn (by decide))
theorem wslice_to (hp : q ≤ n) (hn : n ≤ 3) (F : Fr h₀ L s.heap m) (N : News h₀ L s.heap news) (h : ∀ h' t' k', Fr h₀ L h' m → News h₀ L h' news → Q (.str (word (n - q) f) t') { s with heap := h', toks := k' })
    (hs : subscripted slice false (.str (word n f) t) (.ref s.heap.objs.size) = operate [.ref s.heap.objs.size, .str (word n f) t] (getItem (.str (word n f) t) (.ref s.heap.objs.size)) := by with_unfolding_all rfl)
    (ht : ∀ r, letTemporaryGo value (.str (word n f) t) r = pure () := by intro _; with_unfolding_all rfl) :
    wpAny (model prog w) A (subscriptTail value slice (.str (word n f) t) (.ref s.heap.objs.size)) Q E { s with heap := s.heap.push { cls := .type "slice", data := .fields #[.none, orN q u, .none] } } := by
  have hz : (word n f).length ≤ sizeLine := by rw [word_length]; exact Nat.le_trans hn (by decide)
  by_cases e : q = 0
  · subst e
    exact slice_strN_nn F N (fun h' t' k' F' N' => by rw [word_all]; exact h h' t' k' F' N') hs ht hz
  · have : orN q u = .int (-(q : Int)) u := if_neg e
    rw [this]
    exact slice_strN_ns F N (fun h' t' k' F' N' => by rw [word_take hp (by omega)]; exact h h' t' k' F' N') hs ht hz
theorem witem (hp : p < n) (hn : n ≤ 3) (hk : k = p) (h : Q (.str (ltr (f p)) s.toks) { s with toks := s.toks + 1 })
    (hs : subscripted slice false (.str (word n f) t) (.int k u) = operate [.str (word n f) t, .int k u] (getItem (.str (word n f) t) (.int k u)) := by with_unfolding_all rfl)
    (ht : ∀ r, letTemporaryGo value (.str (word n f) t) r = pure () := by intro _; with_unfolding_all rfl) :
    wpAny (model prog w) A (subscriptTail value slice (.str (word n f) t) (.int k u)) Q E s :=
  item_str (fitsSsize_of (N := 9223372036854775808) (by omega) (by omega) (Int.le_refl _)) (by rw [word_length]; omega) (by rw [word_length]; omega) (fun _ => by rw [word_item hp hk]; exact h) hs ht
theorem witem_neg (hq : q < n) (hn : n ≤ 3) (hk : k = -(q : Int) - 1) (h : Q (.str (ltr (f (n - 1 - q))) s.toks) { s with toks := s.toks + 1 })
    (hs : subscripted slice false (.str (word n f) t) (.int k u) = operate [.str (word n f) t, .int k u] (getItem (.str (word n f) t) (.int k u)) := by with_unfolding_all rfl)
    (ht : ∀ r, letTemporaryGo value (.str (word n f) t) r = pure () := by intro _; with_unfolding_all rfl) :
    wpAny (model prog w) A (subscriptTail value slice (.str (word n f) t) (.int k u)) Q E s :=
  item_str (fitsSsize_of (N := 9223372036854775808) (by omega) (by omega) (Int.le_refl _)) (by rw [word_length]; omega) (by rw [word_length]; omega) (fun _ => by rw [word_item_neg hq hk]; exact h) hs ht
theorem or_none {x : PySem.Expr} {pc pos : Pos} {kd : _} (h : wpAny (model prog w) A (eval x env) (fun v s₁ => ∃ (q : Nat) (t : Tok), v = .int (-(q : Int)) t ∧ Q (orN q t) s₁) E s) : wpAny (model prog w) A (eval (.BoolOp .Or [x, .Constant .none kd pc] pos) env) Q E s := by
  refine wpAny_Or2 (wpAny_mono h (fun v s₁ ⟨q, t, e, hq⟩ => ?_) fun _ _ e => e)
  subst e
  refine truthy_int ?_
  by_cases e : q = 0
  · subst e
    have : ((-((0 : Nat) : Int)) != 0) = false := by decide
    rw [this]
    exact wpAny_Constant_none hq
  · have : ((-(q : Int)) != 0) = true := by simp; omega
    rw [this]
    simp only [if_true]
    have e2 : orN q t = .int (-(q : Int)) t := if_neg e
    rw [← e2]; exact hq
theorem wtruthy (hn : n ≤ 3) (h0 : 0 < n) {Q : Bool → Shared → Prop} (h : Q true { s with toks := s.toks + 1 + 1 }) : wpAny (model prog w) A (truthy (.str (word n f) t)) Q E s :=
  truthy_len (n := n - 1) (by rw [word_length]; omega) (by omega) h
theorem wlen (hn : n ≤ 3) (h : Q (.int n (s.toks + 1)) { s with toks := s.toks + 1 + 1 }) : wpAny (model prog w) A (call (.builtin "len") [.str (word n f) t]) Q E s := len_is (word_length n f) (by omega) h
theorem eq_is {x y : Str} {b : Bool} (e : (x == y) = b) (h : Q (.bool b) s) : wpAny (model prog w) A (compareOp .Eq (.str x t) (.str y u)) Q E s := PyProof.Rows.eq_str (by rw [e]; exact h)
end
end
section
open PySem PySem.Spec PySem.Calls PySem.W PyProof.Rows PyProof.Rows.LCg PySem.Builtin.Str
/-- a list of n ints -/
noncomputable def lrow (n ep : Nat) (R : Nat → Int) (T : Nat → Tok) : Obj := { cls := .type "list", data := .seq ((List.range n).map fun k => Value.int (R k) (T k)).toArray ep }
section
variable {prog : Program} {w : World} {A : Around} {E : Value → Shared → Prop} {s : Shared} {h₀ : Heap} {L : Addr} {m : Str → Option Value} {env : Env} {news : List (Addr × Obj)} {value slice : PySem.Expr} {n ep : Nat} {R : Nat → Int} {T : Nat → Tok} {k : Int} {i : Nat} {t u : Tok} {Q : Value → Shared → Prop}
theorem item_lrow {l : Addr} (N : News h₀ L s.heap news) (hm : (l, lrow n ep R T) ∈ news) (hn : n ≤ 64) (hk : k = i) (hi : i < n) (h : Q (.int (R i) (T i)) s)
    (hs : subscripted slice false (.ref l) (.int k u) = operate [.ref l, .int k u] (getItem (.ref l) (.int k u)) := by with_unfolding_all rfl) :
    wpAny (model prog w) A (subscriptTail value slice (.ref l) (.int k u)) Q E s := by
  have hl : s.heap.IsList l ((List.range n).map fun k => Value.int (R k) (T k)).toArray := ⟨_, (N _ hm).1, rfl, _, rfl⟩
  subst hk
  refine tail_any hl.typeIs slot_list_getitem.lookup (wpAny_getItem_list hl (by omega) (by omega) ?_ h) hs
  simp [hi]
theorem lrow_set {v : Int} (hi : i < n) : Obj.mapSeq (·.setIfInBounds i (.int v t)) (lrow n ep R T) = lrow n ep (fun q => if q = i then v else R q) (fun q => if q = i then t else T q) := by
  have e : (((List.range n).map fun k => Value.int (R k) (T k)).toArray.setIfInBounds i (.int v t)) = ((List.range n).map fun q => Value.int (if q = i then v else R q) (if q = i then t else T q)).toArray := by
    refine Array.ext (by simp) fun j h1 h2 => ?_
    simp only [Array.size_setIfInBounds, List.size_toArray, List.length_map, List.length_range] at h1
    rw [Array.getElem_setIfInBounds (by simpa using h1)]
    by_cases e : i = j
    · subst e; simp
    · have e' : ¬ j = i := fun q => e q.symm
      simp [e, e']
  unfold lrow Obj.mapSeq
  dsimp only
  rw [e, if_pos (by simp)]
theorem store_lrow {p₁ p₂ : Addr × Obj} {rest : List (Addr × Obj)} {l : Addr} {v : Int} {Q : Unit → Shared → Prop} (F : Fr h₀ L s.heap m) (N : News h₀ L s.heap (p₁ :: p₂ :: (l, lrow n ep R T) :: rest)) (far : ∀ y ∈ p₁.1 :: p₂.1 :: rest.map (·.1), y ≠ l) (hn : n ≤ 64) (hk : k = i) (hi : i < n)
    (h : ∀ h', Fr h₀ L h' m → News h₀ L h' (p₁ :: p₂ :: (l, lrow n ep (fun q => if q = i then v else R q) (fun q => if q = i then t else T q)) :: rest) → Q () { s with heap := h' }) :
    wpAny (model prog w) A (setItem (.ref l) (.int k u) (.int v t)) Q E s := by
  have z := N (l, lrow n ep R T) (by simp)
  subst hk
  have z1 : s.heap.get? l = some (listOf ((List.range n).map fun k => Value.int (R k) (T k)).toArray ep) := z.1
  refine ki_setAt z1 (Int.natCast_nonneg i) (by omega) (by simp; exact hi) ?_
  have hs : Heap.SameBut l s.heap (s.heap.update l (Obj.mapSeq (·.setIfInBounds i (.int v t)))) := Heap.SameBut.update ..
  have ge := Heap.get?_update_self (Obj.mapSeq (·.setIfInBounds i (.int v t))) z.1 (by rw [lrow_set hi]; rfl)
  rw [lrow_set hi] at ge
  have keep : ∀ q ∈ (p₁ :: p₂ :: (l, lrow n ep R T) :: rest), q.1 ≠ l → (s.heap.update l (Obj.mapSeq (·.setIfInBounds i (.int v t)))).get? q.1 = some q.2 := fun q hq hne => hs.extBut _ _ hne (N q hq).1
  refine h _ (F.change hs z.2.1 z.2.2) fun p hp => ?_
  simp only [List.mem_cons] at hp
  rcases hp with rfl | rfl | rfl | hp
  · exact ⟨keep _ (by simp) (far _ (by simp)), (N _ (by simp)).2⟩
  · exact ⟨keep _ (by simp) (far _ (by simp)), (N _ (by simp)).2⟩
  · exact ⟨ge, z.2⟩
  · exact ⟨keep p (by simp [hp]) (far _ (by simp only [List.mem_cons]; exact .inr (.inr (List.mem_map_of_mem hp)))), (N p (by simp [hp])).2⟩
theorem row_new {r : Addr} {b : Int} {t u v : Tok} (hn : n ≤ 3) (hb : b = 2 * ((n : Int) + 1)) (hh : A.handled = none) (F : Fr h₀ L s.heap m) (N : News h₀ L s.heap news) (hr : IsRange s.heap r 2 b 2 t u v)
    (h : ∀ D T ep h' tk, Fr h₀ L h' m → News h₀ L h' ((D, lrow n ep (fun (k : Nat) => 2 * ((k : Int) + 1)) T) :: news) → (∀ p ∈ news, @LT.lt Nat _ p.1 D) → Q (.ref D) { s with heap := h', toks := tk }) :
    wpAny (model prog w) A (call (.type "list") [.ref r]) Q E s := by
  subst hb
  have h4 : n = 0 ∨ n = 1 ∨ n = 2 ∨ n = 3 := by omega
  refine call_list_range (n := n) hh hr (by rcases h4 with rfl | rfl | rfl | rfl <;> decide) (by rcases h4 with rfl | rfl | rfl | rfl <;> decide) (Nat.le_trans hn (by decide)) fun h' tk acc' c' hk hS hacc => ?_
  have e : ∃ T : Nat → Tok, acc' = ((List.range n).map fun (k : Nat) => Value.int (2 * ((k : Int) + 1)) (T k)).toArray := by
    have tt : ∀ j : Nat, ∃ tj : Tok, j < n → acc'[j]? = some (.int (2 + j * 2) tj) := fun j => by
      by_cases hj : j < n
      · have hs : j < acc'.size := by rw [hacc.1]; exact hj
        obtain ⟨tj, e⟩ := hacc.2 j acc'[j] (Array.getElem?_eq_getElem hs)
        exact ⟨tj, fun _ => by rw [Array.getElem?_eq_getElem hs, e]⟩
      · exact ⟨0, fun q => absurd q hj⟩
    refine ⟨fun j => Classical.choose (tt j), Array.ext (by simp [hacc.1]) fun j h1 h2 => ?_⟩
    have hj : j < n := by rw [← hacc.1]; exact h1
    have c := Classical.choose_spec (tt j) hj
    have c2 : acc'[j] = .int (2 + j * 2) (Classical.choose (tt j)) := Option.some.inj ((Array.getElem?_eq_getElem h1).symm.trans c)
    rw [c2, List.getElem_toArray, List.getElem_map, List.getElem_range]
    exact congrArg (fun z => Value.int z _) (by omega)
  obtain ⟨T, rfl⟩ := e
  refine h _ T c' h' tk (F.keeps hk) (fun p hp => ?_) fun p hp => Heap.lt_size (N p hp).1
  rcases List.mem_cons.mp hp with rfl | hp
  · exact ⟨hS, (Nat.ne_of_lt F.ns.lt).symm, next_is_new F⟩
  · exact ⟨hk _ _ (N p hp).1, (N p hp).2⟩
theorem range_small {n : Nat} (hn : n ≤ 4) : PySem.Builtin.Range.small 0 (n : Int) 1 = true := by
  have h : n = 0 ∨ n = 1 ∨ n = 2 ∨ n = 3 ∨ n = 4 := by omega
  rcases h with rfl | rfl | rfl | rfl | rfl <;> decide
theorem range_size {n : Nat} (hn : n ≤ 4) : PySem.Builtin.Range.rangeSize 0 (n : Int) 1 = (n : Int) := by
  have h : n = 0 ∨ n = 1 ∨ n = 2 ∨ n = 3 ∨ n = 4 := by omega
  rcases h with rfl | rfl | rfl | rfl | rfl <;> decide
end
/-- the inner loop of the distance: the row, the one left behind, the last, the least -/
noncomputable def lvIn (c : Nat → Int) (d0 : Int) (R : Nat → Int) : Nat → (Nat → Int) × Int × Int × Int
  | 0 => (R, d0, d0, 9223372036854775807)
  | i + 1 =>
    let S := lvIn c d0 R i
    let res := min (min S.2.2.1 (S.1 i) + 2) (S.2.1 + c i)
    (fun q => if q = i then res else S.1 q, S.1 i, res, if res < S.2.2.2 then res else S.2.2.2)
/-- the rows of the distance, each with its last -/
noncomputable def lvOut (n : Nat) (f g : Nat → Nat) : Nat → (Nat → Int) × Int
  | 0 => (fun k => 2 * ((k : Int) + 1), 0)
  | q + 1 => ((lvIn (fun i => cst (g q) (f i)) (2 * (q : Int)) (lvOut n f g q).1 n).1, (lvIn (fun i => cst (g q) (f i)) (2 * (q : Int)) (lvOut n f g q).1 n).2.2.1)
/-- the distance is 4, and no row leaves early -/
structure LevR (n : Nat) (f g : Nat → Nat) : Prop where
  least : ∀ q, q < n → (lvIn (fun i => cst (g q) (f i)) (2 * (q : Int)) (lvOut n f g q).1 n).2.2.2 ≤ 4
  last : (lvOut n f g n).2 = 4
end
section
open PySem PySem.Spec PySem.Calls PySem.W PyProof.Rows PyProof.Rows.LCg
theorem walkT10 : True := by
  k_with_none
  k_with "enterC" => (k_dflt (refine' code_defC ?wek1 ?wek2 ?wek3 ?wek4 ?wek5 ?wekA ?wekF ?wekK ?wek6 ?wek7 ?wek8 ?wek9 ?wekB ?wekD ?_ ?wec2 ?wec3 ?wec4; (case wekA => exact rfl); (case wekF => exact rfl); (case wekK => assumption); (case wek1 => k_asm); (case wek2 => k_asm); (case wek3 => k_asm); (case wek4 => k_asm); (case wek5 => k_asm); (case wek6 => k_is); (case wek7 => k_is); (case wek8 => ktr_room); (case wek9 => exact BindsTo.of_eq rfl); (case wekB => exact rfl); (case wekD => decide +kernel); (case wec2 => exact rfl); (case wec3 => exact rfl); (case wec4 => exact rfl); k_whole; intro g' L' h' tk' cells' FG' F' N' Y' B' X' T' l1; (try k_lt l1); k_cells Y'; (try simp only [List.cons_append, List.nil_append] at N'); (try dsimp only); (try k_lift B'); (try k_fold)))
  k_with "exec Assign cons ListComp" => (k_here; k_dflt (first
  | refine Mine.Assign_C (_F₀ := by k_asm) (by rfl) (by with_unfolding_all rfl) (by with_unfolding_all rfl) (fun _ => rfl) (fun _ => rfl) (by rfl) (by rfl) (by decide) (by rfl) (by rfl) ?_
  | refine Mine.Assign_L (ct := none) (_F₀ := by k_asm) (by rfl) (by with_unfolding_all rfl) (by with_unfolding_all rfl) (by decide) (by rfl) (by decide) (by rfl) (by rfl) (by rfl) ?_
  | refine Mine.Assign_L (ct := some _) (_F₀ := by k_asm) (by rfl) (by with_unfolding_all rfl) (by with_unfolding_all rfl) (by decide) (by rfl) (by decide) (by rfl) (by rfl) (by rfl) ?_))
  k_with "eval ListComp BinOp cons" => (k_here; k_dflt (refine Mine.ListComp_L (ct := none) (_F₀ := by k_asm) (by with_unfolding_all rfl) (by decide) (by rfl) (by decide) (by rfl) ?_))
  k_with "eval ListComp Call cons" => (k_here; k_dflt (refine Mine.ListComp_L (ct := none) (_F₀ := by k_asm) (by with_unfolding_all rfl) (by decide) (by rfl) (by decide) (by rfl) ?_))
  k_with "eval ListComp Subscript cons" => (k_here; k_dflt (refine Mine.ListComp_L (ct := none) (_F₀ := by k_asm) (by with_unfolding_all rfl) (by decide) (by rfl) (by decide) (by rfl) ?_))
  k_with "eval ListComp Name cons" => (k_here; k_dflt (refine Mine.ListComp_L (ct := none) (_F₀ := by k_asm) (by with_unfolding_all rfl) (by decide) (by rfl) (by decide) (by rfl) ?_))
  k_with "eval ListComp Name cons" => (k_here; k_dflt (refine Mine.ListComp_L (ct := some _) (_F₀ := by k_asm) (by with_unfolding_all rfl) (by decide) (by rfl) (by decide) (by rfl) ?_))
  k_with "eval ListComp ListComp cons" => (k_here; k_dflt (refine Mine.ListComp_C (_F₀ := by k_asm) (by with_unfolding_all rfl) (fun _ => rfl) (fun _ => rfl) (by rfl) (by rfl) (by decide) ?_))
  k_with "SrcM" => (k_here; k_dflt (first
  | (refine Mine.SrcM.range 4 (by rfl) (by k_asm) (by k_asm) (by assumption) (by first | decide | rfl) (by first | rfl | decide) (by exact Nat.le_of_ble_eq_true rfl) ?_; intro g'; (try dsimp only))
  | (refine Mine.SrcM.range 3 (by rfl) (by k_asm) (by k_asm) (by assumption) (by first | decide | rfl) (by first | rfl | decide) (by exact Nat.le_of_ble_eq_true rfl) ?_; intro g'; (try dsimp only))
  | (refine Mine.SrcM.ledger 3 (by rfl) (by k_asm) (by k_asm) (by k_mem) (by rfl) (by exact Nat.le_of_ble_eq_true rfl) ?_; intro g'; (try dsimp only))))
  k_with "LRest" => (with_unfolding_all first
  | (refine Mine.LRest.turn ?_; intro v' I' oI' C' oC' D' m' h' tk' E' hv' hC' hx' F' N' lie'; (first | lcg_open hv' | (obtain ⟨t9', hv9'⟩ := hv'; subst hv9')); (try simp only [List.nil_append, List.cons_append] at N'))
  | (refine Mine.LRest.test ?_; intro v' I' oI' C' oC' D' m' h' tk' E' hv' hC' hx' F' N' lie'; (first | lcg_open hv' | (obtain ⟨t9', hv9'⟩ := hv'; subst hv9')); (try simp only [List.nil_append, List.cons_append] at N'))
  | refine Mine.LRest.zero ?_)
  k_with "CRest" => (with_unfolding_all first
  | (refine Mine.CRest.turn ?_; intro v' I' oI' C' X' oX' D' h' tk' E' hv' hdX' F' N' lie'; (first | lcg_open hv' | (obtain ⟨t9', hv9'⟩ := hv'; subst hv9')); (try simp only [List.nil_append, List.cons_append] at N'))
  | refine Mine.CRest.zero ?_)
  k_with "LEnd" => (k_dflt (first
  | refine Mine.LEnd.push0 (by k_asm) (by k_asm) (by k_asm) ?_
  | refine Mine.LEnd.push1 (by k_asm) (by k_asm) (by k_asm) (by omega) ?_))
  k_with "FinV" => ((unfold Mine.FinV); intro D' h' tk' F' N' nlt' abv'; (k_lt nlt'); (try simp only [List.forall_mem_cons, List.forall_mem_nil, and_true] at abv'); (try simp only [List.nil_append, List.cons_append] at N'); (try dsimp only))
  k_with "FinB" => ((unfold Mine.FinB); intro D' h' tk' F' N' nlt' abv'; (k_lt nlt'); (try simp only [List.forall_mem_cons, List.forall_mem_nil, and_true] at abv'); (try simp only [List.nil_append, List.cons_append] at N'); (try dsimp only))
  k_with "mine_map" => ((repeat (refine (if_neg (by decide)).trans ?_)); first | exact if_pos rfl | assumption | exact rfl)
  k_with "eval Name" => (k_here; k_dflt (refine' nameX_L ?v15F ?v15v ?_ ?v15a ?v15b; (case v15a => rfl); (case v15b => rfl); (case v15F => k_asm); (case v15v => k_extra "mine_map"); k_whole))
  k_with "subscriptTail Name BinOp ref int" => (k_here; k_dflt (refine' Mine.item_refs ?v16N ?v16m ?v16a ?v16b ?_ ?v16s; (case v16N => k_asm); (case v16m => k_mem); (case v16a => omega); (case v16b => omega); (case v16s => with_unfolding_all rfl); k_whole); intro i' hi')
  k_with "binaryOp Mod int int" => (k_here; (with_reducible refine' Mine.mod4 ?_); intro x' hx0' hx4')
  k_with "subscriptTail Name Name ref int" => (k_here; k_dflt (refine' Mine.item_row ?v18N ?v18ha ?v18m0 ?v18m1 ?v18m2 ?v18m3 ?v18a ?v18b ?_ ?v18s; (case v18N => k_asm); (case v18m0 => k_mem); (case v18m1 => k_mem); (case v18m2 => k_mem); (case v18m3 => k_mem); (case v18ha => omega); (case v18a => omega); (case v18b => omega); (case v18s => with_unfolding_all rfl); k_whole))
  k_with "setItem ref int" => (k_here; k_dflt (refine' Mine.store_row ?v19F ?v19N ?v19f ?v19ha ?v19a ?v19b ?_; (case v19F => k_asm); (case v19N => k_asm); (case v19f => assumption); (case v19ha => omega); (case v19a => omega); (case v19b => omega); k_whole); intro h' F' N')
  k_with "loadName" => (k_here; k_dflt (refine' wpAny_loadName_local ?v20a ?v20b ?v20c ?v20v ?_; (case v20a => rfl); (case v20b => rfl); (case v20c => exact Fr.ns (by k_asm)); (case v20v => k_extra "mine_map"); k_whole))
  k_with "exec While" => (k_here; k_dflt (refine' Mine.while_sq ?v21a ?v21b ?v21F ?v21N ?v21h1 ?v21h2 ?v21h3 ?v21h4 ?v21h5 ?v21d1 ?v21d2 ?v21d3 ?_ ?v21hE; (case v21hE => first | assumption | passes_own); (case v21F => k_asm); (case v21N => k_asm); (case v21h1 => k_extra "mine_map"); (case v21h2 => k_extra "mine_map"); (case v21h3 => k_extra "mine_map"); (case v21h4 => k_extra "mine_map"); (case v21h5 => k_extra "mine_map"); (case v21d1 => assumption); (case v21d2 => assumption); (case v21d3 => assumption); (case v21a => omega); (case v21b => omega); k_whole))
  k_with "LRest" => (k_dflt (refine' Mine.LRest.one ?v22o ?v22turn ?v22fin; (case v22o => assumption)); (case' v22fin => (intro y' hy'; (try (obtain ⟨t8', hy8'⟩ := hy'; subst hy8')))); (case' v22turn => (intro i' v' I' oI' C' oC' D' m' h' tk' E' ys' hi' hv' hC' hx' F' N' lie'; (first | (obtain ⟨t9', hv9'⟩ := hv'; subst hv9') | skip))))
  k_with "mine_hit" => (first | (refine' Mine.hit_yes ?v23hit ?v23hi ?v23h0 ?v23a ?v23b; (case v23hit => assumption); (case v23hi => assumption); (case v23h0 => assumption); (case v23a => assumption); (case v23b => assumption)) | (refine' Mine.hit_no1 ?v23hit ?v23hi ?v23a; (case v23hit => assumption); (case v23hi => assumption); (case v23a => assumption)) | (refine' Mine.hit_no2 ?v23hit ?v23hi ?v23a; (case v23hit => assumption); (case v23hi => assumption); (case v23a => assumption)))
  k_with "HitPost" => (k_dflt (first | (refine Mine.HitPost.yes' ?v24hh ?_; (case v24hh => k_extra "mine_hit"); intro hh'; (try subst hh')) | (refine Mine.HitPost.no ?v24hh ?_; (case v24hh => k_extra "mine_hit"))))
  k_with "WhileStep2" => (k_dflt (first
  | (refine' Mine.jw_next ?v25F ?v25N ?v25h1 ?v25h2 ?v25h3 ?v25h4 ?v25hb ?v25h5 ?v25d1 ?v25d2 ?v25d3 ?v25hn ?v25C ?v25e; (case v25F => k_asm); (case v25N => k_asm); (case v25C => assumption); (case v25e => assumption); (case v25h1 => k_extra "mine_map"); (case v25h2 => k_extra "mine_map"); (case v25h3 => k_extra "mine_map"); (case v25h4 => k_extra "mine_map"); (case v25h5 => k_extra "mine_map"); (case v25hb => first | assumption | rfl); (case v25d1 => assumption); (case v25d2 => assumption); (case v25d3 => assumption); (case v25hn => omega))
  | (refine' Mine.jw_last ?v25F ?v25N ?v25h1 ?v25h2 ?v25h3 ?v25h4 ?v25hb ?v25h5 ?v25d1 ?v25d2 ?v25d3 ?v25hn ?v25C; (case v25F => k_asm); (case v25N => k_asm); (case v25C => assumption); (case v25h1 => k_extra "mine_map"); (case v25h2 => k_extra "mine_map"); (case v25h3 => k_extra "mine_map"); (case v25h4 => k_extra "mine_map"); (case v25h5 => k_extra "mine_map"); (case v25hb => first | assumption | rfl); (case v25d1 => assumption); (case v25d2 => assumption); (case v25d3 => assumption); (case v25hn => omega))))
  k_with "UnrEnd" => (k_dflt (refine' Mine.jf_end ?v26F ?v26N ?v26h1 ?v26h2 ?v26d1 ?v26d2 ?v26d3 ?v26C ?v26lb ?v26lD ?v26l0 ?v26lI; (case v26F => k_asm); (case v26N => k_asm); (case v26C => assumption); (case v26h1 => k_extra "mine_map"); (case v26h2 => k_extra "mine_map"); (case v26d1 => assumption); (case v26d2 => assumption); (case v26d3 => assumption); (case v26lb => assumption); (case v26lD => assumption); (case v26l0 => assumption); (case v26lI => assumption)))
  k_with "subscriptTail Constant str Name str int" => (k_here; k_dflt (refine' Mine.abcd_item ?v27a ?v27b ?_ ?v27s ?v27t; (case v27a => omega); (case v27b => omega); (case v27s => with_unfolding_all rfl); (case v27t => (intro _; with_unfolding_all rfl)); k_whole))
  k_with "subscriptTail Constant str Subscript str int" => (k_here; k_dflt (refine' Mine.abcd_item ?v28a ?v28b ?_ ?v28s ?v28t; (case v28a => first | omega | k_extra "mine_lat"); (case v28b => first | omega | k_extra "mine_lat"); (case v28s => with_unfolding_all rfl); (case v28t => (intro _; with_unfolding_all rfl)); k_whole))
  k_with "mine_lat" => (first | exact Lat.lo (by assumption) _ _ (by omega) (by omega) | exact Lat.hi (by assumption) _ _ (by omega) (by omega))
  k_with "binaryOp Add str str" => (k_here; (first | with_reducible refine' Mine.cat_1 ?_ | with_reducible refine' Mine.cat_2 ?_); intro t' tk')
  k_with "subscriptTail Name Name ref int" => (k_here; k_dflt (refine' Mine.item_refsX ?v31N ?v31m ?v31a ?v31b ?_ ?v31s; (case v31N => k_asm); (case v31m => k_mem); (case v31a => omega); (case v31b => omega); (case v31s => with_unfolding_all rfl); k_whole))
  k_with "subscriptTail Name Name ref int" => (k_here; k_dflt (refine' Mine.item_row ?v32N ?v32ha ?v32m0 ?v32m1 ?v32m2 ?v32m3 ?v32a ?v32b ?_ ?v32s; (case v32N => k_asm); (case v32m0 => k_mem); (case v32m1 => k_mem); (case v32m2 => k_mem); (case v32m3 => k_mem); (case v32ha => omega); (case v32a => omega); (case v32b => omega); (case v32s => with_unfolding_all rfl); k_whole))
  k_with "subscriptTail Subscript Name Name Name ref int" => (k_here; k_dflt (refine' Mine.item_row ?v33N ?v33ha ?v33m0 ?v33m1 ?v33m2 ?v33m3 ?v33a ?v33b ?_ ?v33s; (case v33N => k_asm); (case v33m0 => k_mem); (case v33m1 => k_mem); (case v33m2 => k_mem); (case v33m3 => k_mem); (case v33ha => omega); (case v33a => omega); (case v33b => omega); (case v33s => with_unfolding_all rfl); k_whole))
  k_with "call builtin:list.append cons nil" => (k_here; k_dflt (refine' Mine.append_w ?v34F ?v34N ?v34f ?v34n ?v34x ?_; (case v34F => k_asm); (case v34N => k_asm); (case v34f => assumption); (case v34n => omega); (case v34x => assumption); k_whole); intro h' F' N')
  k_with "compareOp NotIn str str" => (k_here; refine' Mine.notin_dots ?v35a ?_; (case v35a => assumption); k_whole)
  k_with "call builtin:str.split cons nil" => (k_here; k_dflt (refine' Mine.split_dots ?v36a ?v36F ?v36N ?_; (case v36a => assumption); (case v36F => k_asm); (case v36N => k_asm); k_whole); intro D' t1' t2' h' tk' F' N' l1; (try k_lt l1))
  k_with "call builtin:str.startswith cons nil" => (k_here; refine' Mine.starts_is ?v37a ?_; (case v37a => assumption); k_whole)
  k_with "call builtin:str.endswith cons nil" => (k_here; refine' Mine.ends_is ?v38a ?_; (case v38a => assumption); k_whole)
  k_with "call builtin:str.find cons nil" => (k_here; refine' Mine.find_is ?v39a ?_; (case v39a => assumption); k_whole)
  k_with "truthy str" => (k_here; refine' Mine.truthy_len ?v40a ?v40b ?_; (case v40a => assumption); (case v40b => decide); k_whole)
  k_with "call builtin:len cons nil" => (k_here; refine' Mine.len_is ?v41a ?v41b ?_; (case v41a => first | assumption | exact (by decide : Str.empty.length = 0)); (case v41b => decide); k_whole)
  k_with "exec For Name Name cons nil" => (k_here; k_dflt (refine' For_turns ?v42F ?_; (case v42F => k_asm); k_whole))
  k_with "pyIter ref" => (k_here; k_dflt (refine' iter_listTurns ?v43a ?v43F ?v43N ?v43m ?v43c ?v43d ?_; (case v43a => rfl); (case v43F => k_asm); (case v43N => k_asm); (case v43m => k_mem); (case v43c => rfl); (case v43d => with_unfolding_all rfl); k_whole); intro i' l1; (try k_lt l1))
  k_with "UnrEndW" => (k_here; k_dflt (refine' Mine.endW ?v44F ?v44N ?v44off ⟨?v44sub, ?_⟩; (case v44F => k_asm); (case v44N => k_asm); (case v44off => assumption); (case v44sub => k_subL); k_whole))
  trivial
theorem lines10 : True := by
  k_with "compareOp Eq str str" => (k_here; (with_reducible refine Mine.eq_ltr ?_))
  k_with "call builtin:str.lower cons nil" => ((try dsimp only); k_here; with_reducible refine Mine.lower_ltr (by assumption) ?_)
  trivial
noncomputable def intPost (n : Int) (news : List (Addr × Obj)) (v : Value) (h₀ h' : Heap) (L : Addr) (m : Str → Option Value) : Prop :=
  Fr h₀ L h' m ∧ ∃ t, v = .int n t ∧ News h₀ L h' news
theorem cost_ok (w : World) {p : Program} {loose : List Str} {mean : ExcName → Option Value} {mg mb : Str → Option Value} {news : List (Addr × Obj)} {x y : Nat} {t u : Tok} (hx : x < 4) (hy : y < 4) :
   Tells w p loose mean mg mb 84 [.str (ltr x) t, .str (ltr y) u] news 1 8 (intPost (cst x y) news) := by
  intro dp un gd cn cs a ccd cl outer A₀ bs h₀ L m s Q E B F X N T hk hd hu hret
  refine wpAny_call ?_
  k_dflt cell_enter
  k_steps
  · refine hret _ _ _ ⟨by k_asm, _, congrArg (fun n => Value.int n _) (if_pos (by assumption)).symm, by k_asm⟩
  · refine hret _ _ _ ⟨by k_asm, _, congrArg (fun n => Value.int n _) (if_neg (by assumption)).symm, by k_asm⟩
end
section
open PySem PySem.Spec PySem.Calls PySem.W PyProof.Rows PyProof.Rows.LCg PySem.Builtin.Str
theorem tells_at {w : World} {p : Program} {loose : List Str} {mean : ExcName → Option Value} {mg mb : Str → Option Value} {f : Addr} {vs : List Value} {news : List (Addr × Obj)} {dep uni : Nat} {Post : Value → Heap → Heap → Addr → (Str → Option Value) → Prop}
    {dp un : Nat} {gd : Option (List Code)} {cn : Str} {cs : Scope} {a : Addr} {ccd : Value} {cl : List (Str × Addr)} {outer : List Env} {A₀ : Around} {base h₀ : Heap} {L : Addr} {m : Str → Option Value} {s : Shared} {Q E : Value → Shared → Prop}
    (C : Tells w p loose mean mg mb f vs news dep uni Post) (B : Below A₀ base outer h₀) (F : Fr h₀ L s.heap m) (X : (hd.heap_39 w.params).In h₀) (N : News h₀ L s.heap news) (T : Top p loose mean mg mb h₀) (hk : cs.kind = .function)
    (hd : dp + dep < recursionLimit) (hu : un + uni < cLine) (ret : ∀ (v : Value) (h' : Heap) (tk' : Nat), Post v h₀ h' L m → Q v { s with heap := h', toks := tk' }) :
    wpAny (model PR w) (ktrTop dp un gd cn cs L a ccd cl outer) (call (.ref f) vs) Q E s := C _ _ _ _ _ _ _ _ _ _ _ _ _ _ _ _ _ B F X N T hk hd hu ret
theorem min_is {prog : Program} {w : World} {A : Around} {E : Value → Shared → Prop} {s : Shared} {h₀ : Heap} {L : Addr} {m : Str → Option Value} {news : List (Addr × Obj)} {a b : Int} {t u : Tok} {Q : Value → Shared → Prop} (hh : A.handled = none) (F : Fr h₀ L s.heap m) (N : News h₀ L s.heap news)
    (h : ∀ h' tk t', Fr h₀ L h' m → News h₀ L h' news → Q (.int (min a b) t') { s with heap := h', toks := tk }) :
    wpAny (model prog w) A (call (.builtin "min") [.int a t, .int b u]) Q E s := by
  refine min_two_N hh F N fun h' tk F' N' => ?_
  have e : (if b < a then b else a) = min a b := by
    rw [Int.min_def]; split <;> split <;> omega
  rw [e]; exact h _ _ _ F' N'
end
section
open PySem PySem.Spec PySem.Calls PySem.W PyProof.Rows PyProof.Rows.LCg
theorem walkT12 : True := by
  k_with_none
  k_with "enterC" => (k_dflt (refine' code_defC ?wek1 ?wek2 ?wek3 ?wek4 ?wek5 ?wekA ?wekF ?wekK ?wek6 ?wek7 ?wek8 ?wek9 ?wekB ?wekD ?_ ?wec2 ?wec3 ?wec4; (case wekA => exact rfl); (case wekF => exact rfl); (case wekK => assumption); (case wek1 => k_asm); (case wek2 => k_asm); (case wek3 => k_asm); (case wek4 => k_asm); (case wek5 => k_asm); (case wek6 => k_is); (case wek7 => k_is); (case wek8 => ktr_room); (case wek9 => exact BindsTo.of_eq rfl); (case wekB => exact rfl); (case wekD => decide +kernel); (case wec2 => exact rfl); (case wec3 => exact rfl); (case wec4 => exact rfl); k_whole; intro g' L' h' tk' cells' FG' F' N' Y' B' X' T' l1; (try k_lt l1); k_cells Y'; (try simp only [List.cons_append, List.nil_append] at N'); (try dsimp only); (try k_lift B'); (try k_fold)))
  k_with "exec Assign cons ListComp" => (k_here; k_dflt (first
  | refine Mine.Assign_C (_F₀ := by k_asm) (by rfl) (by with_unfolding_all rfl) (by with_unfolding_all rfl) (fun _ => rfl) (fun _ => rfl) (by rfl) (by rfl) (by decide) (by rfl) (by rfl) ?_
  | refine Mine.Assign_L (ct := none) (_F₀ := by k_asm) (by rfl) (by with_unfolding_all rfl) (by with_unfolding_all rfl) (by decide) (by rfl) (by decide) (by rfl) (by rfl) (by rfl) ?_
  | refine Mine.Assign_L (ct := some _) (_F₀ := by k_asm) (by rfl) (by with_unfolding_all rfl) (by with_unfolding_all rfl) (by decide) (by rfl) (by decide) (by rfl) (by rfl) (by rfl) ?_))
  k_with "eval ListComp BinOp cons" => (k_here; k_dflt (refine Mine.ListComp_L (ct := none) (_F₀ := by k_asm) (by with_unfolding_all rfl) (by decide) (by rfl) (by decide) (by rfl) ?_))
  k_with "eval ListComp Call cons" => (k_here; k_dflt (refine Mine.ListComp_L (ct := none) (_F₀ := by k_asm) (by with_unfolding_all rfl) (by decide) (by rfl) (by decide) (by rfl) ?_))
  k_with "eval ListComp Subscript cons" => (k_here; k_dflt (refine Mine.ListComp_L (ct := none) (_F₀ := by k_asm) (by with_unfolding_all rfl) (by decide) (by rfl) (by decide) (by rfl) ?_))
  k_with "eval ListComp Name cons" => (k_here; k_dflt (refine Mine.ListComp_L (ct := none) (_F₀ := by k_asm) (by with_unfolding_all rfl) (by decide) (by rfl) (by decide) (by rfl) ?_))
  k_with "eval ListComp Name cons" => (k_here; k_dflt (refine Mine.ListComp_L (ct := some _) (_F₀ := by k_asm) (by with_unfolding_all rfl) (by decide) (by rfl) (by decide) (by rfl) ?_))
  k_with "eval ListComp ListComp cons" => (k_here; k_dflt (refine Mine.ListComp_C (_F₀ := by k_asm) (by with_unfolding_all rfl) (fun _ => rfl) (fun _ => rfl) (by rfl) (by rfl) (by decide) ?_))
  k_with "SrcM" => (k_here; k_dflt (first
  | (refine Mine.SrcM.range 4 (by rfl) (by k_asm) (by k_asm) (by assumption) (by first | decide | rfl) (by first | rfl | decide) (by exact Nat.le_of_ble_eq_true rfl) ?_; intro g'; (try dsimp only))
  | (refine Mine.SrcM.range 3 (by rfl) (by k_asm) (by k_asm) (by assumption) (by first | decide | rfl) (by first | rfl | decide) (by exact Nat.le_of_ble_eq_true rfl) ?_; intro g'; (try dsimp only))
  | (refine Mine.SrcM.ledger 3 (by rfl) (by k_asm) (by k_asm) (by k_mem) (by rfl) (by exact Nat.le_of_ble_eq_true rfl) ?_; intro g'; (try dsimp only))))
  k_with "LRest" => (with_unfolding_all first
  | (refine Mine.LRest.turn ?_; intro v' I' oI' C' oC' D' m' h' tk' E' hv' hC' hx' F' N' lie'; (first | lcg_open hv' | (obtain ⟨t9', hv9'⟩ := hv'; subst hv9')); (try simp only [List.nil_append, List.cons_append] at N'))
  | (refine Mine.LRest.test ?_; intro v' I' oI' C' oC' D' m' h' tk' E' hv' hC' hx' F' N' lie'; (first | lcg_open hv' | (obtain ⟨t9', hv9'⟩ := hv'; subst hv9')); (try simp only [List.nil_append, List.cons_append] at N'))
  | refine Mine.LRest.zero ?_)
  k_with "CRest" => (with_unfolding_all first
  | (refine Mine.CRest.turn ?_; intro v' I' oI' C' X' oX' D' h' tk' E' hv' hdX' F' N' lie'; (first | lcg_open hv' | (obtain ⟨t9', hv9'⟩ := hv'; subst hv9')); (try simp only [List.nil_append, List.cons_append] at N'))
  | refine Mine.CRest.zero ?_)
  k_with "LEnd" => (k_dflt (first
  | refine Mine.LEnd.push0 (by k_asm) (by k_asm) (by k_asm) ?_
  | refine Mine.LEnd.push1 (by k_asm) (by k_asm) (by k_asm) (by omega) ?_))
  k_with "FinV" => ((unfold Mine.FinV); intro D' h' tk' F' N' nlt' abv'; (k_lt nlt'); (try simp only [List.forall_mem_cons, List.forall_mem_nil, and_true] at abv'); (try simp only [List.nil_append, List.cons_append] at N'); (try dsimp only))
  k_with "FinB" => ((unfold Mine.FinB); intro D' h' tk' F' N' nlt' abv'; (k_lt nlt'); (try simp only [List.forall_mem_cons, List.forall_mem_nil, and_true] at abv'); (try simp only [List.nil_append, List.cons_append] at N'); (try dsimp only))
  k_with "mine_map" => ((repeat (refine (if_neg (by decide)).trans ?_)); first | exact if_pos rfl | assumption | exact rfl)
  k_with "eval Name" => (k_here; k_dflt (refine' nameX_L ?v15F ?v15v ?_ ?v15a ?v15b; (case v15a => rfl); (case v15b => rfl); (case v15F => k_asm); (case v15v => k_extra "mine_map"); k_whole))
  k_with "subscriptTail Name BinOp ref int" => (k_here; k_dflt (refine' Mine.item_refs ?v16N ?v16m ?v16a ?v16b ?_ ?v16s; (case v16N => k_asm); (case v16m => k_mem); (case v16a => omega); (case v16b => omega); (case v16s => with_unfolding_all rfl); k_whole); intro i' hi')
  k_with "binaryOp Mod int int" => (k_here; (with_reducible refine' Mine.mod4 ?_); intro x' hx0' hx4')
  k_with "subscriptTail Name Name ref int" => (k_here; k_dflt (refine' Mine.item_row ?v18N ?v18ha ?v18m0 ?v18m1 ?v18m2 ?v18m3 ?v18a ?v18b ?_ ?v18s; (case v18N => k_asm); (case v18m0 => k_mem); (case v18m1 => k_mem); (case v18m2 => k_mem); (case v18m3 => k_mem); (case v18ha => omega); (case v18a => omega); (case v18b => omega); (case v18s => with_unfolding_all rfl); k_whole))
  k_with "setItem ref int" => (k_here; k_dflt (refine' Mine.store_row ?v19F ?v19N ?v19f ?v19ha ?v19a ?v19b ?_; (case v19F => k_asm); (case v19N => k_asm); (case v19f => assumption); (case v19ha => omega); (case v19a => omega); (case v19b => omega); k_whole); intro h' F' N')
  k_with "loadName" => (k_here; k_dflt (refine' wpAny_loadName_local ?v20a ?v20b ?v20c ?v20v ?_; (case v20a => rfl); (case v20b => rfl); (case v20c => exact Fr.ns (by k_asm)); (case v20v => k_extra "mine_map"); k_whole))
  k_with "exec While" => (k_here; k_dflt (refine' Mine.while_sq ?v21a ?v21b ?v21F ?v21N ?v21h1 ?v21h2 ?v21h3 ?v21h4 ?v21h5 ?v21d1 ?v21d2 ?v21d3 ?_ ?v21hE; (case v21hE => first | assumption | passes_own); (case v21F => k_asm); (case v21N => k_asm); (case v21h1 => k_extra "mine_map"); (case v21h2 => k_extra "mine_map"); (case v21h3 => k_extra "mine_map"); (case v21h4 => k_extra "mine_map"); (case v21h5 => k_extra "mine_map"); (case v21d1 => assumption); (case v21d2 => assumption); (case v21d3 => assumption); (case v21a => omega); (case v21b => omega); k_whole))
  k_with "LRest" => (k_dflt (refine' Mine.LRest.one ?v22o ?v22turn ?v22fin; (case v22o => assumption)); (case' v22fin => (intro y' hy'; (try (obtain ⟨t8', hy8'⟩ := hy'; subst hy8')))); (case' v22turn => (intro i' v' I' oI' C' oC' D' m' h' tk' E' ys' hi' hv' hC' hx' F' N' lie'; (first | (obtain ⟨t9', hv9'⟩ := hv'; subst hv9') | skip))))
  k_with "mine_hit" => (first | (refine' Mine.hit_yes ?v23hit ?v23hi ?v23h0 ?v23a ?v23b; (case v23hit => assumption); (case v23hi => assumption); (case v23h0 => assumption); (case v23a => assumption); (case v23b => assumption)) | (refine' Mine.hit_no1 ?v23hit ?v23hi ?v23a; (case v23hit => assumption); (case v23hi => assumption); (case v23a => assumption)) | (refine' Mine.hit_no2 ?v23hit ?v23hi ?v23a; (case v23hit => assumption); (case v23hi => assumption); (case v23a => assumption)))
  k_with "HitPost" => (k_dflt (first | (refine Mine.HitPost.yes' ?v24hh ?_; (case v24hh => k_extra "mine_hit"); intro hh'; (try subst hh')) | (refine Mine.HitPost.no ?v24hh ?_; (case v24hh => k_extra "mine_hit"))))
  k_with "WhileStep2" => (k_dflt (first
  | (refine' Mine.jw_next ?v25F ?v25N ?v25h1 ?v25h2 ?v25h3 ?v25h4 ?v25hb ?v25h5 ?v25d1 ?v25d2 ?v25d3 ?v25hn ?v25C ?v25e; (case v25F => k_asm); (case v25N => k_asm); (case v25C => assumption); (case v25e => assumption); (case v25h1 => k_extra "mine_map"); (case v25h2 => k_extra "mine_map"); (case v25h3 => k_extra "mine_map"); (case v25h4 => k_extra "mine_map"); (case v25h5 => k_extra "mine_map"); (case v25hb => first | assumption | rfl); (case v25d1 => assumption); (case v25d2 => assumption); (case v25d3 => assumption); (case v25hn => omega))
  | (refine' Mine.jw_last ?v25F ?v25N ?v25h1 ?v25h2 ?v25h3 ?v25h4 ?v25hb ?v25h5 ?v25d1 ?v25d2 ?v25d3 ?v25hn ?v25C; (case v25F => k_asm); (case v25N => k_asm); (case v25C => assumption); (case v25h1 => k_extra "mine_map"); (case v25h2 => k_extra "mine_map"); (case v25h3 => k_extra "mine_map"); (case v25h4 => k_extra "mine_map"); (case v25h5 => k_extra "mine_map"); (case v25hb => first | assumption | rfl); (case v25d1 => assumption); (case v25d2 => assumption); (case v25d3 => assumption); (case v25hn => omega))))
  k_with "UnrEnd" => (k_dflt (refine' Mine.jf_end ?v26F ?v26N ?v26h1 ?v26h2 ?v26d1 ?v26d2 ?v26d3 ?v26C ?v26lb ?v26lD ?v26l0 ?v26lI; (case v26F => k_asm); (case v26N => k_asm); (case v26C => assumption); (case v26h1 => k_extra "mine_map"); (case v26h2 => k_extra "mine_map"); (case v26d1 => assumption); (case v26d2 => assumption); (case v26d3 => assumption); (case v26lb => assumption); (case v26lD => assumption); (case v26l0 => assumption); (case v26lI => assumption)))
  k_with "subscriptTail Constant str Name str int" => (k_here; k_dflt (refine' Mine.abcd_item ?v27a ?v27b ?_ ?v27s ?v27t; (case v27a => omega); (case v27b => omega); (case v27s => with_unfolding_all rfl); (case v27t => (intro _; with_unfolding_all rfl)); k_whole))
  k_with "subscriptTail Constant str Subscript str int" => (k_here; k_dflt (refine' Mine.abcd_item ?v28a ?v28b ?_ ?v28s ?v28t; (case v28a => first | omega | k_extra "mine_lat"); (case v28b => first | omega | k_extra "mine_lat"); (case v28s => with_unfolding_all rfl); (case v28t => (intro _; with_unfolding_all rfl)); k_whole))
  k_with "mine_lat" => (first | exact Lat.lo (by assumption) _ _ (by omega) (by omega) | exact Lat.hi (by assumption) _ _ (by omega) (by omega))
  k_with "binaryOp Add str str" => (k_here; (first | with_reducible refine' Mine.cat_1 ?_ | with_reducible refine' Mine.cat_2 ?_); intro t' tk')
  k_with "subscriptTail Name Name ref int" => (k_here; k_dflt (refine' Mine.item_refsX ?v31N ?v31m ?v31a ?v31b ?_ ?v31s; (case v31N => k_asm); (case v31m => k_mem); (case v31a => omega); (case v31b => omega); (case v31s => with_unfolding_all rfl); k_whole))
  k_with "subscriptTail Name Name ref int" => (k_here; k_dflt (refine' Mine.item_row ?v32N ?v32ha ?v32m0 ?v32m1 ?v32m2 ?v32m3 ?v32a ?v32b ?_ ?v32s; (case v32N => k_asm); (case v32m0 => k_mem); (case v32m1 => k_mem); (case v32m2 => k_mem); (case v32m3 => k_mem); (case v32ha => omega); (case v32a => omega); (case v32b => omega); (case v32s => with_unfolding_all rfl); k_whole))
  k_with "subscriptTail Subscript Name Name Name ref int" => (k_here; k_dflt (refine' Mine.item_row ?v33N ?v33ha ?v33m0 ?v33m1 ?v33m2 ?v33m3 ?v33a ?v33b ?_ ?v33s; (case v33N => k_asm); (case v33m0 => k_mem); (case v33m1 => k_mem); (case v33m2 => k_mem); (case v33m3 => k_mem); (case v33ha => omega); (case v33a => omega); (case v33b => omega); (case v33s => with_unfolding_all rfl); k_whole))
  k_with "call builtin:list.append cons nil" => (k_here; k_dflt (refine' Mine.append_w ?v34F ?v34N ?v34f ?v34n ?v34x ?_; (case v34F => k_asm); (case v34N => k_asm); (case v34f => assumption); (case v34n => omega); (case v34x => assumption); k_whole); intro h' F' N')
  k_with "compareOp NotIn str str" => (k_here; refine' Mine.notin_dots ?v35a ?_; (case v35a => assumption); k_whole)
  k_with "call builtin:str.split cons nil" => (k_here; k_dflt (refine' Mine.split_dots ?v36a ?v36F ?v36N ?_; (case v36a => assumption); (case v36F => k_asm); (case v36N => k_asm); k_whole); intro D' t1' t2' h' tk' F' N' l1; (try k_lt l1))
  k_with "call builtin:str.startswith cons nil" => (k_here; refine' Mine.starts_is ?v37a ?_; (case v37a => assumption); k_whole)
  k_with "call builtin:str.endswith cons nil" => (k_here; refine' Mine.ends_is ?v38a ?_; (case v38a => assumption); k_whole)
  k_with "call builtin:str.find cons nil" => (k_here; refine' Mine.find_is ?v39a ?_; (case v39a => assumption); k_whole)
  k_with "truthy str" => (k_here; refine' Mine.truthy_len ?v40a ?v40b ?_; (case v40a => assumption); (case v40b => decide); k_whole)
  k_with "call builtin:len cons nil" => (k_here; refine' Mine.len_is ?v41a ?v41b ?_; (case v41a => first | assumption | exact (by decide : Str.empty.length = 0)); (case v41b => decide); k_whole)
  k_with "exec For Name Name cons nil" => (k_here; k_dflt (refine' For_turns ?v42F ?_; (case v42F => k_asm); k_whole))
  k_with "pyIter ref" => (k_here; k_dflt (refine' iter_listTurns ?v43a ?v43F ?v43N ?v43m ?v43c ?v43d ?_; (case v43a => rfl); (case v43F => k_asm); (case v43N => k_asm); (case v43m => k_mem); (case v43c => rfl); (case v43d => with_unfolding_all rfl); k_whole); intro i' l1; (try k_lt l1))
  k_with "UnrEndW" => (k_here; k_dflt (refine' Mine.endW ?v44F ?v44N ?v44off ⟨?v44sub, ?_⟩; (case v44F => k_asm); (case v44N => k_asm); (case v44off => assumption); (case v44sub => k_subL); k_whole))
  trivial
theorem lines12 : True := by
  k_with "pyIter ref" => (k_here; k_dflt (refine' iter_rangeUnr ?ka ?kb ?kc ?kd ?ke ?kf ?_; (case ka => exact rfl); (case kb => assumption); (case kc => exact Mine.range_small (by omega)); (case kd => exact Mine.range_size (by omega)); (case ke => k_asm); (case kf => k_asm); k_whole); intro i' l1; (try k_lt l1))
  k_with "subscriptTail Name Name str int" => (k_here; refine' Mine.witem ?wp9 ?wn9 ?wk9 ?_; (case wk9 => exact Int.zero_add _); (case wp9 => omega); (case wn9 => omega))
  k_with "subscriptTail Name Name ref int" => (k_here; k_dflt (refine' Mine.item_lrow ?wN9 ?wm9 ?wn9 ?wk9 ?wi9 ?_; (case wN9 => k_asm); (case wm9 => k_mem); (case wn9 => omega); (case wk9 => exact Int.zero_add _); (case wi9 => omega); k_whole))
  k_with "call builtin:len cons nil" => (k_here; refine' Mine.wlen ?wn9 ?_; (case wn9 => omega))
  k_with "setItem ref int" => (k_here; k_dflt (refine' Mine.store_lrow ?wF9 ?wN9 ?wf9 ?wn9 ?wk9 ?wi9 ?_; (case wF9 => k_asm); (case wN9 => k_asm); (case wf9 => assumption); (case wn9 => omega); (case wk9 => exact Int.zero_add _); (case wi9 => omega); k_whole); intro h' F' N')
  k_with "call builtin:min cons nil" => (k_here; k_dflt (refine' Mine.min_is ?wh9 ?wF9 ?wN9 ?_; (case wh9 => exact rfl); (case wF9 => k_asm); (case wN9 => k_asm); k_whole); intro h' tk' t' F' N')
  k_with "call ref cons nil" => (k_here; k_dflt (refine' Mine.tells_at (Mine.cost_ok _ ?wx9 ?wy9) ?wB9 ?wF9 ?wX9 ?wN9 ?wT9 ?wk9 ?wd9 ?wu9 ?_; (case wB9 => k_asm); (case wF9 => k_asm); (case wX9 => k_asm); (case wN9 => k_asm); (case wT9 => k_asm); (case wk9 => first | exact rfl | assumption); (case wd9 => ktr_room); (case wu9 => ktr_units); (case wx9 => assumption); (case wy9 => assumption); k_whole); rintro v9 h' tk' ⟨F', t9, rfl, N'⟩)
  trivial
noncomputable def JLo (D : Addr) (n ep : Nat) (f g : Nat → Nat) (led : List (Addr × Obj)) (i : Nat) (m : Str → Option Value) (news : List (Addr × Obj)) : Prop :=
  ∃ (T : Nat → Tok) (ta tb tr tc : Tok), m "a" = some (.str (word n f) ta) ∧ m "b" = some (.str (word n g) tb) ∧ m "row" = some (.ref D) ∧ m "result" = some (.int (lvOut n f g i).2 tr) ∧ m "max_cost" = some (.int 4 tc) ∧ news = (D, lrow n ep (lvOut n f g i).1 T) :: led
noncomputable def JLi (D I : Addr) (it : Obj) (n ep : Nat) (f g : Nat → Nat) (led : List (Addr × Obj)) (x : Nat) (i : Nat) (m : Str → Option Value) (news : List (Addr × Obj)) : Prop :=
  ∃ (T : Nat → Tok) (ta tb tr tc tx ts td tm : Tok), m "a" = some (.str (word n f) ta) ∧ m "b" = some (.str (word n g) tb) ∧ m "row" = some (.ref D) ∧ m "result" = some (.int (lvIn (fun i => cst (g x) (f i)) (2 * (x : Int)) (lvOut n f g x).1 i).2.2.1 tr) ∧ m "max_cost" = some (.int 4 tc) ∧
    m "bindex" = some (.int (0 + (x : Int)) tx) ∧ m "bchar" = some (.str (ltr (g x)) ts) ∧ m "distance" = some (.int (lvIn (fun i => cst (g x) (f i)) (2 * (x : Int)) (lvOut n f g x).1 i).2.1 td) ∧ m "minimum" = some (.int (lvIn (fun i => cst (g x) (f i)) (2 * (x : Int)) (lvOut n f g x).1 i).2.2.2 tm) ∧
    news = (I, it) :: (D, lrow n ep (lvIn (fun i => cst (g x) (f i)) (2 * (x : Int)) (lvOut n f g x).1 i).1 T) :: led
theorem lv_turn (w : World) {p : Program} {loose : List Str} {mean : ExcName → Option Value} {mg mb : Str → Option Value} {dp un : Nat} {gd : Option (List Code)} {cn : Str} {cs : Scope} {L a : Addr} {ccd : Value} {cl : List (Str × Addr)} {outer : List Env} {bs : Heap}
    {h₀ : Heap} {L' : Addr} (B : Below (ktrTop dp un gd cn cs L a ccd cl outer) bs (envX cn cs L a ccd cl :: outer) h₀) (X : (hd.heap_39 w.params).In h₀) (T : Top p loose mean mg mb h₀) (hd : dp + 2 < recursionLimit) (hu : un + 16 < cLine) (sc : Scope) (b : List Stmt) (hsc : sc = lvSc) (hb : b = lvFor) {led : List (Addr × Obj)} {D I : Addr} {n ep : Nat} {f g : Nat → Nat} {s : Shared} {Q : Flow → Shared → Prop} {E : Value → Shared → Prop}
    (hn : n ≤ 3) (hf : ∀ i, i < n → f i < 4) (hg : ∀ i, i < n → g i < 4) (H : LevR n f g) (lD : ∀ y ∈ led.map (·.1), @LT.lt Nat _ y D) (lI : ∀ y ∈ D :: led.map (·.1), @LT.lt Nat _ y I)
    (hE : PassesOwn (model PR w) ((ktrTop dp un gd cn cs L a ccd cl outer).deeper (lvEnv sc L')) (lvEnv sc L') E) :
    ∀ i m news, i < n → JLo D n ep f g led i m news → ∀ t h tk, Fr h₀ (lvEnv sc L').locals h (fun y => if y = (Str.ofString "bindex") then some (.int (0 + (i : Int)) t) else m y) →
      News h₀ (lvEnv sc L').locals h ((I, itR (0 + ((i + 1 : Nat) : Int)) ((n : Int) - ((i + 1 : Nat) : Int))) :: news) →
      wpAny (model PR w) ((ktrTop dp un gd cn cs L a ccd cl outer).deeper (lvEnv sc L')) (execs b (lvEnv sc L')) (UnrPost h₀ (lvEnv sc L').locals { s with heap := h, toks := tk } I (itR (0 + ((i + 1 : Nat) : Int)) ((n : Int) - ((i + 1 : Nat) : Int))) (JLo D n ep f g led (i + 1)) Q) E { s with heap := h, toks := tk } := by
  conv at hsc => rhs; whnf
  conv at hb => rhs; whnf
  subst hsc hb
  rintro i m news hi ⟨T', ta, tb, tr, tc, e1, e2, e3, e4, e5, rfl⟩ t h tk F N
  replace F : Fr h₀ L' h _ := F
  replace N : News h₀ L' h _ := N
  (try k_unmd); (try k_fold)
  iterate 37 (first | (k_unfold; (try dsimp only)) | walk1 | (dsimp only; walk1))
  have l9 := l1
  have lI9 := addr_lt (l := (I, nsO) :: (D, nsO) :: led) l9
  refine range_inv (JLi D I (itR (0 + ((i + 1 : Nat) : Int)) ((n : Int) - ((i + 1 : Nat) : Int))) n ep f g led i) ?turn ?done n 0 _ _ (by omega) ⟨T', ta, tb, _, tc, t, _, _, _, by k_extra "mine_map", by k_extra "mine_map", by k_extra "mine_map", read_int_eq (by k_extra "mine_map") (by show (0 + (i : Int)) * 2 = 2 * (i : Int); omega), by k_extra "mine_map", by k_extra "mine_map", by k_extra "mine_map", read_int_eq (by k_extra "mine_map") (by show (0 + (i : Int)) * 2 = 2 * (i : Int); omega), by k_extra "mine_map", rfl⟩
  case turn =>
    rintro j m₁ news₁ hj ⟨T1, ta1, tb1, tr1, tc1, tx1, ts1, td1, tm1, a1, a2, a3, a4, a5, a6, a7, a8, a9, rfl⟩ t1 h1 tk1 F1 N1
    have far : ∀ y ∈ i' :: I :: led.map (·.1), y ≠ D := fun y hy => by
      rcases List.mem_cons.mp hy with rfl | hy
      · exact gt_ne (lI9 D (by simp))
      rcases List.mem_cons.mp hy with rfl | hy
      · exact gt_ne (lI D (by simp))
      · exact Nat.ne_of_lt (lD y hy)
    have hfj := hf j hj
    have hgi := hg i hi
    k_steps
    all_goals (
      refine' unr_tail ?F ?N ?off ?r
      case F => k_asm
      case N => k_asm
      case off => exact fun y hy => lI9 y hy
      case r => exact ⟨_, ta1, tb1, _, tc1, tx1, ts1, _, _, by k_extra "mine_map", by k_extra "mine_map", by k_extra "mine_map", read_int_eq (by k_extra "mine_map") rfl, by k_extra "mine_map", by k_extra "mine_map", by k_extra "mine_map", read_int_eq (by k_extra "mine_map") rfl, read_int_eq (by k_extra "mine_map") (by first | exact (if_pos (by assumption)).symm | exact (if_neg (by assumption)).symm), rfl⟩)
  case done =>
    rintro m₁ news₁ ⟨T1, ta1, tb1, tr1, tc1, tx1, ts1, td1, tm1, a1, a2, a3, a4, a5, a6, a7, a8, a9, rfl⟩ h1 tk1 F1 N1
    have hle := H.least i hi
    k_steps
    refine' unr_tail ?F ?N ?off ?r
    case F => k_asm
    case N => k_asm
    case off => exact fun y hy => lI y hy
    case r => exact ⟨T1, ta1, tb1, _, tc1, by k_extra "mine_map", by k_extra "mine_map", by k_extra "mine_map", read_int_eq (by k_extra "mine_map") rfl, by k_extra "mine_map", rfl⟩
end
section
open PySem PySem.Spec PySem.Calls PySem.W PyProof.Rows PyProof.Rows.LCg
theorem walkT11 : True := by
  k_with_none
  k_with "enterC" => (k_dflt (refine' code_defC ?wek1 ?wek2 ?wek3 ?wek4 ?wek5 ?wekA ?wekF ?wekK ?wek6 ?wek7 ?wek8 ?wek9 ?wekB ?wekD ?_ ?wec2 ?wec3 ?wec4; (case wekA => exact rfl); (case wekF => exact rfl); (case wekK => assumption); (case wek1 => k_asm); (case wek2 => k_asm); (case wek3 => k_asm); (case wek4 => k_asm); (case wek5 => k_asm); (case wek6 => k_is); (case wek7 => k_is); (case wek8 => ktr_room); (case wek9 => exact BindsTo.of_eq rfl); (case wekB => exact rfl); (case wekD => decide +kernel); (case wec2 => exact rfl); (case wec3 => exact rfl); (case wec4 => exact rfl); k_whole; intro g' L' h' tk' cells' FG' F' N' Y' B' X' T' l1; (try k_lt l1); k_cells Y'; (try simp only [List.cons_append, List.nil_append] at N'); (try dsimp only); (try k_lift B'); (try k_fold)))
  k_with "exec Assign cons ListComp" => (k_here; k_dflt (first
  | refine Mine.Assign_C (_F₀ := by k_asm) (by rfl) (by with_unfolding_all rfl) (by with_unfolding_all rfl) (fun _ => rfl) (fun _ => rfl) (by rfl) (by rfl) (by decide) (by rfl) (by rfl) ?_
  | refine Mine.Assign_L (ct := none) (_F₀ := by k_asm) (by rfl) (by with_unfolding_all rfl) (by with_unfolding_all rfl) (by decide) (by rfl) (by decide) (by rfl) (by rfl) (by rfl) ?_
  | refine Mine.Assign_L (ct := some _) (_F₀ := by k_asm) (by rfl) (by with_unfolding_all rfl) (by with_unfolding_all rfl) (by decide) (by rfl) (by decide) (by rfl) (by rfl) (by rfl) ?_))
  k_with "eval ListComp BinOp cons" => (k_here; k_dflt (refine Mine.ListComp_L (ct := none) (_F₀ := by k_asm) (by with_unfolding_all rfl) (by decide) (by rfl) (by decide) (by rfl) ?_))
  k_with "eval ListComp Call cons" => (k_here; k_dflt (refine Mine.ListComp_L (ct := none) (_F₀ := by k_asm) (by with_unfolding_all rfl) (by decide) (by rfl) (by decide) (by rfl) ?_))
  k_with "eval ListComp Subscript cons" => (k_here; k_dflt (refine Mine.ListComp_L (ct := none) (_F₀ := by k_asm) (by with_unfolding_all rfl) (by decide) (by rfl) (by decide) (by rfl) ?_))
  k_with "eval ListComp Name cons" => (k_here; k_dflt (refine Mine.ListComp_L (ct := none) (_F₀ := by k_asm) (by with_unfolding_all rfl) (by decide) (by rfl) (by decide) (by rfl) ?_))
  k_with "eval ListComp Name cons" => (k_here; k_dflt (refine Mine.ListComp_L (ct := some _) (_F₀ := by k_asm) (by with_unfolding_all rfl) (by decide) (by rfl) (by decide) (by rfl) ?_))
  k_with "eval ListComp ListComp cons" => (k_here; k_dflt (refine Mine.ListComp_C (_F₀ := by k_asm) (by with_unfolding_all rfl) (fun _ => rfl) (fun _ => rfl) (by rfl) (by rfl) (by decide) ?_))
  k_with "SrcM" => (k_here; k_dflt (first
  | (refine Mine.SrcM.range 4 (by rfl) (by k_asm) (by k_asm) (by assumption) (by first | decide | rfl) (by first | rfl | decide) (by exact Nat.le_of_ble_eq_true rfl) ?_; intro g'; (try dsimp only))
  | (refine Mine.SrcM.range 3 (by rfl) (by k_asm) (by k_asm) (by assumption) (by first | decide | rfl) (by first | rfl | decide) (by exact Nat.le_of_ble_eq_true rfl) ?_; intro g'; (try dsimp only))
  | (refine Mine.SrcM.ledger 3 (by rfl) (by k_asm) (by k_asm) (by k_mem) (by rfl) (by exact Nat.le_of_ble_eq_true rfl) ?_; intro g'; (try dsimp only))))
  k_with "LRest" => (with_unfolding_all first
  | (refine Mine.LRest.turn ?_; intro v' I' oI' C' oC' D' m' h' tk' E' hv' hC' hx' F' N' lie'; (first | lcg_open hv' | (obtain ⟨t9', hv9'⟩ := hv'; subst hv9')); (try simp only [List.nil_append, List.cons_append] at N'))
  | (refine Mine.LRest.test ?_; intro v' I' oI' C' oC' D' m' h' tk' E' hv' hC' hx' F' N' lie'; (first | lcg_open hv' | (obtain ⟨t9', hv9'⟩ := hv'; subst hv9')); (try simp only [List.nil_append, List.cons_append] at N'))
  | refine Mine.LRest.zero ?_)
  k_with "CRest" => (with_unfolding_all first
  | (refine Mine.CRest.turn ?_; intro v' I' oI' C' X' oX' D' h' tk' E' hv' hdX' F' N' lie'; (first | lcg_open hv' | (obtain ⟨t9', hv9'⟩ := hv'; subst hv9')); (try simp only [List.nil_append, List.cons_append] at N'))
  | refine Mine.CRest.zero ?_)
  k_with "LEnd" => (k_dflt (first
  | refine Mine.LEnd.push0 (by k_asm) (by k_asm) (by k_asm) ?_
  | refine Mine.LEnd.push1 (by k_asm) (by k_asm) (by k_asm) (by omega) ?_))
  k_with "FinV" => ((unfold Mine.FinV); intro D' h' tk' F' N' nlt' abv'; (k_lt nlt'); (try simp only [List.forall_mem_cons, List.forall_mem_nil, and_true] at abv'); (try simp only [List.nil_append, List.cons_append] at N'); (try dsimp only))
  k_with "FinB" => ((unfold Mine.FinB); intro D' h' tk' F' N' nlt' abv'; (k_lt nlt'); (try simp only [List.forall_mem_cons, List.forall_mem_nil, and_true] at abv'); (try simp only [List.nil_append, List.cons_append] at N'); (try dsimp only))
  k_with "mine_map" => ((repeat (refine (if_neg (by decide)).trans ?_)); first | exact if_pos rfl | assumption | exact rfl)
  k_with "eval Name" => (k_here; k_dflt (refine' nameX_L ?v15F ?v15v ?_ ?v15a ?v15b; (case v15a => rfl); (case v15b => rfl); (case v15F => k_asm); (case v15v => k_extra "mine_map"); k_whole))
  k_with "subscriptTail Name BinOp ref int" => (k_here; k_dflt (refine' Mine.item_refs ?v16N ?v16m ?v16a ?v16b ?_ ?v16s; (case v16N => k_asm); (case v16m => k_mem); (case v16a => omega); (case v16b => omega); (case v16s => with_unfolding_all rfl); k_whole); intro i' hi')
  k_with "binaryOp Mod int int" => (k_here; (with_reducible refine' Mine.mod4 ?_); intro x' hx0' hx4')
  k_with "subscriptTail Name Name ref int" => (k_here; k_dflt (refine' Mine.item_row ?v18N ?v18ha ?v18m0 ?v18m1 ?v18m2 ?v18m3 ?v18a ?v18b ?_ ?v18s; (case v18N => k_asm); (case v18m0 => k_mem); (case v18m1 => k_mem); (case v18m2 => k_mem); (case v18m3 => k_mem); (case v18ha => omega); (case v18a => omega); (case v18b => omega); (case v18s => with_unfolding_all rfl); k_whole))
  k_with "setItem ref int" => (k_here; k_dflt (refine' Mine.store_row ?v19F ?v19N ?v19f ?v19ha ?v19a ?v19b ?_; (case v19F => k_asm); (case v19N => k_asm); (case v19f => assumption); (case v19ha => omega); (case v19a => omega); (case v19b => omega); k_whole); intro h' F' N')
  k_with "loadName" => (k_here; k_dflt (refine' wpAny_loadName_local ?v20a ?v20b ?v20c ?v20v ?_; (case v20a => rfl); (case v20b => rfl); (case v20c => exact Fr.ns (by k_asm)); (case v20v => k_extra "mine_map"); k_whole))
  k_with "exec While" => (k_here; k_dflt (refine' Mine.while_sq ?v21a ?v21b ?v21F ?v21N ?v21h1 ?v21h2 ?v21h3 ?v21h4 ?v21h5 ?v21d1 ?v21d2 ?v21d3 ?_ ?v21hE; (case v21hE => first | assumption | passes_own); (case v21F => k_asm); (case v21N => k_asm); (case v21h1 => k_extra "mine_map"); (case v21h2 => k_extra "mine_map"); (case v21h3 => k_extra "mine_map"); (case v21h4 => k_extra "mine_map"); (case v21h5 => k_extra "mine_map"); (case v21d1 => assumption); (case v21d2 => assumption); (case v21d3 => assumption); (case v21a => omega); (case v21b => omega); k_whole))
  k_with "LRest" => (k_dflt (refine' Mine.LRest.one ?v22o ?v22turn ?v22fin; (case v22o => assumption)); (case' v22fin => (intro y' hy'; (try (obtain ⟨t8', hy8'⟩ := hy'; subst hy8')))); (case' v22turn => (intro i' v' I' oI' C' oC' D' m' h' tk' E' ys' hi' hv' hC' hx' F' N' lie'; (first | (obtain ⟨t9', hv9'⟩ := hv'; subst hv9') | skip))))
  k_with "mine_hit" => (first | (refine' Mine.hit_yes ?v23hit ?v23hi ?v23h0 ?v23a ?v23b; (case v23hit => assumption); (case v23hi => assumption); (case v23h0 => assumption); (case v23a => assumption); (case v23b => assumption)) | (refine' Mine.hit_no1 ?v23hit ?v23hi ?v23a; (case v23hit => assumption); (case v23hi => assumption); (case v23a => assumption)) | (refine' Mine.hit_no2 ?v23hit ?v23hi ?v23a; (case v23hit => assumption); (case v23hi => assumption); (case v23a => assumption)))
  k_with "HitPost" => (k_dflt (first | (refine Mine.HitPost.yes' ?v24hh ?_; (case v24hh => k_extra "mine_hit"); intro hh'; (try subst hh')) | (refine Mine.HitPost.no ?v24hh ?_; (case v24hh => k_extra "mine_hit"))))
  k_with "WhileStep2" => (k_dflt (first
  | (refine' Mine.jw_next ?v25F ?v25N ?v25h1 ?v25h2 ?v25h3 ?v25h4 ?v25hb ?v25h5 ?v25d1 ?v25d2 ?v25d3 ?v25hn ?v25C ?v25e; (case v25F => k_asm); (case v25N => k_asm); (case v25C => assumption); (case v25e => assumption); (case v25h1 => k_extra "mine_map"); (case v25h2 => k_extra "mine_map"); (case v25h3 => k_extra "mine_map"); (case v25h4 => k_extra "mine_map"); (case v25h5 => k_extra "mine_map"); (case v25hb => first | assumption | rfl); (case v25d1 => assumption); (case v25d2 => assumption); (case v25d3 => assumption); (case v25hn => omega))
  | (refine' Mine.jw_last ?v25F ?v25N ?v25h1 ?v25h2 ?v25h3 ?v25h4 ?v25hb ?v25h5 ?v25d1 ?v25d2 ?v25d3 ?v25hn ?v25C; (case v25F => k_asm); (case v25N => k_asm); (case v25C => assumption); (case v25h1 => k_extra "mine_map"); (case v25h2 => k_extra "mine_map"); (case v25h3 => k_extra "mine_map"); (case v25h4 => k_extra "mine_map"); (case v25h5 => k_extra "mine_map"); (case v25hb => first | assumption | rfl); (case v25d1 => assumption); (case v25d2 => assumption); (case v25d3 => assumption); (case v25hn => omega))))
  k_with "UnrEnd" => (k_dflt (refine' Mine.jf_end ?v26F ?v26N ?v26h1 ?v26h2 ?v26d1 ?v26d2 ?v26d3 ?v26C ?v26lb ?v26lD ?v26l0 ?v26lI; (case v26F => k_asm); (case v26N => k_asm); (case v26C => assumption); (case v26h1 => k_extra "mine_map"); (case v26h2 => k_extra "mine_map"); (case v26d1 => assumption); (case v26d2 => assumption); (case v26d3 => assumption); (case v26lb => assumption); (case v26lD => assumption); (case v26l0 => assumption); (case v26lI => assumption)))
  k_with "subscriptTail Constant str Name str int" => (k_here; k_dflt (refine' Mine.abcd_item ?v27a ?v27b ?_ ?v27s ?v27t; (case v27a => omega); (case v27b => omega); (case v27s => with_unfolding_all rfl); (case v27t => (intro _; with_unfolding_all rfl)); k_whole))
  k_with "subscriptTail Constant str Subscript str int" => (k_here; k_dflt (refine' Mine.abcd_item ?v28a ?v28b ?_ ?v28s ?v28t; (case v28a => first | omega | k_extra "mine_lat"); (case v28b => first | omega | k_extra "mine_lat"); (case v28s => with_unfolding_all rfl); (case v28t => (intro _; with_unfolding_all rfl)); k_whole))
  k_with "mine_lat" => (first | exact Lat.lo (by assumption) _ _ (by omega) (by omega) | exact Lat.hi (by assumption) _ _ (by omega) (by omega))
  k_with "binaryOp Add str str" => (k_here; (first | with_reducible refine' Mine.cat_1 ?_ | with_reducible refine' Mine.cat_2 ?_); intro t' tk')
  k_with "subscriptTail Name Name ref int" => (k_here; k_dflt (refine' Mine.item_refsX ?v31N ?v31m ?v31a ?v31b ?_ ?v31s; (case v31N => k_asm); (case v31m => k_mem); (case v31a => omega); (case v31b => omega); (case v31s => with_unfolding_all rfl); k_whole))
  k_with "subscriptTail Name Name ref int" => (k_here; k_dflt (refine' Mine.item_row ?v32N ?v32ha ?v32m0 ?v32m1 ?v32m2 ?v32m3 ?v32a ?v32b ?_ ?v32s; (case v32N => k_asm); (case v32m0 => k_mem); (case v32m1 => k_mem); (case v32m2 => k_mem); (case v32m3 => k_mem); (case v32ha => omega); (case v32a => omega); (case v32b => omega); (case v32s => with_unfolding_all rfl); k_whole))
  k_with "subscriptTail Subscript Name Name Name ref int" => (k_here; k_dflt (refine' Mine.item_row ?v33N ?v33ha ?v33m0 ?v33m1 ?v33m2 ?v33m3 ?v33a ?v33b ?_ ?v33s; (case v33N => k_asm); (case v33m0 => k_mem); (case v33m1 => k_mem); (case v33m2 => k_mem); (case v33m3 => k_mem); (case v33ha => omega); (case v33a => omega); (case v33b => omega); (case v33s => with_unfolding_all rfl); k_whole))
  k_with "call builtin:list.append cons nil" => (k_here; k_dflt (refine' Mine.append_w ?v34F ?v34N ?v34f ?v34n ?v34x ?_; (case v34F => k_asm); (case v34N => k_asm); (case v34f => assumption); (case v34n => omega); (case v34x => assumption); k_whole); intro h' F' N')
  k_with "compareOp NotIn str str" => (k_here; refine' Mine.notin_dots ?v35a ?_; (case v35a => assumption); k_whole)
  k_with "call builtin:str.split cons nil" => (k_here; k_dflt (refine' Mine.split_dots ?v36a ?v36F ?v36N ?_; (case v36a => assumption); (case v36F => k_asm); (case v36N => k_asm); k_whole); intro D' t1' t2' h' tk' F' N' l1; (try k_lt l1))
  k_with "call builtin:str.startswith cons nil" => (k_here; refine' Mine.starts_is ?v37a ?_; (case v37a => assumption); k_whole)
  k_with "call builtin:str.endswith cons nil" => (k_here; refine' Mine.ends_is ?v38a ?_; (case v38a => assumption); k_whole)
  k_with "call builtin:str.find cons nil" => (k_here; refine' Mine.find_is ?v39a ?_; (case v39a => assumption); k_whole)
  k_with "truthy str" => (k_here; refine' Mine.truthy_len ?v40a ?v40b ?_; (case v40a => assumption); (case v40b => decide); k_whole)
  k_with "call builtin:len cons nil" => (k_here; refine' Mine.len_is ?v41a ?v41b ?_; (case v41a => first | assumption | exact (by decide : Str.empty.length = 0)); (case v41b => decide); k_whole)
  k_with "exec For Name Name cons nil" => (k_here; k_dflt (refine' For_turns ?v42F ?_; (case v42F => k_asm); k_whole))
  k_with "pyIter ref" => (k_here; k_dflt (refine' iter_listTurns ?v43a ?v43F ?v43N ?v43m ?v43c ?v43d ?_; (case v43a => rfl); (case v43F => k_asm); (case v43N => k_asm); (case v43m => k_mem); (case v43c => rfl); (case v43d => with_unfolding_all rfl); k_whole); intro i' l1; (try k_lt l1))
  k_with "UnrEndW" => (k_here; k_dflt (refine' Mine.endW ?v44F ?v44N ?v44off ⟨?v44sub, ?_⟩; (case v44F => k_asm); (case v44N => k_asm); (case v44off => assumption); (case v44sub => k_subL); k_whole))
  trivial
theorem lines11 : True := by
  k_with "compareOp Eq str str" => (k_here; first | (with_reducible refine Mine.eq_ltr ?_) | (refine' Mine.eq_is ?we9 ?_; (case we9 => assumption)))
  k_with "subscriptTail Name Slice str ref" => (k_here; first
    | (refine' Mine.wslice_from (s := ⟨_, _, _, _, _⟩) ?wk9 ?wp9 ?wn9 ?wF9 ?wN9 ?_; (case wk9 => rfl); (case wp9 => omega); (case wn9 => omega); (case wF9 => k_asm); (case wN9 => k_asm); intro h' t' k' F' N')
    | (refine' Mine.wslice_to (s := ⟨_, _, _, _, _⟩) ?wp9 ?wn9 ?wF9 ?wN9 ?_; (case wp9 => omega); (case wn9 => omega); (case wF9 => k_asm); (case wN9 => k_asm); intro h' t' k' F' N'))
  k_with "subscriptTail Name Name str int" => (k_here; refine' Mine.witem ?wp9 ?wn9 ?wk9 ?_; (case wk9 => rfl); (case wp9 => omega); (case wn9 => omega))
  k_with "subscriptTail Name BinOp str int" => (k_here; refine' Mine.witem_neg ?wp9 ?wn9 ?wk9 ?_; (case wk9 => rfl); (case wp9 => omega); (case wn9 => omega))
  k_with "truthy str" => (k_here; refine' Mine.wtruthy ?wn9 ?wp9 ?_; (case wp9 => omega); (case wn9 => omega))
  k_with "call builtin:len cons nil" => (k_here; refine' Mine.wlen ?wn9 ?_; (case wn9 => omega))
  k_with "eval BoolOp Or cons" => (k_here; refine' Mine.or_none ?_; k_dflt (refine' nameX_L ?wF9 ?wv9 ?_ ?wa9 ?wb9; (case wa9 => rfl); (case wb9 => rfl); (case wF9 => k_asm); (case wv9 => k_extra "mine_map")); refine ⟨_, _, rfl, ?_⟩)
  k_with "execs cons AugAssign nil" => ((with_reducible refine wpAny_execs_cons ?_); (try dsimp only))
  k_with "call type:list cons nil" => (k_here; k_dflt (refine' Mine.row_new ?wn9 ?wb9 ?wh9 ?wF9 ?wN9 ?wr9 ?_; (case wn9 => omega); (case wb9 => rfl); (case wh9 => exact rfl); (case wF9 => k_asm); (case wN9 => k_asm); (case wr9 => assumption); k_whole); intro D' T' ep' h' tk' F' N' l1)
  k_with "pyIter ref" => (k_here; k_dflt (refine' iter_rangeUnr ?ka ?kb ?kc ?kd ?ke ?kf ?_; (case ka => exact rfl); (case kb => assumption); (case kc => exact Mine.range_small (by omega)); (case kd => exact Mine.range_size (by omega)); (case ke => k_asm); (case kf => k_asm); k_whole); intro i' l2; (try k_lt l2))
  trivial
/-- what holds while the heads are told -/
noncomputable def JP (f g : Nat → Nat) (pp : Nat) (led : List (Addr × Obj)) (n : Nat) (m : Str → Option Value) (news : List (Addr × Obj)) : Prop :=
  ∃ (p : Nat) (ta tb tp tc : Tok), m "a" = some (.str (word 3 f) ta) ∧ m "b" = some (.str (word 3 g) tb) ∧ m "pre" = some (.int (p : Int) tp) ∧ m "max_cost" = some (.int 4 tc) ∧ p + n = pp ∧ news = led
/-- what holds while the tails are told -/
noncomputable def JS (n1 : Nat) (f g : Nat → Nat) (ss : Nat) (led : List (Addr × Obj)) (n : Nat) (m : Str → Option Value) (news : List (Addr × Obj)) : Prop :=
  ∃ (q : Nat) (ta tb tp tc : Tok), m "a" = some (.str (word n1 f) ta) ∧ m "b" = some (.str (word n1 g) tb) ∧ m "post" = some (.int (-(q : Int)) tp) ∧ m "max_cost" = some (.int 4 tc) ∧ q + n = ss ∧ news = led
/-- how long the like heads and the like tails are -/
structure LevF (f g : Nat → Nat) (pp ss : Nat) : Prop where
  pre : ∀ q, q < pp → f q = g q
  out : f pp ≠ g pp
  suf : ∀ q, q < ss → f (pp + (3 - pp - 1 - q)) = g (pp + (3 - pp - 1 - q))
  sout : f (pp + (3 - pp - 1 - ss)) ≠ g (pp + (3 - pp - 1 - ss))
theorem LevF.lt1 {f g : Nat → Nat} {pp ss p n : Nat} (H : LevF f g pp ss) (hn : p + n = pp) (a : f p = g p) : p < pp := Nat.lt_of_le_of_ne (by omega) fun e => H.out (e ▸ a)
theorem LevF.eq1 {f g : Nat → Nat} {pp ss p n : Nat} (H : LevF f g pp ss) (hn : p + n = pp) (a : ¬ f p = g p) : p = pp := Nat.le_antisymm (by omega) (Nat.not_lt.mp fun e => a (H.pre _ e))
theorem LevF.lt2 {f g : Nat → Nat} {pp ss q n : Nat} (H : LevF f g pp ss) (hn : q + n = ss) (a : f (pp + (3 - pp - 1 - q)) = g (pp + (3 - pp - 1 - q))) : q < ss := Nat.lt_of_le_of_ne (by omega) fun e => H.sout (e ▸ a)
theorem LevF.eq2 {f g : Nat → Nat} {pp ss q n : Nat} (H : LevF f g pp ss) (hn : q + n = ss) (a : ¬ f (pp + (3 - pp - 1 - q)) = g (pp + (3 - pp - 1 - q))) : q = ss := Nat.le_antisymm (by omega) (Nat.not_lt.mp fun e => a (H.suf _ e))
theorem lev_ok (w : World) {p : Program} {loose : List Str} {mean : ExcName → Option Value} {mg mb : Str → Option Value} {news : List (Addr × Obj)} {f g : Nat → Nat} {pp ss : Nat} {t u z : Tok} (hne : (word 3 f == word 3 g) = false) (hss : pp + ss ≤ 1) (H : LevF f g pp ss) (hf : ∀ i, i < 3 → f i < 4) (hg : ∀ i, i < 3 → g i < 4) (hlev : LevR (3 - pp - ss) (fun q => f (pp + q)) (fun q => g (pp + q))) :
   Tells w p loose mean mg mb 91 [.str (word 3 f) t, .str (word 3 g) u, .int 4 z] news 2 16 (intPost 4 news) := by
  intro dp un gd cn cs a ccd cl outer A₀ bs h₀ L m s Q E B F X N T hk hd hu hret
  refine wpAny_call ?_
  k_dflt cell_enter
  iterate 15 (first | (k_unfold; (try dsimp only)) | walk1 | (dsimp only; walk1))
  refine' While_inv2 (JP f g pp news) (n₀ := pp) ?F ?N ⟨0, _, _, _, _, ?ja, ?jb, ?jc, ?jd, by omega, rfl⟩ ?turn ?hE
  case F => k_asm
  case N => k_asm
  case hE => passes_own
  case ja => k_extra "mine_map"
  case jb => k_extra "mine_map"
  case jc => k_extra "mine_map"
  case jd => k_extra "mine_map"
  rintro n m₁ news₁ h₁ tk₁ F1 N1 ⟨p₁, ta, tb, tp, tc, e1, e2, e3, e4, hn, rfl⟩
  clear F N
  have hn1 : p₁ ≤ 1 := by omega
  iterate 37 (first | (k_unfold; (try dsimp only)) | walk1 | (dsimp only; walk1))
  · rename_i a9
    have hlt : p₁ < pp := H.lt1 hn a9
    clear a9
    iterate 9 (first | (k_unfold; (try dsimp only)) | walk1 | (dsimp only; walk1))
    refine' ⟨_, _, _, _, n - 1, rfl, ?fF, ?fN, by omega, p₁ + 1, ta, tb, _, tc, ?ka, ?kb, ?kc, ?kd, by omega, rfl⟩
    case fF => k_asm
    case fN => k_asm
    case ka => k_extra "mine_map"
    case kb => k_extra "mine_map"
    case kc => k_extra "mine_map"
    case kd => k_extra "mine_map"
  rename_i a9
  have hpp : p₁ = pp := H.eq1 hn a9
  have H' : LevF f g p₁ ss := by rw [hpp]; exact H
  have hss' : p₁ + ss ≤ 1 := by omega
  clear hn a9 H hss
  iterate 28 (first | (k_unfold; (try dsimp only)) | walk1 | (dsimp only; walk1))
  refine' While_inv2 (JS (3 - p₁) (fun q => f (p₁ + q)) (fun q => g (p₁ + q)) ss news₁) (n₀ := ss) ?sF ?sN ⟨0, _, _, _, _, ?sa, ?sb, ?sc, ?sd, by omega, rfl⟩ ?turn2 ?shE
  case sF => k_asm
  case sN => k_asm
  case shE => passes_own
  case sa => k_extra "mine_map"
  case sb => k_extra "mine_map"
  case sc => k_extra "mine_map"
  case sd => k_extra "mine_map"
  clear e1 e2 e3 e4
  rintro n m₂ news₂ h₂ tk₂ F2 N2 ⟨q₁, ta2, tb2, tp2, tc2, e1, e2, e3, e4, hn, rfl⟩
  iterate 43 (first | (k_unfold; (try dsimp only)) | walk1 | (dsimp only; walk1))
  · rename_i a9
    have hlt : q₁ < ss := H'.lt2 hn a9
    clear a9
    iterate 9 (first | (k_unfold; (try dsimp only)) | walk1 | (dsimp only; walk1))
    refine' ⟨_, _, _, _, n - 1, rfl, ?gF, ?gN, by omega, q₁ + 1, ta2, tb2, _, tc2, ?la, ?lb, ?lc, ?ld, by omega, rfl⟩
    case gF => k_asm
    case gN => k_asm
    case la => k_extra "mine_map"
    case lb => k_extra "mine_map"
    case lc => rw [show -((q₁ + 1 : Nat) : Int) = -(q₁ : Int) - 1 by omega]; k_extra "mine_map"
    case ld => k_extra "mine_map"
  rename_i a9
  have hqq : q₁ = ss := H'.eq2 hn a9
  have hs1 : p₁ + q₁ ≤ 1 := by omega
  have hlev' : LevR (3 - p₁ - q₁) (fun q => f (p₁ + q)) (fun q => g (p₁ + q)) := by rw [hqq, hpp]; exact hlev
  clear hn a9 H' hss' hlev hqq hpp
  iterate 153 (first | (k_unfold; (try dsimp only)) | walk1 | (dsimp only; walk1))
  have hn3 : 3 - p₁ - q₁ ≤ 3 := by omega
  iterate 23 (first | (k_unfold; (try dsimp only)) | walk1 | (dsimp only; walk1))
  have l9 := (by assumption : AllLt i' ((D', nsO) :: news₂))
  refine range_inv (JLo D' (3 - p₁ - q₁) ep' (fun q => f (p₁ + q)) (fun q => g (p₁ + q)) news₂) (lv_turn w (by k_asm) (by k_asm) (by k_asm) hd hu _ _ rfl rfl hn3 (fun i hi => hf _ (by omega)) (fun i hi => hg _ (by omega)) hlev' ?lD (addr_lt l9) (by passes_own)) ?done (3 - p₁ - q₁) 0 _ _ (by omega) ⟨T', _, _, _, tc2, by k_extra "mine_map", by k_extra "mine_map", by k_extra "mine_map", by k_extra "mine_map", by k_extra "mine_map", rfl⟩
  case lD =>
    intro y hy
    obtain ⟨q, hq, e⟩ := List.mem_map.mp hy
    exact e ▸ l1 q hq
  case done =>
    rintro m₃ news₃ ⟨T3, ta3, tb3, tr3, tc3, b1, b2, b3, b4, b5, rfl⟩ h3 tk3 F3 N3
    have hlast := hlev'.last
    k_steps
    rw [hlast]
    exact hret _ _ _ ⟨by k_asm, _, rfl, newsTail (by k_asm)⟩
end
section
open PySem PySem.W PyProof.Rows
noncomputable def faFor1 : List Stmt := bodyOf (nth (bodyOf (topAt 24)) 1)
noncomputable def faFor2 : List Stmt := bodyOf (nth (bodyOf (topAt 24)) 2)
noncomputable def faSc : Scope := scopeOf (topAt 24)
noncomputable abbrev faEnv (sc : Scope) (L : Addr) : Env := envOfC (Str.ofString "_law_far") sc L 115 (.ref 114)
end
section
open PySem PySem.Spec PySem.Calls PySem.W PyProof.Rows PyProof.Rows.LCg
/-- a list of three texts -/
noncomputable def pl3 (f : Nat → Str) (T : Nat → Tok) (ep : Nat) : Obj := { cls := .type "list", data := .seq #[.str (f 0) (T 0), .str (f 1) (T 1), .str (f 2) (T 2)] ep }
/-- the list of sixteen words of three letters -/
noncomputable def wl16 (g : Nat → Nat → Nat) (T : Nat → Tok) : Obj := { cls := .type "list", data := .seq ((List.range 16).map fun q => Value.str (word 3 (g q)) (T q)).toArray 16 }
theorem lt3 {a : Nat} (h : a < 3) : a = 0 ∨ a = 1 ∨ a = 2 := by omega
section
variable {prog : Program} {w : World} {A : Around} {E : Value → Shared → Prop} {s : Shared} {h₀ : Heap} {L : Addr} {m : Str → Option Value} {env : Env} {news : List (Addr × Obj)} {f : Nat → Str} {T : Nat → Tok} {ep : Nat} {g : Nat → Nat → Nat}
theorem pl_set {a : Nat} {y : Str} {t : Tok} (ha : a < 3) : Obj.mapSeq (·.setIfInBounds a (.str y t)) (pl3 f T ep) = pl3 (fun q => if q = a then y else f q) (fun q => if q = a then t else T q) ep := by
  rcases lt3 ha with rfl | rfl | rfl <;> simp [pl3, Obj.mapSeq]
theorem store_pl {D : Addr} {rest : List (Addr × Obj)} {a : Nat} {k : Int} {u t : Tok} {y : Str} {Q : Unit → Shared → Prop} (F : Fr h₀ L s.heap m) (N : News h₀ L s.heap ((D, pl3 f T ep) :: rest)) (far : ∀ q ∈ rest, @LT.lt Nat _ q.1 D) (hk : k = a) (ha : a < 3)
    (h : ∀ h', Fr h₀ L h' m → News h₀ L h' ((D, pl3 (fun q => if q = a then y else f q) (fun q => if q = a then t else T q) ep) :: rest) → Q () { s with heap := h' }) :
    wpAny (model prog w) A (setItem (.ref D) (.int k u) (.str y t)) Q E s := by
  have z := N (D, pl3 f T ep) (by simp)
  subst hk
  have z1 : s.heap.get? D = some (listOf #[.str (f 0) (T 0), .str (f 1) (T 1), .str (f 2) (T 2)] ep) := z.1
  refine ki_setAt z1 (Int.natCast_nonneg a) (by omega) (by show (a : Int) < 3; omega) ?_
  have hs : Heap.SameBut D s.heap (s.heap.update D (Obj.mapSeq (·.setIfInBounds a (.str y t)))) := Heap.SameBut.update ..
  have ge := Heap.get?_update_self (Obj.mapSeq (·.setIfInBounds a (.str y t))) z.1 (by rw [pl_set ha]; rfl)
  rw [pl_set ha] at ge
  refine h _ (F.change hs z.2.1 z.2.2) fun p hp => ?_
  rcases List.mem_cons.mp hp with rfl | hp
  · exact ⟨ge, z.2⟩
  · exact ⟨hs.extBut _ _ (Nat.ne_of_lt (far p hp)) (N p (by simp [hp])).1, (N p (by simp [hp])).2⟩
theorem store_pl0 {D : Addr} {rest : List (Addr × Obj)} {a : Nat} {k : Int} {u t t0 t1 t2 : Tok} {x y : Str} {Q : Unit → Shared → Prop} (F : Fr h₀ L s.heap m) (N : News h₀ L s.heap ((D, listOf #[.str x t0, .str x t1, .str x t2] ep) :: rest)) (far : ∀ q ∈ rest, @LT.lt Nat _ q.1 D) (hk : k = a) (ha : a < 3)
    (h : ∀ h', Fr h₀ L h' m → News h₀ L h' ((D, pl3 (fun q => if q = a then y else x) (fun q => if q = a then t else mk4 t0 t1 t2 0 q) ep) :: rest) → Q () { s with heap := h' }) :
    wpAny (model prog w) A (setItem (.ref D) (.int k u) (.str y t)) Q E s :=
  store_pl (f := fun _ => x) (T := mk4 t0 t1 t2 0) F N far hk ha h
/-- three texts that join to p -/
structure Joins (f : Nat → Str) (p : Str) : Prop where
  eq : Txt.join Str.empty [f 0, f 1, f 2] = p
  short : (f 0).length + (f 1).length + (f 2).length ≤ 1000
theorem join_pl {l : Addr} {p : Str} {t : Tok} {Q : Value → Shared → Prop} (N : News h₀ L s.heap news) (hm : (l, pl3 f T ep) ∈ news) (hj : Joins f p) (h : ∀ t' k, Q (.str p t') { s with toks := k }) :
    wpAny (model prog w) A (call (.builtin "str.join") [.str Str.empty t, .ref l]) Q E s := by
  have hl : s.heap.IsList l #[.str (f 0) (T 0), .str (f 1) (T 1), .str (f 2) (T 2)] := ⟨_, (N _ hm).1, rfl, _, rfl⟩
  refine join_listW (ys := [f 0, f 1, f 2]) hl (StrsAre.cons _ _ (StrsAre.cons _ _ (StrsAre.cons _ _ StrsAre.nil))) (by decide) ?_ (fun t' k => by rw [hj.eq]; exact h t' k)
  have := hj.short
  simp only [List.map_cons, List.map_nil, List.sum_cons, List.sum_nil, List.length_cons, List.length_nil]
  omega
theorem wl_at {g : Nat → Nat → Nat} {T : Nat → Tok} {i : Nat} {v : Value} (hi : i < 16) (h : (((List.range 16).map fun q => Value.str (word 3 (g q)) (T q)).toArray)[i]? = some v) : v = .str (word 3 (g i)) (T i) := by
  simp [hi] at h
  exact h.symm
theorem HitPost.dec {elt : Expr} {ce : Env} {E' : Value → Shared → Prop} {own : List (Addr × Obj)} {D C : Addr} {oD : Obj} {here : Prop} [Decidable here] {R : Value → Prop} {s' : Shared} (yes : here → wpAny (model prog w) A (eval elt ce) (LEnd h₀ L m news s own D C oD fun y new => new = [] ∧ R y) E' s') (no : ¬ here → LEnd h₀ L m news s own D C oD (fun _ new => new = []) .none s') :
    HitPost prog w A h₀ L m news elt ce E' s own D C oD here R (decide here) s' := by
  by_cases hh : here
  · rw [decide_eq_true hh]; exact ⟨hh, yes hh⟩
  · rw [decide_eq_false hh]; exact ⟨hh, no hh⟩
theorem ne_ltr {x y : Nat} {t u : Tok} {Q : Value → Shared → Prop} (e : x = y) (h : Q (.bool false) s) : wpAny (model prog w) A (compareOp .NotEq (.str (ltr x) t) (.str (ltr y) u)) Q E s := by
  subst e
  refine PyProof.Rows.ne_str ?_
  simpa using h
theorem append_far {I p1 p2 p3 p4 K c W : Addr} {oI q1 q2 q3 q4 oc oW : Obj} {vs : List Value} {base news : List (Addr × Obj)} {x : Value} {Q : Value → Shared → Prop} (F : Fr h₀ L s.heap m) (N : News h₀ L s.heap news)
    (h0 : (K, lst vs) ∈ news) (h1 : (I, oI) ∈ news) (h2 : (p1, q1) ∈ news) (h3 : (p2, q2) ∈ news) (h4 : (p3, q3) ∈ news) (h5 : (p4, q4) ∈ news) (h6 : (c, oc) ∈ news) (h7 : (W, oW) ∈ news) (hb : ∀ p ∈ base, p ∈ news)
    (far : ∀ y ∈ I :: p1 :: p2 :: p3 :: p4 :: c :: W :: base.map (·.1), y ≠ K) (hl : vs.length ≤ 2)
    (h : ∀ h', Fr h₀ L h' m → News h₀ L h' ((I, oI) :: (p1, q1) :: (p2, q2) :: (p3, q3) :: (p4, q4) :: (K, lst (vs ++ [x])) :: (c, oc) :: (W, oW) :: base) → Q .none { s with heap := h' }) :
    wpAny (model prog w) A (call (.builtin "list.append") [.ref K, x]) Q E s := by
  have z := N (K, lst vs) h0
  refine append_at (D := K) (its := vs.toArray) (n := vs.length) z.1 (fun h' hs hW => h h' (F.change hs z.2.1 z.2.2) ?_) (by simp; exact Nat.le_trans hl (by decide))
  rw [lst_snoc] at hW
  have keep : ∀ q ∈ news, q.1 ≠ K → h'.get? q.1 = some q.2 ∧ _ := fun q hq hne => ⟨hs.extBut _ _ hne (N q hq).1, (N q hq).2⟩
  have all : ∀ {a : Addr × Obj} {l : List (Addr × Obj)}, (h'.get? a.1 = some a.2 ∧ a.1 ≠ L ∧ h₀.get? a.1 = none) → News h₀ L h' l → News h₀ L h' (a :: l) := fun x r => List.forall_mem_cons.mpr ⟨x, r⟩
  exact all (keep _ h1 (far _ (.head _))) (all (keep _ h2 (far _ (.tail _ (.head _)))) (all (keep _ h3 (far _ (.tail _ (.tail _ (.head _))))) (all (keep _ h4 (far _ (.tail _ (.tail _ (.tail _ (.head _)))))) (all (keep _ h5 (far _ (.tail _ (.tail _ (.tail _ (.tail _ (.head _))))))) (all ⟨hW, z.2⟩ (all (keep _ h6 (far _ (.tail _ (.tail _ (.tail _ (.tail _ (.tail _ (.head _)))))))) (all (keep _ h7 (far _ (.tail _ (.tail _ (.tail _ (.tail _ (.tail _ (.tail _ (.head _))))))))) fun p hp => keep p (hb p hp) (far _ (.tail _ (.tail _ (.tail _ (.tail _ (.tail _ (.tail _ (.tail _ (List.mem_map_of_mem hp))))))))))))))))
theorem SrcM.words {R : List (Addr × Obj) → Shared → (Nat → Value → Prop) → Nat → Prop} {ax : Addr} {news : List (Addr × Obj)} {s₁ : Shared}
    (hh : A.handled = none) (F : Fr h₀ L s₁.heap m) (N : News h₀ L s₁.heap news) (hm : (ax, wl16 g T) ∈ news)
    (h : ∀ g', R news { s₁ with heap := g' } (fun i v => (((List.range 16).map fun q => Value.str (word 3 (g q)) (T q)).toArray)[i]? = some v) 16) : SrcM A h₀ L m R (.ref ax) s₁ :=
  SrcM.ledger 16 hh F N hm (by simp) (by decide) h
end
theorem allLt_all {d : Addr} {l : List (Addr × Obj)} (h : AllLt d l) : ∀ q ∈ l, @LT.lt Nat _ q.1 d := fun q hq => addr_lt h q.1 (List.mem_map_of_mem hq)
end
section
open PySem PySem.Spec PySem.Calls PySem.W PyProof.Rows PyProof.Rows.LCg
theorem walkT13 : True := by
  k_with_none
  k_with "enterC" => (k_dflt (refine' code_defC ?wek1 ?wek2 ?wek3 ?wek4 ?wek5 ?wekA ?wekF ?wekK ?wek6 ?wek7 ?wek8 ?wek9 ?wekB ?wekD ?_ ?wec2 ?wec3 ?wec4; (case wekA => exact rfl); (case wekF => exact rfl); (case wekK => assumption); (case wek1 => k_asm); (case wek2 => k_asm); (case wek3 => k_asm); (case wek4 => k_asm); (case wek5 => k_asm); (case wek6 => k_is); (case wek7 => k_is); (case wek8 => ktr_room); (case wek9 => exact BindsTo.of_eq rfl); (case wekB => exact rfl); (case wekD => decide +kernel); (case wec2 => exact rfl); (case wec3 => exact rfl); (case wec4 => exact rfl); k_whole; intro g' L' h' tk' cells' FG' F' N' Y' B' X' T' l1; (try k_lt l1); k_cells Y'; (try simp only [List.cons_append, List.nil_append] at N'); (try dsimp only); (try k_lift B'); (try k_fold)))
  k_with "exec Assign cons ListComp" => (k_here; k_dflt (first
  | refine Mine.Assign_C (_F₀ := by k_asm) (by rfl) (by with_unfolding_all rfl) (by with_unfolding_all rfl) (fun _ => rfl) (fun _ => rfl) (by rfl) (by rfl) (by decide) (by rfl) (by rfl) ?_
  | refine Mine.Assign_L (ct := none) (_F₀ := by k_asm) (by rfl) (by with_unfolding_all rfl) (by with_unfolding_all rfl) (by decide) (by rfl) (by decide) (by rfl) (by rfl) (by rfl) ?_
  | refine Mine.Assign_L (ct := some _) (_F₀ := by k_asm) (by rfl) (by with_unfolding_all rfl) (by with_unfolding_all rfl) (by decide) (by rfl) (by decide) (by rfl) (by rfl) (by rfl) ?_))
  k_with "eval ListComp BinOp cons" => (k_here; k_dflt (refine Mine.ListComp_L (ct := none) (_F₀ := by k_asm) (by with_unfolding_all rfl) (by decide) (by rfl) (by decide) (by rfl) ?_))
  k_with "eval ListComp Call cons" => (k_here; k_dflt (refine Mine.ListComp_L (ct := none) (_F₀ := by k_asm) (by with_unfolding_all rfl) (by decide) (by rfl) (by decide) (by rfl) ?_))
  k_with "eval ListComp Subscript cons" => (k_here; k_dflt (refine Mine.ListComp_L (ct := none) (_F₀ := by k_asm) (by with_unfolding_all rfl) (by decide) (by rfl) (by decide) (by rfl) ?_))
  k_with "eval ListComp Name cons" => (k_here; k_dflt (refine Mine.ListComp_L (ct := none) (_F₀ := by k_asm) (by with_unfolding_all rfl) (by decide) (by rfl) (by decide) (by rfl) ?_))
  k_with "eval ListComp Name cons" => (k_here; k_dflt (refine Mine.ListComp_L (ct := some _) (_F₀ := by k_asm) (by with_unfolding_all rfl) (by decide) (by rfl) (by decide) (by rfl) ?_))
  k_with "eval ListComp ListComp cons" => (k_here; k_dflt (refine Mine.ListComp_C (_F₀ := by k_asm) (by with_unfolding_all rfl) (fun _ => rfl) (fun _ => rfl) (by rfl) (by rfl) (by decide) ?_))
  k_with "SrcM" => (k_here; k_dflt (first
  | (refine Mine.SrcM.range 4 (by rfl) (by k_asm) (by k_asm) (by assumption) (by first | decide | rfl) (by first | rfl | decide) (by exact Nat.le_of_ble_eq_true rfl) ?_; intro g'; (try dsimp only))
  | (refine Mine.SrcM.range 3 (by rfl) (by k_asm) (by k_asm) (by assumption) (by first | decide | rfl) (by first | rfl | decide) (by exact Nat.le_of_ble_eq_true rfl) ?_; intro g'; (try dsimp only))
  | (refine Mine.SrcM.ledger 3 (by rfl) (by k_asm) (by k_asm) (by k_mem) (by rfl) (by exact Nat.le_of_ble_eq_true rfl) ?_; intro g'; (try dsimp only))))
  k_with "LRest" => (with_unfolding_all first
  | (refine Mine.LRest.turn ?_; intro v' I' oI' C' oC' D' m' h' tk' E' hv' hC' hx' F' N' lie'; (first | lcg_open hv' | (obtain ⟨t9', hv9'⟩ := hv'; subst hv9')); (try simp only [List.nil_append, List.cons_append] at N'))
  | (refine Mine.LRest.test ?_; intro v' I' oI' C' oC' D' m' h' tk' E' hv' hC' hx' F' N' lie'; (first | lcg_open hv' | (obtain ⟨t9', hv9'⟩ := hv'; subst hv9')); (try simp only [List.nil_append, List.cons_append] at N'))
  | refine Mine.LRest.zero ?_)
  k_with "CRest" => (with_unfolding_all first
  | (refine Mine.CRest.turn ?_; intro v' I' oI' C' X' oX' D' h' tk' E' hv' hdX' F' N' lie'; (first | lcg_open hv' | (obtain ⟨t9', hv9'⟩ := hv'; subst hv9')); (try simp only [List.nil_append, List.cons_append] at N'))
  | refine Mine.CRest.zero ?_)
  k_with "LEnd" => (k_dflt (first
  | refine Mine.LEnd.push0 (by k_asm) (by k_asm) (by k_asm) ?_
  | refine Mine.LEnd.push1 (by k_asm) (by k_asm) (by k_asm) (by omega) ?_))
  k_with "FinV" => ((unfold Mine.FinV); intro D' h' tk' F' N' nlt' abv'; (k_lt nlt'); (try simp only [List.forall_mem_cons, List.forall_mem_nil, and_true] at abv'); (try simp only [List.nil_append, List.cons_append] at N'); (try dsimp only))
  k_with "FinB" => ((unfold Mine.FinB); intro D' h' tk' F' N' nlt' abv'; (k_lt nlt'); (try simp only [List.forall_mem_cons, List.forall_mem_nil, and_true] at abv'); (try simp only [List.nil_append, List.cons_append] at N'); (try dsimp only))
  k_with "mine_map" => ((repeat (refine (if_neg (by decide)).trans ?_)); first | exact if_pos rfl | assumption | exact rfl)
  k_with "eval Name" => (k_here; k_dflt (refine' nameX_L ?v15F ?v15v ?_ ?v15a ?v15b; (case v15a => rfl); (case v15b => rfl); (case v15F => k_asm); (case v15v => k_extra "mine_map"); k_whole))
  k_with "subscriptTail Name BinOp ref int" => (k_here; k_dflt (refine' Mine.item_refs ?v16N ?v16m ?v16a ?v16b ?_ ?v16s; (case v16N => k_asm); (case v16m => k_mem); (case v16a => omega); (case v16b => omega); (case v16s => with_unfolding_all rfl); k_whole); intro i' hi')
  k_with "binaryOp Mod int int" => (k_here; (with_reducible refine' Mine.mod4 ?_); intro x' hx0' hx4')
  k_with "subscriptTail Name Name ref int" => (k_here; k_dflt (refine' Mine.item_row ?v18N ?v18ha ?v18m0 ?v18m1 ?v18m2 ?v18m3 ?v18a ?v18b ?_ ?v18s; (case v18N => k_asm); (case v18m0 => k_mem); (case v18m1 => k_mem); (case v18m2 => k_mem); (case v18m3 => k_mem); (case v18ha => omega); (case v18a => omega); (case v18b => omega); (case v18s => with_unfolding_all rfl); k_whole))
  k_with "setItem ref int" => (k_here; k_dflt (refine' Mine.store_row ?v19F ?v19N ?v19f ?v19ha ?v19a ?v19b ?_; (case v19F => k_asm); (case v19N => k_asm); (case v19f => assumption); (case v19ha => omega); (case v19a => omega); (case v19b => omega); k_whole); intro h' F' N')
  k_with "loadName" => (k_here; k_dflt (refine' wpAny_loadName_local ?v20a ?v20b ?v20c ?v20v ?_; (case v20a => rfl); (case v20b => rfl); (case v20c => exact Fr.ns (by k_asm)); (case v20v => k_extra "mine_map"); k_whole))
  k_with "exec While" => (k_here; k_dflt (refine' Mine.while_sq ?v21a ?v21b ?v21F ?v21N ?v21h1 ?v21h2 ?v21h3 ?v21h4 ?v21h5 ?v21d1 ?v21d2 ?v21d3 ?_ ?v21hE; (case v21hE => first | assumption | passes_own); (case v21F => k_asm); (case v21N => k_asm); (case v21h1 => k_extra "mine_map"); (case v21h2 => k_extra "mine_map"); (case v21h3 => k_extra "mine_map"); (case v21h4 => k_extra "mine_map"); (case v21h5 => k_extra "mine_map"); (case v21d1 => assumption); (case v21d2 => assumption); (case v21d3 => assumption); (case v21a => omega); (case v21b => omega); k_whole))
  k_with "LRest" => (k_dflt (refine' Mine.LRest.one ?v22o ?v22turn ?v22fin; (case v22o => assumption)); (case' v22fin => (intro y' hy'; (try (obtain ⟨t8', hy8'⟩ := hy'; subst hy8')))); (case' v22turn => (intro i' v' I' oI' C' oC' D' m' h' tk' E' ys' hi' hv' hC' hx' F' N' lie'; (first | (obtain ⟨t9', hv9'⟩ := hv'; subst hv9') | skip))))
  k_with "mine_hit" => (first | (refine' Mine.hit_yes ?v23hit ?v23hi ?v23h0 ?v23a ?v23b; (case v23hit => assumption); (case v23hi => assumption); (case v23h0 => assumption); (case v23a => assumption); (case v23b => assumption)) | (refine' Mine.hit_no1 ?v23hit ?v23hi ?v23a; (case v23hit => assumption); (case v23hi => assumption); (case v23a => assumption)) | (refine' Mine.hit_no2 ?v23hit ?v23hi ?v23a; (case v23hit => assumption); (case v23hi => assumption); (case v23a => assumption)))
  k_with "HitPost" => (k_dflt (first | (refine Mine.HitPost.yes' ?v24hh ?_; (case v24hh => k_extra "mine_hit"); intro hh'; (try subst hh')) | (refine Mine.HitPost.no ?v24hh ?_; (case v24hh => k_extra "mine_hit"))))
  k_with "WhileStep2" => (k_dflt (first
  | (refine' Mine.jw_next ?v25F ?v25N ?v25h1 ?v25h2 ?v25h3 ?v25h4 ?v25hb ?v25h5 ?v25d1 ?v25d2 ?v25d3 ?v25hn ?v25C ?v25e; (case v25F => k_asm); (case v25N => k_asm); (case v25C => assumption); (case v25e => assumption); (case v25h1 => k_extra "mine_map"); (case v25h2 => k_extra "mine_map"); (case v25h3 => k_extra "mine_map"); (case v25h4 => k_extra "mine_map"); (case v25h5 => k_extra "mine_map"); (case v25hb => first | assumption | rfl); (case v25d1 => assumption); (case v25d2 => assumption); (case v25d3 => assumption); (case v25hn => omega))
  | (refine' Mine.jw_last ?v25F ?v25N ?v25h1 ?v25h2 ?v25h3 ?v25h4 ?v25hb ?v25h5 ?v25d1 ?v25d2 ?v25d3 ?v25hn ?v25C; (case v25F => k_asm); (case v25N => k_asm); (case v25C => assumption); (case v25h1 => k_extra "mine_map"); (case v25h2 => k_extra "mine_map"); (case v25h3 => k_extra "mine_map"); (case v25h4 => k_extra "mine_map"); (case v25h5 => k_extra "mine_map"); (case v25hb => first | assumption | rfl); (case v25d1 => assumption); (case v25d2 => assumption); (case v25d3 => assumption); (case v25hn => omega))))
  k_with "UnrEnd" => (k_dflt (refine' Mine.jf_end ?v26F ?v26N ?v26h1 ?v26h2 ?v26d1 ?v26d2 ?v26d3 ?v26C ?v26lb ?v26lD ?v26l0 ?v26lI; (case v26F => k_asm); (case v26N => k_asm); (case v26C => assumption); (case v26h1 => k_extra "mine_map"); (case v26h2 => k_extra "mine_map"); (case v26d1 => assumption); (case v26d2 => assumption); (case v26d3 => assumption); (case v26lb => assumption); (case v26lD => assumption); (case v26l0 => assumption); (case v26lI => assumption)))
  k_with "subscriptTail Constant str Name str int" => (k_here; k_dflt (refine' Mine.abcd_item ?v27a ?v27b ?_ ?v27s ?v27t; (case v27a => omega); (case v27b => omega); (case v27s => with_unfolding_all rfl); (case v27t => (intro _; with_unfolding_all rfl)); k_whole))
  k_with "subscriptTail Constant str Subscript str int" => (k_here; k_dflt (refine' Mine.abcd_item ?v28a ?v28b ?_ ?v28s ?v28t; (case v28a => first | omega | k_extra "mine_lat"); (case v28b => first | omega | k_extra "mine_lat"); (case v28s => with_unfolding_all rfl); (case v28t => (intro _; with_unfolding_all rfl)); k_whole))
  k_with "mine_lat" => (first | exact Lat.lo (by assumption) _ _ (by omega) (by omega) | exact Lat.hi (by assumption) _ _ (by omega) (by omega))
  k_with "binaryOp Add str str" => (k_here; (first | with_reducible refine' Mine.cat_1 ?_ | with_reducible refine' Mine.cat_2 ?_); intro t' tk')
  k_with "subscriptTail Name Name ref int" => (k_here; k_dflt (refine' Mine.item_refsX ?v31N ?v31m ?v31a ?v31b ?_ ?v31s; (case v31N => k_asm); (case v31m => k_mem); (case v31a => omega); (case v31b => omega); (case v31s => with_unfolding_all rfl); k_whole))
  k_with "subscriptTail Name Name ref int" => (k_here; k_dflt (refine' Mine.item_row ?v32N ?v32ha ?v32m0 ?v32m1 ?v32m2 ?v32m3 ?v32a ?v32b ?_ ?v32s; (case v32N => k_asm); (case v32m0 => k_mem); (case v32m1 => k_mem); (case v32m2 => k_mem); (case v32m3 => k_mem); (case v32ha => omega); (case v32a => omega); (case v32b => omega); (case v32s => with_unfolding_all rfl); k_whole))
  k_with "subscriptTail Subscript Name Name Name ref int" => (k_here; k_dflt (refine' Mine.item_row ?v33N ?v33ha ?v33m0 ?v33m1 ?v33m2 ?v33m3 ?v33a ?v33b ?_ ?v33s; (case v33N => k_asm); (case v33m0 => k_mem); (case v33m1 => k_mem); (case v33m2 => k_mem); (case v33m3 => k_mem); (case v33ha => omega); (case v33a => omega); (case v33b => omega); (case v33s => with_unfolding_all rfl); k_whole))
  k_with "call builtin:list.append cons nil" => (k_here; k_dflt (refine' Mine.append_w ?v34F ?v34N ?v34f ?v34n ?v34x ?_; (case v34F => k_asm); (case v34N => k_asm); (case v34f => assumption); (case v34n => omega); (case v34x => assumption); k_whole); intro h' F' N')
  k_with "compareOp NotIn str str" => (k_here; refine' Mine.notin_dots ?v35a ?_; (case v35a => assumption); k_whole)
  k_with "call builtin:str.split cons nil" => (k_here; k_dflt (refine' Mine.split_dots ?v36a ?v36F ?v36N ?_; (case v36a => assumption); (case v36F => k_asm); (case v36N => k_asm); k_whole); intro D' t1' t2' h' tk' F' N' l1; (try k_lt l1))
  k_with "call builtin:str.startswith cons nil" => (k_here; refine' Mine.starts_is ?v37a ?_; (case v37a => assumption); k_whole)
  k_with "call builtin:str.endswith cons nil" => (k_here; refine' Mine.ends_is ?v38a ?_; (case v38a => assumption); k_whole)
  k_with "call builtin:str.find cons nil" => (k_here; refine' Mine.find_is ?v39a ?_; (case v39a => assumption); k_whole)
  k_with "truthy str" => (k_here; refine' Mine.truthy_len ?v40a ?v40b ?_; (case v40a => assumption); (case v40b => decide); k_whole)
  k_with "call builtin:len cons nil" => (k_here; refine' Mine.len_is ?v41a ?v41b ?_; (case v41a => first | assumption | exact (by decide : Str.empty.length = 0)); (case v41b => decide); k_whole)
  k_with "exec For Name Name cons nil" => (k_here; k_dflt (refine' For_turns ?v42F ?_; (case v42F => k_asm); k_whole))
  k_with "pyIter ref" => (k_here; k_dflt (refine' iter_listTurns ?v43a ?v43F ?v43N ?v43m ?v43c ?v43d ?_; (case v43a => rfl); (case v43F => k_asm); (case v43N => k_asm); (case v43m => k_mem); (case v43c => rfl); (case v43d => with_unfolding_all rfl); k_whole); intro i' l1; (try k_lt l1))
  k_with "UnrEndW" => (k_here; k_dflt (refine' Mine.endW ?v44F ?v44N ?v44off ⟨?v44sub, ?_⟩; (case v44F => k_asm); (case v44N => k_asm); (case v44off => assumption); (case v44sub => k_subL); k_whole))
  trivial
theorem lines13 : True := by
  k_with "setItem ref int" => (k_here; k_dflt (first
    | (refine' Mine.store_pl ?wF9 ?wN9 ?wf9 ?wk9 ?wi9 ?_; (case wF9 => k_asm); (case wN9 => k_asm); (case wf9 => exact Mine.allLt_all (by assumption)); (case wk9 => rfl); (case wi9 => assumption); k_whole)
    | (refine' Mine.store_pl0 ?wF9 ?wN9 ?wf9 ?wk9 ?wi9 ?_; (case wF9 => k_asm); (case wN9 => k_asm); (case wf9 => exact Mine.allLt_all (by assumption)); (case wk9 => rfl); (case wi9 => assumption); k_whole)); intro h' F' N')
  k_with "call builtin:str.join cons nil" => (k_here; k_dflt (refine' Mine.join_pl ?wN9 ?wm9 ?wj9 ?_; (case wN9 => k_asm); (case wm9 => k_mem); (case wj9 => assumption); k_whole); intro t' tk')
  k_with "SrcM" => (k_here; k_dflt (refine' Mine.SrcM.words ?wh9 ?wF9 ?wN9 ?wm9 ?_; (case wh9 => rfl); (case wF9 => k_asm); (case wN9 => k_asm); (case wm9 => k_mem); k_whole); intro g'; (try dsimp only))
  k_with "LRest" => (k_dflt (refine' Mine.LRest.one ?o ?turn ?fin; (case o => assumption)); (case' fin => (rintro y' ⟨t8', rfl⟩)); (case' turn => (intro i' v' I' oI' C' oC' D' m' h' tk' E' ys' hi' hv' hC' hx' F' N' lie'; (have hv9' := Mine.wl_at hi' hv'); subst hv9')))
  k_with "HitPost" => (k_dflt (refine' Mine.HitPost.dec ?yes ?no; (case' yes => (intro hh'; subst hh')); (case' no => intro hh')))
  k_with "call ref cons nil" => (k_here; k_dflt (refine' Mine.tells_at (hem _ ?wh9 _ _ _) ?wB9 ?wF9 ?wX9 ?wN9 ?wT9 ?wk9 ?wd9 ?wu9 ?_; (case wB9 => k_asm); (case wF9 => k_asm); (case wX9 => k_asm); (case wN9 => k_asm); (case wT9 => k_asm); (case wk9 => first | exact rfl | assumption); (case wd9 => ktr_room); (case wu9 => ktr_units); (case wh9 => assumption); k_whole); rintro v9 h' tk' ⟨F', rfl, N'⟩)
  k_with "exec Assign cons ListComp" => (k_here; k_dflt (refine Mine.Assign_L (ct := some _) (_F₀ := by k_asm) (by rfl) (by with_unfolding_all rfl) (by with_unfolding_all rfl) (by decide) (by rfl) (by decide) (by rfl) (by rfl) (by rfl) ?_))
  k_with "subscriptTail Subscript Name Constant Name str int" => (k_here; refine' Mine.witem ?wp9 ?wn9 ?wk9 ?_; (case wk9 => rfl); (case wp9 => assumption); (case wn9 => decide))
  k_with "compareOp NotEq str str" => (k_here; refine' Mine.ne_ltr ?we9 ?_; (case we9 => assumption))
  k_with "call builtin:list.append cons nil" => (k_here; k_dflt (refine' Mine.append_far ?wF9 ?wN9 ?w0 ?w1 ?w2 ?w3 ?w4 ?w5 ?w6 ?w7 ?wb9 ?wf9 ?wl9 ?_; (case wF9 => k_asm); (case wN9 => k_asm); (case wf9 => exact far); (case w0 => k_mem); (case w1 => k_mem); (case w2 => k_mem); (case w3 => k_mem); (case w4 => k_mem); (case w5 => k_mem); (case w6 => k_mem); (case w7 => k_mem); (case wb9 => (intro p9 hp9; (repeat (first | exact hp9 | apply List.mem_cons_of_mem)))); (case wl9 => assumption); k_whole); intro h' F' N')
  k_with "UnrEndW" => (k_here; k_dflt (refine' Mine.endW ?wF9 ?wN9 ?wo9 ?wr9; (case wF9 => k_asm); (case wN9 => k_asm); (case wo9 => exact lI); (case wr9 => refine done _ _ _ _ ?_ ?_ ?_ ?_ (by assumption) <;> k_extra "mine_map")))
  trivial
theorem far_turn (w : World) {p : Program} {loose : List Str} {mean : ExcName → Option Value} {mg mb : Str → Option Value} {dp un : Nat} {gd : Option (List Code)} {cn : Str} {cs : Scope} {L a₀ : Addr} {ccd : Value} {cl : List (Str × Addr)} {outer : List Env} {bs : Heap}
    {h₀ : Heap} {L' : Addr} (B : Below (ktrTop dp un gd cn cs L a₀ ccd cl outer) bs (envX cn cs L a₀ ccd cl :: outer) h₀) (X : (hd.heap_39 w.params).In h₀) (T : Top p loose mean mg mb h₀) (hd : dp + 2 < recursionLimit) (hu : un + 16 < cLine) (sc : Scope) (b : List Stmt) (hsc : sc = faSc) (hb : b = faFor1)
    {base : List (Addr × Obj)} {I p1 p2 p3 p4 K W : Addr} {oI q1 q2 q3 q4 oc : Obj} {vc : Option Value} {g : Nat → Nat → Nat} {Tw : Nat → Tok} {k u v i j : Nat} {vs : List Value} {pt : Str} {m : Str → Option Value} {s : Shared} {Q : Flow → Shared → Prop} {E : Value → Shared → Prop} {rest : (Str → Option Value) → List (Addr × Obj) → Prop} {th tt ta tb : Tok} {h hx : Heap} {tks tkx : Nat}
    (hu3 : u < 3) (hv3 : v < 3) (hvs : vs.length ≤ 2) (hc : oc.data = .cell vc)
    (hj : Joins (fun q => if q = v then ltr j else if q = u then ltr i else Str.ofString "...") pt)
    (hem : ∀ n, n < 16 → ∀ t u news, Tells w p loose mean mg mb 77 [.str pt t, .str (word 3 (g n)) u] news 1 8 (emPost (decide (n = k)) news))
    (hone : One k 16 fun y => ∃ t, y = .str (word 3 (g k)) t) (hgi : g k u = i) (hgj : g k v = j)
    (far : ∀ y ∈ I :: p1 :: p2 :: p3 :: p4 :: (L' + 1) :: W :: base.map (·.1), y ≠ K) (lI : AllLt I ((p1, q1) :: (p2, q2) :: (p3, q3) :: (p4, q4) :: (K, lst vs) :: (L' + 1, oc) :: (W, wl16 g Tw) :: base))
    (lc : @LT.lt Nat _ (L' + 1) K ∧ @LT.lt Nat _ (L' + 1) p1 ∧ @LT.lt Nat _ (L' + 1) p2 ∧ @LT.lt Nat _ (L' + 1) p3 ∧ @LT.lt Nat _ (L' + 1) p4 ∧ @LT.lt Nat _ (L' + 1) I) (lW : @LT.lt Nat _ W (L' + 1)) (lb : ∀ p ∈ base, @LT.lt Nat _ p.1 (L' + 1))
    (e1 : m "words" = some (.ref W)) (e2 : m "here" = some (.str (ltr i) th)) (e3 : m "there" = some (.str (ltr j) tt)) (e4 : m "taken" = some (.ref K)) (e5 : m "a" = some (.int (u : Int) ta)) (e6 : m "b" = some (.int (v : Int) tb))
    (hE : PassesOwn (model PR w) ((ktrTop dp un gd cn cs L a₀ ccd cl outer).deeper (faEnv sc L')) (faEnv sc L') E)
    (F : Fr h₀ L' h m) (N : News h₀ L' h ((I, oI) :: (p1, q1) :: (p2, q2) :: (p3, q3) :: (p4, q4) :: (K, lst vs) :: (L' + 1, oc) :: (W, wl16 g Tw) :: base))
    (done : ∀ (m' : Str → Option Value) (oc' : Obj) (vc' : Option Value) (t' : Tok), m' "words" = some (.ref W) → m' "here" = some (.str (ltr i) th) → m' "there" = some (.str (ltr j) tt) → m' "taken" = some (.ref K) → oc'.data = .cell vc' →
      rest m' ((p1, q1) :: (p2, q2) :: (p3, q3) :: (p4, q4) :: (K, lst (vs ++ [.str (word 3 (g k)) t'])) :: (L' + 1, oc') :: (W, wl16 g Tw) :: base)) :
    wpAny (model PR w) ((ktrTop dp un gd cn cs L a₀ ccd cl outer).deeper (faEnv sc L')) (execs b (faEnv sc L')) (UnrPostW h₀ L' { s with heap := hx, toks := tkx } [(I, oI)] rest Q) E { s with heap := h, toks := tks } := by
  conv at hsc => rhs; whnf
  conv at hb => rhs; whnf
  subst hsc hb
  (try k_unmd); (try k_fold)
  k_steps
end
section
open PySem PySem.Spec PySem.Calls PySem.W PyProof.Rows PyProof.Rows.LCg
theorem walkT14 : True := by
  k_with_none
  k_with "enterC" => (k_dflt (refine' code_defC ?wek1 ?wek2 ?wek3 ?wek4 ?wek5 ?wekA ?wekF ?wekK ?wek6 ?wek7 ?wek8 ?wek9 ?wekB ?wekD ?_ ?wec2 ?wec3 ?wec4; (case wekA => exact rfl); (case wekF => exact rfl); (case wekK => assumption); (case wek1 => k_asm); (case wek2 => k_asm); (case wek3 => k_asm); (case wek4 => k_asm); (case wek5 => k_asm); (case wek6 => k_is); (case wek7 => k_is); (case wek8 => ktr_room); (case wek9 => exact BindsTo.of_eq rfl); (case wekB => exact rfl); (case wekD => decide +kernel); (case wec2 => exact rfl); (case wec3 => exact rfl); (case wec4 => exact rfl); k_whole; intro g' L' h' tk' cells' FG' F' N' Y' B' X' T' l1; (try k_lt l1); k_cells Y'; (try simp only [List.cons_append, List.nil_append] at N'); (try dsimp only); (try k_lift B'); (try k_fold)))
  k_with "exec Assign cons ListComp" => (k_here; k_dflt (first
  | refine Mine.Assign_C (_F₀ := by k_asm) (by rfl) (by with_unfolding_all rfl) (by with_unfolding_all rfl) (fun _ => rfl) (fun _ => rfl) (by rfl) (by rfl) (by decide) (by rfl) (by rfl) ?_
  | refine Mine.Assign_L (ct := none) (_F₀ := by k_asm) (by rfl) (by with_unfolding_all rfl) (by with_unfolding_all rfl) (by decide) (by rfl) (by decide) (by rfl) (by rfl) (by rfl) ?_
  | refine Mine.Assign_L (ct := some _) (_F₀ := by k_asm) (by rfl) (by with_unfolding_all rfl) (by with_unfolding_all rfl) (by decide) (by rfl) (by decide) (by rfl) (by rfl) (by rfl) ?_))
  k_with "eval ListComp BinOp cons" => (k_here; k_dflt (refine Mine.ListComp_L (ct := none) (_F₀ := by k_asm) (by with_unfolding_all rfl) (by decide) (by rfl) (by decide) (by rfl) ?_))
  k_with "eval ListComp Call cons" => (k_here; k_dflt (refine Mine.ListComp_L (ct := none) (_F₀ := by k_asm) (by with_unfolding_all rfl) (by decide) (by rfl) (by decide) (by rfl) ?_))
  k_with "eval ListComp Subscript cons" => (k_here; k_dflt (refine Mine.ListComp_L (ct := none) (_F₀ := by k_asm) (by with_unfolding_all rfl) (by decide) (by rfl) (by decide) (by rfl) ?_))
  k_with "eval ListComp Name cons" => (k_here; k_dflt (refine Mine.ListComp_L (ct := none) (_F₀ := by k_asm) (by with_unfolding_all rfl) (by decide) (by rfl) (by decide) (by rfl) ?_))
  k_with "eval ListComp Name cons" => (k_here; k_dflt (refine Mine.ListComp_L (ct := some _) (_F₀ := by k_asm) (by with_unfolding_all rfl) (by decide) (by rfl) (by decide) (by rfl) ?_))
  k_with "eval ListComp ListComp cons" => (k_here; k_dflt (refine Mine.ListComp_C (_F₀ := by k_asm) (by with_unfolding_all rfl) (fun _ => rfl) (fun _ => rfl) (by rfl) (by rfl) (by decide) ?_))
  k_with "SrcM" => (k_here; k_dflt (first
  | (refine Mine.SrcM.range 4 (by rfl) (by k_asm) (by k_asm) (by assumption) (by first | decide | rfl) (by first | rfl | decide) (by exact Nat.le_of_ble_eq_true rfl) ?_; intro g'; (try dsimp only))
  | (refine Mine.SrcM.range 3 (by rfl) (by k_asm) (by k_asm) (by assumption) (by first | decide | rfl) (by first | rfl | decide) (by exact Nat.le_of_ble_eq_true rfl) ?_; intro g'; (try dsimp only))
  | (refine Mine.SrcM.ledger 3 (by rfl) (by k_asm) (by k_asm) (by k_mem) (by rfl) (by exact Nat.le_of_ble_eq_true rfl) ?_; intro g'; (try dsimp only))))
  k_with "LRest" => (with_unfolding_all first
  | (refine Mine.LRest.turn ?_; intro v' I' oI' C' oC' D' m' h' tk' E' hv' hC' hx' F' N' lie'; (first | lcg_open hv' | (obtain ⟨t9', hv9'⟩ := hv'; subst hv9')); (try simp only [List.nil_append, List.cons_append] at N'))
  | (refine Mine.LRest.test ?_; intro v' I' oI' C' oC' D' m' h' tk' E' hv' hC' hx' F' N' lie'; (first | lcg_open hv' | (obtain ⟨t9', hv9'⟩ := hv'; subst hv9')); (try simp only [List.nil_append, List.cons_append] at N'))
  | refine Mine.LRest.zero ?_)
  k_with "CRest" => (with_unfolding_all first
  | (refine Mine.CRest.turn ?_; intro v' I' oI' C' X' oX' D' h' tk' E' hv' hdX' F' N' lie'; (first | lcg_open hv' | (obtain ⟨t9', hv9'⟩ := hv'; subst hv9')); (try simp only [List.nil_append, List.cons_append] at N'))
  | refine Mine.CRest.zero ?_)
  k_with "LEnd" => (k_dflt (first
  | refine Mine.LEnd.push0 (by k_asm) (by k_asm) (by k_asm) ?_
  | refine Mine.LEnd.push1 (by k_asm) (by k_asm) (by k_asm) (by omega) ?_))
  k_with "FinV" => ((unfold Mine.FinV); intro D' h' tk' F' N' nlt' abv'; (k_lt nlt'); (try simp only [List.forall_mem_cons, List.forall_mem_nil, and_true] at abv'); (try simp only [List.nil_append, List.cons_append] at N'); (try dsimp only))
  k_with "FinB" => ((unfold Mine.FinB); intro D' h' tk' F' N' nlt' abv'; (k_lt nlt'); (try simp only [List.forall_mem_cons, List.forall_mem_nil, and_true] at abv'); (try simp only [List.nil_append, List.cons_append] at N'); (try dsimp only))
  k_with "mine_map" => ((repeat (refine (if_neg (by decide)).trans ?_)); first | exact if_pos rfl | assumption | exact rfl)
  k_with "eval Name" => (k_here; k_dflt (refine' nameX_L ?v15F ?v15v ?_ ?v15a ?v15b; (case v15a => rfl); (case v15b => rfl); (case v15F => k_asm); (case v15v => k_extra "mine_map"); k_whole))
  k_with "subscriptTail Name BinOp ref int" => (k_here; k_dflt (refine' Mine.item_refs ?v16N ?v16m ?v16a ?v16b ?_ ?v16s; (case v16N => k_asm); (case v16m => k_mem); (case v16a => omega); (case v16b => omega); (case v16s => with_unfolding_all rfl); k_whole); intro i' hi')
  k_with "binaryOp Mod int int" => (k_here; (with_reducible refine' Mine.mod4 ?_); intro x' hx0' hx4')
  k_with "subscriptTail Name Name ref int" => (k_here; k_dflt (refine' Mine.item_row ?v18N ?v18ha ?v18m0 ?v18m1 ?v18m2 ?v18m3 ?v18a ?v18b ?_ ?v18s; (case v18N => k_asm); (case v18m0 => k_mem); (case v18m1 => k_mem); (case v18m2 => k_mem); (case v18m3 => k_mem); (case v18ha => omega); (case v18a => omega); (case v18b => omega); (case v18s => with_unfolding_all rfl); k_whole))
  k_with "setItem ref int" => (k_here; k_dflt (refine' Mine.store_row ?v19F ?v19N ?v19f ?v19ha ?v19a ?v19b ?_; (case v19F => k_asm); (case v19N => k_asm); (case v19f => assumption); (case v19ha => omega); (case v19a => omega); (case v19b => omega); k_whole); intro h' F' N')
  k_with "loadName" => (k_here; k_dflt (refine' wpAny_loadName_local ?v20a ?v20b ?v20c ?v20v ?_; (case v20a => rfl); (case v20b => rfl); (case v20c => exact Fr.ns (by k_asm)); (case v20v => k_extra "mine_map"); k_whole))
  k_with "exec While" => (k_here; k_dflt (refine' Mine.while_sq ?v21a ?v21b ?v21F ?v21N ?v21h1 ?v21h2 ?v21h3 ?v21h4 ?v21h5 ?v21d1 ?v21d2 ?v21d3 ?_ ?v21hE; (case v21hE => first | assumption | passes_own); (case v21F => k_asm); (case v21N => k_asm); (case v21h1 => k_extra "mine_map"); (case v21h2 => k_extra "mine_map"); (case v21h3 => k_extra "mine_map"); (case v21h4 => k_extra "mine_map"); (case v21h5 => k_extra "mine_map"); (case v21d1 => assumption); (case v21d2 => assumption); (case v21d3 => assumption); (case v21a => omega); (case v21b => omega); k_whole))
  k_with "LRest" => (k_dflt (refine' Mine.LRest.one ?v22o ?v22turn ?v22fin; (case v22o => assumption)); (case' v22fin => (intro y' hy'; (try (obtain ⟨t8', hy8'⟩ := hy'; subst hy8')))); (case' v22turn => (intro i' v' I' oI' C' oC' D' m' h' tk' E' ys' hi' hv' hC' hx' F' N' lie'; (first | (obtain ⟨t9', hv9'⟩ := hv'; subst hv9') | skip))))
  k_with "mine_hit" => (first | (refine' Mine.hit_yes ?v23hit ?v23hi ?v23h0 ?v23a ?v23b; (case v23hit => assumption); (case v23hi => assumption); (case v23h0 => assumption); (case v23a => assumption); (case v23b => assumption)) | (refine' Mine.hit_no1 ?v23hit ?v23hi ?v23a; (case v23hit => assumption); (case v23hi => assumption); (case v23a => assumption)) | (refine' Mine.hit_no2 ?v23hit ?v23hi ?v23a; (case v23hit => assumption); (case v23hi => assumption); (case v23a => assumption)))
  k_with "HitPost" => (k_dflt (first | (refine Mine.HitPost.yes' ?v24hh ?_; (case v24hh => k_extra "mine_hit"); intro hh'; (try subst hh')) | (refine Mine.HitPost.no ?v24hh ?_; (case v24hh => k_extra "mine_hit"))))
  k_with "WhileStep2" => (k_dflt (first
  | (refine' Mine.jw_next ?v25F ?v25N ?v25h1 ?v25h2 ?v25h3 ?v25h4 ?v25hb ?v25h5 ?v25d1 ?v25d2 ?v25d3 ?v25hn ?v25C ?v25e; (case v25F => k_asm); (case v25N => k_asm); (case v25C => assumption); (case v25e => assumption); (case v25h1 => k_extra "mine_map"); (case v25h2 => k_extra "mine_map"); (case v25h3 => k_extra "mine_map"); (case v25h4 => k_extra "mine_map"); (case v25h5 => k_extra "mine_map"); (case v25hb => first | assumption | rfl); (case v25d1 => assumption); (case v25d2 => assumption); (case v25d3 => assumption); (case v25hn => omega))
  | (refine' Mine.jw_last ?v25F ?v25N ?v25h1 ?v25h2 ?v25h3 ?v25h4 ?v25hb ?v25h5 ?v25d1 ?v25d2 ?v25d3 ?v25hn ?v25C; (case v25F => k_asm); (case v25N => k_asm); (case v25C => assumption); (case v25h1 => k_extra "mine_map"); (case v25h2 => k_extra "mine_map"); (case v25h3 => k_extra "mine_map"); (case v25h4 => k_extra "mine_map"); (case v25h5 => k_extra "mine_map"); (case v25hb => first | assumption | rfl); (case v25d1 => assumption); (case v25d2 => assumption); (case v25d3 => assumption); (case v25hn => omega))))
  k_with "UnrEnd" => (k_dflt (refine' Mine.jf_end ?v26F ?v26N ?v26h1 ?v26h2 ?v26d1 ?v26d2 ?v26d3 ?v26C ?v26lb ?v26lD ?v26l0 ?v26lI; (case v26F => k_asm); (case v26N => k_asm); (case v26C => assumption); (case v26h1 => k_extra "mine_map"); (case v26h2 => k_extra "mine_map"); (case v26d1 => assumption); (case v26d2 => assumption); (case v26d3 => assumption); (case v26lb => assumption); (case v26lD => assumption); (case v26l0 => assumption); (case v26lI => assumption)))
  k_with "subscriptTail Constant str Name str int" => (k_here; k_dflt (refine' Mine.abcd_item ?v27a ?v27b ?_ ?v27s ?v27t; (case v27a => omega); (case v27b => omega); (case v27s => with_unfolding_all rfl); (case v27t => (intro _; with_unfolding_all rfl)); k_whole))
  k_with "subscriptTail Constant str Subscript str int" => (k_here; k_dflt (refine' Mine.abcd_item ?v28a ?v28b ?_ ?v28s ?v28t; (case v28a => first | omega | k_extra "mine_lat"); (case v28b => first | omega | k_extra "mine_lat"); (case v28s => with_unfolding_all rfl); (case v28t => (intro _; with_unfolding_all rfl)); k_whole))
  k_with "mine_lat" => (first | exact Lat.lo (by assumption) _ _ (by omega) (by omega) | exact Lat.hi (by assumption) _ _ (by omega) (by omega))
  k_with "binaryOp Add str str" => (k_here; (first | with_reducible refine' Mine.cat_1 ?_ | with_reducible refine' Mine.cat_2 ?_); intro t' tk')
  k_with "subscriptTail Name Name ref int" => (k_here; k_dflt (refine' Mine.item_refsX ?v31N ?v31m ?v31a ?v31b ?_ ?v31s; (case v31N => k_asm); (case v31m => k_mem); (case v31a => omega); (case v31b => omega); (case v31s => with_unfolding_all rfl); k_whole))
  k_with "subscriptTail Name Name ref int" => (k_here; k_dflt (refine' Mine.item_row ?v32N ?v32ha ?v32m0 ?v32m1 ?v32m2 ?v32m3 ?v32a ?v32b ?_ ?v32s; (case v32N => k_asm); (case v32m0 => k_mem); (case v32m1 => k_mem); (case v32m2 => k_mem); (case v32m3 => k_mem); (case v32ha => omega); (case v32a => omega); (case v32b => omega); (case v32s => with_unfolding_all rfl); k_whole))
  k_with "subscriptTail Subscript Name Name Name ref int" => (k_here; k_dflt (refine' Mine.item_row ?v33N ?v33ha ?v33m0 ?v33m1 ?v33m2 ?v33m3 ?v33a ?v33b ?_ ?v33s; (case v33N => k_asm); (case v33m0 => k_mem); (case v33m1 => k_mem); (case v33m2 => k_mem); (case v33m3 => k_mem); (case v33ha => omega); (case v33a => omega); (case v33b => omega); (case v33s => with_unfolding_all rfl); k_whole))
  k_with "call builtin:list.append cons nil" => (k_here; k_dflt (refine' Mine.append_w ?v34F ?v34N ?v34f ?v34n ?v34x ?_; (case v34F => k_asm); (case v34N => k_asm); (case v34f => assumption); (case v34n => omega); (case v34x => assumption); k_whole); intro h' F' N')
  k_with "compareOp NotIn str str" => (k_here; refine' Mine.notin_dots ?v35a ?_; (case v35a => assumption); k_whole)
  k_with "call builtin:str.split cons nil" => (k_here; k_dflt (refine' Mine.split_dots ?v36a ?v36F ?v36N ?_; (case v36a => assumption); (case v36F => k_asm); (case v36N => k_asm); k_whole); intro D' t1' t2' h' tk' F' N' l1; (try k_lt l1))
  k_with "call builtin:str.startswith cons nil" => (k_here; refine' Mine.starts_is ?v37a ?_; (case v37a => assumption); k_whole)
  k_with "call builtin:str.endswith cons nil" => (k_here; refine' Mine.ends_is ?v38a ?_; (case v38a => assumption); k_whole)
  k_with "call builtin:str.find cons nil" => (k_here; refine' Mine.find_is ?v39a ?_; (case v39a => assumption); k_whole)
  k_with "truthy str" => (k_here; refine' Mine.truthy_len ?v40a ?v40b ?_; (case v40a => assumption); (case v40b => decide); k_whole)
  k_with "call builtin:len cons nil" => (k_here; refine' Mine.len_is ?v41a ?v41b ?_; (case v41a => first | assumption | exact (by decide : Str.empty.length = 0)); (case v41b => decide); k_whole)
  k_with "exec For Name Name cons nil" => (k_here; k_dflt (refine' For_turns ?v42F ?_; (case v42F => k_asm); k_whole))
  k_with "pyIter ref" => (k_here; k_dflt (refine' iter_listTurns ?v43a ?v43F ?v43N ?v43m ?v43c ?v43d ?_; (case v43a => rfl); (case v43F => k_asm); (case v43N => k_asm); (case v43m => k_mem); (case v43c => rfl); (case v43d => with_unfolding_all rfl); k_whole); intro i' l1; (try k_lt l1))
  k_with "UnrEndW" => (k_here; k_dflt (refine' Mine.endW ?v44F ?v44N ?v44off ⟨?v44sub, ?_⟩; (case v44F => k_asm); (case v44N => k_asm); (case v44off => assumption); (case v44sub => k_subL); k_whole))
  trivial
/-- the place ahead, around three -/
noncomputable def pv (q : Nat) : Nat := if q = 0 then 2 else q - 1
section
variable {prog : Program} {w : World} {A : Around} {E : Value → Shared → Prop} {s : Shared} {h₀ : Heap} {L : Addr} {m : Str → Option Value} {env : Env} {news : List (Addr × Obj)} {f : Nat → Str} {T : Nat → Tok} {ep : Nat} {value slice : PySem.Expr}
theorem item_pl {l : Addr} {k : Int} {q : Nat} {u : Tok} {Q : Value → Shared → Prop} (N : News h₀ L s.heap news) (hm : (l, pl3 f T ep) ∈ news) (hk : k = q) (hq : q < 3) (h : Q (.str (f q) (T q)) s)
    (hs : subscripted slice false (.ref l) (.int k u) = operate [.ref l, .int k u] (getItem (.ref l) (.int k u)) := by with_unfolding_all rfl) :
    wpAny (model prog w) A (subscriptTail value slice (.ref l) (.int k u)) Q E s := by
  have hl : s.heap.IsList l #[.str (f 0) (T 0), .str (f 1) (T 1), .str (f 2) (T 2)] := ⟨_, (N _ hm).1, rfl, _, rfl⟩
  subst hk
  refine tail_any hl.typeIs slot_list_getitem.lookup (wpAny_getItem_list hl (by omega) (by omega) ?_ h) hs
  rcases lt3 hq with rfl | rfl | rfl <;> rfl
theorem item_pl_pv {l : Addr} {k : Int} {q : Nat} {u : Tok} {Q : Value → Shared → Prop} (N : News h₀ L s.heap news) (hm : (l, pl3 f T ep) ∈ news) (hk : k = (q : Int) - 1) (hq : q < 3) (h : Q (.str (f (pv q)) (T (pv q))) s)
    (hs : subscripted slice false (.ref l) (.int k u) = operate [.ref l, .int k u] (getItem (.ref l) (.int k u)) := by with_unfolding_all rfl) :
    wpAny (model prog w) A (subscriptTail value slice (.ref l) (.int k u)) Q E s := by
  have hl : s.heap.IsList l #[.str (f 0) (T 0), .str (f 1) (T 1), .str (f 2) (T 2)] := ⟨_, (N _ hm).1, rfl, _, rfl⟩
  subst hk
  rcases lt3 hq with rfl | rfl | rfl
  · exact tail_any hl.typeIs slot_list_getitem.lookup (wpAny_getItem_list_neg (k := ((0 : Nat) : Int) - 1) hl (by omega) (by show -((3 : Nat) : Int) ≤ _; omega) (by omega) (by rfl) h) hs
  · exact tail_any hl.typeIs slot_list_getitem.lookup (wpAny_getItem_list hl (by omega) (by omega) (by rfl) h) hs
  · exact tail_any hl.typeIs slot_list_getitem.lookup (wpAny_getItem_list hl (by omega) (by omega) (by rfl) h) hs
end
theorem lines14 : True := by
  k_with "compareOp Eq str str" => (k_here; refine' Mine.eq_is ?we9 ?_; (case we9 => assumption))
  k_with "subscriptTail Name Name ref int" => (k_here; k_dflt (refine' Mine.item_pl ?wN9 ?wm9 ?wk9 ?wi9 ?_; (case wN9 => k_asm); (case wm9 => k_mem); (case wk9 => exact Int.zero_add _); (case wi9 => assumption); k_whole))
  k_with "subscriptTail Name BinOp ref int" => (k_here; k_dflt (refine' Mine.item_pl_pv ?wN9 ?wm9 ?wk9 ?wi9 ?_; (case wN9 => k_asm); (case wm9 => k_mem); (case wk9 => exact congrArg (· - 1) (Int.zero_add _)); (case wi9 => assumption); k_whole))
  k_with "call ref cons nil" => (k_here; k_dflt (refine' Mine.tells_at (hL _ _ _ _) ?wB9 ?wF9 ?wX9 ?wN9 ?wT9 ?wk9 ?wd9 ?wu9 ?_; (case wB9 => k_asm); (case wF9 => k_asm); (case wX9 => k_asm); (case wN9 => k_asm); (case wT9 => k_asm); (case wk9 => first | exact rfl | assumption); (case wd9 => ktr_room); (case wu9 => ktr_units); k_whole); rintro v9 h' tk' ⟨F', t9', rfl, N'⟩)
  trivial
theorem lev0_ok (w : World) {p : Program} {loose : List Str} {mean : ExcName → Option Value} {mg mb : Str → Option Value} {news : List (Addr × Obj)} {x y : Str} {t u z : Tok} (he : (x == y) = true) :
   Tells w p loose mean mg mb 91 [.str x t, .str y u, .int 4 z] news 2 16 (intPost 0 news) := by
  intro dp un gd cn cs a ccd cl outer A₀ bs h₀ L m s Q E B F X N T hk hd hu hret
  refine wpAny_call ?_
  k_dflt cell_enter
  k_steps
  exact hret _ _ _ ⟨by k_asm, _, rfl, by k_asm⟩
noncomputable def JT (K : Addr) (led : List (Addr × Obj)) (_ : Nat) (m : Str → Option Value) (news : List (Addr × Obj)) : Prop := m "taken" = some (.ref K) ∧ news = led
theorem far2_turn (w : World) {p : Program} {loose : List Str} {mean : ExcName → Option Value} {mg mb : Str → Option Value} {dp un : Nat} {gd : Option (List Code)} {cn : Str} {cs : Scope} {L a₀ : Addr} {ccd : Value} {cl : List (Str × Addr)} {outer : List Env} {bs : Heap}
    {h₀ : Heap} {L' : Addr} (B : Below (ktrTop dp un gd cn cs L a₀ ccd cl outer) bs (envX cn cs L a₀ ccd cl :: outer) h₀) (X : (hd.heap_39 w.params).In h₀) (T : Top p loose mean mg mb h₀) (hd : dp + 3 < recursionLimit) (hu : un + 24 < cLine) (sc : Scope) (b : List Stmt) (hsc : sc = faSc) (hb : b = faFor2)
    {p1 p2 p3 p4 K I : Addr} {q1 q2 q3 q4 : Obj} {f : Nat → Str} {Tk : Nat → Tok} {ep : Nat} {r : List (Addr × Obj)} {s : Shared} {Q : Flow → Shared → Prop} {E : Value → Shared → Prop} (lI : AllLt I ((p1, q1) :: (p2, q2) :: (p3, q3) :: (p4, q4) :: (K, pl3 f Tk ep) :: r))
    (hlev : ∀ q, q < 3 → ∃ b : Bool, (f q == f (pv q)) = b ∧ ∀ t u z news, Tells w p loose mean mg mb 91 [.str (f q) t, .str (f (pv q)) u, .int 4 z] news 2 16 (intPost (if b then 0 else 4) news))
    (hE : PassesOwn (model PR w) ((ktrTop dp un gd cn cs L a₀ ccd cl outer).deeper (faEnv sc L')) (faEnv sc L') E) :
    ∀ i m news, i < 3 → JT K ((p1, q1) :: (p2, q2) :: (p3, q3) :: (p4, q4) :: (K, pl3 f Tk ep) :: r) i m news → ∀ t h tk, Fr h₀ (faEnv sc L').locals h (fun y => if y = (Str.ofString "j") then some (.int (0 + (i : Int)) t) else m y) →
      News h₀ (faEnv sc L').locals h ((I, itR (0 + ((i + 1 : Nat) : Int)) (((3 : Nat) : Int) - ((i + 1 : Nat) : Int))) :: news) →
      wpAny (model PR w) ((ktrTop dp un gd cn cs L a₀ ccd cl outer).deeper (faEnv sc L')) (execs b (faEnv sc L')) (UnrPost h₀ (faEnv sc L').locals { s with heap := h, toks := tk } I (itR (0 + ((i + 1 : Nat) : Int)) (((3 : Nat) : Int) - ((i + 1 : Nat) : Int))) (JT K ((p1, q1) :: (p2, q2) :: (p3, q3) :: (p4, q4) :: (K, pl3 f Tk ep) :: r) (i + 1)) Q) E { s with heap := h, toks := tk } := by
  conv at hsc => rhs; whnf
  conv at hb => rhs; whnf
  subst hsc hb
  rintro i m news hi ⟨e1, rfl⟩ t h tk F N
  replace F : Fr h₀ L' h _ := F
  replace N : News h₀ L' h _ := N
  obtain ⟨b, hb, hL⟩ := hlev i hi
  clear hlev
  (try k_unmd); (try k_fold)
  cases b
  all_goals (
    k_steps
    refine' unr_tail ?F ?N ?off ?r
    case F => k_asm
    case N => k_asm
    case off => exact addr_lt lI
    case r => exact ⟨by k_extra "mine_map", rfl⟩)
end
section
open PySem PySem.Spec PySem.Calls PySem.W PyProof.Rows PyProof.Rows.LCg
theorem walkT15 : True := by
  k_with_none
  k_with "enterC" => (k_dflt (refine' code_defC ?wek1 ?wek2 ?wek3 ?wek4 ?wek5 ?wekA ?wekF ?wekK ?wek6 ?wek7 ?wek8 ?wek9 ?wekB ?wekD ?_ ?wec2 ?wec3 ?wec4; (case wekA => exact rfl); (case wekF => exact rfl); (case wekK => assumption); (case wek1 => k_asm); (case wek2 => k_asm); (case wek3 => k_asm); (case wek4 => k_asm); (case wek5 => k_asm); (case wek6 => k_is); (case wek7 => k_is); (case wek8 => ktr_room); (case wek9 => exact BindsTo.of_eq rfl); (case wekB => exact rfl); (case wekD => decide +kernel); (case wec2 => exact rfl); (case wec3 => exact rfl); (case wec4 => exact rfl); k_whole; intro g' L' h' tk' cells' FG' F' N' Y' B' X' T' l1; (try k_lt l1); k_cells Y'; (try simp only [List.cons_append, List.nil_append] at N'); (try dsimp only); (try k_lift B'); (try k_fold)))
  k_with "exec Assign cons ListComp" => (k_here; k_dflt (first
  | refine Mine.Assign_C (_F₀ := by k_asm) (by rfl) (by with_unfolding_all rfl) (by with_unfolding_all rfl) (fun _ => rfl) (fun _ => rfl) (by rfl) (by rfl) (by decide) (by rfl) (by rfl) ?_
  | refine Mine.Assign_L (ct := none) (_F₀ := by k_asm) (by rfl) (by with_unfolding_all rfl) (by with_unfolding_all rfl) (by decide) (by rfl) (by decide) (by rfl) (by rfl) (by rfl) ?_
  | refine Mine.Assign_L (ct := some _) (_F₀ := by k_asm) (by rfl) (by with_unfolding_all rfl) (by with_unfolding_all rfl) (by decide) (by rfl) (by decide) (by rfl) (by rfl) (by rfl) ?_))
  k_with "eval ListComp BinOp cons" => (k_here; k_dflt (refine Mine.ListComp_L (ct := none) (_F₀ := by k_asm) (by with_unfolding_all rfl) (by decide) (by rfl) (by decide) (by rfl) ?_))
  k_with "eval ListComp Call cons" => (k_here; k_dflt (refine Mine.ListComp_L (ct := none) (_F₀ := by k_asm) (by with_unfolding_all rfl) (by decide) (by rfl) (by decide) (by rfl) ?_))
  k_with "eval ListComp Subscript cons" => (k_here; k_dflt (refine Mine.ListComp_L (ct := none) (_F₀ := by k_asm) (by with_unfolding_all rfl) (by decide) (by rfl) (by decide) (by rfl) ?_))
  k_with "eval ListComp Name cons" => (k_here; k_dflt (refine Mine.ListComp_L (ct := none) (_F₀ := by k_asm) (by with_unfolding_all rfl) (by decide) (by rfl) (by decide) (by rfl) ?_))
  k_with "eval ListComp Name cons" => (k_here; k_dflt (refine Mine.ListComp_L (ct := some _) (_F₀ := by k_asm) (by with_unfolding_all rfl) (by decide) (by rfl) (by decide) (by rfl) ?_))
  k_with "eval ListComp ListComp cons" => (k_here; k_dflt (refine Mine.ListComp_C (_F₀ := by k_asm) (by with_unfolding_all rfl) (fun _ => rfl) (fun _ => rfl) (by rfl) (by rfl) (by decide) ?_))
  k_with "SrcM" => (k_here; k_dflt (first
  | (refine Mine.SrcM.range 4 (by rfl) (by k_asm) (by k_asm) (by assumption) (by first | decide | rfl) (by first | rfl | decide) (by exact Nat.le_of_ble_eq_true rfl) ?_; intro g'; (try dsimp only))
  | (refine Mine.SrcM.range 3 (by rfl) (by k_asm) (by k_asm) (by assumption) (by first | decide | rfl) (by first | rfl | decide) (by exact Nat.le_of_ble_eq_true rfl) ?_; intro g'; (try dsimp only))
  | (refine Mine.SrcM.ledger 3 (by rfl) (by k_asm) (by k_asm) (by k_mem) (by rfl) (by exact Nat.le_of_ble_eq_true rfl) ?_; intro g'; (try dsimp only))))
  k_with "LRest" => (with_unfolding_all first
  | (refine Mine.LRest.turn ?_; intro v' I' oI' C' oC' D' m' h' tk' E' hv' hC' hx' F' N' lie'; (first | lcg_open hv' | (obtain ⟨t9', hv9'⟩ := hv'; subst hv9')); (try simp only [List.nil_append, List.cons_append] at N'))
  | (refine Mine.LRest.test ?_; intro v' I' oI' C' oC' D' m' h' tk' E' hv' hC' hx' F' N' lie'; (first | lcg_open hv' | (obtain ⟨t9', hv9'⟩ := hv'; subst hv9')); (try simp only [List.nil_append, List.cons_append] at N'))
  | refine Mine.LRest.zero ?_)
  k_with "CRest" => (with_unfolding_all first
  | (refine Mine.CRest.turn ?_; intro v' I' oI' C' X' oX' D' h' tk' E' hv' hdX' F' N' lie'; (first | lcg_open hv' | (obtain ⟨t9', hv9'⟩ := hv'; subst hv9')); (try simp only [List.nil_append, List.cons_append] at N'))
  | refine Mine.CRest.zero ?_)
  k_with "LEnd" => (k_dflt (first
  | refine Mine.LEnd.push0 (by k_asm) (by k_asm) (by k_asm) ?_
  | refine Mine.LEnd.push1 (by k_asm) (by k_asm) (by k_asm) (by omega) ?_))
  k_with "FinV" => ((unfold Mine.FinV); intro D' h' tk' F' N' nlt' abv'; (k_lt nlt'); (try simp only [List.forall_mem_cons, List.forall_mem_nil, and_true] at abv'); (try simp only [List.nil_append, List.cons_append] at N'); (try dsimp only))
  k_with "FinB" => ((unfold Mine.FinB); intro D' h' tk' F' N' nlt' abv'; (k_lt nlt'); (try simp only [List.forall_mem_cons, List.forall_mem_nil, and_true] at abv'); (try simp only [List.nil_append, List.cons_append] at N'); (try dsimp only))
  k_with "mine_map" => ((repeat (refine (if_neg (by decide)).trans ?_)); first | exact if_pos rfl | assumption | exact rfl)
  k_with "eval Name" => (k_here; k_dflt (refine' nameX_L ?v15F ?v15v ?_ ?v15a ?v15b; (case v15a => rfl); (case v15b => rfl); (case v15F => k_asm); (case v15v => k_extra "mine_map"); k_whole))
  k_with "subscriptTail Name BinOp ref int" => (k_here; k_dflt (refine' Mine.item_refs ?v16N ?v16m ?v16a ?v16b ?_ ?v16s; (case v16N => k_asm); (case v16m => k_mem); (case v16a => omega); (case v16b => omega); (case v16s => with_unfolding_all rfl); k_whole); intro i' hi')
  k_with "binaryOp Mod int int" => (k_here; (with_reducible refine' Mine.mod4 ?_); intro x' hx0' hx4')
  k_with "subscriptTail Name Name ref int" => (k_here; k_dflt (refine' Mine.item_row ?v18N ?v18ha ?v18m0 ?v18m1 ?v18m2 ?v18m3 ?v18a ?v18b ?_ ?v18s; (case v18N => k_asm); (case v18m0 => k_mem); (case v18m1 => k_mem); (case v18m2 => k_mem); (case v18m3 => k_mem); (case v18ha => omega); (case v18a => omega); (case v18b => omega); (case v18s => with_unfolding_all rfl); k_whole))
  k_with "setItem ref int" => (k_here; k_dflt (refine' Mine.store_row ?v19F ?v19N ?v19f ?v19ha ?v19a ?v19b ?_; (case v19F => k_asm); (case v19N => k_asm); (case v19f => assumption); (case v19ha => omega); (case v19a => omega); (case v19b => omega); k_whole); intro h' F' N')
  k_with "loadName" => (k_here; k_dflt (refine' wpAny_loadName_local ?v20a ?v20b ?v20c ?v20v ?_; (case v20a => rfl); (case v20b => rfl); (case v20c => exact Fr.ns (by k_asm)); (case v20v => k_extra "mine_map"); k_whole))
  k_with "exec While" => (k_here; k_dflt (refine' Mine.while_sq ?v21a ?v21b ?v21F ?v21N ?v21h1 ?v21h2 ?v21h3 ?v21h4 ?v21h5 ?v21d1 ?v21d2 ?v21d3 ?_ ?v21hE; (case v21hE => first | assumption | passes_own); (case v21F => k_asm); (case v21N => k_asm); (case v21h1 => k_extra "mine_map"); (case v21h2 => k_extra "mine_map"); (case v21h3 => k_extra "mine_map"); (case v21h4 => k_extra "mine_map"); (case v21h5 => k_extra "mine_map"); (case v21d1 => assumption); (case v21d2 => assumption); (case v21d3 => assumption); (case v21a => omega); (case v21b => omega); k_whole))
  k_with "LRest" => (k_dflt (refine' Mine.LRest.one ?v22o ?v22turn ?v22fin; (case v22o => assumption)); (case' v22fin => (intro y' hy'; (try (obtain ⟨t8', hy8'⟩ := hy'; subst hy8')))); (case' v22turn => (intro i' v' I' oI' C' oC' D' m' h' tk' E' ys' hi' hv' hC' hx' F' N' lie'; (first | (obtain ⟨t9', hv9'⟩ := hv'; subst hv9') | skip))))
  k_with "mine_hit" => (first | (refine' Mine.hit_yes ?v23hit ?v23hi ?v23h0 ?v23a ?v23b; (case v23hit => assumption); (case v23hi => assumption); (case v23h0 => assumption); (case v23a => assumption); (case v23b => assumption)) | (refine' Mine.hit_no1 ?v23hit ?v23hi ?v23a; (case v23hit => assumption); (case v23hi => assumption); (case v23a => assumption)) | (refine' Mine.hit_no2 ?v23hit ?v23hi ?v23a; (case v23hit => assumption); (case v23hi => assumption); (case v23a => assumption)))
  k_with "HitPost" => (k_dflt (first | (refine Mine.HitPost.yes' ?v24hh ?_; (case v24hh => k_extra "mine_hit"); intro hh'; (try subst hh')) | (refine Mine.HitPost.no ?v24hh ?_; (case v24hh => k_extra "mine_hit"))))
  k_with "WhileStep2" => (k_dflt (first
  | (refine' Mine.jw_next ?v25F ?v25N ?v25h1 ?v25h2 ?v25h3 ?v25h4 ?v25hb ?v25h5 ?v25d1 ?v25d2 ?v25d3 ?v25hn ?v25C ?v25e; (case v25F => k_asm); (case v25N => k_asm); (case v25C => assumption); (case v25e => assumption); (case v25h1 => k_extra "mine_map"); (case v25h2 => k_extra "mine_map"); (case v25h3 => k_extra "mine_map"); (case v25h4 => k_extra "mine_map"); (case v25h5 => k_extra "mine_map"); (case v25hb => first | assumption | rfl); (case v25d1 => assumption); (case v25d2 => assumption); (case v25d3 => assumption); (case v25hn => omega))
  | (refine' Mine.jw_last ?v25F ?v25N ?v25h1 ?v25h2 ?v25h3 ?v25h4 ?v25hb ?v25h5 ?v25d1 ?v25d2 ?v25d3 ?v25hn ?v25C; (case v25F => k_asm); (case v25N => k_asm); (case v25C => assumption); (case v25h1 => k_extra "mine_map"); (case v25h2 => k_extra "mine_map"); (case v25h3 => k_extra "mine_map"); (case v25h4 => k_extra "mine_map"); (case v25h5 => k_extra "mine_map"); (case v25hb => first | assumption | rfl); (case v25d1 => assumption); (case v25d2 => assumption); (case v25d3 => assumption); (case v25hn => omega))))
  k_with "UnrEnd" => (k_dflt (refine' Mine.jf_end ?v26F ?v26N ?v26h1 ?v26h2 ?v26d1 ?v26d2 ?v26d3 ?v26C ?v26lb ?v26lD ?v26l0 ?v26lI; (case v26F => k_asm); (case v26N => k_asm); (case v26C => assumption); (case v26h1 => k_extra "mine_map"); (case v26h2 => k_extra "mine_map"); (case v26d1 => assumption); (case v26d2 => assumption); (case v26d3 => assumption); (case v26lb => assumption); (case v26lD => assumption); (case v26l0 => assumption); (case v26lI => assumption)))
  k_with "subscriptTail Constant str Name str int" => (k_here; k_dflt (refine' Mine.abcd_item ?v27a ?v27b ?_ ?v27s ?v27t; (case v27a => omega); (case v27b => omega); (case v27s => with_unfolding_all rfl); (case v27t => (intro _; with_unfolding_all rfl)); k_whole))
  k_with "subscriptTail Constant str Subscript str int" => (k_here; k_dflt (refine' Mine.abcd_item ?v28a ?v28b ?_ ?v28s ?v28t; (case v28a => first | omega | k_extra "mine_lat"); (case v28b => first | omega | k_extra "mine_lat"); (case v28s => with_unfolding_all rfl); (case v28t => (intro _; with_unfolding_all rfl)); k_whole))
  k_with "mine_lat" => (first | exact Lat.lo (by assumption) _ _ (by omega) (by omega) | exact Lat.hi (by assumption) _ _ (by omega) (by omega))
  k_with "binaryOp Add str str" => (k_here; (first | with_reducible refine' Mine.cat_1 ?_ | with_reducible refine' Mine.cat_2 ?_); intro t' tk')
  k_with "subscriptTail Name Name ref int" => (k_here; k_dflt (refine' Mine.item_refsX ?v31N ?v31m ?v31a ?v31b ?_ ?v31s; (case v31N => k_asm); (case v31m => k_mem); (case v31a => omega); (case v31b => omega); (case v31s => with_unfolding_all rfl); k_whole))
  k_with "subscriptTail Name Name ref int" => (k_here; k_dflt (refine' Mine.item_row ?v32N ?v32ha ?v32m0 ?v32m1 ?v32m2 ?v32m3 ?v32a ?v32b ?_ ?v32s; (case v32N => k_asm); (case v32m0 => k_mem); (case v32m1 => k_mem); (case v32m2 => k_mem); (case v32m3 => k_mem); (case v32ha => omega); (case v32a => omega); (case v32b => omega); (case v32s => with_unfolding_all rfl); k_whole))
  k_with "subscriptTail Subscript Name Name Name ref int" => (k_here; k_dflt (refine' Mine.item_row ?v33N ?v33ha ?v33m0 ?v33m1 ?v33m2 ?v33m3 ?v33a ?v33b ?_ ?v33s; (case v33N => k_asm); (case v33m0 => k_mem); (case v33m1 => k_mem); (case v33m2 => k_mem); (case v33m3 => k_mem); (case v33ha => omega); (case v33a => omega); (case v33b => omega); (case v33s => with_unfolding_all rfl); k_whole))
  k_with "call builtin:list.append cons nil" => (k_here; k_dflt (refine' Mine.append_w ?v34F ?v34N ?v34f ?v34n ?v34x ?_; (case v34F => k_asm); (case v34N => k_asm); (case v34f => assumption); (case v34n => omega); (case v34x => assumption); k_whole); intro h' F' N')
  k_with "compareOp NotIn str str" => (k_here; refine' Mine.notin_dots ?v35a ?_; (case v35a => assumption); k_whole)
  k_with "call builtin:str.split cons nil" => (k_here; k_dflt (refine' Mine.split_dots ?v36a ?v36F ?v36N ?_; (case v36a => assumption); (case v36F => k_asm); (case v36N => k_asm); k_whole); intro D' t1' t2' h' tk' F' N' l1; (try k_lt l1))
  k_with "call builtin:str.startswith cons nil" => (k_here; refine' Mine.starts_is ?v37a ?_; (case v37a => assumption); k_whole)
  k_with "call builtin:str.endswith cons nil" => (k_here; refine' Mine.ends_is ?v38a ?_; (case v38a => assumption); k_whole)
  k_with "call builtin:str.find cons nil" => (k_here; refine' Mine.find_is ?v39a ?_; (case v39a => assumption); k_whole)
  k_with "truthy str" => (k_here; refine' Mine.truthy_len ?v40a ?v40b ?_; (case v40a => assumption); (case v40b => decide); k_whole)
  k_with "call builtin:len cons nil" => (k_here; refine' Mine.len_is ?v41a ?v41b ?_; (case v41a => first | assumption | exact (by decide : Str.empty.length = 0)); (case v41b => decide); k_whole)
  k_with "exec For Name Name cons nil" => (k_here; k_dflt (refine' For_turns ?v42F ?_; (case v42F => k_asm); k_whole))
  k_with "pyIter ref" => (k_here; k_dflt (refine' iter_listTurns ?v43a ?v43F ?v43N ?v43m ?v43c ?v43d ?_; (case v43a => rfl); (case v43F => k_asm); (case v43N => k_asm); (case v43m => k_mem); (case v43c => rfl); (case v43d => with_unfolding_all rfl); k_whole); intro i' l1; (try k_lt l1))
  k_with "UnrEndW" => (k_here; k_dflt (refine' Mine.endW ?v44F ?v44N ?v44off ⟨?v44sub, ?_⟩; (case v44F => k_asm); (case v44N => k_asm); (case v44off => assumption); (case v44sub => k_subL); k_whole))
  trivial
noncomputable def boolPost (b : Bool) (news : List (Addr × Obj)) (v : Value) (h₀ h' : Heap) (L : Addr) (m : Str → Option Value) : Prop :=
  Fr h₀ L h' m ∧ v = .bool b ∧ News h₀ L h' news
theorem wrd_word (f : Nat → Nat) : wrd (f 0) (f 1) (f 2) = word 3 f := rfl
theorem joins0 : ∀ i j, i < 4 → j < 4 → Joins (fun q => if q = 1 then ltr j else if q = 0 then ltr i else Str.ofString "...") (pat0 i j) := fun i j hi hj =>
  ⟨(by decide +kernel : ∀ i < 4, ∀ j < 4, Txt.join Str.empty [ltr i, ltr j, Str.ofString "..."] = pat0 i j) i hi j hj, by show 1 + 1 + 3 ≤ 1000; decide⟩
theorem joins1 : ∀ i j, i < 4 → j < 4 → Joins (fun q => if q = 2 then ltr j else if q = 0 then ltr i else Str.ofString "...") (pat1 i j) := fun i j hi hj =>
  ⟨(by decide +kernel : ∀ i < 4, ∀ j < 4, Txt.join Str.empty [ltr i, Str.ofString "...", ltr j] = pat1 i j) i hi j hj, by show 1 + 3 + 1 ≤ 1000; decide⟩
theorem joins2 : ∀ i j, i < 4 → j < 4 → Joins (fun q => if q = 2 then ltr j else if q = 1 then ltr i else Str.ofString "...") (pat2 i j) := fun i j hi hj =>
  ⟨(by decide +kernel : ∀ i < 4, ∀ j < 4, Txt.join Str.empty [Str.ofString "...", ltr i, ltr j] = pat2 i j) i hi j hj, by show 3 + 1 + 1 ≤ 1000; decide⟩
section
variable (w : World) {p : Program} {loose : List Str} {mean : ExcName → Option Value} {mg mb : Str → Option Value} {g : Nat → Nat → Nat} {i j k : Nat} (hi : i < 4) (hj : j < 4) (hg : ∀ n, n < 16 → ∀ q, q < 3 → g n q < 4)
include hi hj hg
theorem emw0 (h : ∀ n, n < 16 → ((g n 0 = i ∧ g n 1 = j) ↔ n = k)) : ∀ n, n < 16 → ∀ t u news, Tells w p loose mean mg mb 77 [.str (pat0 i j) t, .str (word 3 (g n)) u] news 1 8 (emPost (decide (n = k)) news) := fun n hn t u news => by
  have e := em0_ok w (p := p) (loose := loose) (mean := mean) (mg := mg) (mb := mb) (news := news) (t := t) (u := u) hi hj (hg n hn 0 (by decide)) (hg n hn 1 (by decide)) (hg n hn 2 (by decide))
  rw [wrd_word, decide_eq_decide.mpr (h n hn)] at e
  exact e
theorem emw1 (h : ∀ n, n < 16 → ((g n 0 = i ∧ g n 2 = j) ↔ n = k)) : ∀ n, n < 16 → ∀ t u news, Tells w p loose mean mg mb 77 [.str (pat1 i j) t, .str (word 3 (g n)) u] news 1 8 (emPost (decide (n = k)) news) := fun n hn t u news => by
  have e := em1_ok w (p := p) (loose := loose) (mean := mean) (mg := mg) (mb := mb) (news := news) (t := t) (u := u) hi hj (hg n hn 0 (by decide)) (hg n hn 1 (by decide)) (hg n hn 2 (by decide))
  rw [wrd_word, ← Bool.decide_and, decide_eq_decide.mpr (h n hn)] at e
  exact e
theorem emw2 (h : ∀ n, n < 16 → ((g n 1 = i ∧ g n 2 = j) ↔ n = k)) : ∀ n, n < 16 → ∀ t u news, Tells w p loose mean mg mb 77 [.str (pat2 i j) t, .str (word 3 (g n)) u] news 1 8 (emPost (decide (n = k)) news) := fun n hn t u news => by
  have e := em2_ok w (p := p) (loose := loose) (mean := mean) (mg := mg) (mb := mb) (news := news) (t := t) (u := u) hi hj (hg n hn 0 (by decide)) (hg n hn 1 (by decide)) (hg n hn 2 (by decide))
  rw [wrd_word, decide_eq_decide.mpr (h n hn)] at e
  exact e
end
theorem far_all {I p1 p2 p3 p4 K c W : Nat} {base : List (Addr × Obj)} (h1 : K < I) (h2 : K < p1) (h3 : K < p2) (h4 : K < p3) (h5 : K < p4) (h6 : c < K) (h7 : W < K) (h8 : AllLt K base) : ∀ y ∈ I :: p1 :: p2 :: p3 :: p4 :: c :: W :: base.map (·.1), y ≠ K := fun y hy => by
  simp only [List.mem_cons] at hy
  rcases hy with rfl | rfl | rfl | rfl | rfl | rfl | rfl | hy
  · exact gt_ne h1
  · exact gt_ne h2
  · exact gt_ne h3
  · exact gt_ne h4
  · exact gt_ne h5
  · exact Nat.ne_of_lt h6
  · exact Nat.ne_of_lt h7
  · exact Nat.ne_of_lt (addr_lt h8 y hy)
theorem far_ok (w : World) {p : Program} {loose : List Str} {mean : ExcName → Option Value} {mg mb : Str → Option Value} {base : List (Addr × Obj)} {W : Addr} {g : Nat → Nat → Nat} {Tw : Nat → Tok} {i j k0 k1 k2 : Nat} {t u : Tok} (hi : i < 4) (hj : j < 4) (hg : ∀ n, n < 16 → ∀ q, q < 3 → g n q < 4)
    (hk0 : k0 < 16) (hk1 : k1 < 16) (hk2 : k2 < 16) (h0 : ∀ n, n < 16 → ((g n 0 = i ∧ g n 1 = j) ↔ n = k0)) (h1 : ∀ n, n < 16 → ((g n 0 = i ∧ g n 2 = j) ↔ n = k1)) (h2 : ∀ n, n < 16 → ((g n 1 = i ∧ g n 2 = j) ↔ n = k2))
    (hlev : ∀ q, q < 3 → ∃ b : Bool, (word 3 (g (mk4 k0 k1 k2 0 q)) == word 3 (g (mk4 k0 k1 k2 0 (pv q)))) = b ∧ ∀ t u z news, Tells w p loose mean mg mb 91 [.str (word 3 (g (mk4 k0 k1 k2 0 q))) t, .str (word 3 (g (mk4 k0 k1 k2 0 (pv q)))) u, .int 4 z] news 2 16 (intPost (if b then 0 else 4) news)) :
   Tells w p loose mean mg mb 115 [.ref W, .str (ltr i) t, .str (ltr j) u] ((W, wl16 g Tw) :: base) 3 24 (boolPost true ((W, wl16 g Tw) :: base)) := by
  intro dp un gd cn cs a ccd cl outer A₀ bs h₀ L m s Q E B F X N T hk hd hu hret
  refine wpAny_call ?_
  k_extra "enterC"
  iterate 46 (first | (k_unfold; (try dsimp only)) | walk1 | (dsimp only; walk1))
  refine' far_turn (u := 0) (v := 1) (k := k0) (vs := []) w ?fB ?fX ?fT ?fd ?fu _ _ rfl rfl ?hu3 ?hv3 ?hvs ?hc (joins0 i j hi hj) (emw0 w hi hj hg h0) ⟨hk0⟩ ((h0 _ hk0).mpr rfl).1 ((h0 _ hk0).mpr rfl).2 ?far ?lI ?lc ?lW ?lb ?e1 ?e2 ?e3 ?e4 ?e5 ?e6 ?hE ?F ?N ?done
  case F => k_asm
  case N => k_asm
  case lI => assumption
  case fB => k_asm
  case fX => k_asm
  case fT => k_asm
  case fd => omega
  case fu => omega
  case hu3 => decide
  case hv3 => decide
  case hvs => exact Nat.le_of_ble_eq_true rfl
  case hc => assumption
  case far => refine' far_all ?_ ?_ ?_ ?_ ?_ ?_ ?_ ?ab <;> first | (case ab => exact (by assumption : _ ∧ _ ∧ AllLt _ base).2.2) | omega
  case lc => refine ⟨?_, ?_, ?_, ?_, ?_, ?_⟩ <;> omega
  case lW => exact Nat.lt_succ_of_lt (by assumption : _ ∧ AllLt _ base).1
  case lb => exact fun p hp => Nat.lt_succ_of_lt (allLt_all (by assumption : _ ∧ AllLt _ base).2 p hp)
  case e1 => k_extra "mine_map"
  case e2 => k_extra "mine_map"
  case e3 => k_extra "mine_map"
  case e4 => k_extra "mine_map"
  case e5 => k_extra "mine_map"
  case e6 => k_extra "mine_map"
  case hE => passes_own
  case done =>
  rintro m1 o1 v1 t1 a11 a12 a13 a14 a15
  refine ⟨by k_subL, ?_⟩
  iterate 9 (first | (k_unfold; (try dsimp only)) | walk1 | (dsimp only; walk1))
  refine' far_turn (u := 0) (v := 2) (k := k1) w ?fB ?fX ?fT ?fd ?fu _ _ rfl rfl ?hu3 ?hv3 ?hvs ?hc (joins1 i j hi hj) (emw1 w hi hj hg h1) ⟨hk1⟩ ((h1 _ hk1).mpr rfl).1 ((h1 _ hk1).mpr rfl).2 ?far ?lI ?lc ?lW ?lb ?e1 ?e2 ?e3 ?e4 ?e5 ?e6 ?hE ?F ?N ?done
  case F => k_asm
  case N => k_asm
  case lI => assumption
  case fB => k_asm
  case fX => k_asm
  case fT => k_asm
  case fd => omega
  case fu => omega
  case hu3 => decide
  case hv3 => decide
  case hvs => exact Nat.le_of_ble_eq_true rfl
  case hc => assumption
  case far => refine' far_all ?_ ?_ ?_ ?_ ?_ ?_ ?_ ?ab <;> first | (case ab => exact (by assumption : _ ∧ _ ∧ AllLt _ base).2.2) | omega
  case lc => refine ⟨?_, ?_, ?_, ?_, ?_, ?_⟩ <;> omega
  case lW => exact Nat.lt_succ_of_lt (by assumption : _ ∧ AllLt _ base).1
  case lb => exact fun p hp => Nat.lt_succ_of_lt (allLt_all (by assumption : _ ∧ AllLt _ base).2 p hp)
  case e1 => k_extra "mine_map"
  case e2 => k_extra "mine_map"
  case e3 => k_extra "mine_map"
  case e4 => k_extra "mine_map"
  case e5 => k_extra "mine_map"
  case e6 => k_extra "mine_map"
  case hE => passes_own
  case done =>
  rintro m2 o2 v2 t2 a21 a22 a23 a24 a25
  refine ⟨by k_subL, ?_⟩
  iterate 9 (first | (k_unfold; (try dsimp only)) | walk1 | (dsimp only; walk1))
  refine' far_turn (u := 1) (v := 2) (k := k2) w ?fB ?fX ?fT ?fd ?fu _ _ rfl rfl ?hu3 ?hv3 ?hvs ?hc (joins2 i j hi hj) (emw2 w hi hj hg h2) ⟨hk2⟩ ((h2 _ hk2).mpr rfl).1 ((h2 _ hk2).mpr rfl).2 ?far ?lI ?lc ?lW ?lb ?e1 ?e2 ?e3 ?e4 ?e5 ?e6 ?hE ?F ?N ?done
  case F => k_asm
  case N => k_asm
  case lI => assumption
  case fB => k_asm
  case fX => k_asm
  case fT => k_asm
  case fd => omega
  case fu => omega
  case hu3 => decide
  case hv3 => decide
  case hvs => exact Nat.le_of_ble_eq_true rfl
  case hc => assumption
  case far => refine' far_all ?_ ?_ ?_ ?_ ?_ ?_ ?_ ?ab <;> first | (case ab => exact (by assumption : _ ∧ _ ∧ AllLt _ base).2.2) | omega
  case lc => refine ⟨?_, ?_, ?_, ?_, ?_, ?_⟩ <;> omega
  case lW => exact Nat.lt_succ_of_lt (by assumption : _ ∧ AllLt _ base).1
  case lb => exact fun p hp => Nat.lt_succ_of_lt (allLt_all (by assumption : _ ∧ AllLt _ base).2 p hp)
  case e1 => k_extra "mine_map"
  case e2 => k_extra "mine_map"
  case e3 => k_extra "mine_map"
  case e4 => k_extra "mine_map"
  case e5 => k_extra "mine_map"
  case e6 => k_extra "mine_map"
  case hE => passes_own
  case done =>
  rintro m3 o3 v3 t3 a31 a32 a33 a34 a35
  refine ⟨by k_subL, ?_⟩
  iterate 12 (first | (k_unfold; (try dsimp only)) | walk1 | (dsimp only; walk1))
  refine' range_inv (JT _ _) (far2_turn (f := fun q => word 3 (g (mk4 k0 k1 k2 0 q))) (Tk := mk4 t1 t2 t3 0) (ep := 3) w ?rB ?rX ?rT hd hu _ _ rfl rfl ?rl hlev ?rE) ?dn 3 0 _ _ ?r0 ⟨?rm, ?rr⟩
  case rr => exact rfl
  case rl => assumption
  case rB => k_asm
  case rX => k_asm
  case rT => k_asm
  case r0 => omega
  case rm => k_extra "mine_map"
  case rE => passes_own
  case dn =>
  rintro m4 news4 ⟨b1, rfl⟩ h4 tk4 F4 N4
  k_steps
  exact hret _ _ _ ⟨by k_asm, rfl, newsTail (newsTail (newsTail (newsTail (newsTail (newsTail (by k_asm))))))⟩
end
section
open PySem PySem.Spec PySem.Calls PySem.W PyProof.Rows PyProof.Rows.LCg
noncomputable abbrev flt (x y : UInt64) : Bool := Float64.cmp x y == some .lt
noncomputable def mx3 (x y z : UInt64) : UInt64 := if flt x y then (if flt y z then z else y) else if flt x z then z else x
noncomputable def mn3 (x y z : UInt64) : UInt64 := if flt y x then (if flt z y then z else y) else if flt z x then z else x
section
variable {prog : Program} {w : World} {A : Around} {E : Value → Shared → Prop} {s : Shared} {h₀ : Heap} {L : Addr} {m : Str → Option Value} {news : List (Addr × Obj)} {x y z : UInt64} {t u v : Tok} {Q : Value → Shared → Prop}
theorem max_three_ff (hh : A.handled = none) (F : Fr h₀ L s.heap m) (N : News h₀ L s.heap news)
    (h : ∀ h' tk v, Fr h₀ L h' m → News h₀ L h' news → Q (.float (mx3 x y z) v) { s with heap := h', toks := tk }) :
    wpAny (model prog w) A (call (.builtin "max") [.float x t, .float y u, .float z v]) Q E s := by
  have hT : (s.heap.push { cls := .type "tuple", data := .seq #[.float x t, .float y u, .float z v] }).IsTuple s.heap.objs.size #[.float x t, .float y u, .float z v] := ⟨_, Heap.get?_push_size _ rfl, rfl, 0, rfl⟩
  refine call_max_three (wpAny_pyIter_tuple hT ?_)
  have hsz : (s.heap.push { cls := .type "tuple", data := .seq #[.float x t, .float y u, .float z v] }).objs.size = s.heap.objs.size + 1 := Heap.size_push ..
  refine ⟨_, [_, s.heap.objs.size], [_], _, _, _, _, rfl, Walks.tuple (A := A.in1) hh _ s.heap.objs.size (by rw [hsz]; exact Nat.ne_of_lt (Nat.lt_succ_self _)) #[.float x t, .float y u, .float z v],
    ⟨⟨_, Heap.get?_push_size _ rfl, rfl, rfl⟩, hT.push _⟩, fun c hc => ?_, by simp, Flt.cmpOf_gt #[.float x t, .float y u, .float z v] (by simp [Flt.NumV.float]), fun b h' tk hP hk => ?_⟩
  · show c < ((s.heap.push _).push _).objs.size
    rw [Heap.size_push, hsz]
    rcases List.mem_cons.mp hc with rfl | hc
    · rw [hsz]; exact Nat.lt_succ_self _
    · rcases List.mem_cons.mp hc with rfl | hc
      · exact Nat.lt_succ_of_lt (Nat.lt_succ_self _)
      · cases hc
  · have hold : ∀ c o, s.heap.get? c = some o → h'.get? c = some o := fun c o e => by
      refine hk c o (fun hm => ?_) (Heap.get?_push_of_some _ (Heap.get?_push_of_some _ e))
      rcases List.mem_cons.mp hm with e1 | hm
      · have := Heap.lt_size e; rw [e1, hsz] at this; exact Nat.lt_irrefl _ (Nat.lt_of_succ_lt this)
      · cases hm
    have hv : ∃ t', b = .float (mx3 x y z) t' := by
      have c1 : Flt.ltV (.float x t) (.float y u) = flt x y := rfl
      have c2 : Flt.ltV (.float y u) (.float z v) = flt y z := rfl
      have c3 : Flt.ltV (.float x t) (.float z v) = flt x z := rfl
      unfold mx3
      cases h1 : flt x y <;> cases h2 : flt y z <;> cases h3 : flt x z <;> simp [argBest, c1, c2, c3, h1, h2, h3] at hP <;> simp [← hP]
    obtain ⟨t', rfl⟩ := hv
    exact h h' tk t' (F.grownK hold) (N.grown hold)
theorem min_three_ff (hh : A.handled = none) (F : Fr h₀ L s.heap m) (N : News h₀ L s.heap news)
    (h : ∀ h' tk v, Fr h₀ L h' m → News h₀ L h' news → Q (.float (mn3 x y z) v) { s with heap := h', toks := tk }) :
    wpAny (model prog w) A (call (.builtin "min") [.float x t, .float y u, .float z v]) Q E s := by
  have hT : (s.heap.push { cls := .type "tuple", data := .seq #[.float x t, .float y u, .float z v] }).IsTuple s.heap.objs.size #[.float x t, .float y u, .float z v] := ⟨_, Heap.get?_push_size _ rfl, rfl, 0, rfl⟩
  refine call_min_three (wpAny_pyIter_tuple hT ?_)
  have hsz : (s.heap.push { cls := .type "tuple", data := .seq #[.float x t, .float y u, .float z v] }).objs.size = s.heap.objs.size + 1 := Heap.size_push ..
  refine ⟨_, [_, s.heap.objs.size], [_], _, _, _, _, rfl, Walks.tuple (A := A.in1) hh _ s.heap.objs.size (by rw [hsz]; exact Nat.ne_of_lt (Nat.lt_succ_self _)) #[.float x t, .float y u, .float z v],
    ⟨⟨_, Heap.get?_push_size _ rfl, rfl, rfl⟩, hT.push _⟩, fun c hc => ?_, by simp, Flt.cmpOf_lt #[.float x t, .float y u, .float z v] (by simp [Flt.NumV.float]), fun b h' tk hP hk => ?_⟩
  · show c < ((s.heap.push _).push _).objs.size
    rw [Heap.size_push, hsz]
    rcases List.mem_cons.mp hc with rfl | hc
    · rw [hsz]; exact Nat.lt_succ_self _
    · rcases List.mem_cons.mp hc with rfl | hc
      · exact Nat.lt_succ_of_lt (Nat.lt_succ_self _)
      · cases hc
  · have hold : ∀ c o, s.heap.get? c = some o → h'.get? c = some o := fun c o e => by
      refine hk c o (fun hm => ?_) (Heap.get?_push_of_some _ (Heap.get?_push_of_some _ e))
      rcases List.mem_cons.mp hm with e1 | hm
      · have := Heap.lt_size e; rw [e1, hsz] at this; exact Nat.lt_irrefl _ (Nat.lt_of_succ_lt this)
      · cases hm
    have hv : ∃ t', b = .float (mn3 x y z) t' := by
      have c1 : Flt.ltV (.float y u) (.float x t) = flt y x := rfl
      have c2 : Flt.ltV (.float z v) (.float y u) = flt z y := rfl
      have c3 : Flt.ltV (.float z v) (.float x t) = flt z x := rfl
      unfold mn3
      cases h1 : flt y x <;> cases h2 : flt z y <;> cases h3 : flt z x <;> simp [argBest, c1, c2, c3, h1, h2, h3] at hP <;> simp [← hP]
    obtain ⟨t', rfl⟩ := hv
    exact h h' tk t' (F.grownK hold) (N.grown hold)
end
end
section
open PySem PySem.Spec PySem.Calls PySem.W PyProof.Rows PyProof.Rows.LCg
theorem walkR1 : True := by
  k_with_none
  k_with "enterC" => (k_dflt (refine' code_defC ?wek1 ?wek2 ?wek3 ?wek4 ?wek5 ?wekA ?wekF ?wekK ?wek6 ?wek7 ?wek8 ?wek9 ?wekB ?wekD ?_ ?wec2 ?wec3 ?wec4; (case wekA => exact rfl); (case wekF => exact rfl); (case wekK => assumption); (case wek1 => k_asm); (case wek2 => k_asm); (case wek3 => k_asm); (case wek4 => k_asm); (case wek5 => k_asm); (case wek6 => k_is); (case wek7 => k_is); (case wek8 => ktr_room); (case wek9 => exact BindsTo.of_eq rfl); (case wekB => exact rfl); (case wekD => decide +kernel); (case wec2 => exact rfl); (case wec3 => exact rfl); (case wec4 => exact rfl); k_whole; intro g' L' h' tk' cells' FG' F' N' Y' B' X' T' l1; (try k_lt l1); k_cells Y'; (try simp only [List.cons_append, List.nil_append] at N'); (try dsimp only); (try k_lift B'); (try k_fold)))
  k_with "exec Assign cons ListComp" => (k_here; k_dflt (first
  | refine Mine.Assign_C (_F₀ := by k_asm) (by rfl) (by with_unfolding_all rfl) (by with_unfolding_all rfl) (fun _ => rfl) (fun _ => rfl) (by rfl) (by rfl) (by decide) (by rfl) (by rfl) ?_
  | refine Mine.Assign_L (ct := none) (_F₀ := by k_asm) (by rfl) (by with_unfolding_all rfl) (by with_unfolding_all rfl) (by decide) (by rfl) (by decide) (by rfl) (by rfl) (by rfl) ?_
  | refine Mine.Assign_L (ct := some _) (_F₀ := by k_asm) (by rfl) (by with_unfolding_all rfl) (by with_unfolding_all rfl) (by decide) (by rfl) (by decide) (by rfl) (by rfl) (by rfl) ?_))
  k_with "eval ListComp BinOp cons" => (k_here; k_dflt (refine Mine.ListComp_L (ct := none) (_F₀ := by k_asm) (by with_unfolding_all rfl) (by decide) (by rfl) (by decide) (by rfl) ?_))
  k_with "eval ListComp Call cons" => (k_here; k_dflt (refine Mine.ListComp_L (ct := none) (_F₀ := by k_asm) (by with_unfolding_all rfl) (by decide) (by rfl) (by decide) (by rfl) ?_))
  k_with "eval ListComp Subscript cons" => (k_here; k_dflt (refine Mine.ListComp_L (ct := none) (_F₀ := by k_asm) (by with_unfolding_all rfl) (by decide) (by rfl) (by decide) (by rfl) ?_))
  k_with "eval ListComp Name cons" => (k_here; k_dflt (refine Mine.ListComp_L (ct := none) (_F₀ := by k_asm) (by with_unfolding_all rfl) (by decide) (by rfl) (by decide) (by rfl) ?_))
  k_with "eval ListComp Name cons" => (k_here; k_dflt (refine Mine.ListComp_L (ct := some _) (_F₀ := by k_asm) (by with_unfolding_all rfl) (by decide) (by rfl) (by decide) (by rfl) ?_))
  k_with "eval ListComp ListComp cons" => (k_here; k_dflt (refine Mine.ListComp_C (_F₀ := by k_asm) (by with_unfolding_all rfl) (fun _ => rfl) (fun _ => rfl) (by rfl) (by rfl) (by decide) ?_))
  k_with "SrcM" => (k_here; k_dflt (first
  | (refine Mine.SrcM.range 4 (by rfl) (by k_asm) (by k_asm) (by assumption) (by first | decide | rfl) (by first | rfl | decide) (by exact Nat.le_of_ble_eq_true rfl) ?_; intro g'; (try dsimp only))
  | (refine Mine.SrcM.range 3 (by rfl) (by k_asm) (by k_asm) (by assumption) (by first | decide | rfl) (by first | rfl | decide) (by exact Nat.le_of_ble_eq_true rfl) ?_; intro g'; (try dsimp only))
  | (refine Mine.SrcM.ledger 3 (by rfl) (by k_asm) (by k_asm) (by k_mem) (by rfl) (by exact Nat.le_of_ble_eq_true rfl) ?_; intro g'; (try dsimp only))))
  k_with "LRest" => (with_unfolding_all first
  | (refine Mine.LRest.turn ?_; intro v' I' oI' C' oC' D' m' h' tk' E' hv' hC' hx' F' N' lie'; (first | lcg_open hv' | (obtain ⟨t9', hv9'⟩ := hv'; subst hv9')); (try simp only [List.nil_append, List.cons_append] at N'))
  | (refine Mine.LRest.test ?_; intro v' I' oI' C' oC' D' m' h' tk' E' hv' hC' hx' F' N' lie'; (first | lcg_open hv' | (obtain ⟨t9', hv9'⟩ := hv'; subst hv9')); (try simp only [List.nil_append, List.cons_append] at N'))
  | refine Mine.LRest.zero ?_)
  k_with "CRest" => (with_unfolding_all first
  | (refine Mine.CRest.turn ?_; intro v' I' oI' C' X' oX' D' h' tk' E' hv' hdX' F' N' lie'; (first | lcg_open hv' | (obtain ⟨t9', hv9'⟩ := hv'; subst hv9')); (try simp only [List.nil_append, List.cons_append] at N'))
  | refine Mine.CRest.zero ?_)
  k_with "LEnd" => (k_dflt (first
  | refine Mine.LEnd.push0 (by k_asm) (by k_asm) (by k_asm) ?_
  | refine Mine.LEnd.push1 (by k_asm) (by k_asm) (by k_asm) (by omega) ?_))
  k_with "FinV" => ((unfold Mine.FinV); intro D' h' tk' F' N' nlt' abv'; (k_lt nlt'); (try simp only [List.forall_mem_cons, List.forall_mem_nil, and_true] at abv'); (try simp only [List.nil_append, List.cons_append] at N'); (try dsimp only))
  k_with "FinB" => ((unfold Mine.FinB); intro D' h' tk' F' N' nlt' abv'; (k_lt nlt'); (try simp only [List.forall_mem_cons, List.forall_mem_nil, and_true] at abv'); (try simp only [List.nil_append, List.cons_append] at N'); (try dsimp only))
  k_with "mine_map" => ((repeat (refine (if_neg (by decide)).trans ?_)); first | exact if_pos rfl | assumption | exact rfl)
  k_with "eval Name" => (k_here; k_dflt (refine' nameX_L ?v15F ?v15v ?_ ?v15a ?v15b; (case v15a => rfl); (case v15b => rfl); (case v15F => k_asm); (case v15v => k_extra "mine_map"); k_whole))
  k_with "subscriptTail Name BinOp ref int" => (k_here; k_dflt (refine' Mine.item_refs ?v16N ?v16m ?v16a ?v16b ?_ ?v16s; (case v16N => k_asm); (case v16m => k_mem); (case v16a => omega); (case v16b => omega); (case v16s => with_unfolding_all rfl); k_whole); intro i' hi')
  k_with "binaryOp Mod int int" => (k_here; (with_reducible refine' Mine.mod4 ?_); intro x' hx0' hx4')
  k_with "subscriptTail Name Name ref int" => (k_here; k_dflt (refine' Mine.item_row ?v18N ?v18ha ?v18m0 ?v18m1 ?v18m2 ?v18m3 ?v18a ?v18b ?_ ?v18s; (case v18N => k_asm); (case v18m0 => k_mem); (case v18m1 => k_mem); (case v18m2 => k_mem); (case v18m3 => k_mem); (case v18ha => omega); (case v18a => omega); (case v18b => omega); (case v18s => with_unfolding_all rfl); k_whole))
  k_with "setItem ref int" => (k_here; k_dflt (refine' Mine.store_row ?v19F ?v19N ?v19f ?v19ha ?v19a ?v19b ?_; (case v19F => k_asm); (case v19N => k_asm); (case v19f => assumption); (case v19ha => omega); (case v19a => omega); (case v19b => omega); k_whole); intro h' F' N')
  k_with "loadName" => (k_here; k_dflt (refine' wpAny_loadName_local ?v20a ?v20b ?v20c ?v20v ?_; (case v20a => rfl); (case v20b => rfl); (case v20c => exact Fr.ns (by k_asm)); (case v20v => k_extra "mine_map"); k_whole))
  k_with "exec While" => (k_here; k_dflt (refine' Mine.while_sq ?v21a ?v21b ?v21F ?v21N ?v21h1 ?v21h2 ?v21h3 ?v21h4 ?v21h5 ?v21d1 ?v21d2 ?v21d3 ?_ ?v21hE; (case v21hE => first | assumption | passes_own); (case v21F => k_asm); (case v21N => k_asm); (case v21h1 => k_extra "mine_map"); (case v21h2 => k_extra "mine_map"); (case v21h3 => k_extra "mine_map"); (case v21h4 => k_extra "mine_map"); (case v21h5 => k_extra "mine_map"); (case v21d1 => assumption); (case v21d2 => assumption); (case v21d3 => assumption); (case v21a => omega); (case v21b => omega); k_whole))
  k_with "LRest" => (k_dflt (refine' Mine.LRest.one ?v22o ?v22turn ?v22fin; (case v22o => assumption)); (case' v22fin => (intro y' hy'; (try (obtain ⟨t8', hy8'⟩ := hy'; subst hy8')))); (case' v22turn => (intro i' v' I' oI' C' oC' D' m' h' tk' E' ys' hi' hv' hC' hx' F' N' lie'; (first | (obtain ⟨t9', hv9'⟩ := hv'; subst hv9') | skip))))
  k_with "mine_hit" => (first | (refine' Mine.hit_yes ?v23hit ?v23hi ?v23h0 ?v23a ?v23b; (case v23hit => assumption); (case v23hi => assumption); (case v23h0 => assumption); (case v23a => assumption); (case v23b => assumption)) | (refine' Mine.hit_no1 ?v23hit ?v23hi ?v23a; (case v23hit => assumption); (case v23hi => assumption); (case v23a => assumption)) | (refine' Mine.hit_no2 ?v23hit ?v23hi ?v23a; (case v23hit => assumption); (case v23hi => assumption); (case v23a => assumption)))
  k_with "HitPost" => (k_dflt (first | (refine Mine.HitPost.yes' ?v24hh ?_; (case v24hh => k_extra "mine_hit"); intro hh'; (try subst hh')) | (refine Mine.HitPost.no ?v24hh ?_; (case v24hh => k_extra "mine_hit"))))
  k_with "WhileStep2" => (k_dflt (first
  | (refine' Mine.jw_next ?v25F ?v25N ?v25h1 ?v25h2 ?v25h3 ?v25h4 ?v25hb ?v25h5 ?v25d1 ?v25d2 ?v25d3 ?v25hn ?v25C ?v25e; (case v25F => k_asm); (case v25N => k_asm); (case v25C => assumption); (case v25e => assumption); (case v25h1 => k_extra "mine_map"); (case v25h2 => k_extra "mine_map"); (case v25h3 => k_extra "mine_map"); (case v25h4 => k_extra "mine_map"); (case v25h5 => k_extra "mine_map"); (case v25hb => first | assumption | rfl); (case v25d1 => assumption); (case v25d2 => assumption); (case v25d3 => assumption); (case v25hn => omega))
  | (refine' Mine.jw_last ?v25F ?v25N ?v25h1 ?v25h2 ?v25h3 ?v25h4 ?v25hb ?v25h5 ?v25d1 ?v25d2 ?v25d3 ?v25hn ?v25C; (case v25F => k_asm); (case v25N => k_asm); (case v25C => assumption); (case v25h1 => k_extra "mine_map"); (case v25h2 => k_extra "mine_map"); (case v25h3 => k_extra "mine_map"); (case v25h4 => k_extra "mine_map"); (case v25h5 => k_extra "mine_map"); (case v25hb => first | assumption | rfl); (case v25d1 => assumption); (case v25d2 => assumption); (case v25d3 => assumption); (case v25hn => omega))))
  k_with "UnrEnd" => (k_dflt (refine' Mine.jf_end ?v26F ?v26N ?v26h1 ?v26h2 ?v26d1 ?v26d2 ?v26d3 ?v26C ?v26lb ?v26lD ?v26l0 ?v26lI; (case v26F => k_asm); (case v26N => k_asm); (case v26C => assumption); (case v26h1 => k_extra "mine_map"); (case v26h2 => k_extra "mine_map"); (case v26d1 => assumption); (case v26d2 => assumption); (case v26d3 => assumption); (case v26lb => assumption); (case v26lD => assumption); (case v26l0 => assumption); (case v26lI => assumption)))
  k_with "subscriptTail Constant str Name str int" => (k_here; k_dflt (refine' Mine.abcd_item ?v27a ?v27b ?_ ?v27s ?v27t; (case v27a => omega); (case v27b => omega); (case v27s => with_unfolding_all rfl); (case v27t => (intro _; with_unfolding_all rfl)); k_whole))
  k_with "subscriptTail Constant str Subscript str int" => (k_here; k_dflt (refine' Mine.abcd_item ?v28a ?v28b ?_ ?v28s ?v28t; (case v28a => first | omega | k_extra "mine_lat"); (case v28b => first | omega | k_extra "mine_lat"); (case v28s => with_unfolding_all rfl); (case v28t => (intro _; with_unfolding_all rfl)); k_whole))
  k_with "mine_lat" => (first | exact Lat.lo (by assumption) _ _ (by omega) (by omega) | exact Lat.hi (by assumption) _ _ (by omega) (by omega))
  k_with "binaryOp Add str str" => (k_here; (first | with_reducible refine' Mine.cat_1 ?_ | with_reducible refine' Mine.cat_2 ?_); intro t' tk')
  k_with "subscriptTail Name Name ref int" => (k_here; k_dflt (refine' Mine.item_refsX ?v31N ?v31m ?v31a ?v31b ?_ ?v31s; (case v31N => k_asm); (case v31m => k_mem); (case v31a => omega); (case v31b => omega); (case v31s => with_unfolding_all rfl); k_whole))
  k_with "subscriptTail Name Name ref int" => (k_here; k_dflt (refine' Mine.item_row ?v32N ?v32ha ?v32m0 ?v32m1 ?v32m2 ?v32m3 ?v32a ?v32b ?_ ?v32s; (case v32N => k_asm); (case v32m0 => k_mem); (case v32m1 => k_mem); (case v32m2 => k_mem); (case v32m3 => k_mem); (case v32ha => omega); (case v32a => omega); (case v32b => omega); (case v32s => with_unfolding_all rfl); k_whole))
  k_with "subscriptTail Subscript Name Name Name ref int" => (k_here; k_dflt (refine' Mine.item_row ?v33N ?v33ha ?v33m0 ?v33m1 ?v33m2 ?v33m3 ?v33a ?v33b ?_ ?v33s; (case v33N => k_asm); (case v33m0 => k_mem); (case v33m1 => k_mem); (case v33m2 => k_mem); (case v33m3 => k_mem); (case v33ha => omega); (case v33a => omega); (case v33b => omega); (case v33s => with_unfolding_all rfl); k_whole))
  k_with "call builtin:list.append cons nil" => (k_here; k_dflt (refine' Mine.append_w ?v34F ?v34N ?v34f ?v34n ?v34x ?_; (case v34F => k_asm); (case v34N => k_asm); (case v34f => assumption); (case v34n => omega); (case v34x => assumption); k_whole); intro h' F' N')
  k_with "compareOp NotIn str str" => (k_here; refine' Mine.notin_dots ?v35a ?_; (case v35a => assumption); k_whole)
  k_with "call builtin:str.split cons nil" => (k_here; k_dflt (refine' Mine.split_dots ?v36a ?v36F ?v36N ?_; (case v36a => assumption); (case v36F => k_asm); (case v36N => k_asm); k_whole); intro D' t1' t2' h' tk' F' N' l1; (try k_lt l1))
  k_with "call builtin:str.startswith cons nil" => (k_here; refine' Mine.starts_is ?v37a ?_; (case v37a => assumption); k_whole)
  k_with "call builtin:str.endswith cons nil" => (k_here; refine' Mine.ends_is ?v38a ?_; (case v38a => assumption); k_whole)
  k_with "call builtin:str.find cons nil" => (k_here; refine' Mine.find_is ?v39a ?_; (case v39a => assumption); k_whole)
  k_with "truthy str" => (k_here; refine' Mine.truthy_len ?v40a ?v40b ?_; (case v40a => assumption); (case v40b => decide); k_whole)
  k_with "call builtin:len cons nil" => (k_here; refine' Mine.len_is ?v41a ?v41b ?_; (case v41a => first | assumption | exact (by decide : Str.empty.length = 0)); (case v41b => decide); k_whole)
  k_with "exec For Name Name cons nil" => (k_here; k_dflt (refine' For_turns ?v42F ?_; (case v42F => k_asm); k_whole))
  k_with "pyIter ref" => (k_here; k_dflt (refine' iter_listTurns ?v43a ?v43F ?v43N ?v43m ?v43c ?v43d ?_; (case v43a => rfl); (case v43F => k_asm); (case v43N => k_asm); (case v43m => k_mem); (case v43c => rfl); (case v43d => with_unfolding_all rfl); k_whole); intro i' l1; (try k_lt l1))
  k_with "UnrEndW" => (k_here; k_dflt (refine' Mine.endW ?v44F ?v44N ?v44off ⟨?v44sub, ?_⟩; (case v44F => k_asm); (case v44N => k_asm); (case v44off => assumption); (case v44sub => k_subL); k_whole))
  trivial
theorem linesr : True := by
  k_with "call builtin:max cons nil" => (k_here; k_dflt (refine' Mine.max_is hM ?wh9 ?wF9 ?wN9 ?_; (case wh9 => exact rfl); (case wF9 => k_asm); (case wN9 => k_asm); k_whole); intro h' tk' t' F' N')
  k_with "call builtin:min cons nil" => (k_here; k_dflt (refine' Mine.min_is3 hm ?wh9 ?wF9 ?wN9 ?_; (case wh9 => exact rfl); (case wF9 => k_asm); (case wN9 => k_asm); k_whole); intro h' tk' t' F' N')
  k_with "compareOp Eq float float" => (k_here; refine' Mine.feq_is hb ?_)
  trivial
/-- a tuple of three floats, new, ahead of the ledger -/
noncomputable def flPost (R : UInt64 → UInt64 → UInt64 → Prop) (news : List (Addr × Obj)) (v : Value) (h₀ h' : Heap) (L : Addr) (m : Str → Option Value) : Prop :=
  Fr h₀ L h' m ∧ ∃ (T : Addr) (a b c : UInt64) (t u x : Tok), v = .ref T ∧ R a b c ∧ (∀ p ∈ news, @LT.lt Nat _ p.1 T) ∧ News h₀ L h' ((T, { cls := .type "tuple", data := .seq #[.float a t, .float b u, .float c x] }) :: news)
section
variable {prog : Program} {w : World} {A : Around} {E : Value → Shared → Prop} {s : Shared} {h₀ : Heap} {L : Addr} {m : Str → Option Value} {news : List (Addr × Obj)} {x y z M : UInt64} {t u v : Tok} {Q : Value → Shared → Prop}
/-- what a statement leaves: the frame with one more float -/
noncomputable def FlNext (h₀ : Heap) (L : Addr) (m : Str → Option Value) (news : List (Addr × Obj)) (x : Str) (s : Shared) (f : Flow) (s' : Shared) : Prop :=
  f = .next ∧ ∃ h' tk z t, s' = { s with heap := h', toks := tk } ∧ Fr h₀ L h' (fun y => if y = x then some (.float z t) else m y) ∧ News h₀ L h' news
theorem join_h {T : Sem Flow} {x : Str} {Q : Flow → Shared → Prop} (_F : Fr h₀ L s.heap m) (_N : News h₀ L s.heap news) (h : wpAny (model prog w) A T (FlNext h₀ L m news x s) E s)
    (k : ∀ h' tk z t, Fr h₀ L h' (fun y => if y = x then some (.float z t) else m y) → News h₀ L h' news → Q .next { s with heap := h', toks := tk }) : wpAny (model prog w) A T Q E s :=
  wpAny_mono h (fun f s' ⟨e, h', tk, z, t, e', F', N'⟩ => by subst e e'; exact k h' tk z t F' N') fun _ _ e => e
theorem max_is (e : mx3 x y z = M) (hh : A.handled = none) (F : Fr h₀ L s.heap m) (N : News h₀ L s.heap news)
    (h : ∀ h' tk v, Fr h₀ L h' m → News h₀ L h' news → Q (.float M v) { s with heap := h', toks := tk }) :
    wpAny (model prog w) A (call (.builtin "max") [.float x t, .float y u, .float z v]) Q E s := max_three_ff hh F N (e ▸ h)
theorem min_is3 (e : mn3 x y z = M) (hh : A.handled = none) (F : Fr h₀ L s.heap m) (N : News h₀ L s.heap news)
    (h : ∀ h' tk v, Fr h₀ L h' m → News h₀ L h' news → Q (.float M v) { s with heap := h', toks := tk }) :
    wpAny (model prog w) A (call (.builtin "min") [.float x t, .float y u, .float z v]) Q E s := min_three_ff hh F N (e ▸ h)
theorem feq_is {b : Bool} (e : (Float64.cmp x y == some .eq) = b) (h : Q (.bool b) s) : wpAny (model prog w) A (compareOp .Eq (.float x t) (.float y u)) Q E s := by
  subst e
  with_reducible refine AutoFloatOps.eq_0 ?_
  exact h
end
theorem rgb_ok (w : World) {p : Program} {loose : List Str} {mean : ExcName → Option Value} {mg mb : Str → Option Value} {news : List (Addr × Obj)} {r g b M mn : UInt64} {b0 : Bool} {t u v : Tok}
   (hM : mx3 r g b = M) (hm : mn3 r g b = mn) (hb : (Float64.cmp mn M == some .eq) = b0) (hz1 : b0 = false → Float64.isZero M = false) (hz2 : b0 = false → Float64.isZero (Float64.sub M mn) = false) :
   Tells w p loose mean mg mb 21 [.float r t, .float g u, .float b v] news 1 8 (flPost (fun _ y z => y = (if b0 then 0 else Float64.div (Float64.sub M mn) M) ∧ z = M) news) := by
  intro dp un gd cn cs a ccd cl outer A₀ bs h₀ L m s Q E B F X N T hk hd hu hret
  refine wpAny_call ?_
  k_dflt cell_enter
  cases b0
  · have hz1' := hz1 rfl
    have hz2' := hz2 rfl
    clear hz1 hz2
    iterate 94 (first | (k_unfold; (try dsimp only)) | walk1 | (dsimp only; walk1))
    refine join_h (x := Str.ofString "h") (by k_asm) (by k_asm) ?_ ?_
    · k_steps
      all_goals exact ⟨rfl, _, _, _, _, rfl, by k_asm, by k_asm⟩
    · intro h9 tk9 z9 t9 F9 N9
      k_steps
      refine hret _ _ _ ⟨by k_asm, _, _, _, _, _, _, _, rfl, ⟨rfl, rfl⟩, by assumption, by k_asm⟩
  · clear hz1 hz2
    k_steps
    refine hret _ _ _ ⟨by k_asm, _, _, _, _, _, _, _, rfl, ⟨rfl, rfl⟩, by assumption, by k_asm⟩
end
section
open PySem PySem.Spec PySem.Calls PySem.W PyProof.Rows PyProof.Rows.LCg
theorem walkH1 : True := by
  k_with_none
  k_with "enterC" => (k_dflt (refine' code_defC ?wek1 ?wek2 ?wek3 ?wek4 ?wek5 ?wekA ?wekF ?wekK ?wek6 ?wek7 ?wek8 ?wek9 ?wekB ?wekD ?_ ?wec2 ?wec3 ?wec4; (case wekA => exact rfl); (case wekF => exact rfl); (case wekK => assumption); (case wek1 => k_asm); (case wek2 => k_asm); (case wek3 => k_asm); (case wek4 => k_asm); (case wek5 => k_asm); (case wek6 => k_is); (case wek7 => k_is); (case wek8 => ktr_room); (case wek9 => exact BindsTo.of_eq rfl); (case wekB => exact rfl); (case wekD => decide +kernel); (case wec2 => exact rfl); (case wec3 => exact rfl); (case wec4 => exact rfl); k_whole; intro g' L' h' tk' cells' FG' F' N' Y' B' X' T' l1; (try k_lt l1); k_cells Y'; (try simp only [List.cons_append, List.nil_append] at N'); (try dsimp only); (try k_lift B'); (try k_fold)))
  k_with "exec Assign cons ListComp" => (k_here; k_dflt (first
  | refine Mine.Assign_C (_F₀ := by k_asm) (by rfl) (by with_unfolding_all rfl) (by with_unfolding_all rfl) (fun _ => rfl) (fun _ => rfl) (by rfl) (by rfl) (by decide) (by rfl) (by rfl) ?_
  | refine Mine.Assign_L (ct := none) (_F₀ := by k_asm) (by rfl) (by with_unfolding_all rfl) (by with_unfolding_all rfl) (by decide) (by rfl) (by decide) (by rfl) (by rfl) (by rfl) ?_
  | refine Mine.Assign_L (ct := some _) (_F₀ := by k_asm) (by rfl) (by with_unfolding_all rfl) (by with_unfolding_all rfl) (by decide) (by rfl) (by decide) (by rfl) (by rfl) (by rfl) ?_))
  k_with "eval ListComp BinOp cons" => (k_here; k_dflt (refine Mine.ListComp_L (ct := none) (_F₀ := by k_asm) (by with_unfolding_all rfl) (by decide) (by rfl) (by decide) (by rfl) ?_))
  k_with "eval ListComp Call cons" => (k_here; k_dflt (refine Mine.ListComp_L (ct := none) (_F₀ := by k_asm) (by with_unfolding_all rfl) (by decide) (by rfl) (by decide) (by rfl) ?_))
  k_with "eval ListComp Subscript cons" => (k_here; k_dflt (refine Mine.ListComp_L (ct := none) (_F₀ := by k_asm) (by with_unfolding_all rfl) (by decide) (by rfl) (by decide) (by rfl) ?_))
  k_with "eval ListComp Name cons" => (k_here; k_dflt (refine Mine.ListComp_L (ct := none) (_F₀ := by k_asm) (by with_unfolding_all rfl) (by decide) (by rfl) (by decide) (by rfl) ?_))
  k_with "eval ListComp Name cons" => (k_here; k_dflt (refine Mine.ListComp_L (ct := some _) (_F₀ := by k_asm) (by with_unfolding_all rfl) (by decide) (by rfl) (by decide) (by rfl) ?_))
  k_with "eval ListComp ListComp cons" => (k_here; k_dflt (refine Mine.ListComp_C (_F₀ := by k_asm) (by with_unfolding_all rfl) (fun _ => rfl) (fun _ => rfl) (by rfl) (by rfl) (by decide) ?_))
  k_with "SrcM" => (k_here; k_dflt (first
  | (refine Mine.SrcM.range 4 (by rfl) (by k_asm) (by k_asm) (by assumption) (by first | decide | rfl) (by first | rfl | decide) (by exact Nat.le_of_ble_eq_true rfl) ?_; intro g'; (try dsimp only))
  | (refine Mine.SrcM.range 3 (by rfl) (by k_asm) (by k_asm) (by assumption) (by first | decide | rfl) (by first | rfl | decide) (by exact Nat.le_of_ble_eq_true rfl) ?_; intro g'; (try dsimp only))
  | (refine Mine.SrcM.ledger 3 (by rfl) (by k_asm) (by k_asm) (by k_mem) (by rfl) (by exact Nat.le_of_ble_eq_true rfl) ?_; intro g'; (try dsimp only))))
  k_with "LRest" => (with_unfolding_all first
  | (refine Mine.LRest.turn ?_; intro v' I' oI' C' oC' D' m' h' tk' E' hv' hC' hx' F' N' lie'; (first | lcg_open hv' | (obtain ⟨t9', hv9'⟩ := hv'; subst hv9')); (try simp only [List.nil_append, List.cons_append] at N'))
  | (refine Mine.LRest.test ?_; intro v' I' oI' C' oC' D' m' h' tk' E' hv' hC' hx' F' N' lie'; (first | lcg_open hv' | (obtain ⟨t9', hv9'⟩ := hv'; subst hv9')); (try simp only [List.nil_append, List.cons_append] at N'))
  | refine Mine.LRest.zero ?_)
  k_with "CRest" => (with_unfolding_all first
  | (refine Mine.CRest.turn ?_; intro v' I' oI' C' X' oX' D' h' tk' E' hv' hdX' F' N' lie'; (first | lcg_open hv' | (obtain ⟨t9', hv9'⟩ := hv'; subst hv9')); (try simp only [List.nil_append, List.cons_append] at N'))
  | refine Mine.CRest.zero ?_)
  k_with "LEnd" => (k_dflt (first
  | refine Mine.LEnd.push0 (by k_asm) (by k_asm) (by k_asm) ?_
  | refine Mine.LEnd.push1 (by k_asm) (by k_asm) (by k_asm) (by omega) ?_))
  k_with "FinV" => ((unfold Mine.FinV); intro D' h' tk' F' N' nlt' abv'; (k_lt nlt'); (try simp only [List.forall_mem_cons, List.forall_mem_nil, and_true] at abv'); (try simp only [List.nil_append, List.cons_append] at N'); (try dsimp only))
  k_with "FinB" => ((unfold Mine.FinB); intro D' h' tk' F' N' nlt' abv'; (k_lt nlt'); (try simp only [List.forall_mem_cons, List.forall_mem_nil, and_true] at abv'); (try simp only [List.nil_append, List.cons_append] at N'); (try dsimp only))
  k_with "mine_map" => ((repeat (refine (if_neg (by decide)).trans ?_)); first | exact if_pos rfl | assumption | exact rfl)
  k_with "eval Name" => (k_here; k_dflt (refine' nameX_L ?v15F ?v15v ?_ ?v15a ?v15b; (case v15a => rfl); (case v15b => rfl); (case v15F => k_asm); (case v15v => k_extra "mine_map"); k_whole))
  k_with "subscriptTail Name BinOp ref int" => (k_here; k_dflt (refine' Mine.item_refs ?v16N ?v16m ?v16a ?v16b ?_ ?v16s; (case v16N => k_asm); (case v16m => k_mem); (case v16a => omega); (case v16b => omega); (case v16s => with_unfolding_all rfl); k_whole); intro i' hi')
  k_with "binaryOp Mod int int" => (k_here; (with_reducible refine' Mine.mod4 ?_); intro x' hx0' hx4')
  k_with "subscriptTail Name Name ref int" => (k_here; k_dflt (refine' Mine.item_row ?v18N ?v18ha ?v18m0 ?v18m1 ?v18m2 ?v18m3 ?v18a ?v18b ?_ ?v18s; (case v18N => k_asm); (case v18m0 => k_mem); (case v18m1 => k_mem); (case v18m2 => k_mem); (case v18m3 => k_mem); (case v18ha => omega); (case v18a => omega); (case v18b => omega); (case v18s => with_unfolding_all rfl); k_whole))
  k_with "setItem ref int" => (k_here; k_dflt (refine' Mine.store_row ?v19F ?v19N ?v19f ?v19ha ?v19a ?v19b ?_; (case v19F => k_asm); (case v19N => k_asm); (case v19f => assumption); (case v19ha => omega); (case v19a => omega); (case v19b => omega); k_whole); intro h' F' N')
  k_with "loadName" => (k_here; k_dflt (refine' wpAny_loadName_local ?v20a ?v20b ?v20c ?v20v ?_; (case v20a => rfl); (case v20b => rfl); (case v20c => exact Fr.ns (by k_asm)); (case v20v => k_extra "mine_map"); k_whole))
  k_with "exec While" => (k_here; k_dflt (refine' Mine.while_sq ?v21a ?v21b ?v21F ?v21N ?v21h1 ?v21h2 ?v21h3 ?v21h4 ?v21h5 ?v21d1 ?v21d2 ?v21d3 ?_ ?v21hE; (case v21hE => first | assumption | passes_own); (case v21F => k_asm); (case v21N => k_asm); (case v21h1 => k_extra "mine_map"); (case v21h2 => k_extra "mine_map"); (case v21h3 => k_extra "mine_map"); (case v21h4 => k_extra "mine_map"); (case v21h5 => k_extra "mine_map"); (case v21d1 => assumption); (case v21d2 => assumption); (case v21d3 => assumption); (case v21a => omega); (case v21b => omega); k_whole))
  k_with "LRest" => (k_dflt (refine' Mine.LRest.one ?v22o ?v22turn ?v22fin; (case v22o => assumption)); (case' v22fin => (intro y' hy'; (try (obtain ⟨t8', hy8'⟩ := hy'; subst hy8')))); (case' v22turn => (intro i' v' I' oI' C' oC' D' m' h' tk' E' ys' hi' hv' hC' hx' F' N' lie'; (first | (obtain ⟨t9', hv9'⟩ := hv'; subst hv9') | skip))))
  k_with "mine_hit" => (first | (refine' Mine.hit_yes ?v23hit ?v23hi ?v23h0 ?v23a ?v23b; (case v23hit => assumption); (case v23hi => assumption); (case v23h0 => assumption); (case v23a => assumption); (case v23b => assumption)) | (refine' Mine.hit_no1 ?v23hit ?v23hi ?v23a; (case v23hit => assumption); (case v23hi => assumption); (case v23a => assumption)) | (refine' Mine.hit_no2 ?v23hit ?v23hi ?v23a; (case v23hit => assumption); (case v23hi => assumption); (case v23a => assumption)))
  k_with "HitPost" => (k_dflt (first | (refine Mine.HitPost.yes' ?v24hh ?_; (case v24hh => k_extra "mine_hit"); intro hh'; (try subst hh')) | (refine Mine.HitPost.no ?v24hh ?_; (case v24hh => k_extra "mine_hit"))))
  k_with "WhileStep2" => (k_dflt (first
  | (refine' Mine.jw_next ?v25F ?v25N ?v25h1 ?v25h2 ?v25h3 ?v25h4 ?v25hb ?v25h5 ?v25d1 ?v25d2 ?v25d3 ?v25hn ?v25C ?v25e; (case v25F => k_asm); (case v25N => k_asm); (case v25C => assumption); (case v25e => assumption); (case v25h1 => k_extra "mine_map"); (case v25h2 => k_extra "mine_map"); (case v25h3 => k_extra "mine_map"); (case v25h4 => k_extra "mine_map"); (case v25h5 => k_extra "mine_map"); (case v25hb => first | assumption | rfl); (case v25d1 => assumption); (case v25d2 => assumption); (case v25d3 => assumption); (case v25hn => omega))
  | (refine' Mine.jw_last ?v25F ?v25N ?v25h1 ?v25h2 ?v25h3 ?v25h4 ?v25hb ?v25h5 ?v25d1 ?v25d2 ?v25d3 ?v25hn ?v25C; (case v25F => k_asm); (case v25N => k_asm); (case v25C => assumption); (case v25h1 => k_extra "mine_map"); (case v25h2 => k_extra "mine_map"); (case v25h3 => k_extra "mine_map"); (case v25h4 => k_extra "mine_map"); (case v25h5 => k_extra "mine_map"); (case v25hb => first | assumption | rfl); (case v25d1 => assumption); (case v25d2 => assumption); (case v25d3 => assumption); (case v25hn => omega))))
  k_with "UnrEnd" => (k_dflt (refine' Mine.jf_end ?v26F ?v26N ?v26h1 ?v26h2 ?v26d1 ?v26d2 ?v26d3 ?v26C ?v26lb ?v26lD ?v26l0 ?v26lI; (case v26F => k_asm); (case v26N => k_asm); (case v26C => assumption); (case v26h1 => k_extra "mine_map"); (case v26h2 => k_extra "mine_map"); (case v26d1 => assumption); (case v26d2 => assumption); (case v26d3 => assumption); (case v26lb => assumption); (case v26lD => assumption); (case v26l0 => assumption); (case v26lI => assumption)))
  k_with "subscriptTail Constant str Name str int" => (k_here; k_dflt (refine' Mine.abcd_item ?v27a ?v27b ?_ ?v27s ?v27t; (case v27a => omega); (case v27b => omega); (case v27s => with_unfolding_all rfl); (case v27t => (intro _; with_unfolding_all rfl)); k_whole))
  k_with "subscriptTail Constant str Subscript str int" => (k_here; k_dflt (refine' Mine.abcd_item ?v28a ?v28b ?_ ?v28s ?v28t; (case v28a => first | omega | k_extra "mine_lat"); (case v28b => first | omega | k_extra "mine_lat"); (case v28s => with_unfolding_all rfl); (case v28t => (intro _; with_unfolding_all rfl)); k_whole))
  k_with "mine_lat" => (first | exact Lat.lo (by assumption) _ _ (by omega) (by omega) | exact Lat.hi (by assumption) _ _ (by omega) (by omega))
  k_with "binaryOp Add str str" => (k_here; (first | with_reducible refine' Mine.cat_1 ?_ | with_reducible refine' Mine.cat_2 ?_); intro t' tk')
  k_with "subscriptTail Name Name ref int" => (k_here; k_dflt (refine' Mine.item_refsX ?v31N ?v31m ?v31a ?v31b ?_ ?v31s; (case v31N => k_asm); (case v31m => k_mem); (case v31a => omega); (case v31b => omega); (case v31s => with_unfolding_all rfl); k_whole))
  k_with "subscriptTail Name Name ref int" => (k_here; k_dflt (refine' Mine.item_row ?v32N ?v32ha ?v32m0 ?v32m1 ?v32m2 ?v32m3 ?v32a ?v32b ?_ ?v32s; (case v32N => k_asm); (case v32m0 => k_mem); (case v32m1 => k_mem); (case v32m2 => k_mem); (case v32m3 => k_mem); (case v32ha => omega); (case v32a => omega); (case v32b => omega); (case v32s => with_unfolding_all rfl); k_whole))
  k_with "subscriptTail Subscript Name Name Name ref int" => (k_here; k_dflt (refine' Mine.item_row ?v33N ?v33ha ?v33m0 ?v33m1 ?v33m2 ?v33m3 ?v33a ?v33b ?_ ?v33s; (case v33N => k_asm); (case v33m0 => k_mem); (case v33m1 => k_mem); (case v33m2 => k_mem); (case v33m3 => k_mem); (case v33ha => omega); (case v33a => omega); (case v33b => omega); (case v33s => with_unfolding_all rfl); k_whole))
  k_with "call builtin:list.append cons nil" => (k_here; k_dflt (refine' Mine.append_w ?v34F ?v34N ?v34f ?v34n ?v34x ?_; (case v34F => k_asm); (case v34N => k_asm); (case v34f => assumption); (case v34n => omega); (case v34x => assumption); k_whole); intro h' F' N')
  k_with "compareOp NotIn str str" => (k_here; refine' Mine.notin_dots ?v35a ?_; (case v35a => assumption); k_whole)
  k_with "call builtin:str.split cons nil" => (k_here; k_dflt (refine' Mine.split_dots ?v36a ?v36F ?v36N ?_; (case v36a => assumption); (case v36F => k_asm); (case v36N => k_asm); k_whole); intro D' t1' t2' h' tk' F' N' l1; (try k_lt l1))
  k_with "call builtin:str.startswith cons nil" => (k_here; refine' Mine.starts_is ?v37a ?_; (case v37a => assumption); k_whole)
  k_with "call builtin:str.endswith cons nil" => (k_here; refine' Mine.ends_is ?v38a ?_; (case v38a => assumption); k_whole)
  k_with "call builtin:str.find cons nil" => (k_here; refine' Mine.find_is ?v39a ?_; (case v39a => assumption); k_whole)
  k_with "truthy str" => (k_here; refine' Mine.truthy_len ?v40a ?v40b ?_; (case v40a => assumption); (case v40b => decide); k_whole)
  k_with "call builtin:len cons nil" => (k_here; refine' Mine.len_is ?v41a ?v41b ?_; (case v41a => first | assumption | exact (by decide : Str.empty.length = 0)); (case v41b => decide); k_whole)
  k_with "exec For Name Name cons nil" => (k_here; k_dflt (refine' For_turns ?v42F ?_; (case v42F => k_asm); k_whole))
  k_with "pyIter ref" => (k_here; k_dflt (refine' iter_listTurns ?v43a ?v43F ?v43N ?v43m ?v43c ?v43d ?_; (case v43a => rfl); (case v43F => k_asm); (case v43N => k_asm); (case v43m => k_mem); (case v43c => rfl); (case v43d => with_unfolding_all rfl); k_whole); intro i' l1; (try k_lt l1))
  k_with "UnrEndW" => (k_here; k_dflt (refine' Mine.endW ?v44F ?v44N ?v44off ⟨?v44sub, ?_⟩; (case v44F => k_asm); (case v44N => k_asm); (case v44off => assumption); (case v44sub => k_subL); k_whole))
  trivial
section
variable {prog : Program} {w : World} {A : Around} {E : Value → Shared → Prop} {s : Shared} {h₀ : Heap} {L : Addr} {m : Str → Option Value} {news : List (Addr × Obj)} {x y z M : UInt64} {t u v : Tok} {Q : Value → Shared → Prop}
theorem int_is {i : Int} (hA : A.handled = none) (hf : Float64.isFinite x = true) (hi : Flt.toInt Float64.truncOf x = i) (h : Q (.int i s.toks) { s with toks := s.toks + 1 }) : wpAny (model prog w) A (call (.type "int") [.float x t]) Q E s := by
  have no : ∀ {P : Prop}, Float64.isNaN x = true ∨ Float64.isInf x = true → P := fun h => by
    unfold Float64.isNaN Float64.isInf at h
    unfold Float64.isFinite at hf
    cases hd : Float64.decode x <;> simp [hd] at h hf
  refine Flt.call_int_float3 hA (fun c => no (.inl c)) (fun c => no (.inr c)) fun _ => ?_
  rw [hi]; exact h
theorem sub_is {i : Int} (h0 : 0 ≤ i) (h6 : i < 6) (h : Q (.float (Float64.sub x (Float64.ofInt i)) s.toks) { s with toks := s.toks + 1 }) : wpAny (model prog w) A (binaryOp .Sub (.float x t) (.int i u)) Q E s :=
  sub_fi_fits (Nat.lt_of_lt_of_le (show i.natAbs < 6 by omega) (by decide)) h
theorem mod6_is {i : Int} (h0 : 0 ≤ i) (h6 : i < 6) (h : Q (.int i s.toks) { s with toks := s.toks + 1 }) : wpAny (model prog w) A (binaryOp .Mod (.int i t) (.int 6 u)) Q E s :=
  mod_int' (by decide) (by rw [Int.fmod_eq_of_lt h0 h6]; exact h)
end
/-- which of the three heights goes where -/
noncomputable def hsvSel (i : Int) (v t p q : UInt64) : UInt64 × UInt64 × UInt64 :=
  if i = 0 then (v, t, p) else if i = 1 then (q, v, p) else if i = 2 then (p, v, t) else if i = 3 then (p, q, v) else if i = 4 then (t, p, v) else (v, p, q)
theorem linesh : True := by
  k_with "call type:int cons nil" => (k_here; refine' Mine.int_is ?wh9 hfin hi ?_; (case wh9 => exact rfl))
  k_with "binaryOp Sub float int" => (k_here; refine' Mine.sub_is h0 h6 ?_)
  k_with "compareOp Eq float float" => (k_here; refine' Mine.feq_is hb ?_)
  k_with "binaryOp Mod int int" => (k_here; refine' Mine.mod6_is h0 h6 ?_)
  trivial
noncomputable def f1 : UInt64 := 4607182418800017408
noncomputable def f6 : UInt64 := 4618441417868443648
noncomputable def hsvF (h : UInt64) (i : Int) : UInt64 := Float64.sub (Float64.mul h 4618441417868443648) (Float64.ofInt i)
noncomputable def hsvP (s v : UInt64) : UInt64 := Float64.mul v (Float64.sub 4607182418800017408 s)
noncomputable def hsvQ (s v f : UInt64) : UInt64 := Float64.mul v (Float64.sub 4607182418800017408 (Float64.mul s f))
noncomputable def hsvT (s v f : UInt64) : UInt64 := Float64.mul v (Float64.sub 4607182418800017408 (Float64.mul s (Float64.sub 4607182418800017408 f)))
theorem hsv_walk (w : World) {p : Program} {loose : List Str} {mean : ExcName → Option Value} {mg mb : Str → Option Value} {news : List (Addr × Obj)} {h sv vv : UInt64} {i : Int} {t u v : Tok}
   (hb : (Float64.cmp sv 0 == some .eq) = false) (hfin : Float64.isFinite (Float64.mul h 4618441417868443648) = true) (hi : Flt.toInt Float64.truncOf (Float64.mul h 4618441417868443648) = i) (h0 : 0 ≤ i) (h6 : i < 6) :
   Tells w p loose mean mg mb 28 [.float h t, .float sv u, .float vv v] news 1 8 (flPost (fun a b c => (a, b, c) = hsvSel i vv (hsvT sv vv (hsvF h i)) (hsvP sv vv) (hsvQ sv vv (hsvF h i))) news) := by
  intro dp un gd cn cs a ccd cl outer A₀ bs h₀ L m s Q E B F X N T hk hd hu hret
  refine wpAny_call ?_
  k_dflt cell_enter
  iterate 85 (first | (k_unfold; (try dsimp only)) | walk1 | (dsimp only; walk1))
  obtain ⟨m2, F2, e1, e2, e3, e4, e5⟩ : ∃ m2 : Str → Option Value, Fr _ _ _ m2 ∧ (∃ t, m2 (Str.ofString "i") = some (.int i t)) ∧ (∃ t, m2 (Str.ofString "v") = some (.float vv t)) ∧ (∃ t, m2 (Str.ofString "t") = some (.float (hsvT sv vv (hsvF h i)) t)) ∧ (∃ t, m2 (Str.ofString "p") = some (.float (hsvP sv vv) t)) ∧ (∃ t, m2 (Str.ofString "q") = some (.float (hsvQ sv vv (hsvF h i)) t)) :=
    ⟨_, by k_asm, ⟨_, by k_extra "mine_map"⟩, ⟨_, by k_extra "mine_map"⟩, ⟨_, by k_extra "mine_map"⟩, ⟨_, by k_extra "mine_map"⟩, ⟨_, by k_extra "mine_map"⟩⟩
  obtain ⟨t1, e1⟩ := e1
  obtain ⟨t2, e2⟩ := e2
  obtain ⟨t3, e3⟩ := e3
  obtain ⟨t4, e4⟩ := e4
  obtain ⟨t5, e5⟩ := e5
  clear hi hb
  k_steps
  all_goals first
    | (refine' hret _ _ _ ⟨?hF, _, _, _, _, _, _, _, rfl, ?hq, ?hl, ?hN⟩
       case hF => k_asm
       case hN => k_asm
       case hl => assumption
       case hq => simp [hsvSel, *])
    | (exfalso; omega)
/-- the six lights -/
noncomputable def lightB (k : Nat) : UInt64 × UInt64 × UInt64 :=
  match k with
  | 0 => (f1, 0, 0)
  | 1 => (f1, f1, 0)
  | 2 => (0, f1, 0)
  | 3 => (0, f1, f1)
  | 4 => (0, 0, f1)
  | _ => (f1, 0, f1)
/-- the k-th sixth of the wheel -/
noncomputable def sixth (k : Nat) : UInt64 := Float64.ofFrac false k 6
theorem six_ok : ∀ k < 6, Float64.isFinite (Float64.mul (sixth k) 4618441417868443648) = true ∧ Flt.toInt Float64.truncOf (Float64.mul (sixth k) 4618441417868443648) = k ∧
    hsvSel k f1 (hsvT f1 f1 (hsvF (sixth k) k)) (hsvP f1 f1) (hsvQ f1 f1 (hsvF (sixth k) k)) = lightB k := by decide +kernel
theorem hsv_ok (w : World) {p : Program} {loose : List Str} {mean : ExcName → Option Value} {mg mb : Str → Option Value} {news : List (Addr × Obj)} {k : Nat} {t u v : Tok} (hk : k < 6) :
   Tells w p loose mean mg mb 28 [.float (sixth k) t, .float f1 u, .float f1 v] news 1 8 (flPost (fun a b c => (a, b, c) = lightB k) news) := by
  have h := six_ok k hk
  have e := hsv_walk w (p := p) (loose := loose) (mean := mean) (mg := mg) (mb := mb) (news := news) (t := t) (u := u) (v := v) (h := sixth k) (sv := f1) (vv := f1) (i := k) (by decide +kernel) h.1 h.2.1 (by omega) (by omega)
  rw [h.2.2] at e
  exact e
end
section
open PySem PySem.Spec PySem.Calls PySem.W PyProof.Rows PyProof.Rows.LCg PySem.Builtin.Str
/-- a list of three references; a tuple of three floats -/
noncomputable def refs3 (a : Nat → Addr) : Obj := lst [.ref (a 0), .ref (a 1), .ref (a 2)]
noncomputable def ltup (l : Nat → UInt64) (u : Nat → Tok) : Obj := { cls := .type "tuple", data := .seq #[.float (l 0) (u 0), .float (l 1) (u 1), .float (l 2) (u 2)] }
/-- three rows of four, and the list of them -/
noncomputable abbrev painted (PP : Addr) (a : Nat → Addr) (p : Nat → Nat → Nat) (Tp : Nat → Nat → Tok) (r : List (Addr × Obj)) : List (Addr × Obj) :=
  (PP, refs3 a) :: (a 0, row4 (fun k => (p 0 k : Int)) (Tp 0)) :: (a 1, row4 (fun k => (p 1 k : Int)) (Tp 1)) :: (a 2, row4 (fun k => (p 2 k : Int)) (Tp 2)) :: r
/-- no address stands twice -/
noncomputable def Apart : List Addr → Prop
  | [] => True
  | a :: l => (∀ b ∈ l, b ≠ a) ∧ Apart l
theorem updF_apart : ∀ {l : List (Addr × Obj)} (_ : Apart (l.map (·.1))) (i : Nat) {d : Addr} {o : Obj}, l[i]? = some (d, o) → UpdF d o l (fun o' => l.set i (d, o'))
  | [], _, i, d, o, h => by simp at h
  | p :: l, S, 0, d, o, h => by
    have e : p = (d, o) := by simpa using h
    subst e
    exact .head fun q hq => S.1 q.1 (List.mem_map_of_mem hq)
  | p :: l, S, i + 1, d, o, h => by
    have h' : l[i]? = some (d, o) := by simpa using h
    have hm : (d, o) ∈ l := List.mem_of_getElem? h'
    exact .tail (fun e => S.1 d (List.mem_map_of_mem (f := (·.1)) hm) e.symm) (updF_apart S.2 i h')
theorem apart_cons {D : Addr} {l : List (Addr × Obj)} (h : AllLt D l) (S : Apart (l.map (·.1))) : Apart (D :: l.map (·.1)) := ⟨fun b hb => Nat.ne_of_lt (addr_lt h b hb), S⟩
section
variable {prog : Program} {w : World} {A : Around} {E : Value → Shared → Prop} {s : Shared} {h₀ : Heap} {L : Addr} {m : Str → Option Value} {env : Env} {news : List (Addr × Obj)} {t u : Tok} {Q : Value → Shared → Prop} {value slice : PySem.Expr}
theorem LRest.all {elt : Expr} {x : Str} {scope : Scope} {cl : List (Str × Addr)} {P : Nat → Value → Prop} {Fin : List Value → List (Addr × Obj) → Prop} {n : Nat} (J : Nat → List Value → List (Addr × Obj) → Prop) (j0 : J 0 [] [])
    (turn : ∀ i ys new v I oI C oC D mm h tk (E' : Value → Shared → Prop), i < n → J i ys new → P i v → NsObj oC mm → mm x = some v → Fr h₀ L h m → News h₀ L h ((I, oI) :: (C, oC) :: (D, lst ys) :: (new ++ news)) → Lie I D C new news →
      wpAny (model prog w) A (eval elt (compEnvC scope cl C env)) (LEnd h₀ L m news { s with heap := h, toks := tk } [(I, oI), (C, oC)] D C (lst ys) (fun y new' => J (i + 1) (ys ++ [y]) new')) E' { s with heap := h, toks := tk })
    (fin : ∀ ys new, J n ys new → Fin ys new) : LRest prog w A h₀ L m env elt none x scope cl news s P Fin n 0 [] [] := by
  have key : ∀ k i ys new, i + k = n → J i ys new → LRest prog w A h₀ L m env elt none x scope cl news s P Fin k i ys new := by
    intro k
    induction k with
    | zero => intro i ys new e j; exact fin ys new (by rw [← e]; exact j)
    | succ k ih =>
      intro i ys new e j
      refine LRest.turn fun v I oI C oC D mm h tk E' hP hC hx F N lie => ?_
      refine wpAny_mono (turn i ys new v I oI C oC D mm h tk E' (by omega) j hP hC hx F N lie) (fun y s' q => ?_) fun _ _ q => q
      obtain ⟨h', tk', new', e1, F', N', abv, j'⟩ := q
      exact ⟨h', tk', new', e1, F', N', abv, ih (i + 1) (ys ++ [y]) new' (by omega) j'⟩
  exact key n 0 [] [] (by omega) j0
theorem index_ltr {x : Nat} (hx : x < 4) (h : Q (.int x s.toks) { s with toks := s.toks + 1 }) : wpAny (model prog w) A (call (.builtin "str.index") [.str (Str.ofString "abcd") t, .str (ltr x) u]) Q E s :=
  SC.index (rest := []) ((by decide +kernel : ∀ x < 4, occurrences (Str.ofString "abcd") (ltr x) 0 (Str.ofString "abcd").length 1 = [x]) x hx) h
theorem item_refs3 {a : Nat → Addr} {l : Addr} {k : Int} {q : Nat} (N : News h₀ L s.heap news) (hm : (l, refs3 a) ∈ news) (hk : k = q) (hq : q < 3) (h : Q (.ref (a q)) s)
    (hs : subscripted slice false (.ref l) (.int k u) = operate [.ref l, .int k u] (getItem (.ref l) (.int k u)) := by with_unfolding_all rfl) :
    wpAny (model prog w) A (subscriptTail value slice (.ref l) (.int k u)) Q E s := by
  have hl : s.heap.IsList l #[.ref (a 0), .ref (a 1), .ref (a 2)] := ⟨_, (N _ hm).1, rfl, _, rfl⟩
  subst hk
  refine tail_any hl.typeIs slot_list_getitem.lookup (wpAny_getItem_list hl (by omega) (by omega) ?_ h) hs
  rcases lt3 hq with rfl | rfl | rfl <;> rfl
theorem item_paint {a : Nat → Addr} {p : Nat → Nat → Nat} {Tp : Nat → Nat → Tok} {j : Nat} {k : Int} {q : Nat} (N : News h₀ L s.heap news) (hj : j < 3) (h0 : (a 0, row4 (fun k => (p 0 k : Int)) (Tp 0)) ∈ news) (h1 : (a 1, row4 (fun k => (p 1 k : Int)) (Tp 1)) ∈ news) (h2 : (a 2, row4 (fun k => (p 2 k : Int)) (Tp 2)) ∈ news)
    {y : Nat} (hk : k = q) (hq : q < 4) (hy : p j q = y) (h : Q (.int y (Tp j q)) s)
    (hs : subscripted slice false (.ref (a j)) (.int k u) = operate [.ref (a j), .int k u] (getItem (.ref (a j)) (.int k u)) := by with_unfolding_all rfl) :
    wpAny (model prog w) A (subscriptTail value slice (.ref (a j)) (.int k u)) Q E s := by
  have hm : (a j, row4 (fun k => (p j k : Int)) (Tp j)) ∈ news := by rcases lt3 hj with rfl | rfl | rfl <;> assumption
  have hl : s.heap.IsList (a j) #[.int (p j 0) (Tp j 0), .int (p j 1) (Tp j 1), .int (p j 2) (Tp j 2), .int (p j 3) (Tp j 3)] := ⟨_, (N _ hm).1, rfl, _, rfl⟩
  subst hk hy
  refine tail_any hl.typeIs slot_list_getitem.lookup (wpAny_getItem_list hl (by omega) (by omega) ?_ h) hs
  rcases lt4 hq with rfl | rfl | rfl | rfl <;> rfl
theorem item_ltup {a : Nat → Addr} {l : Nat → Nat → UInt64} {v : Nat → Nat → Tok} {j : Nat} {k : Int} {q : Nat} (N : News h₀ L s.heap news) (hj : j < 3) (h0 : (a 0, ltup (l 0) (v 0)) ∈ news) (h1 : (a 1, ltup (l 1) (v 1)) ∈ news) (h2 : (a 2, ltup (l 2) (v 2)) ∈ news)
    (hk : k = q) (hq : q < 3) (h : Q (.float (l j q) (v j q)) s)
    (hs : subscripted slice false (.ref (a j)) (.int k u) = operate [.ref (a j), .int k u] (getItem (.ref (a j)) (.int k u)) := by with_unfolding_all rfl) :
    wpAny (model prog w) A (subscriptTail value slice (.ref (a j)) (.int k u)) Q E s := by
  have hm : (a j, ltup (l j) (v j)) ∈ news := by rcases lt3 hj with rfl | rfl | rfl <;> assumption
  have ht : IsTup s.heap (a j) #[.float (l j 0) (v j 0), .float (l j 1) (v j 1), .float (l j 2) (v j 2)] := ⟨_, (N _ hm).1, rfl, _, rfl⟩
  subst hk
  rcases lt3 hq with rfl | rfl | rfl
  · exact tail_any ht.typeIs slot_tuple_getitem.lookup (getItem_tuple (j := 0) ht (by decide) (by decide) (by rfl) (by rfl) h) hs
  · exact tail_any ht.typeIs slot_tuple_getitem.lookup (getItem_tuple (j := 1) ht (by decide) (by decide) (by rfl) (by rfl) h) hs
  · exact tail_any ht.typeIs slot_tuple_getitem.lookup (getItem_tuple (j := 2) ht (by decide) (by decide) (by rfl) (by rfl) h) hs
theorem div4 {a : UInt64} (h : Q (.float (Float64.div a (Float64.ofInt 4)) s.toks) { s with toks := s.toks + 1 }) : wpAny (model prog w) A (binaryOp .Div (.float a t) (.int 4 u)) Q E s :=
  AutoFloatOps.truediv_fi_2 (by decide +kernel) (by decide +kernel) h
end
end
section
open PySem PySem.W PyProof.Rows
noncomputable def tgtOf : Stmt → Expr
  | .For t _ _ _ _ => t
  | _ => .Constant .none 0 ⟨0, 0, 0, 0⟩
noncomputable def mxFor : List Stmt := bodyOf (nth (bodyOf (topAt 25)) 2)
noncomputable def mxTgt : Expr := tgtOf (nth (bodyOf (topAt 25)) 2)
noncomputable def mxSc : Scope := scopeOf (topAt 25)
noncomputable abbrev mxEnv (sc : Scope) (L : Addr) : Env := envOfC (Str.ofString "_law_mixed") sc L 120 (.ref 119)
end
section
open PySem PySem.Spec PySem.Calls PySem.W PyProof.Rows PyProof.Rows.LCg
theorem walkT16 : True := by
  k_with_none
  k_with "enterC" => (k_dflt (refine' code_defC ?wek1 ?wek2 ?wek3 ?wek4 ?wek5 ?wekA ?wekF ?wekK ?wek6 ?wek7 ?wek8 ?wek9 ?wekB ?wekD ?_ ?wec2 ?wec3 ?wec4; (case wekA => exact rfl); (case wekF => exact rfl); (case wekK => assumption); (case wek1 => k_asm); (case wek2 => k_asm); (case wek3 => k_asm); (case wek4 => k_asm); (case wek5 => k_asm); (case wek6 => k_is); (case wek7 => k_is); (case wek8 => ktr_room); (case wek9 => exact BindsTo.of_eq rfl); (case wekB => exact rfl); (case wekD => decide +kernel); (case wec2 => exact rfl); (case wec3 => exact rfl); (case wec4 => exact rfl); k_whole; intro g' L' h' tk' cells' FG' F' N' Y' B' X' T' l1; (try k_lt l1); k_cells Y'; (try simp only [List.cons_append, List.nil_append] at N'); (try dsimp only); (try k_lift B'); (try k_fold)))
  k_with "exec Assign cons ListComp" => (k_here; k_dflt (first
  | refine Mine.Assign_C (_F₀ := by k_asm) (by rfl) (by with_unfolding_all rfl) (by with_unfolding_all rfl) (fun _ => rfl) (fun _ => rfl) (by rfl) (by rfl) (by decide) (by rfl) (by rfl) ?_
  | refine Mine.Assign_L (ct := none) (_F₀ := by k_asm) (by rfl) (by with_unfolding_all rfl) (by with_unfolding_all rfl) (by decide) (by rfl) (by decide) (by rfl) (by rfl) (by rfl) ?_
  | refine Mine.Assign_L (ct := some _) (_F₀ := by k_asm) (by rfl) (by with_unfolding_all rfl) (by with_unfolding_all rfl) (by decide) (by rfl) (by decide) (by rfl) (by rfl) (by rfl) ?_))
  k_with "eval ListComp BinOp cons" => (k_here; k_dflt (refine Mine.ListComp_L (ct := none) (_F₀ := by k_asm) (by with_unfolding_all rfl) (by decide) (by rfl) (by decide) (by rfl) ?_))
  k_with "eval ListComp Call cons" => (k_here; k_dflt (refine Mine.ListComp_L (ct := none) (_F₀ := by k_asm) (by with_unfolding_all rfl) (by decide) (by rfl) (by decide) (by rfl) ?_))
  k_with "eval ListComp Subscript cons" => (k_here; k_dflt (refine Mine.ListComp_L (ct := none) (_F₀ := by k_asm) (by with_unfolding_all rfl) (by decide) (by rfl) (by decide) (by rfl) ?_))
  k_with "eval ListComp Name cons" => (k_here; k_dflt (refine Mine.ListComp_L (ct := none) (_F₀ := by k_asm) (by with_unfolding_all rfl) (by decide) (by rfl) (by decide) (by rfl) ?_))
  k_with "eval ListComp Name cons" => (k_here; k_dflt (refine Mine.ListComp_L (ct := some _) (_F₀ := by k_asm) (by with_unfolding_all rfl) (by decide) (by rfl) (by decide) (by rfl) ?_))
  k_with "eval ListComp ListComp cons" => (k_here; k_dflt (refine Mine.ListComp_C (_F₀ := by k_asm) (by with_unfolding_all rfl) (fun _ => rfl) (fun _ => rfl) (by rfl) (by rfl) (by decide) ?_))
  k_with "SrcM" => (k_here; k_dflt (first
  | (refine Mine.SrcM.range 4 (by rfl) (by k_asm) (by k_asm) (by assumption) (by first | decide | rfl) (by first | rfl | decide) (by exact Nat.le_of_ble_eq_true rfl) ?_; intro g'; (try dsimp only))
  | (refine Mine.SrcM.range 3 (by rfl) (by k_asm) (by k_asm) (by assumption) (by first | decide | rfl) (by first | rfl | decide) (by exact Nat.le_of_ble_eq_true rfl) ?_; intro g'; (try dsimp only))
  | (refine Mine.SrcM.ledger 3 (by rfl) (by k_asm) (by k_asm) (by k_mem) (by rfl) (by exact Nat.le_of_ble_eq_true rfl) ?_; intro g'; (try dsimp only))))
  k_with "LRest" => (with_unfolding_all first
  | (refine Mine.LRest.turn ?_; intro v' I' oI' C' oC' D' m' h' tk' E' hv' hC' hx' F' N' lie'; (first | lcg_open hv' | (obtain ⟨t9', hv9'⟩ := hv'; subst hv9')); (try simp only [List.nil_append, List.cons_append] at N'))
  | (refine Mine.LRest.test ?_; intro v' I' oI' C' oC' D' m' h' tk' E' hv' hC' hx' F' N' lie'; (first | lcg_open hv' | (obtain ⟨t9', hv9'⟩ := hv'; subst hv9')); (try simp only [List.nil_append, List.cons_append] at N'))
  | refine Mine.LRest.zero ?_)
  k_with "CRest" => (with_unfolding_all first
  | (refine Mine.CRest.turn ?_; intro v' I' oI' C' X' oX' D' h' tk' E' hv' hdX' F' N' lie'; (first | lcg_open hv' | (obtain ⟨t9', hv9'⟩ := hv'; subst hv9')); (try simp only [List.nil_append, List.cons_append] at N'))
  | refine Mine.CRest.zero ?_)
  k_with "LEnd" => (k_dflt (first
  | refine Mine.LEnd.push0 (by k_asm) (by k_asm) (by k_asm) ?_
  | refine Mine.LEnd.push1 (by k_asm) (by k_asm) (by k_asm) (by omega) ?_))
  k_with "FinV" => ((unfold Mine.FinV); intro D' h' tk' F' N' nlt' abv'; (k_lt nlt'); (try simp only [List.forall_mem_cons, List.forall_mem_nil, and_true] at abv'); (try simp only [List.nil_append, List.cons_append] at N'); (try dsimp only))
  k_with "FinB" => ((unfold Mine.FinB); intro D' h' tk' F' N' nlt' abv'; (k_lt nlt'); (try simp only [List.forall_mem_cons, List.forall_mem_nil, and_true] at abv'); (try simp only [List.nil_append, List.cons_append] at N'); (try dsimp only))
  k_with "mine_map" => ((repeat (refine (if_neg (by decide)).trans ?_)); first | exact if_pos rfl | assumption | exact rfl)
  k_with "eval Name" => (k_here; k_dflt (refine' nameX_L ?v15F ?v15v ?_ ?v15a ?v15b; (case v15a => rfl); (case v15b => rfl); (case v15F => k_asm); (case v15v => k_extra "mine_map"); k_whole))
  k_with "subscriptTail Name BinOp ref int" => (k_here; k_dflt (refine' Mine.item_refs ?v16N ?v16m ?v16a ?v16b ?_ ?v16s; (case v16N => k_asm); (case v16m => k_mem); (case v16a => omega); (case v16b => omega); (case v16s => with_unfolding_all rfl); k_whole); intro i' hi')
  k_with "binaryOp Mod int int" => (k_here; (with_reducible refine' Mine.mod4 ?_); intro x' hx0' hx4')
  k_with "subscriptTail Name Name ref int" => (k_here; k_dflt (refine' Mine.item_row ?v18N ?v18ha ?v18m0 ?v18m1 ?v18m2 ?v18m3 ?v18a ?v18b ?_ ?v18s; (case v18N => k_asm); (case v18m0 => k_mem); (case v18m1 => k_mem); (case v18m2 => k_mem); (case v18m3 => k_mem); (case v18ha => omega); (case v18a => omega); (case v18b => omega); (case v18s => with_unfolding_all rfl); k_whole))
  k_with "setItem ref int" => (k_here; k_dflt (refine' Mine.store_row ?v19F ?v19N ?v19f ?v19ha ?v19a ?v19b ?_; (case v19F => k_asm); (case v19N => k_asm); (case v19f => assumption); (case v19ha => omega); (case v19a => omega); (case v19b => omega); k_whole); intro h' F' N')
  k_with "loadName" => (k_here; k_dflt (refine' wpAny_loadName_local ?v20a ?v20b ?v20c ?v20v ?_; (case v20a => rfl); (case v20b => rfl); (case v20c => exact Fr.ns (by k_asm)); (case v20v => k_extra "mine_map"); k_whole))
  k_with "exec While" => (k_here; k_dflt (refine' Mine.while_sq ?v21a ?v21b ?v21F ?v21N ?v21h1 ?v21h2 ?v21h3 ?v21h4 ?v21h5 ?v21d1 ?v21d2 ?v21d3 ?_ ?v21hE; (case v21hE => first | assumption | passes_own); (case v21F => k_asm); (case v21N => k_asm); (case v21h1 => k_extra "mine_map"); (case v21h2 => k_extra "mine_map"); (case v21h3 => k_extra "mine_map"); (case v21h4 => k_extra "mine_map"); (case v21h5 => k_extra "mine_map"); (case v21d1 => assumption); (case v21d2 => assumption); (case v21d3 => assumption); (case v21a => omega); (case v21b => omega); k_whole))
  k_with "LRest" => (k_dflt (refine' Mine.LRest.one ?v22o ?v22turn ?v22fin; (case v22o => assumption)); (case' v22fin => (intro y' hy'; (try (obtain ⟨t8', hy8'⟩ := hy'; subst hy8')))); (case' v22turn => (intro i' v' I' oI' C' oC' D' m' h' tk' E' ys' hi' hv' hC' hx' F' N' lie'; (first | (obtain ⟨t9', hv9'⟩ := hv'; subst hv9') | skip))))
  k_with "mine_hit" => (first | (refine' Mine.hit_yes ?v23hit ?v23hi ?v23h0 ?v23a ?v23b; (case v23hit => assumption); (case v23hi => assumption); (case v23h0 => assumption); (case v23a => assumption); (case v23b => assumption)) | (refine' Mine.hit_no1 ?v23hit ?v23hi ?v23a; (case v23hit => assumption); (case v23hi => assumption); (case v23a => assumption)) | (refine' Mine.hit_no2 ?v23hit ?v23hi ?v23a; (case v23hit => assumption); (case v23hi => assumption); (case v23a => assumption)))
  k_with "HitPost" => (k_dflt (first | (refine Mine.HitPost.yes' ?v24hh ?_; (case v24hh => k_extra "mine_hit"); intro hh'; (try subst hh')) | (refine Mine.HitPost.no ?v24hh ?_; (case v24hh => k_extra "mine_hit"))))
  k_with "WhileStep2" => (k_dflt (first
  | (refine' Mine.jw_next ?v25F ?v25N ?v25h1 ?v25h2 ?v25h3 ?v25h4 ?v25hb ?v25h5 ?v25d1 ?v25d2 ?v25d3 ?v25hn ?v25C ?v25e; (case v25F => k_asm); (case v25N => k_asm); (case v25C => assumption); (case v25e => assumption); (case v25h1 => k_extra "mine_map"); (case v25h2 => k_extra "mine_map"); (case v25h3 => k_extra "mine_map"); (case v25h4 => k_extra "mine_map"); (case v25h5 => k_extra "mine_map"); (case v25hb => first | assumption | rfl); (case v25d1 => assumption); (case v25d2 => assumption); (case v25d3 => assumption); (case v25hn => omega))
  | (refine' Mine.jw_last ?v25F ?v25N ?v25h1 ?v25h2 ?v25h3 ?v25h4 ?v25hb ?v25h5 ?v25d1 ?v25d2 ?v25d3 ?v25hn ?v25C; (case v25F => k_asm); (case v25N => k_asm); (case v25C => assumption); (case v25h1 => k_extra "mine_map"); (case v25h2 => k_extra "mine_map"); (case v25h3 => k_extra "mine_map"); (case v25h4 => k_extra "mine_map"); (case v25h5 => k_extra "mine_map"); (case v25hb => first | assumption | rfl); (case v25d1 => assumption); (case v25d2 => assumption); (case v25d3 => assumption); (case v25hn => omega))))
  k_with "UnrEnd" => (k_dflt (refine' Mine.jf_end ?v26F ?v26N ?v26h1 ?v26h2 ?v26d1 ?v26d2 ?v26d3 ?v26C ?v26lb ?v26lD ?v26l0 ?v26lI; (case v26F => k_asm); (case v26N => k_asm); (case v26C => assumption); (case v26h1 => k_extra "mine_map"); (case v26h2 => k_extra "mine_map"); (case v26d1 => assumption); (case v26d2 => assumption); (case v26d3 => assumption); (case v26lb => assumption); (case v26lD => assumption); (case v26l0 => assumption); (case v26lI => assumption)))
  k_with "subscriptTail Constant str Name str int" => (k_here; k_dflt (refine' Mine.abcd_item ?v27a ?v27b ?_ ?v27s ?v27t; (case v27a => omega); (case v27b => omega); (case v27s => with_unfolding_all rfl); (case v27t => (intro _; with_unfolding_all rfl)); k_whole))
  k_with "subscriptTail Constant str Subscript str int" => (k_here; k_dflt (refine' Mine.abcd_item ?v28a ?v28b ?_ ?v28s ?v28t; (case v28a => first | omega | k_extra "mine_lat"); (case v28b => first | omega | k_extra "mine_lat"); (case v28s => with_unfolding_all rfl); (case v28t => (intro _; with_unfolding_all rfl)); k_whole))
  k_with "mine_lat" => (first | exact Lat.lo (by assumption) _ _ (by omega) (by omega) | exact Lat.hi (by assumption) _ _ (by omega) (by omega))
  k_with "binaryOp Add str str" => (k_here; (first | with_reducible refine' Mine.cat_1 ?_ | with_reducible refine' Mine.cat_2 ?_); intro t' tk')
  k_with "subscriptTail Name Name ref int" => (k_here; k_dflt (refine' Mine.item_refsX ?v31N ?v31m ?v31a ?v31b ?_ ?v31s; (case v31N => k_asm); (case v31m => k_mem); (case v31a => omega); (case v31b => omega); (case v31s => with_unfolding_all rfl); k_whole))
  k_with "subscriptTail Name Name ref int" => (k_here; k_dflt (refine' Mine.item_row ?v32N ?v32ha ?v32m0 ?v32m1 ?v32m2 ?v32m3 ?v32a ?v32b ?_ ?v32s; (case v32N => k_asm); (case v32m0 => k_mem); (case v32m1 => k_mem); (case v32m2 => k_mem); (case v32m3 => k_mem); (case v32ha => omega); (case v32a => omega); (case v32b => omega); (case v32s => with_unfolding_all rfl); k_whole))
  k_with "subscriptTail Subscript Name Name Name ref int" => (k_here; k_dflt (refine' Mine.item_row ?v33N ?v33ha ?v33m0 ?v33m1 ?v33m2 ?v33m3 ?v33a ?v33b ?_ ?v33s; (case v33N => k_asm); (case v33m0 => k_mem); (case v33m1 => k_mem); (case v33m2 => k_mem); (case v33m3 => k_mem); (case v33ha => omega); (case v33a => omega); (case v33b => omega); (case v33s => with_unfolding_all rfl); k_whole))
  k_with "call builtin:list.append cons nil" => (k_here; k_dflt (refine' Mine.append_w ?v34F ?v34N ?v34f ?v34n ?v34x ?_; (case v34F => k_asm); (case v34N => k_asm); (case v34f => assumption); (case v34n => omega); (case v34x => assumption); k_whole); intro h' F' N')
  k_with "compareOp NotIn str str" => (k_here; refine' Mine.notin_dots ?v35a ?_; (case v35a => assumption); k_whole)
  k_with "call builtin:str.split cons nil" => (k_here; k_dflt (refine' Mine.split_dots ?v36a ?v36F ?v36N ?_; (case v36a => assumption); (case v36F => k_asm); (case v36N => k_asm); k_whole); intro D' t1' t2' h' tk' F' N' l1; (try k_lt l1))
  k_with "call builtin:str.startswith cons nil" => (k_here; refine' Mine.starts_is ?v37a ?_; (case v37a => assumption); k_whole)
  k_with "call builtin:str.endswith cons nil" => (k_here; refine' Mine.ends_is ?v38a ?_; (case v38a => assumption); k_whole)
  k_with "call builtin:str.find cons nil" => (k_here; refine' Mine.find_is ?v39a ?_; (case v39a => assumption); k_whole)
  k_with "truthy str" => (k_here; refine' Mine.truthy_len ?v40a ?v40b ?_; (case v40a => assumption); (case v40b => decide); k_whole)
  k_with "call builtin:len cons nil" => (k_here; refine' Mine.len_is ?v41a ?v41b ?_; (case v41a => first | assumption | exact (by decide : Str.empty.length = 0)); (case v41b => decide); k_whole)
  k_with "exec For Name Name cons nil" => (k_here; k_dflt (refine' For_turns ?v42F ?_; (case v42F => k_asm); k_whole))
  k_with "pyIter ref" => (k_here; k_dflt (refine' iter_listTurns ?v43a ?v43F ?v43N ?v43m ?v43c ?v43d ?_; (case v43a => rfl); (case v43F => k_asm); (case v43N => k_asm); (case v43m => k_mem); (case v43c => rfl); (case v43d => with_unfolding_all rfl); k_whole); intro i' l1; (try k_lt l1))
  k_with "UnrEndW" => (k_here; k_dflt (refine' Mine.endW ?v44F ?v44N ?v44off ⟨?v44sub, ?_⟩; (case v44F => k_asm); (case v44N => k_asm); (case v44off => assumption); (case v44sub => k_subL); k_whole))
  trivial
noncomputable def mixv (lt : Nat → Nat → UInt64) (x : Nat → Nat) (q : Nat) : UInt64 := Float64.div (Float64.add (Float64.add (lt (x 0) q) (lt (x 1) q)) (lt (x 2) q)) (Float64.ofInt 4)
noncomputable def J1 (Tl : Nat → Addr) (x : Nat → Nat) (i : Nat) (ys : List Value) (new : List (Addr × Obj)) : Prop := ys = (List.range i).map (fun q => .ref (Tl (x q))) ∧ new = []
noncomputable def J2 (lt : Nat → Nat → UInt64) (x : Nat → Nat) (i : Nat) (ys : List Value) (new : List (Addr × Obj)) : Prop := (∃ tk : Nat → Tok, ys = (List.range i).map (fun q => .float (mixv lt x q) (tk q))) ∧ new = []
theorem J1.succ {Tl : Nat → Addr} {x : Nat → Nat} {i : Nat} : J1 Tl x (i + 1) ((List.range i).map (fun q => .ref (Tl (x q))) ++ [.ref (Tl (x i))]) [] := ⟨by rw [List.range_succ, List.map_append, List.map_cons, List.map_nil], rfl⟩
theorem J2.succ {lt : Nat → Nat → UInt64} {x : Nat → Nat} {i : Nat} {tk : Nat → Tok} {t : Tok} : J2 lt x (i + 1) ((List.range i).map (fun q => .float (mixv lt x q) (tk q)) ++ [.float (mixv lt x i) t]) [] :=
  ⟨⟨fun q => if q = i then t else tk q, by
    rw [List.range_succ, List.map_append, List.map_cons, List.map_nil]
    simp only [if_true]
    refine congrArg (· ++ _) (List.map_congr_left fun q hq => ?_)
    have : q ≠ i := Nat.ne_of_lt (List.mem_range.mp hq)
    simp only [this, if_false]⟩, rfl⟩
theorem rgb_sh (w : World) {p : Program} {loose : List Str} {mean : ExcName → Option Value} {mg mb : Str → Option Value} {news : List (Addr × Obj)} {r g b M mn sh : UInt64} {b0 : Bool} {t u v : Tok}
   (hM : mx3 r g b = M) (hm : mn3 r g b = mn) (hb : (Float64.cmp mn M == some .eq) = b0) (hz1 : b0 = false → Float64.isZero M = false) (hz2 : b0 = false → Float64.isZero (Float64.sub M mn) = false) (hsh : (if b0 then 0 else Float64.div (Float64.sub M mn) M) = sh) :
   Tells w p loose mean mg mb 21 [.float r t, .float g u, .float b v] news 1 8 (flPost (fun _ y z => sh = y ∧ M = z) news) := by
  have h := rgb_ok w (p := p) (loose := loose) (mean := mean) (mg := mg) (mb := mb) (news := news) (t := t) (u := u) (v := v) hM hm hb hz1 hz2
  rw [hsh] at h
  intro dp un gd cn cs a ccd cl outer A₀ bs h₀ L m s Q E B F X N T hk hd hu hret
  exact h dp un gd cn cs a ccd cl outer A₀ bs h₀ L m s Q E B F X N T hk hd hu fun v h' tk' ⟨F', T', a', b', c', t', u', x', e, ⟨e1, e2⟩, l, N'⟩ => hret v h' tk' ⟨F', T', a', b', c', t', u', x', e, ⟨e1.symm, e2.symm⟩, l, N'⟩
section
variable {prog : Program} {w : World} {A : Around} {E : Value → Shared → Prop} {s : Shared} {h₀ : Heap} {L : Addr} {m : Str → Option Value} {x y : UInt64} {t u : Tok} {Q : Value → Shared → Prop}
theorem fgt_is {b : Bool} (e : (Float64.cmp x y == some .gt) = b) (h : Q (.bool b) s) : wpAny (model prog w) A (compareOp .Gt (.float x t) (.float y u)) Q E s := by
  subst e
  with_reducible refine AutoFloatOps.gt_0 ?_
  exact h
theorem endW2 {L I : Addr} {it : Obj} {rest : (Str → Option Value) → List (Addr × Obj) → Prop} {s₁ : Shared} {h' : Heap} {tk : Nat} {m' : Str → Option Value} {news' : List (Addr × Obj)} (F : Fr h₀ L h' m') (N : News h₀ L h' ((I, it) :: news'))
    (off : ∀ b ∈ news'.map (·.1), b ≠ I) (r : rest m' news') : UnrEndW h₀ L s₁ [(I, it)] rest { s₁ with heap := h', toks := tk } :=
  ⟨h', tk, m', news', rfl, F, N, fun p hp q hq => by
    rw [List.mem_singleton.mp hq]
    exact off p.1 (List.mem_map_of_mem hp), r⟩
end
theorem lines16 : True := by
  k_with "exec Assign cons ListComp" => (k_here; k_dflt (first | ((with_reducible show wpAny _ _ (exec (Stmt.Assign [Expr.Tuple _ _ _] _ _) _) _ _ _); refine Assign_Tuple ?_) | refine Mine.Assign_L (ct := none) (_F₀ := by k_asm) (by rfl) (by with_unfolding_all rfl) (by with_unfolding_all rfl) (by decide) (by rfl) (by decide) (by rfl) (by rfl) (by rfl) ?_))
  k_with "updF" => (first
    | (refine' Mine.updF_apart ?S9 5 ?r9; (case r9 => rfl); (case S9 => first | exact S | exact Mine.apart_cons (by assumption) S))
    | (refine' Mine.updF_apart ?S9 6 ?r9; (case r9 => rfl); (case S9 => first | exact S | exact Mine.apart_cons (by assumption) S))
    | (refine' Mine.updF_apart ?S9 7 ?r9; (case r9 => rfl); (case S9 => first | exact S | exact Mine.apart_cons (by assumption) S))
    | (refine' Mine.updF_apart ?S9 8 ?r9; (case r9 => rfl); (case S9 => first | exact S | exact Mine.apart_cons (by assumption) S))
    | (refine' Mine.updF_apart ?S9 9 ?r9; (case r9 => rfl); (case S9 => first | exact S | exact Mine.apart_cons (by assumption) S))
    | (refine' Mine.updF_apart ?S9 10 ?r9; (case r9 => rfl); (case S9 => first | exact S | exact Mine.apart_cons (by assumption) S))
    | (refine' Mine.updF_apart ?S9 11 ?r9; (case r9 => rfl); (case S9 => first | exact S | exact Mine.apart_cons (by assumption) S)))
  k_with "storeName str" => (k_here; k_dflt (refine' storeX_C ?F ?N ?c ?U ?d ?_ ?a ?b; (case a => rfl); (case b => rfl); (case F => k_asm); (case N => k_asm); (case c => rfl); (case U => k_extra "updF"); (case d => k_asm); k_whole); intro h' o' F' N' d'; (try dsimp only at N'); dsimp only [List.set] at N')
  k_with "storeName ref" => (k_here; k_dflt (refine' storeX_C ?F ?N ?c ?U ?d ?_ ?a ?b; (case a => rfl); (case b => rfl); (case F => k_asm); (case N => k_asm); (case c => rfl); (case U => k_extra "updF"); (case d => k_asm); k_whole); intro h' o' F' N' d'; (try dsimp only at N'); dsimp only [List.set] at N')
  k_with "LRest Subscript none cons cons nil nil" => (k_dflt (refine' Mine.LRest.all (Mine.J1 Tl x) ⟨rfl, rfl⟩ ?wtu1 ?wfi1); (case' wfi1 => (rintro ys' new' ⟨rfl, rfl⟩; dsimp only [List.range, List.range.loop, List.map])); (case' wtu1 => (rintro i' ys' new' v' I' oI' C' oC' D' m' h' tk' E' hi' ⟨rfl, rfl⟩ ⟨t9', rfl⟩ hC' hx' F' N' lie'; (try simp only [List.nil_append] at N'))))
  k_with "LRest BinOp none cons cons nil nil" => (k_dflt (refine' Mine.LRest.all (Mine.J2 lt x) ⟨⟨fun _ => 0, rfl⟩, rfl⟩ ?wtu2 ?wfi2); (case' wfi2 => (rintro ys' new' ⟨⟨ts', rfl⟩, rfl⟩; dsimp only [List.range, List.range.loop, List.map])); (case' wtu2 => (rintro i' ys' new' v' I' oI' C' oC' D' m' h' tk' E' hi' ⟨⟨ts', rfl⟩, rfl⟩ ⟨t9', rfl⟩ hC' hx' F' N' lie'; (try simp only [List.nil_append] at N'))))
  k_with "subscriptTail Name Name str int" => (k_here; refine' Mine.witem ?wp9 ?wn9 ?wk9 ?_; (case wk9 => exact Int.zero_add _); (case wp9 => assumption); (case wn9 => decide))
  k_with "subscriptTail Name Name ref int" => (k_here; k_dflt (first
    | (refine' Mine.item_refs3 ?wN9 ?wm9 ?wk9 ?wi9 ?_; (case wN9 => k_asm); (case wm9 => k_mem); (case wk9 => exact Int.zero_add _); (case wi9 => assumption); k_whole)
    | (refine' Mine.item_ltup (l := lt) ?wN9 ?wj9 ?wm0 ?wm1 ?wm2 ?wk9 ?wi9 ?_; (case wN9 => k_asm); (case wj9 => exact hx _ (by decide)); (case wm0 => k_mem); (case wm1 => k_mem); (case wm2 => k_mem); (case wk9 => exact Int.zero_add _); (case wi9 => assumption); k_whole)))
  k_with "subscriptTail Subscript Name Name Call ref int" => (k_here; k_dflt (refine' Mine.item_paint (p := pa) ?wN9 ?wj9 ?wm0 ?wm1 ?wm2 ?wk9 ?wi9 ?wy9 ?_; (case wN9 => k_asm); (case wj9 => assumption); (case wm0 => k_mem); (case wm1 => k_mem); (case wm2 => k_mem); (case wk9 => rfl); (case wi9 => exact hgi _ (by assumption)); (case wy9 => exact hxg _ (by assumption)); k_whole))
  k_with "subscriptTail Name Subscript ref int" => (k_here; k_dflt (refine' Mine.item_refs3 ?wN9 ?wm9 ?wk9 ?wi9 ?_; (case wN9 => k_asm); (case wm9 => k_mem); (case wk9 => rfl); (case wi9 => exact hx _ (by assumption)); k_whole))
  k_with "binaryOp Div float int" => (k_here; refine' Mine.div4 ?_)
  k_with "LEnd" => (k_dflt (refine Mine.LEnd.push0 (by k_asm) (by k_asm) (by k_asm) ?_); first | exact Mine.J1.succ | exact Mine.J2.succ)
  k_with "call ref cons nil" => (k_here; k_dflt (refine' Mine.tells_at (Mine.rgb_sh _ hM hm hb hz1 hz2 hsh) ?wB9 ?wF9 ?wX9 ?wN9 ?wT9 ?wk9 ?wd9 ?wu9 ?_; (case wB9 => k_asm); (case wF9 => k_asm); (case wX9 => k_asm); (case wN9 => k_asm); (case wT9 => k_asm); (case wk9 => first | exact rfl | assumption); (case wd9 => ktr_room); (case wu9 => ktr_units); k_whole); rintro v9 h' tk' ⟨F', T', hh', sh', vv', t1', t2', t3', rfl, ⟨rfl, rfl⟩, l1, N'⟩)
  k_with "compareOp Eq float float" => (k_here; refine' Mine.feq_is hs1 ?_)
  k_with "compareOp Gt float float" => (k_here; refine' Mine.fgt_is hs2 ?_)
  k_with "execs cons AugAssign nil" => ((with_reducible refine wpAny_execs_cons ?_); (try dsimp only))
  k_with "J2 nil" => exact Mine.J2.succ
  k_with "call builtin:str.index cons nil" => (k_here; refine' Mine.index_ltr ?wx9 ?_; (case wx9 => exact hgi _ (by assumption)))
  trivial
theorem mix_turn (w : World) {p : Program} {loose : List Str} {mean : ExcName → Option Value} {mg mb : Str → Option Value} {dp un : Nat} {gd : Option (List Code)} {cn : Str} {cs : Scope} {L a₀ : Addr} {ccd : Value} {cl : List (Str × Addr)} {outer : List Env} {bs : Heap}
    {h₀ : Heap} {L' : Addr} (B : Below (ktrTop dp un gd cn cs L a₀ ccd cl outer) bs (envX cn cs L a₀ ccd cl :: outer) h₀) (X : (hd.heap_39 w.params).In h₀) (T : Top p loose mean mg mb h₀) (hd : dp + 2 < recursionLimit) (hu : un + 16 < cLine) (sc' : Scope) (b : List Stmt) (hscc : sc' = mxSc) (hbb : b = mxFor) (tg : Expr) (htg : tg = mxTgt)
    {base : List (Addr × Obj)} {I LL W PP : Addr} {Tl a : Nat → Addr} {oI o1 o2 o3 o4 o5 o6 o7 : Obj} {v2 v4 v5 v6 v7 : Option Value} {gi : Nat → Nat} {ul : Nat → Nat → Tok} {lt : Nat → Nat → UInt64} {pa : Nat → Nat → Nat} {Tp : Nat → Nat → Tok} {W0 : Obj} {x : Nat → Nat}
    {m : Str → Option Value} {s : Shared} {Q : Flow → Shared → Prop} {E : Value → Shared → Prop} {rest : (Str → Option Value) → List (Addr × Obj) → Prop} {tw tt : Tok} {h hx' : Heap} {tks tkx : Nat} {told : Int}
    (hgi : ∀ q, q < 3 → gi q < 4) (hxg : ∀ j, j < 3 → pa j (gi j) = x j) (hx : ∀ j, j < 3 → x j < 3) {M mn : UInt64} {b0 : Bool}
    (hM : mx3 (mixv lt x 0) (mixv lt x 1) (mixv lt x 2) = M) (hm : mn3 (mixv lt x 0) (mixv lt x 1) (mixv lt x 2) = mn) (hb : (Float64.cmp mn M == some .eq) = b0) (hz1 : b0 = false → Float64.isZero M = false) (hz2 : b0 = false → Float64.isZero (Float64.sub M mn) = false)
    {sh : UInt64} {c1 c2 : Bool} {sc : Int} (hsh : (if b0 then 0 else Float64.div (Float64.sub M mn) M) = sh) (hs1 : (Float64.cmp sh 0 == some .eq) = c1) (hs2 : (Float64.cmp (Float64.mul sh M) 4603804719079489536 == some .gt) = c2) (hsc : sc = if c1 then -1 else if c2 then 2 else 0)
    (S : Apart (I :: LL :: Tl 2 :: Tl 1 :: Tl 0 :: (L' + 1 + 1 + 1 + 1 + 1 + 1 + 1) :: (L' + 1 + 1 + 1 + 1 + 1 + 1) :: (L' + 1 + 1 + 1 + 1 + 1) :: (L' + 1 + 1 + 1 + 1) :: (L' + 1 + 1 + 1) :: (L' + 1 + 1) :: (L' + 1) :: W :: PP :: a 0 :: a 1 :: a 2 :: base.map (·.1)))
    (d1 : o1.data = .cell (some (.ref PP))) (d2 : o2.data = .cell v2) (d3 : o3.data = .cell (some (.ref LL))) (d4 : o4.data = .cell v4) (d5 : o5.data = .cell v5) (d6 : o6.data = .cell v6) (d7 : o7.data = .cell v7)
    (e1 : m "told" = some (.int told tt))
    (hE : PassesOwn (model PR w) ((ktrTop dp un gd cn cs L a₀ ccd cl outer).deeper (mxEnv sc' L')) (mxEnv sc' L') E)
    (F : Fr h₀ L' h m) (N : News h₀ L' h ((I, oI) :: (LL, refs3 Tl) :: (Tl 2, ltup (lt 2) (ul 2)) :: (Tl 1, ltup (lt 1) (ul 1)) :: (Tl 0, ltup (lt 0) (ul 0)) :: (L' + 1 + 1 + 1 + 1 + 1 + 1 + 1, o7) :: (L' + 1 + 1 + 1 + 1 + 1 + 1, o6) :: (L' + 1 + 1 + 1 + 1 + 1, o5) :: (L' + 1 + 1 + 1 + 1, o4) :: (L' + 1 + 1 + 1, o3) :: (L' + 1 + 1, o2) :: (L' + 1, o1) :: (W, W0) :: painted PP a pa Tp base))
    (done : ∀ (m' : Str → Option Value) (o4' o5' o6' o7' : Obj) (v4' v5' v6' v7' : Option Value) (t' : Tok), m' "told" = some (.int (told + sc) t') → o4'.data = .cell v4' → o5'.data = .cell v5' → o6'.data = .cell v6' → o7'.data = .cell v7' →
      rest m' ((LL, refs3 Tl) :: (Tl 2, ltup (lt 2) (ul 2)) :: (Tl 1, ltup (lt 1) (ul 1)) :: (Tl 0, ltup (lt 0) (ul 0)) :: (L' + 1 + 1 + 1 + 1 + 1 + 1 + 1, o7') :: (L' + 1 + 1 + 1 + 1 + 1 + 1, o6') :: (L' + 1 + 1 + 1 + 1 + 1, o5') :: (L' + 1 + 1 + 1 + 1, o4') :: (L' + 1 + 1 + 1, o3) :: (L' + 1 + 1, o2) :: (L' + 1, o1) :: (W, W0) :: painted PP a pa Tp base)) :
    wpAny (model PR w) ((ktrTop dp un gd cn cs L a₀ ccd cl outer).deeper (mxEnv sc' L')) (assign tg (mxEnv sc' L') (.str (word 3 gi) tw)) (fun _ s₂ => wpAny (model PR w) ((ktrTop dp un gd cn cs L a₀ ccd cl outer).deeper (mxEnv sc' L')) (execs b (mxEnv sc' L')) (UnrPostW h₀ L' { s with heap := hx', toks := tkx } [(I, oI)] rest Q) E s₂) E { s with heap := h, toks := tks } := by
  conv at hscc => rhs; whnf
  conv at hbb => rhs; whnf
  conv at htg => rhs; whnf
  subst hscc hbb htg
  (try k_unmd); (try k_fold)
  k_steps
  all_goals (
    refine' endW2 ?wF9 ?wN9 ?wo9 ?wr9
    case wF9 => k_asm
    case wN9 => exact newsTail (newsTail (newsTail (by k_asm)))
    case wo9 => exact S.1
    case wr9 =>
      refine' done _ _ _ _ _ _ _ _ _ _ (read_int_eq ?told ?told2) ?da ?db ?dc ?dd
      case da => assumption
      case db => assumption
      case dc => assumption
      case dd => assumption
      case told => k_extra "mine_map"
      case told2 =>
        rw [hsc]
        clear hsc
        split <;> (try split) <;> first | omega | simp_all)
end
section
open PySem PySem.Spec PySem.Calls PySem.W PyProof.Rows PyProof.Rows.LCg
noncomputable def c3 (l : UInt64 × UInt64 × UInt64) : Nat → UInt64
  | 0 => l.1
  | 1 => l.2.1
  | _ => l.2.2
/-- the three lights of a turn of the wheel -/
noncomputable def ltOf (turn q : Nat) : Nat → UInt64 := c3 (lightB ((turn + 2 * q) % 6))
noncomputable def mixw (lt : Nat → Nat → UInt64) (a b c q : Nat) : UInt64 := Float64.div (Float64.add (Float64.add (lt a q) (lt b q)) (lt c q)) (Float64.ofInt 4)
noncomputable def score (a b c : Nat) : Int := if a = b ∧ b = c then 2 else if a ≠ b ∧ b ≠ c ∧ a ≠ c then -1 else 0
noncomputable def shareOf (M mn : UInt64) : UInt64 := if (Float64.cmp mn M == some .eq) then 0 else Float64.div (Float64.sub M mn) M
noncomputable def b0Of (M mn : UInt64) : Bool := Float64.cmp mn M == some .eq
noncomputable def scOf (sh M : UInt64) : Int := if (Float64.cmp sh 0 == some .eq) then -1 else if (Float64.cmp (Float64.mul sh M) 4603804719079489536 == some .gt) then 2 else 0
/-- what a mix's greatest and least tell -/
noncomputable def mixB (M mn : UInt64) (sc : Int) : Bool := (b0Of M mn || (!Float64.isZero M && !Float64.isZero (Float64.sub M mn))) && decide (sc = scOf (shareOf M mn) M)
/-- quarters; a light's share of a colour -/
noncomputable def tab : Nat → UInt64
  | 0 => 0
  | 1 => 4598175219545276416
  | 2 => 4602678819172646912
  | _ => 4604930618986332160
noncomputable def bitf (x : Nat) : UInt64 := if x = 0 then 0 else f1
noncomputable def onB (t a q : Nat) : Nat := if ltOf t a q = 0 then 0 else 1
theorem lt_bit : ∀ t < 6, ∀ a < 3, ∀ q < 3, ltOf t a q = bitf (onB t a q) ∧ onB t a q < 2 := by decide +kernel
theorem tab_sum : ∀ x < 2, ∀ y < 2, ∀ z < 2, Float64.div (Float64.add (Float64.add (bitf x) (bitf y)) (bitf z)) (Float64.ofInt 4) = tab (x + y + z) := by decide +kernel
theorem mixw_tab {t a b c q : Nat} (ht : t < 6) (ha : a < 3) (hb : b < 3) (hc : c < 3) (hq : q < 3) : mixw (ltOf t) a b c q = tab (onB t a q + onB t b q + onB t c q) := by
  unfold mixw
  rw [(lt_bit t ht a ha q hq).1, (lt_bit t ht b hb q hq).1, (lt_bit t ht c hc q hq).1]
  exact tab_sum _ (lt_bit t ht a ha q hq).2 _ (lt_bit t ht b hb q hq).2 _ (lt_bit t ht c hc q hq).2
noncomputable def sc3 (r g b : Nat) : Int := if r = g ∧ g = b then -1 else if max r (max g b) - min r (min g b) = 3 then 2 else 0
theorem tab_all : ∀ r < 4, ∀ g < 4, ∀ b < 4, mixB (mx3 (tab r) (tab g) (tab b)) (mn3 (tab r) (tab g) (tab b)) (sc3 r g b) = true := by decide +kernel
theorem sc3_score : ∀ t < 6, ∀ a < 3, ∀ b < 3, ∀ c < 3, score a b c = sc3 (onB t a 0 + onB t b 0 + onB t c 0) (onB t a 1 + onB t b 1 + onB t c 1) (onB t a 2 + onB t b 2 + onB t c 2) := by decide +kernel
theorem mix_all {t a b c : Nat} (ht : t < 6) (ha : a < 3) (hb : b < 3) (hc : c < 3) :
    mixB (mx3 (mixw (ltOf t) a b c 0) (mixw (ltOf t) a b c 1) (mixw (ltOf t) a b c 2)) (mn3 (mixw (ltOf t) a b c 0) (mixw (ltOf t) a b c 1) (mixw (ltOf t) a b c 2)) (score a b c) = true := by
  rw [sc3_score t ht a ha b hb c hc, mixw_tab ht ha hb hc (by decide), mixw_tab ht ha hb hc (by decide), mixw_tab ht ha hb hc (by decide)]
  have l : ∀ q < 3, onB t a q + onB t b q + onB t c q < 4 := fun q hq => by
    have := (lt_bit t ht a ha q hq).2
    have := (lt_bit t ht b hb q hq).2
    have := (lt_bit t ht c hc q hq).2
    omega
  exact tab_all _ (l 0 (by decide)) _ (l 1 (by decide)) _ (l 2 (by decide))
theorem mixB_use {M mn : UInt64} {sc : Int} (h : mixB M mn sc = true) : (b0Of M mn = false → Float64.isZero M = false) ∧ (b0Of M mn = false → Float64.isZero (Float64.sub M mn) = false) ∧ sc = scOf (shareOf M mn) M := by
  unfold mixB at h
  simp only [Bool.and_eq_true, Bool.or_eq_true, Bool.not_eq_true', decide_eq_true_eq] at h
  obtain ⟨h1, h2⟩ := h
  exact ⟨fun e => (h1.elim (fun q => by rw [e] at q; cases q) fun q => q.1), fun e => (h1.elim (fun q => by rw [e] at q; cases q) fun q => q.2), h2⟩
end
section
open PySem PySem.Spec PySem.Calls PySem.W PyProof.Rows PyProof.Rows.LCg
section
variable {prog : Program} {w : World} {A : Around} {E : Value → Shared → Prop} {s : Shared} {h₀ : Heap} {L : Addr} {m : Str → Option Value} {env : Env} {news : List (Addr × Obj)} {t u : Tok} {Q : Value → Shared → Prop}
/-- a list's turns by what holds between them -/
theorem items_inv {target : Expr} {body : List Stmt} {Q : Flow → Shared → Prop} {I : Addr} {keep : List (Addr × Obj)} {vs : List Value} (J : Nat → (Str → Option Value) → List (Addr × Obj) → Prop)
    (turn : ∀ i v m news, vs[i]? = some v → J i m news → ∀ oI h tk, Fr h₀ env.locals h m → News h₀ env.locals h ((I, oI) :: news) →
      wpAny (model prog w) A (assign target env v) (fun _ s₂ => wpAny (model prog w) A (execs body env) (UnrPostW h₀ env.locals { s with heap := h, toks := tk } [(I, oI)] (fun m' n' => SubL keep n' ∧ J (i + 1) m' n') Q) E s₂) E { s with heap := h, toks := tk })
    (done : ∀ m news, J vs.length m news → ∀ h tk, Fr h₀ env.locals h m → News h₀ env.locals h news → Q .next { s with heap := h, toks := tk }) :
    ∀ (k i : Nat) (m : Str → Option Value) (news : List (Addr × Obj)), i + k = vs.length → J i m news → ItemsRest prog w A E h₀ env target body Q s [(I, "list_iterator")] keep ((vs.drop i).map .val) m news
  | 0, i, m, news, e, j => by
    have : vs.drop i = [] := List.drop_eq_nil_of_le (by omega)
    rw [this]
    exact ItemsRest.zero fun h tk F N => done m news (by have : i = vs.length := by omega
                                                         rw [← this]; exact j) h tk F N
  | k + 1, i, m, news, e, j => by
    have hi : i < vs.length := by omega
    rw [List.drop_eq_getElem_cons hi, List.map_cons]
    refine ItemsRest.val fun h tk F => AllObj.cons fun o _ => AllObj.nil fun N => ?_
    refine wpAny_mono (turn i vs[i] m news (List.getElem?_eq_getElem hi) j o h tk F N) (fun _ s₂ p => wpAny_mono p (fun f s₃ p => ?_) fun _ _ q => q) fun _ _ q => q
    have ih := items_inv J turn done k (i + 1)
    cases f with
    | next => obtain ⟨h', tk', m', news', e1, F', N', o, kp, j'⟩ := p; exact ⟨h', tk', m', news', e1, F', N', o, kp, ih m' news' (by omega) j'⟩
    | cont => obtain ⟨h', tk', m', news', e1, F', N', o, kp, j'⟩ := p; exact ⟨h', tk', m', news', e1, F', N', o, kp, ih m' news' (by omega) j'⟩
    | brk => exact p
    | ret v => exact p
theorem items_inv0 {target : Expr} {body : List Stmt} {Q : Flow → Shared → Prop} {I : Addr} {keep : List (Addr × Obj)} {vs : List Value} (J : Nat → (Str → Option Value) → List (Addr × Obj) → Prop)
    (turn : ∀ i v m news, vs[i]? = some v → J i m news → ∀ oI h tk, Fr h₀ env.locals h m → News h₀ env.locals h ((I, oI) :: news) →
      wpAny (model prog w) A (assign target env v) (fun _ s₂ => wpAny (model prog w) A (execs body env) (UnrPostW h₀ env.locals { s with heap := h, toks := tk } [(I, oI)] (fun m' n' => SubL keep n' ∧ J (i + 1) m' n') Q) E s₂) E { s with heap := h, toks := tk })
    (done : ∀ m news, J vs.length m news → ∀ h tk, Fr h₀ env.locals h m → News h₀ env.locals h news → Q .next { s with heap := h, toks := tk }) {m : Str → Option Value} {news : List (Addr × Obj)} (j : J 0 m news) : ItemsRest prog w A E h₀ env target body Q s [(I, "list_iterator")] keep (vs.map .val) m news :=
  items_inv J turn done vs.length 0 m news (Nat.zero_add _) j
theorem mod6n {n : Nat} {a : Int} (ha : a = n) (h : Q (.int ((n % 6 : Nat) : Int) s.toks) { s with toks := s.toks + 1 }) : wpAny (model prog w) A (binaryOp .Mod (.int a t) (.int 6 u)) Q E s := by
  subst ha
  refine mod_int' (by decide) ?_
  have e : ((n : Int)).fmod 6 = ((n % 6 : Nat) : Int) := by rw [Int.fmod_eq_emod_of_nonneg _ (by decide)]; omega
  rw [e]; exact h
theorem div6 {n : Nat} (hA : A.handled = none) (hn : n < 6) (h : Q (.float (sixth n) s.toks) { s with toks := s.toks + 1 }) : wpAny (model prog w) A (binaryOp .Div (.int n t) (.int 6 u)) Q E s :=
  Flt.div_ii_fits hA (Nat.lt_of_lt_of_le (show ((n : Int)).natAbs < 6 by omega) (by decide +kernel)) (fun e => absurd e (by decide)) fun _ _ => by
    have e : (decide ((n : Int) < 0) != decide ((6 : Int) < 0)) = false := by
      have : ¬ (n : Int) < 0 := by omega
      simp [this]
    have e2 : ((n : Int)).natAbs = n := by omega
    have e3 : ((6 : Int)).natAbs = 6 := rfl
    rw [e, e2, e3]
    exact h
end
/-- the lights, one by one -/
noncomputable def J0 (turn : Nat) (i : Nat) (ys : List Value) (new : List (Addr × Obj)) : Prop :=
  ∃ (Tf : Nat → Addr) (uf : Nat → Nat → Tok), ys = (List.range i).map (fun q => .ref (Tf q)) ∧ new = (List.range i).reverse.map (fun q => (Tf q, ltup (ltOf turn q) (uf q))) ∧ ∀ p q, p < q → q < i → @LT.lt Nat _ (Tf p) (Tf q)
theorem J0.zero {turn : Nat} : J0 turn 0 [] [] := ⟨fun _ => 0, fun _ _ => 0, rfl, rfl, fun _ _ _ h => absurd h (Nat.not_lt_zero _)⟩
theorem J0.succ {turn i : Nat} {ys : List Value} {new : List (Addr × Obj)} {T : Addr} {a b c : UInt64} {t u x : Tok} (j : J0 turn i ys new) (e : (a, b, c) = lightB ((turn + 2 * i) % 6)) (hl : ∀ p ∈ new, @LT.lt Nat _ p.1 T) :
    J0 turn (i + 1) (ys ++ [.ref T]) ((T, { cls := .type "tuple", data := .seq #[.float a t, .float b u, .float c x] }) :: new) := by
  obtain ⟨Tf, uf, rfl, rfl, ord⟩ := j
  refine ⟨fun q => if q = i then T else Tf q, fun q => if q = i then mk4 t u x 0 else uf q, ?_, ?_, fun p q h1 h2 => ?_⟩
  · rw [List.range_succ, List.map_append, List.map_cons, List.map_nil]
    simp only [if_true]
    refine congrArg (· ++ _) (List.map_congr_left fun q hq => ?_)
    have : q ≠ i := Nat.ne_of_lt (List.mem_range.mp hq)
    simp only [this, if_false]
  · rw [List.range_succ, List.reverse_append, List.reverse_singleton, List.singleton_append, List.map_cons]
    simp only [if_true]
    congr 1
    · have : ltup (ltOf turn i) (mk4 t u x 0) = { cls := .type "tuple", data := .seq #[.float a t, .float b u, .float c x] } := by
        unfold ltup ltOf
        rw [← e]
        rfl
      rw [this]
    · refine List.map_congr_left fun q hq => ?_
      have : q ≠ i := Nat.ne_of_lt (List.mem_range.mp (List.mem_reverse.mp hq))
      simp only [this, if_false]
  · have hp : p ≠ i := by omega
    simp only [hp, if_false]
    by_cases hq : q = i
    · simp only [hq, if_true]
      exact hl (Tf p, _) (List.mem_map.mpr ⟨p, List.mem_reverse.mpr (List.mem_range.mpr (by omega)), rfl⟩)
    · simp only [hq, if_false]
      exact ord p q h1 (by omega)
theorem apart_up {n : Nat} {l : List Addr} (h : (∀ b ∈ l, @LT.lt Nat _ b n) ∧ Apart l) : (∀ b ∈ (show Addr from n) :: l, @LT.lt Nat _ b (n + 1)) ∧ Apart ((show Addr from n) :: l) := by
  refine ⟨fun b hb => ?_, fun b hb => Nat.ne_of_lt (h.1 b hb), h.2⟩
  rcases List.mem_cons.mp hb with e | hb
  · subst e; exact Nat.lt_succ_self _
  · exact Nat.lt_succ_of_lt (h.1 b hb)
theorem apart7 {L : Addr} {l : List (Addr × Obj)} (h : AllLt L l) (S : Apart (l.map (·.1))) :
    Apart ((L + 1 + 1 + 1 + 1 + 1 + 1 + 1) :: (L + 1 + 1 + 1 + 1 + 1 + 1) :: (L + 1 + 1 + 1 + 1 + 1) :: (L + 1 + 1 + 1 + 1) :: (L + 1 + 1 + 1) :: (L + 1 + 1) :: (L + 1) :: l.map (·.1)) :=
  (apart_up (apart_up (apart_up (apart_up (apart_up (apart_up (apart_up (n := L + 1) ⟨fun b hb => Nat.lt_succ_of_lt (addr_lt h b hb), S⟩))))))).2
theorem apart_block {D T0 T1 T2 : Nat} {l : List (Addr × Obj)} (h : AllLt D l) (h0 : D < T0) (h1 : T0 < T1) (h2 : T1 < T2) (S : Apart (l.map (·.1))) : Apart (D :: T2 :: T1 :: T0 :: l.map (·.1)) := by
  have hl : ∀ b ∈ l.map (·.1), @LT.lt Nat _ b D := addr_lt h
  refine ⟨fun b hb => ?_, fun b hb => ?_, fun b hb => ?_, fun b hb => ?_, S⟩ <;> (try simp only [List.mem_cons] at hb)
  · rcases hb with rfl | rfl | rfl | hb
    · exact gt_ne (Nat.lt_trans h0 (Nat.lt_trans h1 h2))
    · exact gt_ne (Nat.lt_trans h0 h1)
    · exact gt_ne h0
    · exact Nat.ne_of_lt (hl b hb)
  · rcases hb with rfl | rfl | hb
    · exact Nat.ne_of_lt h2
    · exact Nat.ne_of_lt (Nat.lt_trans h1 h2)
    · exact Nat.ne_of_lt (Nat.lt_trans (hl b hb) (Nat.lt_trans h0 (Nat.lt_trans h1 h2)))
  · rcases hb with rfl | hb
    · exact Nat.ne_of_lt h1
    · exact Nat.ne_of_lt (Nat.lt_trans (hl b hb) (Nat.lt_trans h0 h1))
  · exact Nat.ne_of_lt (Nat.lt_trans (hl b hb) h0)
end
section
open PySem PySem.Spec PySem.Calls PySem.W PyProof.Rows PyProof.Rows.LCg
theorem walkT17 : True := by
  k_with_none
  k_with "enterC" => (k_dflt (refine' code_defC ?wek1 ?wek2 ?wek3 ?wek4 ?wek5 ?wekA ?wekF ?wekK ?wek6 ?wek7 ?wek8 ?wek9 ?wekB ?wekD ?_ ?wec2 ?wec3 ?wec4; (case wekA => exact rfl); (case wekF => exact rfl); (case wekK => assumption); (case wek1 => k_asm); (case wek2 => k_asm); (case wek3 => k_asm); (case wek4 => k_asm); (case wek5 => k_asm); (case wek6 => k_is); (case wek7 => k_is); (case wek8 => ktr_room); (case wek9 => exact BindsTo.of_eq rfl); (case wekB => exact rfl); (case wekD => decide +kernel); (case wec2 => exact rfl); (case wec3 => exact rfl); (case wec4 => exact rfl); k_whole; intro g' L' h' tk' cells' FG' F' N' Y' B' X' T' l1; (try k_lt l1); k_cells Y'; (try simp only [List.cons_append, List.nil_append] at N'); (try dsimp only); (try k_lift B'); (try k_fold)))
  k_with "exec Assign cons ListComp" => (k_here; k_dflt (first
  | refine Mine.Assign_C (_F₀ := by k_asm) (by rfl) (by with_unfolding_all rfl) (by with_unfolding_all rfl) (fun _ => rfl) (fun _ => rfl) (by rfl) (by rfl) (by decide) (by rfl) (by rfl) ?_
  | refine Mine.Assign_L (ct := none) (_F₀ := by k_asm) (by rfl) (by with_unfolding_all rfl) (by with_unfolding_all rfl) (by decide) (by rfl) (by decide) (by rfl) (by rfl) (by rfl) ?_
  | refine Mine.Assign_L (ct := some _) (_F₀ := by k_asm) (by rfl) (by with_unfolding_all rfl) (by with_unfolding_all rfl) (by decide) (by rfl) (by decide) (by rfl) (by rfl) (by rfl) ?_))
  k_with "eval ListComp BinOp cons" => (k_here; k_dflt (refine Mine.ListComp_L (ct := none) (_F₀ := by k_asm) (by with_unfolding_all rfl) (by decide) (by rfl) (by decide) (by rfl) ?_))
  k_with "eval ListComp Call cons" => (k_here; k_dflt (refine Mine.ListComp_L (ct := none) (_F₀ := by k_asm) (by with_unfolding_all rfl) (by decide) (by rfl) (by decide) (by rfl) ?_))
  k_with "eval ListComp Subscript cons" => (k_here; k_dflt (refine Mine.ListComp_L (ct := none) (_F₀ := by k_asm) (by with_unfolding_all rfl) (by decide) (by rfl) (by decide) (by rfl) ?_))
  k_with "eval ListComp Name cons" => (k_here; k_dflt (refine Mine.ListComp_L (ct := none) (_F₀ := by k_asm) (by with_unfolding_all rfl) (by decide) (by rfl) (by decide) (by rfl) ?_))
  k_with "eval ListComp Name cons" => (k_here; k_dflt (refine Mine.ListComp_L (ct := some _) (_F₀ := by k_asm) (by with_unfolding_all rfl) (by decide) (by rfl) (by decide) (by rfl) ?_))
  k_with "eval ListComp ListComp cons" => (k_here; k_dflt (refine Mine.ListComp_C (_F₀ := by k_asm) (by with_unfolding_all rfl) (fun _ => rfl) (fun _ => rfl) (by rfl) (by rfl) (by decide) ?_))
  k_with "SrcM" => (k_here; k_dflt (first
  | (refine Mine.SrcM.range 4 (by rfl) (by k_asm) (by k_asm) (by assumption) (by first | decide | rfl) (by first | rfl | decide) (by exact Nat.le_of_ble_eq_true rfl) ?_; intro g'; (try dsimp only))
  | (refine Mine.SrcM.range 3 (by rfl) (by k_asm) (by k_asm) (by assumption) (by first | decide | rfl) (by first | rfl | decide) (by exact Nat.le_of_ble_eq_true rfl) ?_; intro g'; (try dsimp only))
  | (refine Mine.SrcM.ledger 3 (by rfl) (by k_asm) (by k_asm) (by k_mem) (by rfl) (by exact Nat.le_of_ble_eq_true rfl) ?_; intro g'; (try dsimp only))))
  k_with "LRest" => (with_unfolding_all first
  | (refine Mine.LRest.turn ?_; intro v' I' oI' C' oC' D' m' h' tk' E' hv' hC' hx' F' N' lie'; (first | lcg_open hv' | (obtain ⟨t9', hv9'⟩ := hv'; subst hv9')); (try simp only [List.nil_append, List.cons_append] at N'))
  | (refine Mine.LRest.test ?_; intro v' I' oI' C' oC' D' m' h' tk' E' hv' hC' hx' F' N' lie'; (first | lcg_open hv' | (obtain ⟨t9', hv9'⟩ := hv'; subst hv9')); (try simp only [List.nil_append, List.cons_append] at N'))
  | refine Mine.LRest.zero ?_)
  k_with "CRest" => (with_unfolding_all first
  | (refine Mine.CRest.turn ?_; intro v' I' oI' C' X' oX' D' h' tk' E' hv' hdX' F' N' lie'; (first | lcg_open hv' | (obtain ⟨t9', hv9'⟩ := hv'; subst hv9')); (try simp only [List.nil_append, List.cons_append] at N'))
  | refine Mine.CRest.zero ?_)
  k_with "LEnd" => (k_dflt (first
  | refine Mine.LEnd.push0 (by k_asm) (by k_asm) (by k_asm) ?_
  | refine Mine.LEnd.push1 (by k_asm) (by k_asm) (by k_asm) (by omega) ?_))
  k_with "FinV" => ((unfold Mine.FinV); intro D' h' tk' F' N' nlt' abv'; (k_lt nlt'); (try simp only [List.forall_mem_cons, List.forall_mem_nil, and_true] at abv'); (try simp only [List.nil_append, List.cons_append] at N'); (try dsimp only))
  k_with "FinB" => ((unfold Mine.FinB); intro D' h' tk' F' N' nlt' abv'; (k_lt nlt'); (try simp only [List.forall_mem_cons, List.forall_mem_nil, and_true] at abv'); (try simp only [List.nil_append, List.cons_append] at N'); (try dsimp only))
  k_with "mine_map" => ((repeat (refine (if_neg (by decide)).trans ?_)); first | exact if_pos rfl | assumption | exact rfl)
  k_with "eval Name" => (k_here; k_dflt (refine' nameX_L ?v15F ?v15v ?_ ?v15a ?v15b; (case v15a => rfl); (case v15b => rfl); (case v15F => k_asm); (case v15v => k_extra "mine_map"); k_whole))
  k_with "subscriptTail Name BinOp ref int" => (k_here; k_dflt (refine' Mine.item_refs ?v16N ?v16m ?v16a ?v16b ?_ ?v16s; (case v16N => k_asm); (case v16m => k_mem); (case v16a => omega); (case v16b => omega); (case v16s => with_unfolding_all rfl); k_whole); intro i' hi')
  k_with "binaryOp Mod int int" => (k_here; (with_reducible refine' Mine.mod4 ?_); intro x' hx0' hx4')
  k_with "subscriptTail Name Name ref int" => (k_here; k_dflt (refine' Mine.item_row ?v18N ?v18ha ?v18m0 ?v18m1 ?v18m2 ?v18m3 ?v18a ?v18b ?_ ?v18s; (case v18N => k_asm); (case v18m0 => k_mem); (case v18m1 => k_mem); (case v18m2 => k_mem); (case v18m3 => k_mem); (case v18ha => omega); (case v18a => omega); (case v18b => omega); (case v18s => with_unfolding_all rfl); k_whole))
  k_with "setItem ref int" => (k_here; k_dflt (refine' Mine.store_row ?v19F ?v19N ?v19f ?v19ha ?v19a ?v19b ?_; (case v19F => k_asm); (case v19N => k_asm); (case v19f => assumption); (case v19ha => omega); (case v19a => omega); (case v19b => omega); k_whole); intro h' F' N')
  k_with "loadName" => (k_here; k_dflt (refine' wpAny_loadName_local ?v20a ?v20b ?v20c ?v20v ?_; (case v20a => rfl); (case v20b => rfl); (case v20c => exact Fr.ns (by k_asm)); (case v20v => k_extra "mine_map"); k_whole))
  k_with "exec While" => (k_here; k_dflt (refine' Mine.while_sq ?v21a ?v21b ?v21F ?v21N ?v21h1 ?v21h2 ?v21h3 ?v21h4 ?v21h5 ?v21d1 ?v21d2 ?v21d3 ?_ ?v21hE; (case v21hE => first | assumption | passes_own); (case v21F => k_asm); (case v21N => k_asm); (case v21h1 => k_extra "mine_map"); (case v21h2 => k_extra "mine_map"); (case v21h3 => k_extra "mine_map"); (case v21h4 => k_extra "mine_map"); (case v21h5 => k_extra "mine_map"); (case v21d1 => assumption); (case v21d2 => assumption); (case v21d3 => assumption); (case v21a => omega); (case v21b => omega); k_whole))
  k_with "LRest" => (k_dflt (refine' Mine.LRest.one ?v22o ?v22turn ?v22fin; (case v22o => assumption)); (case' v22fin => (intro y' hy'; (try (obtain ⟨t8', hy8'⟩ := hy'; subst hy8')))); (case' v22turn => (intro i' v' I' oI' C' oC' D' m' h' tk' E' ys' hi' hv' hC' hx' F' N' lie'; (first | (obtain ⟨t9', hv9'⟩ := hv'; subst hv9') | skip))))
  k_with "mine_hit" => (first | (refine' Mine.hit_yes ?v23hit ?v23hi ?v23h0 ?v23a ?v23b; (case v23hit => assumption); (case v23hi => assumption); (case v23h0 => assumption); (case v23a => assumption); (case v23b => assumption)) | (refine' Mine.hit_no1 ?v23hit ?v23hi ?v23a; (case v23hit => assumption); (case v23hi => assumption); (case v23a => assumption)) | (refine' Mine.hit_no2 ?v23hit ?v23hi ?v23a; (case v23hit => assumption); (case v23hi => assumption); (case v23a => assumption)))
  k_with "HitPost" => (k_dflt (first | (refine Mine.HitPost.yes' ?v24hh ?_; (case v24hh => k_extra "mine_hit"); intro hh'; (try subst hh')) | (refine Mine.HitPost.no ?v24hh ?_; (case v24hh => k_extra "mine_hit"))))
  k_with "WhileStep2" => (k_dflt (first
  | (refine' Mine.jw_next ?v25F ?v25N ?v25h1 ?v25h2 ?v25h3 ?v25h4 ?v25hb ?v25h5 ?v25d1 ?v25d2 ?v25d3 ?v25hn ?v25C ?v25e; (case v25F => k_asm); (case v25N => k_asm); (case v25C => assumption); (case v25e => assumption); (case v25h1 => k_extra "mine_map"); (case v25h2 => k_extra "mine_map"); (case v25h3 => k_extra "mine_map"); (case v25h4 => k_extra "mine_map"); (case v25h5 => k_extra "mine_map"); (case v25hb => first | assumption | rfl); (case v25d1 => assumption); (case v25d2 => assumption); (case v25d3 => assumption); (case v25hn => omega))
  | (refine' Mine.jw_last ?v25F ?v25N ?v25h1 ?v25h2 ?v25h3 ?v25h4 ?v25hb ?v25h5 ?v25d1 ?v25d2 ?v25d3 ?v25hn ?v25C; (case v25F => k_asm); (case v25N => k_asm); (case v25C => assumption); (case v25h1 => k_extra "mine_map"); (case v25h2 => k_extra "mine_map"); (case v25h3 => k_extra "mine_map"); (case v25h4 => k_extra "mine_map"); (case v25h5 => k_extra "mine_map"); (case v25hb => first | assumption | rfl); (case v25d1 => assumption); (case v25d2 => assumption); (case v25d3 => assumption); (case v25hn => omega))))
  k_with "UnrEnd" => (k_dflt (refine' Mine.jf_end ?v26F ?v26N ?v26h1 ?v26h2 ?v26d1 ?v26d2 ?v26d3 ?v26C ?v26lb ?v26lD ?v26l0 ?v26lI; (case v26F => k_asm); (case v26N => k_asm); (case v26C => assumption); (case v26h1 => k_extra "mine_map"); (case v26h2 => k_extra "mine_map"); (case v26d1 => assumption); (case v26d2 => assumption); (case v26d3 => assumption); (case v26lb => assumption); (case v26lD => assumption); (case v26l0 => assumption); (case v26lI => assumption)))
  k_with "subscriptTail Constant str Name str int" => (k_here; k_dflt (refine' Mine.abcd_item ?v27a ?v27b ?_ ?v27s ?v27t; (case v27a => omega); (case v27b => omega); (case v27s => with_unfolding_all rfl); (case v27t => (intro _; with_unfolding_all rfl)); k_whole))
  k_with "subscriptTail Constant str Subscript str int" => (k_here; k_dflt (refine' Mine.abcd_item ?v28a ?v28b ?_ ?v28s ?v28t; (case v28a => first | omega | k_extra "mine_lat"); (case v28b => first | omega | k_extra "mine_lat"); (case v28s => with_unfolding_all rfl); (case v28t => (intro _; with_unfolding_all rfl)); k_whole))
  k_with "mine_lat" => (first | exact Lat.lo (by assumption) _ _ (by omega) (by omega) | exact Lat.hi (by assumption) _ _ (by omega) (by omega))
  k_with "binaryOp Add str str" => (k_here; (first | with_reducible refine' Mine.cat_1 ?_ | with_reducible refine' Mine.cat_2 ?_); intro t' tk')
  k_with "subscriptTail Name Name ref int" => (k_here; k_dflt (refine' Mine.item_refsX ?v31N ?v31m ?v31a ?v31b ?_ ?v31s; (case v31N => k_asm); (case v31m => k_mem); (case v31a => omega); (case v31b => omega); (case v31s => with_unfolding_all rfl); k_whole))
  k_with "subscriptTail Name Name ref int" => (k_here; k_dflt (refine' Mine.item_row ?v32N ?v32ha ?v32m0 ?v32m1 ?v32m2 ?v32m3 ?v32a ?v32b ?_ ?v32s; (case v32N => k_asm); (case v32m0 => k_mem); (case v32m1 => k_mem); (case v32m2 => k_mem); (case v32m3 => k_mem); (case v32ha => omega); (case v32a => omega); (case v32b => omega); (case v32s => with_unfolding_all rfl); k_whole))
  k_with "subscriptTail Subscript Name Name Name ref int" => (k_here; k_dflt (refine' Mine.item_row ?v33N ?v33ha ?v33m0 ?v33m1 ?v33m2 ?v33m3 ?v33a ?v33b ?_ ?v33s; (case v33N => k_asm); (case v33m0 => k_mem); (case v33m1 => k_mem); (case v33m2 => k_mem); (case v33m3 => k_mem); (case v33ha => omega); (case v33a => omega); (case v33b => omega); (case v33s => with_unfolding_all rfl); k_whole))
  k_with "call builtin:list.append cons nil" => (k_here; k_dflt (refine' Mine.append_w ?v34F ?v34N ?v34f ?v34n ?v34x ?_; (case v34F => k_asm); (case v34N => k_asm); (case v34f => assumption); (case v34n => omega); (case v34x => assumption); k_whole); intro h' F' N')
  k_with "compareOp NotIn str str" => (k_here; refine' Mine.notin_dots ?v35a ?_; (case v35a => assumption); k_whole)
  k_with "call builtin:str.split cons nil" => (k_here; k_dflt (refine' Mine.split_dots ?v36a ?v36F ?v36N ?_; (case v36a => assumption); (case v36F => k_asm); (case v36N => k_asm); k_whole); intro D' t1' t2' h' tk' F' N' l1; (try k_lt l1))
  k_with "call builtin:str.startswith cons nil" => (k_here; refine' Mine.starts_is ?v37a ?_; (case v37a => assumption); k_whole)
  k_with "call builtin:str.endswith cons nil" => (k_here; refine' Mine.ends_is ?v38a ?_; (case v38a => assumption); k_whole)
  k_with "call builtin:str.find cons nil" => (k_here; refine' Mine.find_is ?v39a ?_; (case v39a => assumption); k_whole)
  k_with "truthy str" => (k_here; refine' Mine.truthy_len ?v40a ?v40b ?_; (case v40a => assumption); (case v40b => decide); k_whole)
  k_with "call builtin:len cons nil" => (k_here; refine' Mine.len_is ?v41a ?v41b ?_; (case v41a => first | assumption | exact (by decide : Str.empty.length = 0)); (case v41b => decide); k_whole)
  k_with "exec For Name Name cons nil" => (k_here; k_dflt (refine' For_turns ?v42F ?_; (case v42F => k_asm); k_whole))
  k_with "pyIter ref" => (k_here; k_dflt (refine' iter_listTurns ?v43a ?v43F ?v43N ?v43m ?v43c ?v43d ?_; (case v43a => rfl); (case v43F => k_asm); (case v43N => k_asm); (case v43m => k_mem); (case v43c => rfl); (case v43d => with_unfolding_all rfl); k_whole); intro i' l1; (try k_lt l1))
  k_with "UnrEndW" => (k_here; k_dflt (refine' Mine.endW ?v44F ?v44N ?v44off ⟨?v44sub, ?_⟩; (case v44F => k_asm); (case v44N => k_asm); (case v44off => assumption); (case v44sub => k_subL); k_whole))
  trivial
/-- what the first n words come to -/
noncomputable def told (g : Nat → Nat → Nat) (pa : Nat → Nat → Nat) : Nat → Int
  | 0 => 0
  | n + 1 => told g pa n + score (pa 0 (g n 0)) (pa 1 (g n 1)) (pa 2 (g n 2))
/-- what holds between the words -/
inductive JM (g pa : Nat → Nat → Nat) (LL : Addr) (Tl : Nat → Addr) (lt : Nat → Nat → UInt64) (ul : Nat → Nat → Tok) (L' : Addr) (rr : List (Addr × Obj)) (o1 o2 o3 : Obj) (i : Nat) (m : Str → Option Value) : List (Addr × Obj) → Prop
  | mk (o4 o5 o6 o7 : Obj) (v4 v5 v6 v7 : Option Value) (t : Tok) (e : m "told" = some (.int (told g pa i) t)) (d4 : o4.data = .cell v4) (d5 : o5.data = .cell v5) (d6 : o6.data = .cell v6) (d7 : o7.data = .cell v7) :
    JM g pa LL Tl lt ul L' rr o1 o2 o3 i m ((LL, refs3 Tl) :: (Tl 2, ltup (lt 2) (ul 2)) :: (Tl 1, ltup (lt 1) (ul 1)) :: (Tl 0, ltup (lt 0) (ul 0)) :: (L' + 1 + 1 + 1 + 1 + 1 + 1 + 1, o7) :: (L' + 1 + 1 + 1 + 1 + 1 + 1, o6) :: (L' + 1 + 1 + 1 + 1 + 1, o5) :: (L' + 1 + 1 + 1 + 1, o4) :: (L' + 1 + 1 + 1, o3) :: (L' + 1 + 1, o2) :: (L' + 1, o1) :: rr)
theorem wl_atL {g : Nat → Nat → Nat} {T : Nat → Tok} {i : Nat} {v : Value} (h : ((List.range 16).map fun q => Value.str (word 3 (g q)) (T q))[i]? = some v) : i < 16 ∧ v = .str (word 3 (g i)) (T i) := by
  have hi : i < 16 := by
    rcases Nat.lt_or_ge i 16 with q | q
    · exact q
    · rw [List.getElem?_eq_none (by simpa using q)] at h; cases h
  refine ⟨hi, ?_⟩
  simp [hi] at h
  exact h.symm
theorem newsMid {h₀ h : Heap} {L : Addr} {x y z : Addr × Obj} {new news : List (Addr × Obj)} (N : News h₀ L h (x :: y :: z :: (new ++ news))) : News h₀ L h (x :: y :: z :: news) := fun p hp => N p (by
  simp only [List.mem_cons, List.mem_append] at hp ⊢
  rcases hp with h | h | h | h
  · exact .inl h
  · exact .inr (.inl h)
  · exact .inr (.inr (.inl h))
  · exact .inr (.inr (.inr (.inr h))))
theorem lines17 : True := by
  k_with "exec Assign cons ListComp" => (k_here; k_dflt (refine wpAny_Assign_Name ?_))
  k_with "LRest Call none cons cons nil nil" => (k_dflt (refine' Mine.LRest.all (Mine.J0 turn) Mine.J0.zero ?wtu3 ?wfi3); (case' wfi3 => (rintro ys' new' ⟨Tf, uf, rfl, rfl, ord⟩; dsimp only [List.range, List.range.loop, List.reverse, List.reverseAux, List.map])); (case' wtu3 => (rintro i' ys' new' v' I' oI' C' oC' D' m' h' tk' E' hi' j' ⟨t9', rfl⟩ hC' hx' F' NF' lie'; have N' := Mine.newsMid NF')))
  k_with "binaryOp Mod int int" => (k_here; refine' Mine.mod6n (n := turn + 2 * i') ?wa9 ?_; (case wa9 => push_cast; omega))
  k_with "binaryOp Div int int" => (k_here; refine' Mine.div6 ?wh9 ?wn9 ?_; (case wh9 => exact rfl); (case wn9 => exact Nat.mod_lt _ (by decide)))
  k_with "call ref cons nil" => (k_here; k_dflt (refine' Mine.tells_at (Mine.hsv_ok _ (Nat.mod_lt _ (by decide))) ?wB9 ?wF9 ?wX9 ?wN9 ?wT9 ?wk9 ?wd9 ?wu9 ?_; (case wB9 => k_asm); (case wF9 => k_asm); (case wX9 => k_asm); (case wN9 => exact NF'); (case wT9 => k_asm); (case wk9 => first | exact rfl | assumption); (case wd9 => ktr_room); (case wu9 => ktr_units); k_whole); clear NF'; rintro v9 h' tk' ⟨F', T', a', b', c', t1', t2', t3', rfl, el', l1', N'⟩)
  k_with "FinV" => ((unfold Mine.FinV); intro D' h' tk' F' N' nlt' abv'; (k_lt nlt'); (try simp only [List.forall_mem_cons, List.forall_mem_nil, and_true] at abv'); (try simp only [List.nil_append, List.cons_append] at N'); (try dsimp only); k_dflt (have S11 := Mine.apart_block (D := D') (T0 := Tf 0) (T1 := Tf 1) (T2 := Tf 2) (l := (L' + 1 + 1 + 1 + 1 + 1 + 1 + 1, nsO) :: (L' + 1 + 1 + 1 + 1 + 1 + 1, nsO) :: (L' + 1 + 1 + 1 + 1 + 1, nsO) :: (L' + 1 + 1 + 1 + 1, nsO) :: (L' + 1 + 1 + 1, nsO) :: (L' + 1 + 1, nsO) :: (L' + 1, nsO) :: (W, nsO) :: (PP, nsO) :: (a 0, nsO) :: (a 1, nsO) :: (a 2, nsO) :: base) nlt' abv'.2.2.1 (ord 0 1 (by decide) (by decide)) (ord 1 2 (by decide) (by decide)) (Mine.apart7 (l := (W, wl16 g Tw) :: painted PP a pa Tp base) l1 S)))
  k_with "storeName ref" => (k_here; k_dflt (refine' storeX_C ?F ?N ?c ?U ?d ?_ ?a ?b; (case a => rfl); (case b => rfl); (case F => k_asm); (case N => k_asm); (case c => rfl); (case U => (refine' Mine.updF_apart ?S9 8 ?r9; (case r9 => rfl); (case S9 => exact S11))); (case d => k_asm); k_whole); intro h' o' F' N' d'; (try dsimp only at N'); dsimp only [List.set] at N')
  k_with "pyIter ref" => (k_here; k_dflt (refine' iter_listTurns (vs := (List.range 16).map fun q => Value.str (word 3 (g q)) (Tw q)) ?a ?F ?N ?m ?c ?d ?_; (case a => rfl); (case F => k_asm); (case N => k_asm); (case m => k_mem); (case c => rfl); (case d => rfl); k_whole); intro i' l2)
  k_with "LEnd" => (k_dflt (refine Mine.LEnd.push1 (by assumption) (by k_asm) N' (l1' _ (List.mem_cons_of_mem _ List.mem_cons_self)) (Mine.J0.succ j' el' ?_)); intro p9 hp9; exact l1' _ (by simp [hp9]))
  trivial
theorem mixed_ok (w : World) {p : Program} {loose : List Str} {mean : ExcName → Option Value} {mg mb : Str → Option Value} {base : List (Addr × Obj)} {W PP : Addr} {a : Nat → Addr} {pa : Nat → Nat → Nat} {Tp : Nat → Nat → Tok} {g : Nat → Nat → Nat} {Tw : Nat → Tok} {turn : Nat} {t : Tok} (ht : turn < 6) (hg : ∀ n, n < 16 → ∀ q, q < 3 → g n q < 4) (hp : ∀ j k, j < 3 → k < 4 → pa j k < 3)
   (S : Apart (((W, wl16 g Tw) :: painted PP a pa Tp base).map (·.1))) :
   Tells w p loose mean mg mb 120 [.ref W, .ref PP, .int turn t] ((W, wl16 g Tw) :: painted PP a pa Tp base) 3 24 (intPost (told g pa 16) ((W, wl16 g Tw) :: painted PP a pa Tp base)) := by
  intro dp un gd cn cs aa ccd cl outer A₀ bs h₀ L m s Q E B F X N T hk hd hu hret
  refine wpAny_call ?_
  k_extra "enterC"
  iterate 39 (first | (k_unfold; (try dsimp only)) | walk1 | (dsimp only; walk1))
  iterate 11 (first | (k_unfold; (try dsimp only)) | walk1 | (dsimp only; walk1))
  have l3 := allLt_of l2
  have SI := apart_cons (D := i') (l := (D', nsO) :: (Tf 2, nsO) :: (Tf 1, nsO) :: (Tf 0, nsO) :: (L' + 1 + 1 + 1 + 1 + 1 + 1 + 1, nsO) :: (L' + 1 + 1 + 1 + 1 + 1 + 1, nsO) :: (L' + 1 + 1 + 1 + 1 + 1, nsO) :: (L' + 1 + 1 + 1 + 1, nsO) :: (L' + 1 + 1 + 1, nsO) :: (L' + 1 + 1, nsO) :: (L' + 1, nsO) :: (W, nsO) :: (PP, nsO) :: (a 0, nsO) :: (a 1, nsO) :: (a 2, nsO) :: base) l3 S11
  refine' items_inv0 (JM g pa D' Tf (ltOf turn) uf L' ((W, wl16 g Tw) :: painted PP a pa Tp base) _ _ _) ?turn ?done (JM.mk _ _ _ _ _ _ _ _ _ ?j0 ?j4 ?j5 ?j6 ?j7)
  case j0 => k_extra "mine_map"
  case j4 => assumption
  case j5 => assumption
  case j6 => assumption
  case j7 => assumption
  case turn =>
    rintro i v m1 news1 hv ⟨q4, q5, q6, q7, w4, w5, w6, w7, tt, e1, d4, d5, d6, d7⟩ oI h1 tk1 F1 N1
    obtain ⟨hi, rfl⟩ := wl_atL hv
    have hgi := hg i hi
    have hxx : ∀ j, j < 3 → pa j (g i j) < 3 := fun j hj => hp j _ hj (hgi j hj)
    have hB := mixB_use (mix_all ht (hxx 0 (by decide)) (hxx 1 (by decide)) (hxx 2 (by decide)))
    refine' mix_turn w ?fB ?fX ?fT ?fd ?fu _ _ rfl rfl _ rfl (lt := ltOf turn) (x := fun j => pa j (g i j)) (told := told g pa i) hgi (fun _ _ => rfl) hxx rfl rfl rfl hB.1 hB.2.1 rfl rfl rfl hB.2.2 SI ?d1 ?d2 ?d3 d4 d5 d6 d7 e1 ?hE F1 N1 ?fin
    case fB => k_asm
    case fX => k_asm
    case fT => k_asm
    case fd => omega
    case fu => omega
    case d1 => assumption
    case d2 => assumption
    case d3 => assumption
    case hE => passes_own
    case fin =>
      intro m2 r4 r5 r6 r7 x4 x5 x6 x7 t2 f1 f4 f5 f6 f7
      exact ⟨by k_subL, JM.mk _ _ _ _ _ _ _ _ _ f1 f4 f5 f6 f7⟩
  case done =>
    rintro m1 news1 ⟨q4, q5, q6, q7, w4, w5, w6, w7, tt, e1, d4, d5, d6, d7⟩ h1 tk1 F1 N1
    k_steps
    have hlen : (List.map (fun q => Value.str (word 3 (g q)) (Tw q)) (List.range 16)).length = 16 := by simp
    rw [hlen]
    have kN := (by assumption : News h₀ L _ _)
    exact hret _ _ _ ⟨by k_asm, _, rfl, newsTail (newsTail (newsTail (newsTail (newsTail (newsTail (newsTail (newsTail (newsTail (newsTail (newsTail kN))))))))))⟩
end
section
open PySem PySem.Spec PySem.Calls PySem.W PyProof.Rows PyProof.Rows.LCg
noncomputable def szFor1 : List Stmt := bodyOf (nth (bodyOf (topAt 26)) 2)
noncomputable def szFor2 : List Stmt := bodyOf (nth (bodyOf (topAt 26)) 3)
noncomputable def szTgt : Expr := tgtOf (nth (bodyOf (topAt 26)) 3)
noncomputable def szSc : Scope := scopeOf (topAt 26)
noncomputable abbrev szEnv (sc : Scope) (L : Addr) : Env := envOf (Str.ofString "_law_sizes") sc L 125 (.ref 124)
/-- how often k stands in a row of four -/
noncomputable def cnt4 (r : Nat → Nat) (k : Nat) : Nat := (if r 0 = k then 1 else 0) + (if r 1 = k then 1 else 0) + (if r 2 = k then 1 else 0) + (if r 3 = k then 1 else 0)
theorem cnt4_le (r : Nat → Nat) (k : Nat) : cnt4 r k ≤ 4 := by unfold cnt4; repeat' split
                                                               all_goals omega
section
variable {prog : Program} {w : World} {A : Around} {E : Value → Shared → Prop} {s : Shared} {h₀ : Heap} {L : Addr} {m : Str → Option Value} {env : Env} {news : List (Addr × Obj)} {t u : Tok} {Q : Value → Shared → Prop}
theorem CRest.all {elt : Expr} {x : Str} {scope : Scope} {cl : List (Str × Addr)} {P : Nat → Value → Prop} {Fin : List Value → List (Addr × Obj) → Prop} {n : Nat} (J : Nat → List Value → List (Addr × Obj) → Prop) (j0 : J 0 [] [])
    (turn : ∀ i ys new v I oI C X oX D h tk (E' : Value → Shared → Prop), i < n → J i ys new → P i v → oX.data = .cell (some v) → Fr h₀ L h m → News h₀ L h ((I, oI) :: (C, nsO) :: (X, oX) :: (D, lst ys) :: (new ++ news)) → Lie I D X new news →
      wpAny (model prog w) A (eval elt (compEnvC scope ((x, X) :: cl) C env)) (LEnd h₀ L m news { s with heap := h, toks := tk } [(I, oI), (C, nsO), (X, oX)] D X (lst ys) (fun y new' => J (i + 1) (ys ++ [y]) new')) E' { s with heap := h, toks := tk })
    (fin : ∀ ys new, J n ys new → Fin ys new) : CRest prog w A h₀ L m env elt x scope cl news s P Fin n 0 [] [] := by
  have key : ∀ k i ys new, i + k = n → J i ys new → CRest prog w A h₀ L m env elt x scope cl news s P Fin k i ys new := by
    intro k
    induction k with
    | zero => intro i ys new e j; exact fin ys new (by rw [← e]; exact j)
    | succ k ih =>
      intro i ys new e j
      refine CRest.turn fun v I oI C X oX D h tk E' hP hX F N lie => ?_
      refine wpAny_mono (turn i ys new v I oI C X oX D h tk E' (by omega) j hP hX F N lie) (fun y s' q => ?_) fun _ _ q => q
      obtain ⟨h', tk', new', e1, F', N', abv, j'⟩ := q
      exact ⟨h', tk', new', e1, F', N', abv, ih (i + 1) (ys ++ [y]) new' (by omega) j'⟩
  exact key n 0 [] [] (by omega) j0
theorem count_row {l : Addr} {r : Nat → Nat} {T : Nat → Tok} {k : Int} {q : Nat} (N : News h₀ L s.heap news) (hm : (l, row4 (fun k => (r k : Int)) T) ∈ news) (hk : k = q) (h : ∀ t', Q (.int (cnt4 r q) t') { s with toks := s.toks + 1 }) :
    wpAny (model prog w) A (call (.builtin "list.count") [.ref l, .int k t]) Q E s := by
  have hl : s.heap.IsList l ([.int (r 0) (T 0), .int (r 1) (T 1), .int (r 2) (T 2), .int (r 3) (T 3)] : List Value).toArray := ⟨_, (N _ hm).1, rfl, _, rfl⟩
  subst hk
  refine count_list_ints hl (ns := [(r 0 : Int), r 1, r 2, r 3]) (.cons _ _ (.cons _ _ (.cons _ _ (.cons _ _ .nil)))) ?_
  have e : ([(r 0 : Int), r 1, r 2, r 3] : List Int).count (q : Int) = cnt4 r q := by
    unfold cnt4
    simp only [List.count_cons, List.count_nil, beq_iff_eq, Int.natCast_inj]
    omega
  rw [e]
  exact h _
theorem mul_c {a : Int} {n : Nat} (hn : n ≤ 4) (h : Q (.int (a * (n : Int)) s.toks) { s with toks := s.toks + 1 }) : wpAny (model prog w) A (binaryOp .Mult (.int a t) (.int n u)) Q E s :=
  PyProof.Rows.mul_int h (.of_right (by have : n = 0 ∨ n = 1 ∨ n = 2 ∨ n = 3 ∨ n = 4 := by omega
                                        rcases this with rfl | rfl | rfl | rfl | rfl <;> decide))
theorem getCount_row {l : Addr} {r : Nat → Nat} {T : Nat → Tok} {pl : Sem Bool} {Q : Value × List Value → Shared → Prop} (N : News h₀ L s.heap news) (hm : (l, row4 (fun k => (r k : Int)) T) ∈ news) (h : Q (.builtin "list.count", [.ref l]) s) :
    wpAny (model prog w) A (getMethod (.ref l) (Str.ofString "count") pl) Q E s := by
  have hl : s.heap.IsList l ([.int (r 0) (T 0), .int (r 1) (T 1), .int (r 2) (T 2), .int (r 3) (T 3)] : List Value).toArray := ⟨_, (N _ hm).1, rfl, _, rfl⟩
  exact getMethod_list_of PySem.F.slot_list_count PySem.F.type_list_count hl ⟨_, (N _ hm).1, rfl⟩ h
theorem SrcM.refs3 {a : Nat → Addr} {R : List (Addr × Obj) → Shared → (Nat → Value → Prop) → Nat → Prop} {ax : Addr} {news : List (Addr × Obj)} {s₁ : Shared}
    (hh : A.handled = none) (F : Fr h₀ L s₁.heap m) (N : News h₀ L s₁.heap news) (hm : (ax, refs3 a) ∈ news)
    (h : ∀ g', R news { s₁ with heap := g' } (fun i v => (#[Value.ref (a 0), Value.ref (a 1), Value.ref (a 2)])[i]? = some v) 3) : SrcM A h₀ L m R (.ref ax) s₁ :=
  SrcM.ledger 3 hh F N hm rfl (by decide) h
theorem refs3_at {a : Nat → Addr} {i : Nat} {v : Value} (hi : i < 3) (h : (#[Value.ref (a 0), Value.ref (a 1), Value.ref (a 2)])[i]? = some v) : v = .ref (a i) := by
  rcases lt3 hi with rfl | rfl | rfl <;> exact (Option.some.inj h).symm
theorem mem3 {p x y z : Addr × Obj} {l : List (Addr × Obj)} (h : p ∈ l) : p ∈ x :: y :: z :: l := List.mem_cons_of_mem _ (List.mem_cons_of_mem _ (List.mem_cons_of_mem _ h))
theorem mem4a {p x y z v : Addr × Obj} {l r : List (Addr × Obj)} (h : p ∈ l) : p ∈ x :: y :: z :: v :: (r ++ l) := List.mem_cons_of_mem _ (mem3 (List.mem_append_right _ h))
end
/-- the sizes of a painting, one by one; the lists of them -/
noncomputable def J3 (r : Nat → Nat) (i : Nat) (ys : List Value) (new : List (Addr × Obj)) : Prop := (∃ tk : Nat → Tok, ys = (List.range i).map (fun q => .int (cnt4 r q) (tk q))) ∧ new = []
theorem J3.succ {r : Nat → Nat} {i : Nat} {tk : Nat → Tok} {t : Tok} : J3 r (i + 1) ((List.range i).map (fun q => .int (cnt4 r q) (tk q)) ++ [.int (cnt4 r i) t]) [] :=
  ⟨⟨fun q => if q = i then t else tk q, by
    rw [List.range_succ, List.map_append, List.map_cons, List.map_nil]
    simp only [if_true]
    refine congrArg (· ++ _) (List.map_congr_left fun q hq => ?_)
    have : q ≠ i := Nat.ne_of_lt (List.mem_range.mp hq)
    simp only [this, if_false]⟩, rfl⟩
noncomputable def J4 (pa : Nat → Nat → Nat) (i : Nat) (ys : List Value) (new : List (Addr × Obj)) : Prop :=
  ∃ (Tf : Nat → Addr) (tf : Nat → Nat → Tok), ys = (List.range i).map (fun q => .ref (Tf q)) ∧ new = (List.range i).reverse.map (fun q => (Tf q, lrow 3 3 (fun k => (cnt4 (pa q) k : Int)) (tf q)))
theorem J4.zero {pa : Nat → Nat → Nat} : J4 pa 0 [] [] := ⟨fun _ => 0, fun _ _ => 0, rfl, rfl⟩
theorem J4.succ {pa : Nat → Nat → Nat} {i : Nat} {ys : List Value} {new : List (Addr × Obj)} {T : Addr} {t : Nat → Tok} (j : J4 pa i ys new) :
    J4 pa (i + 1) (ys ++ [.ref T]) ((T, lrow 3 3 (fun k => (cnt4 (pa i) k : Int)) t) :: new) := by
  obtain ⟨Tf, tf, rfl, rfl⟩ := j
  refine ⟨fun q => if q = i then T else Tf q, fun q => if q = i then t else tf q, ?_, ?_⟩
  · rw [List.range_succ, List.map_append, List.map_cons, List.map_nil]
    simp only [if_true]
    refine congrArg (· ++ _) (List.map_congr_left fun q hq => ?_)
    have : q ≠ i := Nat.ne_of_lt (List.mem_range.mp hq)
    simp only [this, if_false]
  · rw [List.range_succ, List.reverse_append, List.reverse_singleton, List.singleton_append, List.map_cons]
    simp only [if_true]
    refine congrArg (_ :: ·) (List.map_congr_left fun q hq => ?_)
    have : q ≠ i := Nat.ne_of_lt (List.mem_range.mp (List.mem_reverse.mp hq))
    simp only [this, if_false]
end
section
open PySem PySem.Spec PySem.Calls PySem.W PyProof.Rows PyProof.Rows.LCg
theorem walkT19 : True := by
  k_with_none
  k_with "enterC" => (k_dflt (refine' code_defC ?wek1 ?wek2 ?wek3 ?wek4 ?wek5 ?wekA ?wekF ?wekK ?wek6 ?wek7 ?wek8 ?wek9 ?wekB ?wekD ?_ ?wec2 ?wec3 ?wec4; (case wekA => exact rfl); (case wekF => exact rfl); (case wekK => assumption); (case wek1 => k_asm); (case wek2 => k_asm); (case wek3 => k_asm); (case wek4 => k_asm); (case wek5 => k_asm); (case wek6 => k_is); (case wek7 => k_is); (case wek8 => ktr_room); (case wek9 => exact BindsTo.of_eq rfl); (case wekB => exact rfl); (case wekD => decide +kernel); (case wec2 => exact rfl); (case wec3 => exact rfl); (case wec4 => exact rfl); k_whole; intro g' L' h' tk' cells' FG' F' N' Y' B' X' T' l1; (try k_lt l1); k_cells Y'; (try simp only [List.cons_append, List.nil_append] at N'); (try dsimp only); (try k_lift B'); (try k_fold)))
  k_with "exec Assign cons ListComp" => (k_here; k_dflt (first
  | refine Mine.Assign_C (_F₀ := by k_asm) (by rfl) (by with_unfolding_all rfl) (by with_unfolding_all rfl) (fun _ => rfl) (fun _ => rfl) (by rfl) (by rfl) (by decide) (by rfl) (by rfl) ?_
  | refine Mine.Assign_L (ct := none) (_F₀ := by k_asm) (by rfl) (by with_unfolding_all rfl) (by with_unfolding_all rfl) (by decide) (by rfl) (by decide) (by rfl) (by rfl) (by rfl) ?_
  | refine Mine.Assign_L (ct := some _) (_F₀ := by k_asm) (by rfl) (by with_unfolding_all rfl) (by with_unfolding_all rfl) (by decide) (by rfl) (by decide) (by rfl) (by rfl) (by rfl) ?_))
  k_with "eval ListComp BinOp cons" => (k_here; k_dflt (refine Mine.ListComp_L (ct := none) (_F₀ := by k_asm) (by with_unfolding_all rfl) (by decide) (by rfl) (by decide) (by rfl) ?_))
  k_with "eval ListComp Call cons" => (k_here; k_dflt (refine Mine.ListComp_L (ct := none) (_F₀ := by k_asm) (by with_unfolding_all rfl) (by decide) (by rfl) (by decide) (by rfl) ?_))
  k_with "eval ListComp Subscript cons" => (k_here; k_dflt (refine Mine.ListComp_L (ct := none) (_F₀ := by k_asm) (by with_unfolding_all rfl) (by decide) (by rfl) (by decide) (by rfl) ?_))
  k_with "eval ListComp Name cons" => (k_here; k_dflt (refine Mine.ListComp_L (ct := none) (_F₀ := by k_asm) (by with_unfolding_all rfl) (by decide) (by rfl) (by decide) (by rfl) ?_))
  k_with "eval ListComp Name cons" => (k_here; k_dflt (refine Mine.ListComp_L (ct := some _) (_F₀ := by k_asm) (by with_unfolding_all rfl) (by decide) (by rfl) (by decide) (by rfl) ?_))
  k_with "eval ListComp ListComp cons" => (k_here; k_dflt (refine Mine.ListComp_C (_F₀ := by k_asm) (by with_unfolding_all rfl) (fun _ => rfl) (fun _ => rfl) (by rfl) (by rfl) (by decide) ?_))
  k_with "SrcM" => (k_here; k_dflt (first
  | (refine Mine.SrcM.range 4 (by rfl) (by k_asm) (by k_asm) (by assumption) (by first | decide | rfl) (by first | rfl | decide) (by exact Nat.le_of_ble_eq_true rfl) ?_; intro g'; (try dsimp only))
  | (refine Mine.SrcM.range 3 (by rfl) (by k_asm) (by k_asm) (by assumption) (by first | decide | rfl) (by first | rfl | decide) (by exact Nat.le_of_ble_eq_true rfl) ?_; intro g'; (try dsimp only))
  | (refine Mine.SrcM.ledger 3 (by rfl) (by k_asm) (by k_asm) (by k_mem) (by rfl) (by exact Nat.le_of_ble_eq_true rfl) ?_; intro g'; (try dsimp only))))
  k_with "LRest" => (with_unfolding_all first
  | (refine Mine.LRest.turn ?_; intro v' I' oI' C' oC' D' m' h' tk' E' hv' hC' hx' F' N' lie'; (first | lcg_open hv' | (obtain ⟨t9', hv9'⟩ := hv'; subst hv9')); (try simp only [List.nil_append, List.cons_append] at N'))
  | (refine Mine.LRest.test ?_; intro v' I' oI' C' oC' D' m' h' tk' E' hv' hC' hx' F' N' lie'; (first | lcg_open hv' | (obtain ⟨t9', hv9'⟩ := hv'; subst hv9')); (try simp only [List.nil_append, List.cons_append] at N'))
  | refine Mine.LRest.zero ?_)
  k_with "CRest" => (with_unfolding_all first
  | (refine Mine.CRest.turn ?_; intro v' I' oI' C' X' oX' D' h' tk' E' hv' hdX' F' N' lie'; (first | lcg_open hv' | (obtain ⟨t9', hv9'⟩ := hv'; subst hv9')); (try simp only [List.nil_append, List.cons_append] at N'))
  | refine Mine.CRest.zero ?_)
  k_with "LEnd" => (k_dflt (first
  | refine Mine.LEnd.push0 (by k_asm) (by k_asm) (by k_asm) ?_
  | refine Mine.LEnd.push1 (by k_asm) (by k_asm) (by k_asm) (by omega) ?_))
  k_with "FinV" => ((unfold Mine.FinV); intro D' h' tk' F' N' nlt' abv'; (k_lt nlt'); (try simp only [List.forall_mem_cons, List.forall_mem_nil, and_true] at abv'); (try simp only [List.nil_append, List.cons_append] at N'); (try dsimp only))
  k_with "FinB" => ((unfold Mine.FinB); intro D' h' tk' F' N' nlt' abv'; (k_lt nlt'); (try simp only [List.forall_mem_cons, List.forall_mem_nil, and_true] at abv'); (try simp only [List.nil_append, List.cons_append] at N'); (try dsimp only))
  k_with "mine_map" => ((repeat (refine (if_neg (by decide)).trans ?_)); first | exact if_pos rfl | assumption | exact rfl)
  k_with "eval Name" => (k_here; k_dflt (refine' nameX_L ?v15F ?v15v ?_ ?v15a ?v15b; (case v15a => rfl); (case v15b => rfl); (case v15F => k_asm); (case v15v => k_extra "mine_map"); k_whole))
  k_with "subscriptTail Name BinOp ref int" => (k_here; k_dflt (refine' Mine.item_refs ?v16N ?v16m ?v16a ?v16b ?_ ?v16s; (case v16N => k_asm); (case v16m => k_mem); (case v16a => omega); (case v16b => omega); (case v16s => with_unfolding_all rfl); k_whole); intro i' hi')
  k_with "binaryOp Mod int int" => (k_here; (with_reducible refine' Mine.mod4 ?_); intro x' hx0' hx4')
  k_with "subscriptTail Name Name ref int" => (k_here; k_dflt (refine' Mine.item_row ?v18N ?v18ha ?v18m0 ?v18m1 ?v18m2 ?v18m3 ?v18a ?v18b ?_ ?v18s; (case v18N => k_asm); (case v18m0 => k_mem); (case v18m1 => k_mem); (case v18m2 => k_mem); (case v18m3 => k_mem); (case v18ha => omega); (case v18a => omega); (case v18b => omega); (case v18s => with_unfolding_all rfl); k_whole))
  k_with "setItem ref int" => (k_here; k_dflt (refine' Mine.store_row ?v19F ?v19N ?v19f ?v19ha ?v19a ?v19b ?_; (case v19F => k_asm); (case v19N => k_asm); (case v19f => assumption); (case v19ha => omega); (case v19a => omega); (case v19b => omega); k_whole); intro h' F' N')
  k_with "loadName" => (k_here; k_dflt (refine' wpAny_loadName_local ?v20a ?v20b ?v20c ?v20v ?_; (case v20a => rfl); (case v20b => rfl); (case v20c => exact Fr.ns (by k_asm)); (case v20v => k_extra "mine_map"); k_whole))
  k_with "exec While" => (k_here; k_dflt (refine' Mine.while_sq ?v21a ?v21b ?v21F ?v21N ?v21h1 ?v21h2 ?v21h3 ?v21h4 ?v21h5 ?v21d1 ?v21d2 ?v21d3 ?_ ?v21hE; (case v21hE => first | assumption | passes_own); (case v21F => k_asm); (case v21N => k_asm); (case v21h1 => k_extra "mine_map"); (case v21h2 => k_extra "mine_map"); (case v21h3 => k_extra "mine_map"); (case v21h4 => k_extra "mine_map"); (case v21h5 => k_extra "mine_map"); (case v21d1 => assumption); (case v21d2 => assumption); (case v21d3 => assumption); (case v21a => omega); (case v21b => omega); k_whole))
  k_with "LRest" => (k_dflt (refine' Mine.LRest.one ?v22o ?v22turn ?v22fin; (case v22o => assumption)); (case' v22fin => (intro y' hy'; (try (obtain ⟨t8', hy8'⟩ := hy'; subst hy8')))); (case' v22turn => (intro i' v' I' oI' C' oC' D' m' h' tk' E' ys' hi' hv' hC' hx' F' N' lie'; (first | (obtain ⟨t9', hv9'⟩ := hv'; subst hv9') | skip))))
  k_with "mine_hit" => (first | (refine' Mine.hit_yes ?v23hit ?v23hi ?v23h0 ?v23a ?v23b; (case v23hit => assumption); (case v23hi => assumption); (case v23h0 => assumption); (case v23a => assumption); (case v23b => assumption)) | (refine' Mine.hit_no1 ?v23hit ?v23hi ?v23a; (case v23hit => assumption); (case v23hi => assumption); (case v23a => assumption)) | (refine' Mine.hit_no2 ?v23hit ?v23hi ?v23a; (case v23hit => assumption); (case v23hi => assumption); (case v23a => assumption)))
  k_with "HitPost" => (k_dflt (first | (refine Mine.HitPost.yes' ?v24hh ?_; (case v24hh => k_extra "mine_hit"); intro hh'; (try subst hh')) | (refine Mine.HitPost.no ?v24hh ?_; (case v24hh => k_extra "mine_hit"))))
  k_with "WhileStep2" => (k_dflt (first
  | (refine' Mine.jw_next ?v25F ?v25N ?v25h1 ?v25h2 ?v25h3 ?v25h4 ?v25hb ?v25h5 ?v25d1 ?v25d2 ?v25d3 ?v25hn ?v25C ?v25e; (case v25F => k_asm); (case v25N => k_asm); (case v25C => assumption); (case v25e => assumption); (case v25h1 => k_extra "mine_map"); (case v25h2 => k_extra "mine_map"); (case v25h3 => k_extra "mine_map"); (case v25h4 => k_extra "mine_map"); (case v25h5 => k_extra "mine_map"); (case v25hb => first | assumption | rfl); (case v25d1 => assumption); (case v25d2 => assumption); (case v25d3 => assumption); (case v25hn => omega))
  | (refine' Mine.jw_last ?v25F ?v25N ?v25h1 ?v25h2 ?v25h3 ?v25h4 ?v25hb ?v25h5 ?v25d1 ?v25d2 ?v25d3 ?v25hn ?v25C; (case v25F => k_asm); (case v25N => k_asm); (case v25C => assumption); (case v25h1 => k_extra "mine_map"); (case v25h2 => k_extra "mine_map"); (case v25h3 => k_extra "mine_map"); (case v25h4 => k_extra "mine_map"); (case v25h5 => k_extra "mine_map"); (case v25hb => first | assumption | rfl); (case v25d1 => assumption); (case v25d2 => assumption); (case v25d3 => assumption); (case v25hn => omega))))
  k_with "UnrEnd" => (k_dflt (refine' Mine.jf_end ?v26F ?v26N ?v26h1 ?v26h2 ?v26d1 ?v26d2 ?v26d3 ?v26C ?v26lb ?v26lD ?v26l0 ?v26lI; (case v26F => k_asm); (case v26N => k_asm); (case v26C => assumption); (case v26h1 => k_extra "mine_map"); (case v26h2 => k_extra "mine_map"); (case v26d1 => assumption); (case v26d2 => assumption); (case v26d3 => assumption); (case v26lb => assumption); (case v26lD => assumption); (case v26l0 => assumption); (case v26lI => assumption)))
  k_with "subscriptTail Constant str Name str int" => (k_here; k_dflt (refine' Mine.abcd_item ?v27a ?v27b ?_ ?v27s ?v27t; (case v27a => omega); (case v27b => omega); (case v27s => with_unfolding_all rfl); (case v27t => (intro _; with_unfolding_all rfl)); k_whole))
  k_with "subscriptTail Constant str Subscript str int" => (k_here; k_dflt (refine' Mine.abcd_item ?v28a ?v28b ?_ ?v28s ?v28t; (case v28a => first | omega | k_extra "mine_lat"); (case v28b => first | omega | k_extra "mine_lat"); (case v28s => with_unfolding_all rfl); (case v28t => (intro _; with_unfolding_all rfl)); k_whole))
  k_with "mine_lat" => (first | exact Lat.lo (by assumption) _ _ (by omega) (by omega) | exact Lat.hi (by assumption) _ _ (by omega) (by omega))
  k_with "binaryOp Add str str" => (k_here; (first | with_reducible refine' Mine.cat_1 ?_ | with_reducible refine' Mine.cat_2 ?_); intro t' tk')
  k_with "subscriptTail Name Name ref int" => (k_here; k_dflt (refine' Mine.item_refsX ?v31N ?v31m ?v31a ?v31b ?_ ?v31s; (case v31N => k_asm); (case v31m => k_mem); (case v31a => omega); (case v31b => omega); (case v31s => with_unfolding_all rfl); k_whole))
  k_with "subscriptTail Name Name ref int" => (k_here; k_dflt (refine' Mine.item_row ?v32N ?v32ha ?v32m0 ?v32m1 ?v32m2 ?v32m3 ?v32a ?v32b ?_ ?v32s; (case v32N => k_asm); (case v32m0 => k_mem); (case v32m1 => k_mem); (case v32m2 => k_mem); (case v32m3 => k_mem); (case v32ha => omega); (case v32a => omega); (case v32b => omega); (case v32s => with_unfolding_all rfl); k_whole))
  k_with "subscriptTail Subscript Name Name Name ref int" => (k_here; k_dflt (refine' Mine.item_row ?v33N ?v33ha ?v33m0 ?v33m1 ?v33m2 ?v33m3 ?v33a ?v33b ?_ ?v33s; (case v33N => k_asm); (case v33m0 => k_mem); (case v33m1 => k_mem); (case v33m2 => k_mem); (case v33m3 => k_mem); (case v33ha => omega); (case v33a => omega); (case v33b => omega); (case v33s => with_unfolding_all rfl); k_whole))
  k_with "call builtin:list.append cons nil" => (k_here; k_dflt (refine' Mine.append_w ?v34F ?v34N ?v34f ?v34n ?v34x ?_; (case v34F => k_asm); (case v34N => k_asm); (case v34f => assumption); (case v34n => omega); (case v34x => assumption); k_whole); intro h' F' N')
  k_with "compareOp NotIn str str" => (k_here; refine' Mine.notin_dots ?v35a ?_; (case v35a => assumption); k_whole)
  k_with "call builtin:str.split cons nil" => (k_here; k_dflt (refine' Mine.split_dots ?v36a ?v36F ?v36N ?_; (case v36a => assumption); (case v36F => k_asm); (case v36N => k_asm); k_whole); intro D' t1' t2' h' tk' F' N' l1; (try k_lt l1))
  k_with "call builtin:str.startswith cons nil" => (k_here; refine' Mine.starts_is ?v37a ?_; (case v37a => assumption); k_whole)
  k_with "call builtin:str.endswith cons nil" => (k_here; refine' Mine.ends_is ?v38a ?_; (case v38a => assumption); k_whole)
  k_with "call builtin:str.find cons nil" => (k_here; refine' Mine.find_is ?v39a ?_; (case v39a => assumption); k_whole)
  k_with "truthy str" => (k_here; refine' Mine.truthy_len ?v40a ?v40b ?_; (case v40a => assumption); (case v40b => decide); k_whole)
  k_with "call builtin:len cons nil" => (k_here; refine' Mine.len_is ?v41a ?v41b ?_; (case v41a => first | assumption | exact (by decide : Str.empty.length = 0)); (case v41b => decide); k_whole)
  k_with "exec For Name Name cons nil" => (k_here; k_dflt (refine' For_turns ?v42F ?_; (case v42F => k_asm); k_whole))
  k_with "pyIter ref" => (k_here; k_dflt (refine' iter_listTurns ?v43a ?v43F ?v43N ?v43m ?v43c ?v43d ?_; (case v43a => rfl); (case v43F => k_asm); (case v43N => k_asm); (case v43m => k_mem); (case v43c => rfl); (case v43d => with_unfolding_all rfl); k_whole); intro i' l1; (try k_lt l1))
  k_with "UnrEndW" => (k_here; k_dflt (refine' Mine.endW ?v44F ?v44N ?v44off ⟨?v44sub, ?_⟩; (case v44F => k_asm); (case v44N => k_asm); (case v44off => assumption); (case v44sub => k_subL); k_whole))
  trivial
/-- twice the products of the same light; less the products of three unlike ones -/
noncomputable def tot1 (c : Nat → Nat → Nat) : Nat → Int
  | 0 => 0
  | k + 1 => tot1 c k + 2 * c 0 k * c 1 k * c 2 k
noncomputable def pi6 : Nat → Nat × Nat × Nat
  | 0 => (0, 1, 2)
  | 1 => (0, 2, 1)
  | 2 => (1, 0, 2)
  | 3 => (1, 2, 0)
  | 4 => (2, 0, 1)
  | _ => (2, 1, 0)
noncomputable def tot2 (c : Nat → Nat → Nat) (z : Int) : Nat → Int
  | 0 => z
  | k + 1 => tot2 c z k - c 0 (pi6 k).1 * c 1 (pi6 k).2.1 * c 2 (pi6 k).2.2
inductive JS1 (f : Nat → Int) (r0 r1 r2 : Addr) (led : List (Addr × Obj)) (i : Nat) (m : Str → Option Value) (news : List (Addr × Obj)) : Prop
  | mk (t : Tok) (e0 : m "total" = some (.int (f i) t)) (e1 : m "rows" = some (.ref r0)) (e2 : m "columns" = some (.ref r1)) (e3 : m "signs" = some (.ref r2)) (en : news = led)
theorem lines19 : True := by
  k_with "subscriptTail Name Name ref int" => k_dflt (k_here; refine' Mine.item_lrow ?wN9 ?wm9 ?wn9 ?wk9 ?wi9 ?_; (case wN9 => k_asm); (case wm9 => assumption); (case wn9 => decide); (case wk9 => first | exact Int.zero_add _ | rfl); (case wi9 => assumption))
  k_with "binaryOp Mult int int" => (k_here; refine' Mine.mul_c ?wn9 ?_; (case wn9 => exact hc _ _))
  k_with "execs cons AugAssign nil" => ((with_reducible refine wpAny_execs_cons ?_); (try dsimp only))
  trivial
section
variable (w : World) {p : Program} {loose : List Str} {mean : ExcName → Option Value} {mg mb : Str → Option Value} {dp un : Nat} {gd : Option (List Code)} {cn : Str} {cs : Scope} {L a₀ : Addr} {ccd : Value} {cl : List (Str × Addr)} {outer : List Env}
    {h₀ : Heap} {L' : Addr} (X : (hd.heap_39 w.params).In h₀) (T : Top p loose mean mg mb h₀) (sc : Scope) (b : List Stmt) (hsc : sc = szSc)
    {I r0 r1 r2 : Addr} {led : List (Addr × Obj)} {c : Nat → Nat → Nat} {tk : Nat → Nat → Tok} {s : Shared} {Q : Flow → Shared → Prop} {E : Value → Shared → Prop}
    (hc : ∀ j q, c j q ≤ 4)
    (hE : PassesOwn (model PR w) ((ktrTop dp un gd cn cs L a₀ ccd cl outer).deeper (szEnv sc L')) (szEnv sc L') E)
include X T hsc hc hE
theorem s1_turn {n0 : Nat} (hb : b = szFor1) (m0 : (r0, lrow 3 3 (fun k => (c 0 k : Int)) (tk 0)) ∈ led) (m1 : (r1, lrow 3 3 (fun k => (c 1 k : Int)) (tk 1)) ∈ led) (m2 : (r2, lrow 3 3 (fun k => (c 2 k : Int)) (tk 2)) ∈ led) (lI : ∀ y ∈ led.map (·.1), @LT.lt Nat _ y I) :
    ∀ i m news, i < 3 → JS1 (tot1 c) r0 r1 r2 led i m news → ∀ t h tk, Fr h₀ (szEnv sc L').locals h (fun y => if y = (Str.ofString "k") then some (.int (0 + (i : Int)) t) else m y) →
      News h₀ (szEnv sc L').locals h ((I, itR (0 + ((i + 1 : Nat) : Int)) (((3 : Nat) : Int) - ((i + 1 : Nat) : Int))) :: news) →
      wpAny (model PR w) ((ktrTop dp un gd cn cs L a₀ ccd cl outer).deeper (szEnv sc L')) (execs b (szEnv sc L')) (UnrPost h₀ (szEnv sc L').locals { s with heap := h, toks := tk } I (itR (0 + ((i + 1 : Nat) : Int)) (((3 : Nat) : Int) - ((i + 1 : Nat) : Int))) (JS1 (tot1 c) r0 r1 r2 led (i + 1)) Q) E { s with heap := h, toks := tk } := by
  conv at hsc => rhs; whnf
  conv at hb => rhs; whnf
  subst hsc hb
  rintro i m news hi ⟨t0, e0, e1, e2, e3, rfl⟩ t h tk F N
  replace F : Fr h₀ L' h _ := F
  replace N : News h₀ L' h _ := N
  have n0 := List.mem_cons_of_mem (I, itR (0 + ((i + 1 : Nat) : Int)) (((3 : Nat) : Int) - ((i + 1 : Nat) : Int))) m0
  have n1 := List.mem_cons_of_mem (I, itR (0 + ((i + 1 : Nat) : Int)) (((3 : Nat) : Int) - ((i + 1 : Nat) : Int))) m1
  have n2 := List.mem_cons_of_mem (I, itR (0 + ((i + 1 : Nat) : Int)) (((3 : Nat) : Int) - ((i + 1 : Nat) : Int))) m2
  (try k_unmd); (try k_fold)
  k_steps
  refine' unr_tail ?F ?N ?off ?r
  case F => k_asm
  case N => k_asm
  case off => exact fun y hy => lI y hy
  case r => exact ⟨_, by k_extra "mine_map", by k_extra "mine_map", by k_extra "mine_map", by k_extra "mine_map", rfl⟩
theorem s2_turn {z : Int} (hb : b = szFor2) (tg : Expr) (htg : tg = szTgt) {q : Nat} {tt : Addr} {u0 u1 u2 : Tok} {oI : Obj} {m : Str → Option Value} {h hx : Heap} {tks tkx : Nat} {rest : (Str → Option Value) → List (Addr × Obj) → Prop}
    (n0 : (r0, lrow 3 3 (fun k => (c 0 k : Int)) (tk 0)) ∈ (I, oI) :: led) (n1 : (r1, lrow 3 3 (fun k => (c 1 k : Int)) (tk 1)) ∈ (I, oI) :: led) (n2 : (r2, lrow 3 3 (fun k => (c 2 k : Int)) (tk 2)) ∈ (I, oI) :: led)
    (nt : (tt, ({ cls := .type "tuple", data := .seq #[.int ((pi6 q).1 : Nat) u0, .int ((pi6 q).2.1 : Nat) u1, .int ((pi6 q).2.2 : Nat) u2] } : Obj)) ∈ (I, oI) :: led)
    (p0 : (pi6 q).1 < 3) (p1 : (pi6 q).2.1 < 3) (p2 : (pi6 q).2.2 < 3) (lI : ∀ y ∈ led.map (·.1), @LT.lt Nat _ y I) (j : JS1 (tot2 c z) r0 r1 r2 led q m led)
    (F : Fr h₀ L' h m) (N : News h₀ L' h ((I, oI) :: led)) (done : ∀ m', JS1 (tot2 c z) r0 r1 r2 led (q + 1) m' led → rest m' led) :
    wpAny (model PR w) ((ktrTop dp un gd cn cs L a₀ ccd cl outer).deeper (szEnv sc L')) (assign tg (szEnv sc L') (.ref tt)) (fun _ s₂ => wpAny (model PR w) ((ktrTop dp un gd cn cs L a₀ ccd cl outer).deeper (szEnv sc L')) (execs b (szEnv sc L')) (UnrPostW h₀ L' { s with heap := hx, toks := tkx } [(I, oI)] rest Q) E s₂) E { s with heap := h, toks := tks } := by
  conv at hsc => rhs; whnf
  conv at hb => rhs; whnf
  conv at htg => rhs; whnf
  subst hsc hb htg
  obtain ⟨t0, e0, e1, e2, e3, -⟩ := j
  (try k_unmd); (try k_fold)
  k_steps
  refine' endW2 ?F ?N ?off (done _ ⟨_, ?r0, ?r1, ?r2, ?r3, rfl⟩)
  case F => k_asm
  case N => k_asm
  case off => exact fun y hy => Nat.ne_of_lt (lI y hy)
  case r0 => k_extra "mine_map"
  case r1 => k_extra "mine_map"
  case r2 => k_extra "mine_map"
  case r3 => k_extra "mine_map"
end
end
section
open PySem PySem.Spec PySem.Calls PySem.W PyProof.Rows PyProof.Rows.LCg
theorem walkT18 : True := by
  k_with_none
  k_with "enterC" => (k_dflt (refine' code_defC ?wek1 ?wek2 ?wek3 ?wek4 ?wek5 ?wekA ?wekF ?wekK ?wek6 ?wek7 ?wek8 ?wek9 ?wekB ?wekD ?_ ?wec2 ?wec3 ?wec4; (case wekA => exact rfl); (case wekF => exact rfl); (case wekK => assumption); (case wek1 => k_asm); (case wek2 => k_asm); (case wek3 => k_asm); (case wek4 => k_asm); (case wek5 => k_asm); (case wek6 => k_is); (case wek7 => k_is); (case wek8 => ktr_room); (case wek9 => exact BindsTo.of_eq rfl); (case wekB => exact rfl); (case wekD => decide +kernel); (case wec2 => exact rfl); (case wec3 => exact rfl); (case wec4 => exact rfl); k_whole; intro g' L' h' tk' cells' FG' F' N' Y' B' X' T' l1; (try k_lt l1); k_cells Y'; (try simp only [List.cons_append, List.nil_append] at N'); (try dsimp only); (try k_lift B'); (try k_fold)))
  k_with "exec Assign cons ListComp" => (k_here; k_dflt (first
  | refine Mine.Assign_C (_F₀ := by k_asm) (by rfl) (by with_unfolding_all rfl) (by with_unfolding_all rfl) (fun _ => rfl) (fun _ => rfl) (by rfl) (by rfl) (by decide) (by rfl) (by rfl) ?_
  | refine Mine.Assign_L (ct := none) (_F₀ := by k_asm) (by rfl) (by with_unfolding_all rfl) (by with_unfolding_all rfl) (by decide) (by rfl) (by decide) (by rfl) (by rfl) (by rfl) ?_
  | refine Mine.Assign_L (ct := some _) (_F₀ := by k_asm) (by rfl) (by with_unfolding_all rfl) (by with_unfolding_all rfl) (by decide) (by rfl) (by decide) (by rfl) (by rfl) (by rfl) ?_))
  k_with "eval ListComp BinOp cons" => (k_here; k_dflt (refine Mine.ListComp_L (ct := none) (_F₀ := by k_asm) (by with_unfolding_all rfl) (by decide) (by rfl) (by decide) (by rfl) ?_))
  k_with "eval ListComp Call cons" => (k_here; k_dflt (refine Mine.ListComp_L (ct := none) (_F₀ := by k_asm) (by with_unfolding_all rfl) (by decide) (by rfl) (by decide) (by rfl) ?_))
  k_with "eval ListComp Subscript cons" => (k_here; k_dflt (refine Mine.ListComp_L (ct := none) (_F₀ := by k_asm) (by with_unfolding_all rfl) (by decide) (by rfl) (by decide) (by rfl) ?_))
  k_with "eval ListComp Name cons" => (k_here; k_dflt (refine Mine.ListComp_L (ct := none) (_F₀ := by k_asm) (by with_unfolding_all rfl) (by decide) (by rfl) (by decide) (by rfl) ?_))
  k_with "eval ListComp Name cons" => (k_here; k_dflt (refine Mine.ListComp_L (ct := some _) (_F₀ := by k_asm) (by with_unfolding_all rfl) (by decide) (by rfl) (by decide) (by rfl) ?_))
  k_with "eval ListComp ListComp cons" => (k_here; k_dflt (refine Mine.ListComp_C (_F₀ := by k_asm) (by with_unfolding_all rfl) (fun _ => rfl) (fun _ => rfl) (by rfl) (by rfl) (by decide) ?_))
  k_with "SrcM" => (k_here; k_dflt (first
  | (refine Mine.SrcM.range 4 (by rfl) (by k_asm) (by k_asm) (by assumption) (by first | decide | rfl) (by first | rfl | decide) (by exact Nat.le_of_ble_eq_true rfl) ?_; intro g'; (try dsimp only))
  | (refine Mine.SrcM.range 3 (by rfl) (by k_asm) (by k_asm) (by assumption) (by first | decide | rfl) (by first | rfl | decide) (by exact Nat.le_of_ble_eq_true rfl) ?_; intro g'; (try dsimp only))
  | (refine Mine.SrcM.ledger 3 (by rfl) (by k_asm) (by k_asm) (by k_mem) (by rfl) (by exact Nat.le_of_ble_eq_true rfl) ?_; intro g'; (try dsimp only))))
  k_with "LRest" => (with_unfolding_all first
  | (refine Mine.LRest.turn ?_; intro v' I' oI' C' oC' D' m' h' tk' E' hv' hC' hx' F' N' lie'; (first | lcg_open hv' | (obtain ⟨t9', hv9'⟩ := hv'; subst hv9')); (try simp only [List.nil_append, List.cons_append] at N'))
  | (refine Mine.LRest.test ?_; intro v' I' oI' C' oC' D' m' h' tk' E' hv' hC' hx' F' N' lie'; (first | lcg_open hv' | (obtain ⟨t9', hv9'⟩ := hv'; subst hv9')); (try simp only [List.nil_append, List.cons_append] at N'))
  | refine Mine.LRest.zero ?_)
  k_with "CRest" => (with_unfolding_all first
  | (refine Mine.CRest.turn ?_; intro v' I' oI' C' X' oX' D' h' tk' E' hv' hdX' F' N' lie'; (first | lcg_open hv' | (obtain ⟨t9', hv9'⟩ := hv'; subst hv9')); (try simp only [List.nil_append, List.cons_append] at N'))
  | refine Mine.CRest.zero ?_)
  k_with "LEnd" => (k_dflt (first
  | refine Mine.LEnd.push0 (by k_asm) (by k_asm) (by k_asm) ?_
  | refine Mine.LEnd.push1 (by k_asm) (by k_asm) (by k_asm) (by omega) ?_))
  k_with "FinV" => ((unfold Mine.FinV); intro D' h' tk' F' N' nlt' abv'; (k_lt nlt'); (try simp only [List.forall_mem_cons, List.forall_mem_nil, and_true] at abv'); (try simp only [List.nil_append, List.cons_append] at N'); (try dsimp only))
  k_with "FinB" => ((unfold Mine.FinB); intro D' h' tk' F' N' nlt' abv'; (k_lt nlt'); (try simp only [List.forall_mem_cons, List.forall_mem_nil, and_true] at abv'); (try simp only [List.nil_append, List.cons_append] at N'); (try dsimp only))
  k_with "mine_map" => ((repeat (refine (if_neg (by decide)).trans ?_)); first | exact if_pos rfl | assumption | exact rfl)
  k_with "eval Name" => (k_here; k_dflt (refine' nameX_L ?v15F ?v15v ?_ ?v15a ?v15b; (case v15a => rfl); (case v15b => rfl); (case v15F => k_asm); (case v15v => k_extra "mine_map"); k_whole))
  k_with "subscriptTail Name BinOp ref int" => (k_here; k_dflt (refine' Mine.item_refs ?v16N ?v16m ?v16a ?v16b ?_ ?v16s; (case v16N => k_asm); (case v16m => k_mem); (case v16a => omega); (case v16b => omega); (case v16s => with_unfolding_all rfl); k_whole); intro i' hi')
  k_with "binaryOp Mod int int" => (k_here; (with_reducible refine' Mine.mod4 ?_); intro x' hx0' hx4')
  k_with "subscriptTail Name Name ref int" => (k_here; k_dflt (refine' Mine.item_row ?v18N ?v18ha ?v18m0 ?v18m1 ?v18m2 ?v18m3 ?v18a ?v18b ?_ ?v18s; (case v18N => k_asm); (case v18m0 => k_mem); (case v18m1 => k_mem); (case v18m2 => k_mem); (case v18m3 => k_mem); (case v18ha => omega); (case v18a => omega); (case v18b => omega); (case v18s => with_unfolding_all rfl); k_whole))
  k_with "setItem ref int" => (k_here; k_dflt (refine' Mine.store_row ?v19F ?v19N ?v19f ?v19ha ?v19a ?v19b ?_; (case v19F => k_asm); (case v19N => k_asm); (case v19f => assumption); (case v19ha => omega); (case v19a => omega); (case v19b => omega); k_whole); intro h' F' N')
  k_with "loadName" => (k_here; k_dflt (refine' wpAny_loadName_local ?v20a ?v20b ?v20c ?v20v ?_; (case v20a => rfl); (case v20b => rfl); (case v20c => exact Fr.ns (by k_asm)); (case v20v => k_extra "mine_map"); k_whole))
  k_with "exec While" => (k_here; k_dflt (refine' Mine.while_sq ?v21a ?v21b ?v21F ?v21N ?v21h1 ?v21h2 ?v21h3 ?v21h4 ?v21h5 ?v21d1 ?v21d2 ?v21d3 ?_ ?v21hE; (case v21hE => first | assumption | passes_own); (case v21F => k_asm); (case v21N => k_asm); (case v21h1 => k_extra "mine_map"); (case v21h2 => k_extra "mine_map"); (case v21h3 => k_extra "mine_map"); (case v21h4 => k_extra "mine_map"); (case v21h5 => k_extra "mine_map"); (case v21d1 => assumption); (case v21d2 => assumption); (case v21d3 => assumption); (case v21a => omega); (case v21b => omega); k_whole))
  k_with "LRest" => (k_dflt (refine' Mine.LRest.one ?v22o ?v22turn ?v22fin; (case v22o => assumption)); (case' v22fin => (intro y' hy'; (try (obtain ⟨t8', hy8'⟩ := hy'; subst hy8')))); (case' v22turn => (intro i' v' I' oI' C' oC' D' m' h' tk' E' ys' hi' hv' hC' hx' F' N' lie'; (first | (obtain ⟨t9', hv9'⟩ := hv'; subst hv9') | skip))))
  k_with "mine_hit" => (first | (refine' Mine.hit_yes ?v23hit ?v23hi ?v23h0 ?v23a ?v23b; (case v23hit => assumption); (case v23hi => assumption); (case v23h0 => assumption); (case v23a => assumption); (case v23b => assumption)) | (refine' Mine.hit_no1 ?v23hit ?v23hi ?v23a; (case v23hit => assumption); (case v23hi => assumption); (case v23a => assumption)) | (refine' Mine.hit_no2 ?v23hit ?v23hi ?v23a; (case v23hit => assumption); (case v23hi => assumption); (case v23a => assumption)))
  k_with "HitPost" => (k_dflt (first | (refine Mine.HitPost.yes' ?v24hh ?_; (case v24hh => k_extra "mine_hit"); intro hh'; (try subst hh')) | (refine Mine.HitPost.no ?v24hh ?_; (case v24hh => k_extra "mine_hit"))))
  k_with "WhileStep2" => (k_dflt (first
  | (refine' Mine.jw_next ?v25F ?v25N ?v25h1 ?v25h2 ?v25h3 ?v25h4 ?v25hb ?v25h5 ?v25d1 ?v25d2 ?v25d3 ?v25hn ?v25C ?v25e; (case v25F => k_asm); (case v25N => k_asm); (case v25C => assumption); (case v25e => assumption); (case v25h1 => k_extra "mine_map"); (case v25h2 => k_extra "mine_map"); (case v25h3 => k_extra "mine_map"); (case v25h4 => k_extra "mine_map"); (case v25h5 => k_extra "mine_map"); (case v25hb => first | assumption | rfl); (case v25d1 => assumption); (case v25d2 => assumption); (case v25d3 => assumption); (case v25hn => omega))
  | (refine' Mine.jw_last ?v25F ?v25N ?v25h1 ?v25h2 ?v25h3 ?v25h4 ?v25hb ?v25h5 ?v25d1 ?v25d2 ?v25d3 ?v25hn ?v25C; (case v25F => k_asm); (case v25N => k_asm); (case v25C => assumption); (case v25h1 => k_extra "mine_map"); (case v25h2 => k_extra "mine_map"); (case v25h3 => k_extra "mine_map"); (case v25h4 => k_extra "mine_map"); (case v25h5 => k_extra "mine_map"); (case v25hb => first | assumption | rfl); (case v25d1 => assumption); (case v25d2 => assumption); (case v25d3 => assumption); (case v25hn => omega))))
  k_with "UnrEnd" => (k_dflt (refine' Mine.jf_end ?v26F ?v26N ?v26h1 ?v26h2 ?v26d1 ?v26d2 ?v26d3 ?v26C ?v26lb ?v26lD ?v26l0 ?v26lI; (case v26F => k_asm); (case v26N => k_asm); (case v26C => assumption); (case v26h1 => k_extra "mine_map"); (case v26h2 => k_extra "mine_map"); (case v26d1 => assumption); (case v26d2 => assumption); (case v26d3 => assumption); (case v26lb => assumption); (case v26lD => assumption); (case v26l0 => assumption); (case v26lI => assumption)))
  k_with "subscriptTail Constant str Name str int" => (k_here; k_dflt (refine' Mine.abcd_item ?v27a ?v27b ?_ ?v27s ?v27t; (case v27a => omega); (case v27b => omega); (case v27s => with_unfolding_all rfl); (case v27t => (intro _; with_unfolding_all rfl)); k_whole))
  k_with "subscriptTail Constant str Subscript str int" => (k_here; k_dflt (refine' Mine.abcd_item ?v28a ?v28b ?_ ?v28s ?v28t; (case v28a => first | omega | k_extra "mine_lat"); (case v28b => first | omega | k_extra "mine_lat"); (case v28s => with_unfolding_all rfl); (case v28t => (intro _; with_unfolding_all rfl)); k_whole))
  k_with "mine_lat" => (first | exact Lat.lo (by assumption) _ _ (by omega) (by omega) | exact Lat.hi (by assumption) _ _ (by omega) (by omega))
  k_with "binaryOp Add str str" => (k_here; (first | with_reducible refine' Mine.cat_1 ?_ | with_reducible refine' Mine.cat_2 ?_); intro t' tk')
  k_with "subscriptTail Name Name ref int" => (k_here; k_dflt (refine' Mine.item_refsX ?v31N ?v31m ?v31a ?v31b ?_ ?v31s; (case v31N => k_asm); (case v31m => k_mem); (case v31a => omega); (case v31b => omega); (case v31s => with_unfolding_all rfl); k_whole))
  k_with "subscriptTail Name Name ref int" => (k_here; k_dflt (refine' Mine.item_row ?v32N ?v32ha ?v32m0 ?v32m1 ?v32m2 ?v32m3 ?v32a ?v32b ?_ ?v32s; (case v32N => k_asm); (case v32m0 => k_mem); (case v32m1 => k_mem); (case v32m2 => k_mem); (case v32m3 => k_mem); (case v32ha => omega); (case v32a => omega); (case v32b => omega); (case v32s => with_unfolding_all rfl); k_whole))
  k_with "subscriptTail Subscript Name Name Name ref int" => (k_here; k_dflt (refine' Mine.item_row ?v33N ?v33ha ?v33m0 ?v33m1 ?v33m2 ?v33m3 ?v33a ?v33b ?_ ?v33s; (case v33N => k_asm); (case v33m0 => k_mem); (case v33m1 => k_mem); (case v33m2 => k_mem); (case v33m3 => k_mem); (case v33ha => omega); (case v33a => omega); (case v33b => omega); (case v33s => with_unfolding_all rfl); k_whole))
  k_with "call builtin:list.append cons nil" => (k_here; k_dflt (refine' Mine.append_w ?v34F ?v34N ?v34f ?v34n ?v34x ?_; (case v34F => k_asm); (case v34N => k_asm); (case v34f => assumption); (case v34n => omega); (case v34x => assumption); k_whole); intro h' F' N')
  k_with "compareOp NotIn str str" => (k_here; refine' Mine.notin_dots ?v35a ?_; (case v35a => assumption); k_whole)
  k_with "call builtin:str.split cons nil" => (k_here; k_dflt (refine' Mine.split_dots ?v36a ?v36F ?v36N ?_; (case v36a => assumption); (case v36F => k_asm); (case v36N => k_asm); k_whole); intro D' t1' t2' h' tk' F' N' l1; (try k_lt l1))
  k_with "call builtin:str.startswith cons nil" => (k_here; refine' Mine.starts_is ?v37a ?_; (case v37a => assumption); k_whole)
  k_with "call builtin:str.endswith cons nil" => (k_here; refine' Mine.ends_is ?v38a ?_; (case v38a => assumption); k_whole)
  k_with "call builtin:str.find cons nil" => (k_here; refine' Mine.find_is ?v39a ?_; (case v39a => assumption); k_whole)
  k_with "truthy str" => (k_here; refine' Mine.truthy_len ?v40a ?v40b ?_; (case v40a => assumption); (case v40b => decide); k_whole)
  k_with "call builtin:len cons nil" => (k_here; refine' Mine.len_is ?v41a ?v41b ?_; (case v41a => first | assumption | exact (by decide : Str.empty.length = 0)); (case v41b => decide); k_whole)
  k_with "exec For Name Name cons nil" => (k_here; k_dflt (refine' For_turns ?v42F ?_; (case v42F => k_asm); k_whole))
  k_with "pyIter ref" => (k_here; k_dflt (refine' iter_listTurns ?v43a ?v43F ?v43N ?v43m ?v43c ?v43d ?_; (case v43a => rfl); (case v43F => k_asm); (case v43N => k_asm); (case v43m => k_mem); (case v43c => rfl); (case v43d => with_unfolding_all rfl); k_whole); intro i' l1; (try k_lt l1))
  k_with "UnrEndW" => (k_here; k_dflt (refine' Mine.endW ?v44F ?v44N ?v44off ⟨?v44sub, ?_⟩; (case v44F => k_asm); (case v44N => k_asm); (case v44off => assumption); (case v44sub => k_subL); k_whole))
  trivial
theorem lines18 : True := by
  k_with "exec Assign cons ListComp" => (k_here; k_dflt ((with_reducible show wpAny _ _ (exec (Stmt.Assign [Expr.Tuple _ _ _] _ _) _) _ _ _); refine Assign_Tuple ?_))
  k_with "SrcM" => (k_here; k_dflt (first
    | (refine' Mine.SrcM.refs3 (a := a) ?wh9 ?wF9 ?wN9 ?wm9 ?_; (case wh9 => rfl); (case wF9 => k_asm); (case wN9 => k_asm); (case wm9 => k_mem); k_whole; intro g'; (try dsimp only))
    | (refine Mine.SrcM.range 3 (by rfl) (by k_asm) (by k_asm) (by assumption) (by first | decide | rfl) (by first | rfl | decide) (by exact Nat.le_of_ble_eq_true rfl) ?_; intro g'; (try dsimp only))))
  k_with "CRest" => k_dflt (refine' Mine.CRest.all (Mine.J4 pa) Mine.J4.zero ?wtu4 ?wfi4; (case' wfi4 => (rintro ys' new' ⟨Tf, tf, rfl, rfl⟩; dsimp only [List.range, List.range.loop, List.reverse, List.reverseAux, List.map])); (case' wtu4 => (rintro i' ys' new' v' I' oI' C' X' oX' D' h' tk' E' hi' j' hv' hX' F' N' lie'; k_dflt (have hv9' := Mine.refs3_at hi' hv'; subst hv9'); k_dflt (have hm9 : (a i', row4 (fun k => (pa i' k : Int)) (Tp i')) ∈ painted PP a pa Tp base := (Mine.paint_mem hi')))))
  k_with "LRest Call none cons cons nil nil" => k_dflt (refine' Mine.LRest.all (Mine.J3 (pa i')) ⟨⟨fun _ => 0, rfl⟩, rfl⟩ ?wtu5 ?wfi5; (case' wfi5 => (rintro ys'' new'' ⟨⟨ts', rfl⟩, rfl⟩)); (case' wtu5 => (rintro i'' ys'' new'' v'' I'' oI'' C'' oC'' D'' m'' h'' tk'' E'' hi'' ⟨⟨ts', rfl⟩, rfl⟩ ⟨t9', rfl⟩ hC'' hx'' F'' N'' lie''; simp only [List.nil_append] at N''; k_dflt (have hm8 := Mine.mem3 (x := (I'', oI'')) (y := (C'', oC'')) (z := (D'', lst ((List.range i'').map (fun q => .int (cnt4 (pa i') q) (ts' q))))) (Mine.mem4a (x := (I', oI')) (y := (C', nsO)) (z := (X', oX')) (v := (D', lst ys')) (r := new') hm9)))))
  k_with "call builtin:list.count cons nil" => (k_here; k_dflt (refine' Mine.count_row ?wN9 ?wm9 ?wk9 ?_; (case wN9 => k_asm); (case wm9 => exact hm8); (case wk9 => exact Int.zero_add _); k_whole); intro t8')
  k_with "getMethod ref" => (k_here; k_dflt (refine' Mine.getCount_row ?wN9 ?wm9 ?_; (case wN9 => k_asm); (case wm9 => exact hm8); k_whole))
  k_with "LEnd" => k_dflt (first
    | (refine Mine.LEnd.push0 (by k_asm) (by k_asm) (by k_asm) ?_; exact Mine.J3.succ)
    | (refine Mine.LEnd.push1 (by k_asm) (by k_asm) (by k_asm) ?_ (Mine.J4.succ (t := ts') (by assumption)); exact nlt'.2.2.1))
  k_with "J4 cons" => k_dflt (exact Mine.J4.succ (t := ts') (by assumption))
  k_with "pyIter ref" => k_dflt (k_here; first
    | (refine' iter_rangeUnr (n := 3) ?a ?b ?c ?d ?F ?N ?_; (case a => rfl); (case b => assumption); (case c => decide); (case d => decide); (case F => k_asm); (case N => k_asm); intro i1 l1; k_lt l1)
    | (refine' iter_listTurns ?a ?F ?N ?m ?c ?d ?_; (case a => rfl); (case F => k_asm); (case N => k_asm); (case m => k_mem); (case c => rfl); (case d => rfl); intro i2 l2))
  k_with "exec For Tuple List cons nil" => (k_here; k_dflt (refine' For_turns ?F ?_; (case F => k_asm); k_whole))
  trivial
theorem paint_mem {PP : Addr} {a : Nat → Addr} {p : Nat → Nat → Nat} {Tp : Nat → Nat → Tok} {r : List (Addr × Obj)} {j : Nat} (hj : j < 3) : (a j, row4 (fun k => (p j k : Int)) (Tp j)) ∈ painted PP a p Tp r := by
  rcases lt3 hj with rfl | rfl | rfl <;> simp
noncomputable def sizes (pa : Nat → Nat → Nat) : Int := tot2 (fun j q => cnt4 (pa j) q) (tot1 (fun j q => cnt4 (pa j) q) 3) 6
theorem sizes_ok (w : World) {p : Program} {loose : List Str} {mean : ExcName → Option Value} {mg mb : Str → Option Value} {base : List (Addr × Obj)} {PP : Addr} {a : Nat → Addr} {pa : Nat → Nat → Nat} {Tp : Nat → Nat → Tok} :
   Tells w p loose mean mg mb 125 [.ref PP] (painted PP a pa Tp base) 1 8 (intPost (sizes pa) (painted PP a pa Tp base)) := by
  intro dp un gd cn cs aa ccd cl outer A₀ bs h₀ L m s Q E B F X N T hk hd hu hret
  refine wpAny_call ?_
  k_dflt cell_enter
  iterate 57 (first | (k_unfold; (try dsimp only)) | walk1 | (dsimp only; walk1))
  have hc : ∀ j q, cnt4 (pa j) q ≤ 4 := fun j q => cnt4_le _ _
  refine' range_inv (JS1 (tot1 fun j q => cnt4 (pa j) q) (Tf 0) (Tf 1) (Tf 2) _) (s1_turn (c := fun j q => cnt4 (pa j) q) (tk := tf) w ?fX ?fT _ _ rfl hc ?fE (n0 := 0) rfl ?m0 ?m1 ?m2 ?lI) ?done1 3 0 _ _ (by omega) ⟨_, ?j0, ?j1, ?j2, ?j3, rfl⟩
  case j0 => k_extra "mine_map"
  case j1 => k_extra "mine_map"
  case j2 => k_extra "mine_map"
  case j3 => k_extra "mine_map"
  case fX => k_asm
  case fT => k_asm
  case fE => passes_own
  case m0 => k_mem
  case m1 => k_mem
  case m2 => k_mem
  case lI => exact addr_lt (l := _ :: _) (by assumption)
  case done1 =>
  rintro m1 news1 ⟨t1, e0, e1, e2, e3, rfl⟩ h1 tk1 F1 N1
  iterate 66 (first | (k_unfold; (try dsimp only)) | walk1 | (dsimp only; walk1))
  have l3 := allLt_of l2
  refine' items_inv0 (JS1 (tot2 (fun j q => cnt4 (pa j) q) (tot1 (fun j q => cnt4 (pa j) q) 3)) (Tf 0) (Tf 1) (Tf 2) _) ?turn ?done ⟨_, ?k0, ?k1, ?k2, ?k3, rfl⟩
  case k0 => k_extra "mine_map"
  case k1 => k_extra "mine_map"
  case k2 => k_extra "mine_map"
  case k3 => k_extra "mine_map"
  case turn =>
    rintro i v m2 news2 hv ⟨t2, f0, f1, f2, f3, rfl⟩ oI h2 tk2 F2 N2
    have hi : i < 6 := by
      rcases Nat.lt_or_ge i 6 with q | q
      · exact q
      · rw [List.getElem?_eq_none (by exact q)] at hv; cases hv
    have h6 : i = 0 ∨ i = 1 ∨ i = 2 ∨ i = 3 ∨ i = 4 ∨ i = 5 := by omega
    rcases h6 with e | e | e | e | e | e
    all_goals (
      subst e
      have hv' := Option.some.inj hv
      subst hv'
      refine' s2_turn (c := fun j q => cnt4 (pa j) q) (tk := tf) w ?gX ?gT _ _ rfl hc ?gE rfl _ rfl ?n0 ?n1 ?n2 ?nt (by decide) (by decide) (by decide) (addr_lt l3) ⟨_, f0, f1, f2, f3, rfl⟩ F2 N2 ?gd
      case gX => k_asm
      case gT => k_asm
      case gE => passes_own
      case n0 => k_mem
      case n1 => k_mem
      case n2 => k_mem
      case nt => k_mem
      case gd => exact fun m' hm => ⟨by k_subL, hm⟩)
  case done =>
    rintro m2 news2 ⟨t2, f0, f1, f2, f3, rfl⟩ h2 tk2 F2 N2
    k_steps
    have kN := (by assumption : News h₀ L _ _)
    exact hret _ _ _ ⟨by k_asm, _, rfl, newsTail (newsTail (newsTail (newsTail (newsTail (newsTail (newsTail (newsTail (newsTail (newsTail (newsTail kN))))))))))⟩
end
section
open PySem PySem.Spec PySem.Calls PySem.W PyProof.Rows PyProof.Rows.LCg
noncomputable def hpFor : List Stmt := bodyOf (nth (bodyOf (topAt 21)) 1)
noncomputable def hpTgt : Expr := tgtOf (nth (bodyOf (topAt 21)) 1)
noncomputable def hpSc : Scope := scopeOf (topAt 21)
noncomputable abbrev hpEnv (sc : Scope) (L : Addr) : Env := envOf (Str.ofString "_law_heap") sc L 98 (.ref 97)
/-- a claim about a call that leans on what stood ahead -/
noncomputable def TellsIf (Pre : Heap → Prop) (w : World) (p : Program) (loose : List Str) (mean : ExcName → Option Value) (mg mb : Str → Option Value) (f : Addr) (vs : List Value) (news : List (Addr × Obj)) (dep uni : Nat)
    (Post : Value → Heap → Heap → Addr → (Str → Option Value) → Prop) : Prop :=
  ∀ (dp un : Nat) (gd : Option (List Code)) (cn : Str) (cs : Scope) (a : Addr) (ccd : Value) (cl : List (Str × Addr)) (outer : List Env) (A₀ : Around) (base h₀ : Heap) (L : Addr) (m : Str → Option Value) (s : Shared) (Q E : Value → Shared → Prop),
    Below A₀ base outer h₀ → Fr h₀ L s.heap m → (hd.heap_39 w.params).In h₀ → News h₀ L s.heap news → Top p loose mean mg mb h₀ → Pre h₀ → cs.kind = .function →
    dp + dep < recursionLimit → un + uni < cLine →
    (∀ (v : Value) (h' : Heap) (tk' : Nat), Post v h₀ h' L m → Q v { s with heap := h', toks := tk' }) →
    wpAny (model PR w) (ktrTop dp un gd cn cs L a ccd cl outer) (call (.ref f) vs) Q E s
theorem tellsIf_at {Pre : Heap → Prop} {w : World} {p : Program} {loose : List Str} {mean : ExcName → Option Value} {mg mb : Str → Option Value} {f : Addr} {vs : List Value} {news : List (Addr × Obj)} {dep uni : Nat} {Post : Value → Heap → Heap → Addr → (Str → Option Value) → Prop}
    {dp un : Nat} {gd : Option (List Code)} {cn : Str} {cs : Scope} {a : Addr} {ccd : Value} {cl : List (Str × Addr)} {outer : List Env} {A₀ : Around} {base h₀ : Heap} {L : Addr} {m : Str → Option Value} {s : Shared} {Q E : Value → Shared → Prop}
    (C : TellsIf Pre w p loose mean mg mb f vs news dep uni Post) (B : Below A₀ base outer h₀) (F : Fr h₀ L s.heap m) (X : (hd.heap_39 w.params).In h₀) (N : News h₀ L s.heap news) (T : Top p loose mean mg mb h₀) (P : Pre h₀) (hk : cs.kind = .function)
    (hd : dp + dep < recursionLimit) (hu : un + uni < cLine) (ret : ∀ (v : Value) (h' : Heap) (tk' : Nat), Post v h₀ h' L m → Q v { s with heap := h', toks := tk' }) :
    wpAny (model PR w) (ktrTop dp un gd cn cs L a ccd cl outer) (call (.ref f) vs) Q E s := C _ _ _ _ _ _ _ _ _ _ _ _ _ _ _ _ _ B F X N T P hk hd hu ret
theorem ints_mem {vs : List Value} {ns : List Int} (hi : IntsAre vs ns) : ∀ v ∈ vs, ∃ n t, v = .int n t := fun v hv => by
  obtain ⟨i, e⟩ := List.getElem?_of_mem hv
  obtain ⟨n, t, e', _⟩ := hi.at i v e
  exact ⟨n, t, e'⟩
theorem pick_ints {vs : List Value} {ns : List Int} {lo hi st : Option Int} (hI : IntsAre vs ns) : ∀ v ∈ (slicePick vs.toArray lo hi st).toList, ∃ n t, v = .int n t := fun v hv => by
  unfold slicePick at hv
  simp only [List.mem_filterMap] at hv
  obtain ⟨i, _, e⟩ := hv
  exact ints_mem hI v (by simpa using List.mem_of_getElem? (l := vs) (by simpa using e))
section
variable {prog : Program} {w : World} {A : Around} {E : Value → Shared → Prop} {s : Shared} {h₀ : Heap} {L : Addr} {m : Str → Option Value} {env : Env} {news : List (Addr × Obj)} {t u : Tok} {Q : Value → Shared → Prop} {value slice : PySem.Expr}
theorem item_menu5 {l : Addr} {a b c d e : Int} {ta tb tc td te : Tok} {ep : Nat} {k : Int} (N : News h₀ L s.heap news) (hm : (l, listOf #[.int a ta, .int b tb, .int c tc, .int d td, .int e te] ep) ∈ news) (h0 : 0 ≤ k) (h5 : k < 5) (h : ∀ n t', Q (.int n t') s)
    (hs : subscripted slice false (.ref l) (.int k u) = operate [.ref l, .int k u] (getItem (.ref l) (.int k u)) := by with_unfolding_all rfl) :
    wpAny (model prog w) A (subscriptTail value slice (.ref l) (.int k u)) Q E s := by
  have hl : s.heap.IsList l #[.int a ta, .int b tb, .int c tc, .int d td, .int e te] := ⟨_, (N _ hm).1, rfl, _, rfl⟩
  have h6 : k = 0 ∨ k = 1 ∨ k = 2 ∨ k = 3 ∨ k = 4 := by omega
  rcases h6 with rfl | rfl | rfl | rfl | rfl
  · exact tail_any hl.typeIs slot_list_getitem.lookup (wpAny_getItem_list hl (by decide) (by decide) (by rfl) (h _ _)) hs
  · exact tail_any hl.typeIs slot_list_getitem.lookup (wpAny_getItem_list hl (by decide) (by decide) (by rfl) (h _ _)) hs
  · exact tail_any hl.typeIs slot_list_getitem.lookup (wpAny_getItem_list hl (by decide) (by decide) (by rfl) (h _ _)) hs
  · exact tail_any hl.typeIs slot_list_getitem.lookup (wpAny_getItem_list hl (by decide) (by decide) (by rfl) (h _ _)) hs
  · exact tail_any hl.typeIs slot_list_getitem.lookup (wpAny_getItem_list hl (by decide) (by decide) (by rfl) (h _ _)) hs
theorem modN {a b : Int} (hb : 0 < b) (h : ∀ n : Nat, Q (.int (n : Int) s.toks) { s with toks := s.toks + 1 }) : wpAny (model prog w) A (binaryOp .Mod (.int a t) (.int b u)) Q E s :=
  mod_int' (by omega) (by rw [show a.fmod b = ((a.fmod b).toNat : Int) from (Int.toNat_of_nonneg (Int.fmod_nonneg_of_pos a hb)).symm]; exact h _)
end
end
section
open PySem PySem.Spec PySem.Calls PySem.W PyProof.Rows PyProof.Rows.LCg
theorem walkT20 : True := by
  k_with_none
  k_with "enterC" => (k_dflt (refine' code_defC ?wek1 ?wek2 ?wek3 ?wek4 ?wek5 ?wekA ?wekF ?wekK ?wek6 ?wek7 ?wek8 ?wek9 ?wekB ?wekD ?_ ?wec2 ?wec3 ?wec4; (case wekA => exact rfl); (case wekF => exact rfl); (case wekK => assumption); (case wek1 => k_asm); (case wek2 => k_asm); (case wek3 => k_asm); (case wek4 => k_asm); (case wek5 => k_asm); (case wek6 => k_is); (case wek7 => k_is); (case wek8 => ktr_room); (case wek9 => exact BindsTo.of_eq rfl); (case wekB => exact rfl); (case wekD => decide +kernel); (case wec2 => exact rfl); (case wec3 => exact rfl); (case wec4 => exact rfl); k_whole; intro g' L' h' tk' cells' FG' F' N' Y' B' X' T' l1; (try k_lt l1); k_cells Y'; (try simp only [List.cons_append, List.nil_append] at N'); (try dsimp only); (try k_lift B'); (try k_fold)))
  k_with "exec Assign cons ListComp" => (k_here; k_dflt (first
  | refine Mine.Assign_C (_F₀ := by k_asm) (by rfl) (by with_unfolding_all rfl) (by with_unfolding_all rfl) (fun _ => rfl) (fun _ => rfl) (by rfl) (by rfl) (by decide) (by rfl) (by rfl) ?_
  | refine Mine.Assign_L (ct := none) (_F₀ := by k_asm) (by rfl) (by with_unfolding_all rfl) (by with_unfolding_all rfl) (by decide) (by rfl) (by decide) (by rfl) (by rfl) (by rfl) ?_
  | refine Mine.Assign_L (ct := some _) (_F₀ := by k_asm) (by rfl) (by with_unfolding_all rfl) (by with_unfolding_all rfl) (by decide) (by rfl) (by decide) (by rfl) (by rfl) (by rfl) ?_))
  k_with "eval ListComp BinOp cons" => (k_here; k_dflt (refine Mine.ListComp_L (ct := none) (_F₀ := by k_asm) (by with_unfolding_all rfl) (by decide) (by rfl) (by decide) (by rfl) ?_))
  k_with "eval ListComp Call cons" => (k_here; k_dflt (refine Mine.ListComp_L (ct := none) (_F₀ := by k_asm) (by with_unfolding_all rfl) (by decide) (by rfl) (by decide) (by rfl) ?_))
  k_with "eval ListComp Subscript cons" => (k_here; k_dflt (refine Mine.ListComp_L (ct := none) (_F₀ := by k_asm) (by with_unfolding_all rfl) (by decide) (by rfl) (by decide) (by rfl) ?_))
  k_with "eval ListComp Name cons" => (k_here; k_dflt (refine Mine.ListComp_L (ct := none) (_F₀ := by k_asm) (by with_unfolding_all rfl) (by decide) (by rfl) (by decide) (by rfl) ?_))
  k_with "eval ListComp Name cons" => (k_here; k_dflt (refine Mine.ListComp_L (ct := some _) (_F₀ := by k_asm) (by with_unfolding_all rfl) (by decide) (by rfl) (by decide) (by rfl) ?_))
  k_with "eval ListComp ListComp cons" => (k_here; k_dflt (refine Mine.ListComp_C (_F₀ := by k_asm) (by with_unfolding_all rfl) (fun _ => rfl) (fun _ => rfl) (by rfl) (by rfl) (by decide) ?_))
  k_with "SrcM" => (k_here; k_dflt (first
  | (refine Mine.SrcM.range 4 (by rfl) (by k_asm) (by k_asm) (by assumption) (by first | decide | rfl) (by first | rfl | decide) (by exact Nat.le_of_ble_eq_true rfl) ?_; intro g'; (try dsimp only))
  | (refine Mine.SrcM.range 3 (by rfl) (by k_asm) (by k_asm) (by assumption) (by first | decide | rfl) (by first | rfl | decide) (by exact Nat.le_of_ble_eq_true rfl) ?_; intro g'; (try dsimp only))
  | (refine Mine.SrcM.ledger 3 (by rfl) (by k_asm) (by k_asm) (by k_mem) (by rfl) (by exact Nat.le_of_ble_eq_true rfl) ?_; intro g'; (try dsimp only))))
  k_with "LRest" => (with_unfolding_all first
  | (refine Mine.LRest.turn ?_; intro v' I' oI' C' oC' D' m' h' tk' E' hv' hC' hx' F' N' lie'; (first | lcg_open hv' | (obtain ⟨t9', hv9'⟩ := hv'; subst hv9')); (try simp only [List.nil_append, List.cons_append] at N'))
  | (refine Mine.LRest.test ?_; intro v' I' oI' C' oC' D' m' h' tk' E' hv' hC' hx' F' N' lie'; (first | lcg_open hv' | (obtain ⟨t9', hv9'⟩ := hv'; subst hv9')); (try simp only [List.nil_append, List.cons_append] at N'))
  | refine Mine.LRest.zero ?_)
  k_with "CRest" => (with_unfolding_all first
  | (refine Mine.CRest.turn ?_; intro v' I' oI' C' X' oX' D' h' tk' E' hv' hdX' F' N' lie'; (first | lcg_open hv' | (obtain ⟨t9', hv9'⟩ := hv'; subst hv9')); (try simp only [List.nil_append, List.cons_append] at N'))
  | refine Mine.CRest.zero ?_)
  k_with "LEnd" => (k_dflt (first
  | refine Mine.LEnd.push0 (by k_asm) (by k_asm) (by k_asm) ?_
  | refine Mine.LEnd.push1 (by k_asm) (by k_asm) (by k_asm) (by omega) ?_))
  k_with "FinV" => ((unfold Mine.FinV); intro D' h' tk' F' N' nlt' abv'; (k_lt nlt'); (try simp only [List.forall_mem_cons, List.forall_mem_nil, and_true] at abv'); (try simp only [List.nil_append, List.cons_append] at N'); (try dsimp only))
  k_with "FinB" => ((unfold Mine.FinB); intro D' h' tk' F' N' nlt' abv'; (k_lt nlt'); (try simp only [List.forall_mem_cons, List.forall_mem_nil, and_true] at abv'); (try simp only [List.nil_append, List.cons_append] at N'); (try dsimp only))
  k_with "mine_map" => ((repeat (refine (if_neg (by decide)).trans ?_)); first | exact if_pos rfl | assumption | exact rfl)
  k_with "eval Name" => (k_here; k_dflt (refine' nameX_L ?v15F ?v15v ?_ ?v15a ?v15b; (case v15a => rfl); (case v15b => rfl); (case v15F => k_asm); (case v15v => k_extra "mine_map"); k_whole))
  k_with "subscriptTail Name BinOp ref int" => (k_here; k_dflt (refine' Mine.item_refs ?v16N ?v16m ?v16a ?v16b ?_ ?v16s; (case v16N => k_asm); (case v16m => k_mem); (case v16a => omega); (case v16b => omega); (case v16s => with_unfolding_all rfl); k_whole); intro i' hi')
  k_with "binaryOp Mod int int" => (k_here; (with_reducible refine' Mine.mod4 ?_); intro x' hx0' hx4')
  k_with "subscriptTail Name Name ref int" => (k_here; k_dflt (refine' Mine.item_row ?v18N ?v18ha ?v18m0 ?v18m1 ?v18m2 ?v18m3 ?v18a ?v18b ?_ ?v18s; (case v18N => k_asm); (case v18m0 => k_mem); (case v18m1 => k_mem); (case v18m2 => k_mem); (case v18m3 => k_mem); (case v18ha => omega); (case v18a => omega); (case v18b => omega); (case v18s => with_unfolding_all rfl); k_whole))
  k_with "setItem ref int" => (k_here; k_dflt (refine' Mine.store_row ?v19F ?v19N ?v19f ?v19ha ?v19a ?v19b ?_; (case v19F => k_asm); (case v19N => k_asm); (case v19f => assumption); (case v19ha => omega); (case v19a => omega); (case v19b => omega); k_whole); intro h' F' N')
  k_with "loadName" => (k_here; k_dflt (refine' wpAny_loadName_local ?v20a ?v20b ?v20c ?v20v ?_; (case v20a => rfl); (case v20b => rfl); (case v20c => exact Fr.ns (by k_asm)); (case v20v => k_extra "mine_map"); k_whole))
  k_with "exec While" => (k_here; k_dflt (refine' Mine.while_sq ?v21a ?v21b ?v21F ?v21N ?v21h1 ?v21h2 ?v21h3 ?v21h4 ?v21h5 ?v21d1 ?v21d2 ?v21d3 ?_ ?v21hE; (case v21hE => first | assumption | passes_own); (case v21F => k_asm); (case v21N => k_asm); (case v21h1 => k_extra "mine_map"); (case v21h2 => k_extra "mine_map"); (case v21h3 => k_extra "mine_map"); (case v21h4 => k_extra "mine_map"); (case v21h5 => k_extra "mine_map"); (case v21d1 => assumption); (case v21d2 => assumption); (case v21d3 => assumption); (case v21a => omega); (case v21b => omega); k_whole))
  k_with "LRest" => (k_dflt (refine' Mine.LRest.one ?v22o ?v22turn ?v22fin; (case v22o => assumption)); (case' v22fin => (intro y' hy'; (try (obtain ⟨t8', hy8'⟩ := hy'; subst hy8')))); (case' v22turn => (intro i' v' I' oI' C' oC' D' m' h' tk' E' ys' hi' hv' hC' hx' F' N' lie'; (first | (obtain ⟨t9', hv9'⟩ := hv'; subst hv9') | skip))))
  k_with "mine_hit" => (first | (refine' Mine.hit_yes ?v23hit ?v23hi ?v23h0 ?v23a ?v23b; (case v23hit => assumption); (case v23hi => assumption); (case v23h0 => assumption); (case v23a => assumption); (case v23b => assumption)) | (refine' Mine.hit_no1 ?v23hit ?v23hi ?v23a; (case v23hit => assumption); (case v23hi => assumption); (case v23a => assumption)) | (refine' Mine.hit_no2 ?v23hit ?v23hi ?v23a; (case v23hit => assumption); (case v23hi => assumption); (case v23a => assumption)))
  k_with "HitPost" => (k_dflt (first | (refine Mine.HitPost.yes' ?v24hh ?_; (case v24hh => k_extra "mine_hit"); intro hh'; (try subst hh')) | (refine Mine.HitPost.no ?v24hh ?_; (case v24hh => k_extra "mine_hit"))))
  k_with "WhileStep2" => (k_dflt (first
  | (refine' Mine.jw_next ?v25F ?v25N ?v25h1 ?v25h2 ?v25h3 ?v25h4 ?v25hb ?v25h5 ?v25d1 ?v25d2 ?v25d3 ?v25hn ?v25C ?v25e; (case v25F => k_asm); (case v25N => k_asm); (case v25C => assumption); (case v25e => assumption); (case v25h1 => k_extra "mine_map"); (case v25h2 => k_extra "mine_map"); (case v25h3 => k_extra "mine_map"); (case v25h4 => k_extra "mine_map"); (case v25h5 => k_extra "mine_map"); (case v25hb => first | assumption | rfl); (case v25d1 => assumption); (case v25d2 => assumption); (case v25d3 => assumption); (case v25hn => omega))
  | (refine' Mine.jw_last ?v25F ?v25N ?v25h1 ?v25h2 ?v25h3 ?v25h4 ?v25hb ?v25h5 ?v25d1 ?v25d2 ?v25d3 ?v25hn ?v25C; (case v25F => k_asm); (case v25N => k_asm); (case v25C => assumption); (case v25h1 => k_extra "mine_map"); (case v25h2 => k_extra "mine_map"); (case v25h3 => k_extra "mine_map"); (case v25h4 => k_extra "mine_map"); (case v25h5 => k_extra "mine_map"); (case v25hb => first | assumption | rfl); (case v25d1 => assumption); (case v25d2 => assumption); (case v25d3 => assumption); (case v25hn => omega))))
  k_with "UnrEnd" => (k_dflt (refine' Mine.jf_end ?v26F ?v26N ?v26h1 ?v26h2 ?v26d1 ?v26d2 ?v26d3 ?v26C ?v26lb ?v26lD ?v26l0 ?v26lI; (case v26F => k_asm); (case v26N => k_asm); (case v26C => assumption); (case v26h1 => k_extra "mine_map"); (case v26h2 => k_extra "mine_map"); (case v26d1 => assumption); (case v26d2 => assumption); (case v26d3 => assumption); (case v26lb => assumption); (case v26lD => assumption); (case v26l0 => assumption); (case v26lI => assumption)))
  k_with "subscriptTail Constant str Name str int" => (k_here; k_dflt (refine' Mine.abcd_item ?v27a ?v27b ?_ ?v27s ?v27t; (case v27a => omega); (case v27b => omega); (case v27s => with_unfolding_all rfl); (case v27t => (intro _; with_unfolding_all rfl)); k_whole))
  k_with "subscriptTail Constant str Subscript str int" => (k_here; k_dflt (refine' Mine.abcd_item ?v28a ?v28b ?_ ?v28s ?v28t; (case v28a => first | omega | k_extra "mine_lat"); (case v28b => first | omega | k_extra "mine_lat"); (case v28s => with_unfolding_all rfl); (case v28t => (intro _; with_unfolding_all rfl)); k_whole))
  k_with "mine_lat" => (first | exact Lat.lo (by assumption) _ _ (by omega) (by omega) | exact Lat.hi (by assumption) _ _ (by omega) (by omega))
  k_with "binaryOp Add str str" => (k_here; (first | with_reducible refine' Mine.cat_1 ?_ | with_reducible refine' Mine.cat_2 ?_); intro t' tk')
  k_with "subscriptTail Name Name ref int" => (k_here; k_dflt (refine' Mine.item_refsX ?v31N ?v31m ?v31a ?v31b ?_ ?v31s; (case v31N => k_asm); (case v31m => k_mem); (case v31a => omega); (case v31b => omega); (case v31s => with_unfolding_all rfl); k_whole))
  k_with "subscriptTail Name Name ref int" => (k_here; k_dflt (refine' Mine.item_row ?v32N ?v32ha ?v32m0 ?v32m1 ?v32m2 ?v32m3 ?v32a ?v32b ?_ ?v32s; (case v32N => k_asm); (case v32m0 => k_mem); (case v32m1 => k_mem); (case v32m2 => k_mem); (case v32m3 => k_mem); (case v32ha => omega); (case v32a => omega); (case v32b => omega); (case v32s => with_unfolding_all rfl); k_whole))
  k_with "subscriptTail Subscript Name Name Name ref int" => (k_here; k_dflt (refine' Mine.item_row ?v33N ?v33ha ?v33m0 ?v33m1 ?v33m2 ?v33m3 ?v33a ?v33b ?_ ?v33s; (case v33N => k_asm); (case v33m0 => k_mem); (case v33m1 => k_mem); (case v33m2 => k_mem); (case v33m3 => k_mem); (case v33ha => omega); (case v33a => omega); (case v33b => omega); (case v33s => with_unfolding_all rfl); k_whole))
  k_with "call builtin:list.append cons nil" => (k_here; k_dflt (refine' Mine.append_w ?v34F ?v34N ?v34f ?v34n ?v34x ?_; (case v34F => k_asm); (case v34N => k_asm); (case v34f => assumption); (case v34n => omega); (case v34x => assumption); k_whole); intro h' F' N')
  k_with "compareOp NotIn str str" => (k_here; refine' Mine.notin_dots ?v35a ?_; (case v35a => assumption); k_whole)
  k_with "call builtin:str.split cons nil" => (k_here; k_dflt (refine' Mine.split_dots ?v36a ?v36F ?v36N ?_; (case v36a => assumption); (case v36F => k_asm); (case v36N => k_asm); k_whole); intro D' t1' t2' h' tk' F' N' l1; (try k_lt l1))
  k_with "call builtin:str.startswith cons nil" => (k_here; refine' Mine.starts_is ?v37a ?_; (case v37a => assumption); k_whole)
  k_with "call builtin:str.endswith cons nil" => (k_here; refine' Mine.ends_is ?v38a ?_; (case v38a => assumption); k_whole)
  k_with "call builtin:str.find cons nil" => (k_here; refine' Mine.find_is ?v39a ?_; (case v39a => assumption); k_whole)
  k_with "truthy str" => (k_here; refine' Mine.truthy_len ?v40a ?v40b ?_; (case v40a => assumption); (case v40b => decide); k_whole)
  k_with "call builtin:len cons nil" => (k_here; refine' Mine.len_is ?v41a ?v41b ?_; (case v41a => first | assumption | exact (by decide : Str.empty.length = 0)); (case v41b => decide); k_whole)
  k_with "exec For Name Name cons nil" => (k_here; k_dflt (refine' For_turns ?v42F ?_; (case v42F => k_asm); k_whole))
  k_with "pyIter ref" => (k_here; k_dflt (refine' iter_listTurns ?v43a ?v43F ?v43N ?v43m ?v43c ?v43d ?_; (case v43a => rfl); (case v43F => k_asm); (case v43N => k_asm); (case v43m => k_mem); (case v43c => rfl); (case v43d => with_unfolding_all rfl); k_whole); intro i' l1; (try k_lt l1))
  k_with "UnrEndW" => (k_here; k_dflt (refine' Mine.endW ?v44F ?v44N ?v44off ⟨?v44sub, ?_⟩; (case v44F => k_asm); (case v44N => k_asm); (case v44off => assumption); (case v44sub => k_subL); k_whole))
  trivial
noncomputable def JH (led : List (Addr × Obj)) (_ : Nat) (m : Str → Option Value) (news : List (Addr × Obj)) : Prop := ∃ (n : Int) (t : Tok), m "number" = some (.int n t) ∧ news = led
theorem lines20 : True := by
  k_with "subscriptTail List cons Name ref int" => k_dflt (k_here; refine' Mine.item_menu5 ?wN9 ?wm9 ?wa9 ?wb9 ?_; (case wN9 => k_asm); (case wm9 => k_mem); (case wa9 => omega); (case wb9 => omega); intro n9 t9)
  k_with "subscriptTail Name Slice ref ref" => k_dflt (k_here; refine' slice_list3 ?wF9 ?wN9 ?wl9 (.int _ _) (.int _ _) (.int _ _) ?w09 ?_ ?ws9 ?wt9 ?wz9; (case wF9 => k_asm); (case wN9 => k_asm); (case wl9 => exact Fr.lst (by assumption) (by assumption)); (case w09 => decide); (case ws9 => with_unfolding_all rfl); (case wt9 => (intro _; with_unfolding_all rfl)); (case wz9 => exact hsz); intro h' F' N')
  k_with "exec For Name Subscript cons nil" => (k_here; k_dflt (refine' For_turns ?F ?_; (case F => k_asm); k_whole))
  k_with "pyIter ref" => k_dflt (k_here; (refine' iter_listTurns (vs := (slicePick vs.toArray _ _ _).toList) ?a ?F ?N ?m ?c ?d ?_; (case a => rfl); (case F => k_asm); (case N => k_asm); (case m => k_mem); (case c => rfl); (case d => rfl); intro i2 l2))
  k_with "binaryOp Mod int int" => (k_here; refine' Mine.modN ?wb9 ?_; (case wb9 => decide); intro n8)
  k_with "execs cons AugAssign nil" => ((with_reducible refine wpAny_execs_cons ?_); (try dsimp only))
  k_with "UnrEndW" => k_dflt (k_here; refine' Mine.endW2 ?wF9 ?wN9 ?wo9 ?wr9; (case wF9 => k_asm); (case wN9 => k_asm); (case wo9 => exact fun y hy => Nat.ne_of_lt (Mine.addr_lt l3 y hy)); (case wr9 => exact ⟨by k_subL, _, _, by k_extra "mine_map", rfl⟩))
  trivial
theorem heap_ok (w : World) {p : Program} {loose : List Str} {mean : ExcName → Option Value} {mg mb : Str → Option Value} {news : List (Addr × Obj)} {sp : Addr} {vs : List Value} {ns : List Int} {place : Int} {t : Tok} (hI : IntsAre vs ns) (hsz : vs.toArray.size ≤ sizeLine) (hp0 : 0 ≤ place) (hp : place < 5) :
   TellsIf (fun h => h.IsList sp vs.toArray) w p loose mean mg mb 98 [.ref sp, .int place t] news 1 8 (fun v h₀ h' L m => Fr h₀ L h' m ∧ (∃ (n : Nat) (t : Tok), v = .int n t) ∧ News h₀ L h' news) := by
  intro dp un gd cn cs aa ccd cl outer A₀ bs h₀ L m s Q E B F X N T hl hk hd hu hret
  have hl' : h₀.IsList sp vs.toArray := hl
  clear hl
  refine wpAny_call ?_
  k_dflt cell_enter
  have hl2 := hl'.at fun o e => Fr.keep (by assumption : Fr h₀ L _ m) _ _ e
  clear hl'
  iterate 33 (first | (k_unfold; (try dsimp only)) | walk1 | (dsimp only; walk1))
  have l3 := allLt_of l2
  refine' items_inv0 (JH _) ?turn ?done ⟨_, _, ?k0, rfl⟩
  case k0 => k_extra "mine_map"
  case turn =>
    rintro i v m2 news2 hv ⟨n2, t2, f0, rfl⟩ oI h2 tk2 F2 N2
    obtain ⟨n3, t3, rfl⟩ := pick_ints hI v (List.mem_of_getElem? hv)
    replace F2 : Fr _ _ h2 _ := F2
    replace N2 : News _ _ h2 _ := N2
    (try k_fold)
    k_steps
  case done =>
    rintro m2 news2 ⟨n2, t2, f0, rfl⟩ h2 tk2 F2 N2
    k_steps
    refine hret _ _ _ ⟨by k_asm, ⟨_, _, rfl⟩, newsTail (newsTail (by k_asm))⟩
end
section
open PySem PySem.Spec PySem.Calls PySem.W PyProof.Rows PyProof.Rows.LCg
noncomputable def fnOfS : Stmt → Arguments × List Stmt × Scope
  | .FunctionDef _ a b _ _ _ sc _ _ _ => (a, b, sc)
  | _ => default
noncomputable def in1 : Arguments × List Stmt × Scope := fnOfS (nth (bodyOf (topAt 7)) 1)
noncomputable def in2 : Arguments × List Stmt × Scope := fnOfS (nth (bodyOf (topAt 8)) 0)
section
variable {prog : Program} {w : World} {A : Around} {E : Value → Shared → Prop} {s : Shared} {h₀ : Heap} {L : Addr} {m : Str → Option Value} {news : List (Addr × Obj)} {t u : Tok} {Q : Value → Shared → Prop}
theorem shr_nat {a b : Int} {x k : Nat} (ha : a = x) (hb : b = k) (h : Q (.int ((x / 2 ^ k : Nat) : Int) s.toks) { s with toks := s.toks + 1 }) : wpAny (model prog w) A (binaryOp .RShift (.int a t) (.int b u)) Q E s := by
  subst ha hb
  refine rshift_int (Int.natCast_nonneg k) ?_
  have e : ((x : Int)).fdiv (2 ^ ((k : Int)).toNat) = ((x / 2 ^ k : Nat) : Int) := by
    rw [Int.toNat_natCast, Int.fdiv_eq_ediv_of_nonneg _ (Int.le_of_lt (Int.pow_pos (by decide)))]
    norm_cast
  rw [e]; exact h
theorem shr_r {a b : Int} {x k r : Nat} (ha : a = x) (hb : b = k) (hr : x / 2 ^ k = r) (h : Q (.int (r : Int) s.toks) { s with toks := s.toks + 1 }) : wpAny (model prog w) A (binaryOp .RShift (.int a t) (.int b u)) Q E s := shr_nat ha hb (by rw [hr]; exact h)
theorem shl_nat {a b : Int} {x k : Nat} (ha : a = x) (hb : b = k) (hk : k ≤ 100) (hx : x < 1024) (h : Q (.int ((x * 2 ^ k : Nat) : Int) s.toks) { s with toks := s.toks + 1 }) : wpAny (model prog w) A (binaryOp .LShift (.int a t) (.int b u)) Q E s := by
  subst ha hb
  refine lshift_int_small (Int.natCast_nonneg k) (by omega) (by rw [Int.natAbs_natCast]; exact Nat.lt_trans hx (by decide)) ?_
  have e : (x : Int) * 2 ^ ((k : Int)).toNat = ((x * 2 ^ k : Nat) : Int) := by
    rw [Int.toNat_natCast]
    norm_cast
  rw [e]; exact h
theorem xor8 {a b : Int} {x : Nat} (hx : x < 512) (ha : a = x) (hb : b = ((x / 8 * 8 : Nat) : Int)) (h : Q (.int ((x % 8 : Nat) : Int) s.toks) { s with toks := s.toks + 1 }) : wpAny (model prog w) A (binaryOp .BitXor (.int a t) (.int b u)) Q E s := by
  subst ha hb
  refine xor_int ?_
  rw [(by decide +kernel : ∀ x < 512, Builtin.bitXor ((x : Nat) : Int) ((x / 8 * 8 : Nat) : Int) = ((x % 8 : Nat) : Int)) x hx]
  exact h
theorem eq_yes {a b : Int} (e : a = b) (h : Q (.bool true) s) : wpAny (model prog w) A (compareOp .Eq (.int a t) (.int b u)) Q E s := by
  subst e
  refine PySem.P.eq_int ?_
  simpa using h
theorem eq_no {a b : Int} (e : ¬ a = b) (h : Q (.bool false) s) : wpAny (model prog w) A (compareOp .Eq (.int a t) (.int b u)) Q E s := by
  refine PySem.P.eq_int ?_
  have : (a == b) = false := by simpa using e
  rw [this]; exact h
theorem mul3 {a : Int} {x : Nat} (ha : a = x) (h : Q (.int ((x * 3 : Nat) : Int) s.toks) { s with toks := s.toks + 1 }) : wpAny (model prog w) A (binaryOp .Mult (.int a t) (.int 3 u)) Q E s := by
  subst ha
  refine PyProof.Rows.mul_int ?_ (.of_right (by decide))
  have e : (x : Int) * 3 = ((x * 3 : Nat) : Int) := by omega
  rw [e]; exact h
theorem store_at {D : Addr} {n ep : Nat} {R : Nat → Int} {T : Nat → Tok} {k v : Int} {q : Nat} {i : Nat} {Q : Unit → Shared → Prop} (F : Fr h₀ L s.heap m) (N : News h₀ L s.heap news) (S : Apart (news.map (·.1))) (hi : news[i]? = some (D, lrow n ep R T)) (hn : n ≤ 64) (hk : k = q) (hq : q < n)
    (h : ∀ h', Fr h₀ L h' m → News h₀ L h' (news.set i (D, lrow n ep (fun j => if j = q then v else R j) (fun j => if j = q then t else T j))) → Q () { s with heap := h' }) :
    wpAny (model prog w) A (setItem (.ref D) (.int k u) (.int v t)) Q E s := by
  have hm := List.mem_of_getElem? hi
  have z := N _ hm
  subst hk
  have z1 : s.heap.get? D = some (listOf ((List.range n).map fun k => Value.int (R k) (T k)).toArray ep) := z.1
  refine ki_setAt z1 (Int.natCast_nonneg q) (by omega) (by simp; exact hq) ?_
  have hs : Heap.SameBut D s.heap (s.heap.update D (Obj.mapSeq (·.setIfInBounds q (.int v t)))) := Heap.SameBut.update ..
  have ge := Heap.get?_update_self (Obj.mapSeq (·.setIfInBounds q (.int v t))) z.1 (by rw [lrow_set hq]; rfl)
  rw [lrow_set hq] at ge
  obtain ⟨own, rest, e, hg, h1, h2⟩ := (updF_apart S i hi).split
  refine h _ (F.change hs z.2.1 z.2.2) ?_
  have hg' := hg (lrow n ep (fun j => if j = q then v else R j) (fun j => if j = q then t else T j))
  rw [hg']
  exact News.setAt (by rw [← e]; exact N) h1 h2 hs ge
end
end
section
open PySem PySem.Spec PySem.Calls PySem.W PyProof.Rows PyProof.Rows.LCg
theorem walkD3 : True := by
  k_with_none
  k_with "enterC" => (k_dflt (refine' code_defC ?wek1 ?wek2 ?wek3 ?wek4 ?wek5 ?wekA ?wekF ?wekK ?wek6 ?wek7 ?wek8 ?wek9 ?wekB ?wekD ?_ ?wec2 ?wec3 ?wec4; (case wekA => exact rfl); (case wekF => exact rfl); (case wekK => assumption); (case wek1 => k_asm); (case wek2 => k_asm); (case wek3 => k_asm); (case wek4 => k_asm); (case wek5 => k_asm); (case wek6 => k_is); (case wek7 => k_is); (case wek8 => ktr_room); (case wek9 => exact BindsTo.of_eq rfl); (case wekB => exact rfl); (case wekD => decide +kernel); (case wec2 => exact rfl); (case wec3 => exact rfl); (case wec4 => exact rfl); k_whole; intro g' L' h' tk' cells' FG' F' N' Y' B' X' T' l1; (try k_lt l1); k_cells Y'; (try simp only [List.cons_append, List.nil_append] at N'); (try dsimp only); (try k_lift B'); (try k_fold)))
  k_with "exec Assign cons ListComp" => (k_here; k_dflt (first
  | refine Mine.Assign_C (_F₀ := by k_asm) (by rfl) (by with_unfolding_all rfl) (by with_unfolding_all rfl) (fun _ => rfl) (fun _ => rfl) (by rfl) (by rfl) (by decide) (by rfl) (by rfl) ?_
  | refine Mine.Assign_L (ct := none) (_F₀ := by k_asm) (by rfl) (by with_unfolding_all rfl) (by with_unfolding_all rfl) (by decide) (by rfl) (by decide) (by rfl) (by rfl) (by rfl) ?_
  | refine Mine.Assign_L (ct := some _) (_F₀ := by k_asm) (by rfl) (by with_unfolding_all rfl) (by with_unfolding_all rfl) (by decide) (by rfl) (by decide) (by rfl) (by rfl) (by rfl) ?_))
  k_with "eval ListComp BinOp cons" => (k_here; k_dflt (refine Mine.ListComp_L (ct := none) (_F₀ := by k_asm) (by with_unfolding_all rfl) (by decide) (by rfl) (by decide) (by rfl) ?_))
  k_with "eval ListComp Call cons" => (k_here; k_dflt (refine Mine.ListComp_L (ct := none) (_F₀ := by k_asm) (by with_unfolding_all rfl) (by decide) (by rfl) (by decide) (by rfl) ?_))
  k_with "eval ListComp Subscript cons" => (k_here; k_dflt (refine Mine.ListComp_L (ct := none) (_F₀ := by k_asm) (by with_unfolding_all rfl) (by decide) (by rfl) (by decide) (by rfl) ?_))
  k_with "eval ListComp Name cons" => (k_here; k_dflt (refine Mine.ListComp_L (ct := none) (_F₀ := by k_asm) (by with_unfolding_all rfl) (by decide) (by rfl) (by decide) (by rfl) ?_))
  k_with "eval ListComp Name cons" => (k_here; k_dflt (refine Mine.ListComp_L (ct := some _) (_F₀ := by k_asm) (by with_unfolding_all rfl) (by decide) (by rfl) (by decide) (by rfl) ?_))
  k_with "eval ListComp ListComp cons" => (k_here; k_dflt (refine Mine.ListComp_C (_F₀ := by k_asm) (by with_unfolding_all rfl) (fun _ => rfl) (fun _ => rfl) (by rfl) (by rfl) (by decide) ?_))
  k_with "SrcM" => (k_here; k_dflt (first
  | (refine Mine.SrcM.range 4 (by rfl) (by k_asm) (by k_asm) (by assumption) (by first | decide | rfl) (by first | rfl | decide) (by exact Nat.le_of_ble_eq_true rfl) ?_; intro g'; (try dsimp only))
  | (refine Mine.SrcM.range 3 (by rfl) (by k_asm) (by k_asm) (by assumption) (by first | decide | rfl) (by first | rfl | decide) (by exact Nat.le_of_ble_eq_true rfl) ?_; intro g'; (try dsimp only))
  | (refine Mine.SrcM.ledger 3 (by rfl) (by k_asm) (by k_asm) (by k_mem) (by rfl) (by exact Nat.le_of_ble_eq_true rfl) ?_; intro g'; (try dsimp only))))
  k_with "LRest" => (with_unfolding_all first
  | (refine Mine.LRest.turn ?_; intro v' I' oI' C' oC' D' m' h' tk' E' hv' hC' hx' F' N' lie'; (first | lcg_open hv' | (obtain ⟨t9', hv9'⟩ := hv'; subst hv9')); (try simp only [List.nil_append, List.cons_append] at N'))
  | (refine Mine.LRest.test ?_; intro v' I' oI' C' oC' D' m' h' tk' E' hv' hC' hx' F' N' lie'; (first | lcg_open hv' | (obtain ⟨t9', hv9'⟩ := hv'; subst hv9')); (try simp only [List.nil_append, List.cons_append] at N'))
  | refine Mine.LRest.zero ?_)
  k_with "CRest" => (with_unfolding_all first
  | (refine Mine.CRest.turn ?_; intro v' I' oI' C' X' oX' D' h' tk' E' hv' hdX' F' N' lie'; (first | lcg_open hv' | (obtain ⟨t9', hv9'⟩ := hv'; subst hv9')); (try simp only [List.nil_append, List.cons_append] at N'))
  | refine Mine.CRest.zero ?_)
  k_with "LEnd" => (k_dflt (first
  | refine Mine.LEnd.push0 (by k_asm) (by k_asm) (by k_asm) ?_
  | refine Mine.LEnd.push1 (by k_asm) (by k_asm) (by k_asm) (by omega) ?_))
  k_with "FinV" => ((unfold Mine.FinV); intro D' h' tk' F' N' nlt' abv'; (k_lt nlt'); (try simp only [List.forall_mem_cons, List.forall_mem_nil, and_true] at abv'); (try simp only [List.nil_append, List.cons_append] at N'); (try dsimp only))
  k_with "FinB" => ((unfold Mine.FinB); intro D' h' tk' F' N' nlt' abv'; (k_lt nlt'); (try simp only [List.forall_mem_cons, List.forall_mem_nil, and_true] at abv'); (try simp only [List.nil_append, List.cons_append] at N'); (try dsimp only))
  k_with "mine_map" => ((repeat (refine (if_neg (by decide)).trans ?_)); first | exact if_pos rfl | assumption | exact rfl)
  k_with "eval Name" => (k_here; k_dflt (refine' nameX_L ?v15F ?v15v ?_ ?v15a ?v15b; (case v15a => rfl); (case v15b => rfl); (case v15F => k_asm); (case v15v => k_extra "mine_map"); k_whole))
  k_with "subscriptTail Name BinOp ref int" => (k_here; k_dflt (refine' Mine.item_refs ?v16N ?v16m ?v16a ?v16b ?_ ?v16s; (case v16N => k_asm); (case v16m => k_mem); (case v16a => omega); (case v16b => omega); (case v16s => with_unfolding_all rfl); k_whole); intro i' hi')
  k_with "binaryOp Mod int int" => (k_here; (with_reducible refine' Mine.mod4 ?_); intro x' hx0' hx4')
  k_with "subscriptTail Name Name ref int" => (k_here; k_dflt (refine' Mine.item_row ?v18N ?v18ha ?v18m0 ?v18m1 ?v18m2 ?v18m3 ?v18a ?v18b ?_ ?v18s; (case v18N => k_asm); (case v18m0 => k_mem); (case v18m1 => k_mem); (case v18m2 => k_mem); (case v18m3 => k_mem); (case v18ha => omega); (case v18a => omega); (case v18b => omega); (case v18s => with_unfolding_all rfl); k_whole))
  k_with "setItem ref int" => (k_here; k_dflt (refine' Mine.store_row ?v19F ?v19N ?v19f ?v19ha ?v19a ?v19b ?_; (case v19F => k_asm); (case v19N => k_asm); (case v19f => assumption); (case v19ha => omega); (case v19a => omega); (case v19b => omega); k_whole); intro h' F' N')
  k_with "loadName" => (k_here; k_dflt (refine' wpAny_loadName_local ?v20a ?v20b ?v20c ?v20v ?_; (case v20a => rfl); (case v20b => rfl); (case v20c => exact Fr.ns (by k_asm)); (case v20v => k_extra "mine_map"); k_whole))
  k_with "exec While" => (k_here; k_dflt (refine' Mine.while_sq ?v21a ?v21b ?v21F ?v21N ?v21h1 ?v21h2 ?v21h3 ?v21h4 ?v21h5 ?v21d1 ?v21d2 ?v21d3 ?_ ?v21hE; (case v21hE => first | assumption | passes_own); (case v21F => k_asm); (case v21N => k_asm); (case v21h1 => k_extra "mine_map"); (case v21h2 => k_extra "mine_map"); (case v21h3 => k_extra "mine_map"); (case v21h4 => k_extra "mine_map"); (case v21h5 => k_extra "mine_map"); (case v21d1 => assumption); (case v21d2 => assumption); (case v21d3 => assumption); (case v21a => omega); (case v21b => omega); k_whole))
  k_with "LRest" => (k_dflt (refine' Mine.LRest.one ?v22o ?v22turn ?v22fin; (case v22o => assumption)); (case' v22fin => (intro y' hy'; (try (obtain ⟨t8', hy8'⟩ := hy'; subst hy8')))); (case' v22turn => (intro i' v' I' oI' C' oC' D' m' h' tk' E' ys' hi' hv' hC' hx' F' N' lie'; (first | (obtain ⟨t9', hv9'⟩ := hv'; subst hv9') | skip))))
  k_with "mine_hit" => (first | (refine' Mine.hit_yes ?v23hit ?v23hi ?v23h0 ?v23a ?v23b; (case v23hit => assumption); (case v23hi => assumption); (case v23h0 => assumption); (case v23a => assumption); (case v23b => assumption)) | (refine' Mine.hit_no1 ?v23hit ?v23hi ?v23a; (case v23hit => assumption); (case v23hi => assumption); (case v23a => assumption)) | (refine' Mine.hit_no2 ?v23hit ?v23hi ?v23a; (case v23hit => assumption); (case v23hi => assumption); (case v23a => assumption)))
  k_with "HitPost" => (k_dflt (first | (refine Mine.HitPost.yes' ?v24hh ?_; (case v24hh => k_extra "mine_hit"); intro hh'; (try subst hh')) | (refine Mine.HitPost.no ?v24hh ?_; (case v24hh => k_extra "mine_hit"))))
  k_with "WhileStep2" => (k_dflt (first
  | (refine' Mine.jw_next ?v25F ?v25N ?v25h1 ?v25h2 ?v25h3 ?v25h4 ?v25hb ?v25h5 ?v25d1 ?v25d2 ?v25d3 ?v25hn ?v25C ?v25e; (case v25F => k_asm); (case v25N => k_asm); (case v25C => assumption); (case v25e => assumption); (case v25h1 => k_extra "mine_map"); (case v25h2 => k_extra "mine_map"); (case v25h3 => k_extra "mine_map"); (case v25h4 => k_extra "mine_map"); (case v25h5 => k_extra "mine_map"); (case v25hb => first | assumption | rfl); (case v25d1 => assumption); (case v25d2 => assumption); (case v25d3 => assumption); (case v25hn => omega))
  | (refine' Mine.jw_last ?v25F ?v25N ?v25h1 ?v25h2 ?v25h3 ?v25h4 ?v25hb ?v25h5 ?v25d1 ?v25d2 ?v25d3 ?v25hn ?v25C; (case v25F => k_asm); (case v25N => k_asm); (case v25C => assumption); (case v25h1 => k_extra "mine_map"); (case v25h2 => k_extra "mine_map"); (case v25h3 => k_extra "mine_map"); (case v25h4 => k_extra "mine_map"); (case v25h5 => k_extra "mine_map"); (case v25hb => first | assumption | rfl); (case v25d1 => assumption); (case v25d2 => assumption); (case v25d3 => assumption); (case v25hn => omega))))
  k_with "UnrEnd" => (k_dflt (refine' Mine.jf_end ?v26F ?v26N ?v26h1 ?v26h2 ?v26d1 ?v26d2 ?v26d3 ?v26C ?v26lb ?v26lD ?v26l0 ?v26lI; (case v26F => k_asm); (case v26N => k_asm); (case v26C => assumption); (case v26h1 => k_extra "mine_map"); (case v26h2 => k_extra "mine_map"); (case v26d1 => assumption); (case v26d2 => assumption); (case v26d3 => assumption); (case v26lb => assumption); (case v26lD => assumption); (case v26l0 => assumption); (case v26lI => assumption)))
  k_with "subscriptTail Constant str Name str int" => (k_here; k_dflt (refine' Mine.abcd_item ?v27a ?v27b ?_ ?v27s ?v27t; (case v27a => omega); (case v27b => omega); (case v27s => with_unfolding_all rfl); (case v27t => (intro _; with_unfolding_all rfl)); k_whole))
  k_with "subscriptTail Constant str Subscript str int" => (k_here; k_dflt (refine' Mine.abcd_item ?v28a ?v28b ?_ ?v28s ?v28t; (case v28a => first | omega | k_extra "mine_lat"); (case v28b => first | omega | k_extra "mine_lat"); (case v28s => with_unfolding_all rfl); (case v28t => (intro _; with_unfolding_all rfl)); k_whole))
  k_with "mine_lat" => (first | exact Lat.lo (by assumption) _ _ (by omega) (by omega) | exact Lat.hi (by assumption) _ _ (by omega) (by omega))
  k_with "binaryOp Add str str" => (k_here; (first | with_reducible refine' Mine.cat_1 ?_ | with_reducible refine' Mine.cat_2 ?_); intro t' tk')
  k_with "subscriptTail Name Name ref int" => (k_here; k_dflt (refine' Mine.item_refsX ?v31N ?v31m ?v31a ?v31b ?_ ?v31s; (case v31N => k_asm); (case v31m => k_mem); (case v31a => omega); (case v31b => omega); (case v31s => with_unfolding_all rfl); k_whole))
  k_with "subscriptTail Name Name ref int" => (k_here; k_dflt (refine' Mine.item_row ?v32N ?v32ha ?v32m0 ?v32m1 ?v32m2 ?v32m3 ?v32a ?v32b ?_ ?v32s; (case v32N => k_asm); (case v32m0 => k_mem); (case v32m1 => k_mem); (case v32m2 => k_mem); (case v32m3 => k_mem); (case v32ha => omega); (case v32a => omega); (case v32b => omega); (case v32s => with_unfolding_all rfl); k_whole))
  k_with "subscriptTail Subscript Name Name Name ref int" => (k_here; k_dflt (refine' Mine.item_row ?v33N ?v33ha ?v33m0 ?v33m1 ?v33m2 ?v33m3 ?v33a ?v33b ?_ ?v33s; (case v33N => k_asm); (case v33m0 => k_mem); (case v33m1 => k_mem); (case v33m2 => k_mem); (case v33m3 => k_mem); (case v33ha => omega); (case v33a => omega); (case v33b => omega); (case v33s => with_unfolding_all rfl); k_whole))
  k_with "call builtin:list.append cons nil" => (k_here; k_dflt (refine' Mine.append_w ?v34F ?v34N ?v34f ?v34n ?v34x ?_; (case v34F => k_asm); (case v34N => k_asm); (case v34f => assumption); (case v34n => omega); (case v34x => assumption); k_whole); intro h' F' N')
  k_with "compareOp NotIn str str" => (k_here; refine' Mine.notin_dots ?v35a ?_; (case v35a => assumption); k_whole)
  k_with "call builtin:str.split cons nil" => (k_here; k_dflt (refine' Mine.split_dots ?v36a ?v36F ?v36N ?_; (case v36a => assumption); (case v36F => k_asm); (case v36N => k_asm); k_whole); intro D' t1' t2' h' tk' F' N' l1; (try k_lt l1))
  k_with "call builtin:str.startswith cons nil" => (k_here; refine' Mine.starts_is ?v37a ?_; (case v37a => assumption); k_whole)
  k_with "call builtin:str.endswith cons nil" => (k_here; refine' Mine.ends_is ?v38a ?_; (case v38a => assumption); k_whole)
  k_with "call builtin:str.find cons nil" => (k_here; refine' Mine.find_is ?v39a ?_; (case v39a => assumption); k_whole)
  k_with "truthy str" => (k_here; refine' Mine.truthy_len ?v40a ?v40b ?_; (case v40a => assumption); (case v40b => decide); k_whole)
  k_with "call builtin:len cons nil" => (k_here; refine' Mine.len_is ?v41a ?v41b ?_; (case v41a => first | assumption | exact (by decide : Str.empty.length = 0)); (case v41b => decide); k_whole)
  k_with "exec For Name Name cons nil" => (k_here; k_dflt (refine' For_turns ?v42F ?_; (case v42F => k_asm); k_whole))
  k_with "pyIter ref" => (k_here; k_dflt (refine' iter_listTurns ?v43a ?v43F ?v43N ?v43m ?v43c ?v43d ?_; (case v43a => rfl); (case v43F => k_asm); (case v43N => k_asm); (case v43m => k_mem); (case v43c => rfl); (case v43d => with_unfolding_all rfl); k_whole); intro i' l1; (try k_lt l1))
  k_with "UnrEndW" => (k_here; k_dflt (refine' Mine.endW ?v44F ?v44N ?v44off ⟨?v44sub, ?_⟩; (case v44F => k_asm); (case v44N => k_asm); (case v44off => assumption); (case v44sub => k_subL); k_whole))
  trivial
theorem linesD3 : True := by
  k_with "nest" => (refine' code_nest ?wnk1 ?wnk2 ?wnk3 ?wnk4 ?wnk5 ?wnkA ?wnkF ?wnkK ?wnk6 ?wnk7 ?wnk8 ?wnk9 ?wnkB ?_ ?wnc2 ?wnc3 ?wnc4 ?wnc5; (case wnkA => exact rfl); (case wnkF => exact rfl); (case wnkK => first | exact rfl | assumption); (case wnk1 => k_asm); (case wnk2 => k_asm); (case wnk3 => k_asm); (case wnk4 => k_asm); (case wnk5 => k_asm); (case wnk6 => k_mem); (case wnk7 => exact codeRec_news (by k_asm) (by k_mem) (by assumption) (by assumption)); (case wnk8 => ktr_room); (case wnk9 => exact BindsTo.of_eq rfl); (case wnc5 => decide); (case wnkB => exact locs rfl); (case wnc2 => exact rfl); (case wnc3 => exact rfl); (case wnc4 => exact rfl); k_whole; intro g' L' h' FG' F' N' B' X' T'; (try dsimp only); (try k_lift B'); (try k_fold))
  k_with "compareOp Eq int int" => (k_here; first | (refine' Mine.eq_yes ?we9 ?_; (case we9 => omega)) | (refine' Mine.eq_no ?we9 ?_; (case we9 => omega)))
  k_with "eval Name" => (k_here; k_dflt (refine' nameX_F ?N9 ?c9 ?m9 ?d9 ?_ ?a9 ?b9; (case b9 => rfl); (case a9 => rfl); (case N9 => k_asm); (case c9 => rfl); (case m9 => k_mem); (case d9 => k_asm); k_whole))
  k_with "setItem ref int" => (k_here; k_dflt (refine' Mine.store_at (i := 2) (q := lo) ?wF9 ?wN9 ?wS9 ?wi9 ?wn9 ?wk9 ?wq9 ?_; (case wF9 => k_asm); (case wN9 => k_asm); (case wi9 => rfl); (case wS9 => exact S); (case wn9 => omega); (case wk9 => rfl); (case wq9 => omega); k_whole); intro h' F' N'; dsimp only [List.set] at N')
  k_with "binaryOp RShift int int" => k_dflt (k_here; first
    | (refine' Mine.shr_r (x := lo + hi) (k := 1) (r := lo + 1) ?wa9 ?wb9 ?wr9 ?_; (case wa9 => omega); (case wb9 => rfl); (case wr9 => omega))
    | (refine' Mine.shr_r (x := x) (k := 3) (r := x / 8) ?wa9 ?wb9 ?wr9 ?_; (case wa9 => rfl); (case wb9 => rfl); (case wr9 => rfl)))
  k_with "binaryOp Mult int int" => k_dflt (k_here; refine' Mine.mul3 (x := 1) ?wa9 ?_; (case wa9 => omega))
  k_with "binaryOp LShift int int" => k_dflt (k_here; refine' Mine.shl_nat (x := x / 8) (k := 3) ?wa9 ?wb9 ?wk9 ?wx9 ?_; (case wa9 => rfl); (case wb9 => rfl); (case wk9 => decide); (case wx9 => omega))
  k_with "binaryOp BitXor int int" => k_dflt (k_here; refine' Mine.xor8 hx2 ?wa9 ?wb9 ?_; (case wa9 => rfl); (case wb9 => rfl))
  k_with "call ref cons nil" => (k_here; first
    | (k_dflt (refine' Mine.tells_at (I1 R Tk (x % 8) lo (lo + 1) _ _ _ rfl (by omega) (Nat.mod_lt _ (by decide))) ?wB9 ?wF9 ?wX9 ?wN9 ?wT9 ?wk9 ?wd9 ?wu9 ?_; (case wB9 => k_asm); (case wF9 => k_asm); (case wX9 => k_asm); (case wN9 => k_asm); (case wT9 => k_asm); (case wk9 => first | exact rfl | assumption); (case wd9 => ktr_room); (case wu9 => ktr_units); k_whole); rintro v9 h' tk' ⟨rfl, F', T1', N'⟩; dsimp only [Mine.inLed] at N')
    | (k_dflt (refine' Mine.tells_at (In _ _ (x / 8) (lo + 1) hi _ _ _ (by omega) (by omega) (by rw [Nat.pow_succ] at hx; omega)) ?wB9 ?wF9 ?wX9 ?wN9 ?wT9 ?wk9 ?wd9 ?wu9 ?_; (case wB9 => k_asm); (case wF9 => k_asm); (case wX9 => k_asm); (case wN9 => k_asm); (case wT9 => k_asm); (case wk9 => first | exact rfl | assumption); (case wd9 => ktr_room); (case wu9 => ktr_units); k_whole); rintro v9 h' tk' ⟨rfl, F', T1', N'⟩; dsimp only [Mine.inLed] at N'))
  k_with "callWith ref nil nil" => (k_here; k_dflt (first
    | (refine' callWith_F ?wk9 ?_; (case wk9 => exact FnAt.of (by k_asm) (by k_mem)); k_whole)
    | (refine' callWith_F0 ?wk9 ?_; (case wk9 => exact FnAt.of (by k_asm) (by k_mem)); k_whole; try dsimp only [List.nil_append, List.cons_append])))
  trivial
/-- the ledger that the inner function of _int2digits sees -/
noncomputable abbrev inLed (f c' D cA cI cN : Addr) (oc oA oI oN : Obj) (qual : Str) (doc pm ctv : Value) (ps : Arguments) (b : List Stmt) (sc : Scope) (k ep : Nat) (rest : List (Addr × Obj)) (R : Nat → Int) (T : Nat → Tok) : List (Addr × Obj) :=
  (f, fnMade (Str.ofString "inner") qual ps b sc [(Str.ofString "n", cN), (Str.ofString "inner", cI), (Str.ofString "a_digits", cA)] doc pm c' ctv) :: (c', oc) :: (D, lrow k ep R T) :: (cI, oI) :: (cA, oA) :: (cN, oN) :: rest
noncomputable def InnerT (w : World) (p : Program) (loose : List Str) (mean : ExcName → Option Value) (mg mb : Str → Option Value) (f : Addr) (k : Nat) (led : (Nat → Int) → (Nat → Tok) → List (Addr × Obj)) (sz : Nat) : Prop :=
  ∀ (R : Nat → Int) (T : Nat → Tok) (x lo hi : Nat) (t u v : Tok), hi = lo + sz → hi ≤ k → x < 8 ^ sz → Tells w p loose mean mg mb f [.int x t, .int lo u, .int hi v] (led R T) sz (8 * sz)
    (fun v h₀ h' L m => v = .none ∧ Fr h₀ L h' m ∧ ∃ T', News h₀ L h' (led (fun q => if lo ≤ q ∧ q < hi then ((x / 8 ^ (q - lo) % 8 : Nat) : Int) else R q) T'))
theorem inner1 (w : World) {p : Program} {loose : List Str} {mean : ExcName → Option Value} {mg mb : Str → Option Value} {f c' D cA cI cN : Addr} {oc oA oI oN : Obj} {qual : Str} {doc pm ctv : Value} {ps : Arguments} {b : List Stmt} {sc : Scope} {k ep : Nat} {rest : List (Addr × Obj)} {vs : Array Value} {t : Tok} {tn : Tok}
    (hps : ps = in1.1) (hb : b = in1.2.1) (hsc : sc = in1.2.2) (hk3 : k ≤ 3) (S : Apart (f :: c' :: D :: cI :: cA :: cN :: rest.map (·.1))) (hoc : oc.data = .fields vs) (hov : vs[1]? = some (.str qual t))
    (dA : oA.data = .cell (some (.ref D))) (dI : oI.data = .cell (some (.ref f))) (dN : oN.data = .cell (some (.int 3 tn))) :
    InnerT w p loose mean mg mb f k (inLed f c' D cA cI cN oc oA oI oN qual doc pm ctv ps b sc k ep rest) 1 := by
  conv at hps => rhs; whnf
  conv at hb => rhs; whnf
  conv at hsc => rhs; whnf
  subst hps hb hsc
  intro R Tk x lo hi t u v hhi hlo hx dp un gd cn cs aa ccd cl outer A₀ bs h₀ L m s Q E B F X N T hk hd hu hret
  refine wpAny_call ?_
  k_extra "nest"
  k_steps
  have kN := (by assumption : News h₀ L _ _)
  have e : (fun j => if j = lo then (x : Int) else R j) = fun q => if lo ≤ q ∧ q < hi then ((x / 8 ^ (q - lo) % 8 : Nat) : Int) else R q := by
    funext q
    by_cases h : q = lo
    · subst h
      have : x < 8 := by simpa using hx
      rw [if_pos rfl, if_pos ⟨Nat.le_refl _, by omega⟩, Nat.sub_self, Nat.pow_zero, Nat.div_one, Nat.mod_eq_of_lt this]
    · have : ¬ (lo ≤ q ∧ q < hi) := by omega
      rw [if_neg h, if_neg this]
  rw [e] at kN
  exact hret _ _ _ ⟨rfl, by k_asm, _, kN⟩
theorem digits_step {x lo hi : Nat} {R : Nat → Int} (h : lo < hi) : (fun q => if lo + 1 ≤ q ∧ q < hi then ((x / 8 / 8 ^ (q - (lo + 1)) % 8 : Nat) : Int) else if lo ≤ q ∧ q < lo + 1 then ((x % 8 / 8 ^ (q - lo) % 8 : Nat) : Int) else R q) =
    fun q => if lo ≤ q ∧ q < hi then ((x / 8 ^ (q - lo) % 8 : Nat) : Int) else R q := by
  funext q
  by_cases h1 : q = lo
  · subst h1
    rw [if_neg (by omega), if_pos (by omega), if_pos (by omega), Nat.sub_self, Nat.pow_zero, Nat.div_one, Nat.div_one, Nat.mod_mod]
  · by_cases h2 : lo + 1 ≤ q ∧ q < hi
    · rw [if_pos h2, if_pos (by omega), Nat.div_div_eq_div_mul, ← Nat.pow_succ', show (q - (lo + 1)).succ = q - lo by omega]
    · rw [if_neg h2, if_neg (by omega), if_neg (by omega)]
theorem innerS (w : World) {p : Program} {loose : List Str} {mean : ExcName → Option Value} {mg mb : Str → Option Value} {f c' D cA cI cN : Addr} {oc oA oI oN : Obj} {qual : Str} {doc pm ctv : Value} {ps : Arguments} {b : List Stmt} {sc : Scope} {k ep : Nat} {rest : List (Addr × Obj)} {vs : Array Value} {t : Tok} {tn : Tok}
    (hps : ps = in1.1) (hb : b = in1.2.1) (hsc : sc = in1.2.2) (hk3 : k ≤ 3) (S : Apart (f :: c' :: D :: cI :: cA :: cN :: rest.map (·.1))) (hoc : oc.data = .fields vs) (hov : vs[1]? = some (.str qual t))
    (dA : oA.data = .cell (some (.ref D))) (dI : oI.data = .cell (some (.ref f))) (dN : oN.data = .cell (some (.int 3 tn))) {n : Nat} (hn1 : 1 ≤ n) (hn2 : n ≤ 2)
    (I1 : InnerT w p loose mean mg mb f k (inLed f c' D cA cI cN oc oA oI oN qual doc pm ctv ps b sc k ep rest) 1) (In : InnerT w p loose mean mg mb f k (inLed f c' D cA cI cN oc oA oI oN qual doc pm ctv ps b sc k ep rest) n) :
    InnerT w p loose mean mg mb f k (inLed f c' D cA cI cN oc oA oI oN qual doc pm ctv ps b sc k ep rest) (n + 1) := by
  conv at hps => rhs; whnf
  conv at hb => rhs; whnf
  conv at hsc => rhs; whnf
  subst hps hb hsc
  intro R Tk x lo hi t u v hhi hlo hx dp un gd cn cs aa ccd cl outer A₀ bs h₀ L m s Q E B F X N T hk hd hu hret
  dsimp only [inLed] at N
  refine wpAny_call ?_
  k_extra "nest"
  have h8 : 8 ^ (n + 1) ≤ 512 := by
    have h12 : n = 1 ∨ n = 2 := by omega
    rcases h12 with e | e <;> rw [e] <;> decide
  have hx2 : x < 512 := Nat.lt_of_lt_of_le hx h8
  k_steps
  have kN := (by assumption : News h₀ L _ _)
  rw [digits_step (x := x) (R := R) (lo := lo) (hi := hi) (by omega)] at kN
  exact hret _ _ _ ⟨rfl, by k_asm, _, kN⟩
end
section
open PySem PySem.Spec PySem.Calls PySem.W PyProof.Rows PyProof.Rows.LCg
theorem walkD4 : True := by
  k_with_none
  k_with "enterC" => (k_dflt (refine' code_defC ?wek1 ?wek2 ?wek3 ?wek4 ?wek5 ?wekA ?wekF ?wekK ?wek6 ?wek7 ?wek8 ?wek9 ?wekB ?wekD ?_ ?wec2 ?wec3 ?wec4; (case wekA => exact rfl); (case wekF => exact rfl); (case wekK => assumption); (case wek1 => k_asm); (case wek2 => k_asm); (case wek3 => k_asm); (case wek4 => k_asm); (case wek5 => k_asm); (case wek6 => k_is); (case wek7 => k_is); (case wek8 => ktr_room); (case wek9 => exact BindsTo.of_eq rfl); (case wekB => exact rfl); (case wekD => decide +kernel); (case wec2 => exact rfl); (case wec3 => exact rfl); (case wec4 => exact rfl); k_whole; intro g' L' h' tk' cells' FG' F' N' Y' B' X' T' l1; (try k_lt l1); k_cells Y'; (try simp only [List.cons_append, List.nil_append] at N'); (try dsimp only); (try k_lift B'); (try k_fold)))
  k_with "exec Assign cons ListComp" => (k_here; k_dflt (first
  | refine Mine.Assign_C (_F₀ := by k_asm) (by rfl) (by with_unfolding_all rfl) (by with_unfolding_all rfl) (fun _ => rfl) (fun _ => rfl) (by rfl) (by rfl) (by decide) (by rfl) (by rfl) ?_
  | refine Mine.Assign_L (ct := none) (_F₀ := by k_asm) (by rfl) (by with_unfolding_all rfl) (by with_unfolding_all rfl) (by decide) (by rfl) (by decide) (by rfl) (by rfl) (by rfl) ?_
  | refine Mine.Assign_L (ct := some _) (_F₀ := by k_asm) (by rfl) (by with_unfolding_all rfl) (by with_unfolding_all rfl) (by decide) (by rfl) (by decide) (by rfl) (by rfl) (by rfl) ?_))
  k_with "eval ListComp BinOp cons" => (k_here; k_dflt (refine Mine.ListComp_L (ct := none) (_F₀ := by k_asm) (by with_unfolding_all rfl) (by decide) (by rfl) (by decide) (by rfl) ?_))
  k_with "eval ListComp Call cons" => (k_here; k_dflt (refine Mine.ListComp_L (ct := none) (_F₀ := by k_asm) (by with_unfolding_all rfl) (by decide) (by rfl) (by decide) (by rfl) ?_))
  k_with "eval ListComp Subscript cons" => (k_here; k_dflt (refine Mine.ListComp_L (ct := none) (_F₀ := by k_asm) (by with_unfolding_all rfl) (by decide) (by rfl) (by decide) (by rfl) ?_))
  k_with "eval ListComp Name cons" => (k_here; k_dflt (refine Mine.ListComp_L (ct := none) (_F₀ := by k_asm) (by with_unfolding_all rfl) (by decide) (by rfl) (by decide) (by rfl) ?_))
  k_with "eval ListComp Name cons" => (k_here; k_dflt (refine Mine.ListComp_L (ct := some _) (_F₀ := by k_asm) (by with_unfolding_all rfl) (by decide) (by rfl) (by decide) (by rfl) ?_))
  k_with "eval ListComp ListComp cons" => (k_here; k_dflt (refine Mine.ListComp_C (_F₀ := by k_asm) (by with_unfolding_all rfl) (fun _ => rfl) (fun _ => rfl) (by rfl) (by rfl) (by decide) ?_))
  k_with "SrcM" => (k_here; k_dflt (first
  | (refine Mine.SrcM.range 4 (by rfl) (by k_asm) (by k_asm) (by assumption) (by first | decide | rfl) (by first | rfl | decide) (by exact Nat.le_of_ble_eq_true rfl) ?_; intro g'; (try dsimp only))
  | (refine Mine.SrcM.range 3 (by rfl) (by k_asm) (by k_asm) (by assumption) (by first | decide | rfl) (by first | rfl | decide) (by exact Nat.le_of_ble_eq_true rfl) ?_; intro g'; (try dsimp only))
  | (refine Mine.SrcM.ledger 3 (by rfl) (by k_asm) (by k_asm) (by k_mem) (by rfl) (by exact Nat.le_of_ble_eq_true rfl) ?_; intro g'; (try dsimp only))))
  k_with "LRest" => (with_unfolding_all first
  | (refine Mine.LRest.turn ?_; intro v' I' oI' C' oC' D' m' h' tk' E' hv' hC' hx' F' N' lie'; (first | lcg_open hv' | (obtain ⟨t9', hv9'⟩ := hv'; subst hv9')); (try simp only [List.nil_append, List.cons_append] at N'))
  | (refine Mine.LRest.test ?_; intro v' I' oI' C' oC' D' m' h' tk' E' hv' hC' hx' F' N' lie'; (first | lcg_open hv' | (obtain ⟨t9', hv9'⟩ := hv'; subst hv9')); (try simp only [List.nil_append, List.cons_append] at N'))
  | refine Mine.LRest.zero ?_)
  k_with "CRest" => (with_unfolding_all first
  | (refine Mine.CRest.turn ?_; intro v' I' oI' C' X' oX' D' h' tk' E' hv' hdX' F' N' lie'; (first | lcg_open hv' | (obtain ⟨t9', hv9'⟩ := hv'; subst hv9')); (try simp only [List.nil_append, List.cons_append] at N'))
  | refine Mine.CRest.zero ?_)
  k_with "LEnd" => (k_dflt (first
  | refine Mine.LEnd.push0 (by k_asm) (by k_asm) (by k_asm) ?_
  | refine Mine.LEnd.push1 (by k_asm) (by k_asm) (by k_asm) (by omega) ?_))
  k_with "FinV" => ((unfold Mine.FinV); intro D' h' tk' F' N' nlt' abv'; (k_lt nlt'); (try simp only [List.forall_mem_cons, List.forall_mem_nil, and_true] at abv'); (try simp only [List.nil_append, List.cons_append] at N'); (try dsimp only))
  k_with "FinB" => ((unfold Mine.FinB); intro D' h' tk' F' N' nlt' abv'; (k_lt nlt'); (try simp only [List.forall_mem_cons, List.forall_mem_nil, and_true] at abv'); (try simp only [List.nil_append, List.cons_append] at N'); (try dsimp only))
  k_with "mine_map" => ((repeat (refine (if_neg (by decide)).trans ?_)); first | exact if_pos rfl | assumption | exact rfl)
  k_with "eval Name" => (k_here; k_dflt (refine' nameX_L ?v15F ?v15v ?_ ?v15a ?v15b; (case v15a => rfl); (case v15b => rfl); (case v15F => k_asm); (case v15v => k_extra "mine_map"); k_whole))
  k_with "subscriptTail Name BinOp ref int" => (k_here; k_dflt (refine' Mine.item_refs ?v16N ?v16m ?v16a ?v16b ?_ ?v16s; (case v16N => k_asm); (case v16m => k_mem); (case v16a => omega); (case v16b => omega); (case v16s => with_unfolding_all rfl); k_whole); intro i' hi')
  k_with "binaryOp Mod int int" => (k_here; (with_reducible refine' Mine.mod4 ?_); intro x' hx0' hx4')
  k_with "subscriptTail Name Name ref int" => (k_here; k_dflt (refine' Mine.item_row ?v18N ?v18ha ?v18m0 ?v18m1 ?v18m2 ?v18m3 ?v18a ?v18b ?_ ?v18s; (case v18N => k_asm); (case v18m0 => k_mem); (case v18m1 => k_mem); (case v18m2 => k_mem); (case v18m3 => k_mem); (case v18ha => omega); (case v18a => omega); (case v18b => omega); (case v18s => with_unfolding_all rfl); k_whole))
  k_with "setItem ref int" => (k_here; k_dflt (refine' Mine.store_row ?v19F ?v19N ?v19f ?v19ha ?v19a ?v19b ?_; (case v19F => k_asm); (case v19N => k_asm); (case v19f => assumption); (case v19ha => omega); (case v19a => omega); (case v19b => omega); k_whole); intro h' F' N')
  k_with "loadName" => (k_here; k_dflt (refine' wpAny_loadName_local ?v20a ?v20b ?v20c ?v20v ?_; (case v20a => rfl); (case v20b => rfl); (case v20c => exact Fr.ns (by k_asm)); (case v20v => k_extra "mine_map"); k_whole))
  k_with "exec While" => (k_here; k_dflt (refine' Mine.while_sq ?v21a ?v21b ?v21F ?v21N ?v21h1 ?v21h2 ?v21h3 ?v21h4 ?v21h5 ?v21d1 ?v21d2 ?v21d3 ?_ ?v21hE; (case v21hE => first | assumption | passes_own); (case v21F => k_asm); (case v21N => k_asm); (case v21h1 => k_extra "mine_map"); (case v21h2 => k_extra "mine_map"); (case v21h3 => k_extra "mine_map"); (case v21h4 => k_extra "mine_map"); (case v21h5 => k_extra "mine_map"); (case v21d1 => assumption); (case v21d2 => assumption); (case v21d3 => assumption); (case v21a => omega); (case v21b => omega); k_whole))
  k_with "LRest" => (k_dflt (refine' Mine.LRest.one ?v22o ?v22turn ?v22fin; (case v22o => assumption)); (case' v22fin => (intro y' hy'; (try (obtain ⟨t8', hy8'⟩ := hy'; subst hy8')))); (case' v22turn => (intro i' v' I' oI' C' oC' D' m' h' tk' E' ys' hi' hv' hC' hx' F' N' lie'; (first | (obtain ⟨t9', hv9'⟩ := hv'; subst hv9') | skip))))
  k_with "mine_hit" => (first | (refine' Mine.hit_yes ?v23hit ?v23hi ?v23h0 ?v23a ?v23b; (case v23hit => assumption); (case v23hi => assumption); (case v23h0 => assumption); (case v23a => assumption); (case v23b => assumption)) | (refine' Mine.hit_no1 ?v23hit ?v23hi ?v23a; (case v23hit => assumption); (case v23hi => assumption); (case v23a => assumption)) | (refine' Mine.hit_no2 ?v23hit ?v23hi ?v23a; (case v23hit => assumption); (case v23hi => assumption); (case v23a => assumption)))
  k_with "HitPost" => (k_dflt (first | (refine Mine.HitPost.yes' ?v24hh ?_; (case v24hh => k_extra "mine_hit"); intro hh'; (try subst hh')) | (refine Mine.HitPost.no ?v24hh ?_; (case v24hh => k_extra "mine_hit"))))
  k_with "WhileStep2" => (k_dflt (first
  | (refine' Mine.jw_next ?v25F ?v25N ?v25h1 ?v25h2 ?v25h3 ?v25h4 ?v25hb ?v25h5 ?v25d1 ?v25d2 ?v25d3 ?v25hn ?v25C ?v25e; (case v25F => k_asm); (case v25N => k_asm); (case v25C => assumption); (case v25e => assumption); (case v25h1 => k_extra "mine_map"); (case v25h2 => k_extra "mine_map"); (case v25h3 => k_extra "mine_map"); (case v25h4 => k_extra "mine_map"); (case v25h5 => k_extra "mine_map"); (case v25hb => first | assumption | rfl); (case v25d1 => assumption); (case v25d2 => assumption); (case v25d3 => assumption); (case v25hn => omega))
  | (refine' Mine.jw_last ?v25F ?v25N ?v25h1 ?v25h2 ?v25h3 ?v25h4 ?v25hb ?v25h5 ?v25d1 ?v25d2 ?v25d3 ?v25hn ?v25C; (case v25F => k_asm); (case v25N => k_asm); (case v25C => assumption); (case v25h1 => k_extra "mine_map"); (case v25h2 => k_extra "mine_map"); (case v25h3 => k_extra "mine_map"); (case v25h4 => k_extra "mine_map"); (case v25h5 => k_extra "mine_map"); (case v25hb => first | assumption | rfl); (case v25d1 => assumption); (case v25d2 => assumption); (case v25d3 => assumption); (case v25hn => omega))))
  k_with "UnrEnd" => (k_dflt (refine' Mine.jf_end ?v26F ?v26N ?v26h1 ?v26h2 ?v26d1 ?v26d2 ?v26d3 ?v26C ?v26lb ?v26lD ?v26l0 ?v26lI; (case v26F => k_asm); (case v26N => k_asm); (case v26C => assumption); (case v26h1 => k_extra "mine_map"); (case v26h2 => k_extra "mine_map"); (case v26d1 => assumption); (case v26d2 => assumption); (case v26d3 => assumption); (case v26lb => assumption); (case v26lD => assumption); (case v26l0 => assumption); (case v26lI => assumption)))
  k_with "subscriptTail Constant str Name str int" => (k_here; k_dflt (refine' Mine.abcd_item ?v27a ?v27b ?_ ?v27s ?v27t; (case v27a => omega); (case v27b => omega); (case v27s => with_unfolding_all rfl); (case v27t => (intro _; with_unfolding_all rfl)); k_whole))
  k_with "subscriptTail Constant str Subscript str int" => (k_here; k_dflt (refine' Mine.abcd_item ?v28a ?v28b ?_ ?v28s ?v28t; (case v28a => first | omega | k_extra "mine_lat"); (case v28b => first | omega | k_extra "mine_lat"); (case v28s => with_unfolding_all rfl); (case v28t => (intro _; with_unfolding_all rfl)); k_whole))
  k_with "mine_lat" => (first | exact Lat.lo (by assumption) _ _ (by omega) (by omega) | exact Lat.hi (by assumption) _ _ (by omega) (by omega))
  k_with "binaryOp Add str str" => (k_here; (first | with_reducible refine' Mine.cat_1 ?_ | with_reducible refine' Mine.cat_2 ?_); intro t' tk')
  k_with "subscriptTail Name Name ref int" => (k_here; k_dflt (refine' Mine.item_refsX ?v31N ?v31m ?v31a ?v31b ?_ ?v31s; (case v31N => k_asm); (case v31m => k_mem); (case v31a => omega); (case v31b => omega); (case v31s => with_unfolding_all rfl); k_whole))
  k_with "subscriptTail Name Name ref int" => (k_here; k_dflt (refine' Mine.item_row ?v32N ?v32ha ?v32m0 ?v32m1 ?v32m2 ?v32m3 ?v32a ?v32b ?_ ?v32s; (case v32N => k_asm); (case v32m0 => k_mem); (case v32m1 => k_mem); (case v32m2 => k_mem); (case v32m3 => k_mem); (case v32ha => omega); (case v32a => omega); (case v32b => omega); (case v32s => with_unfolding_all rfl); k_whole))
  k_with "subscriptTail Subscript Name Name Name ref int" => (k_here; k_dflt (refine' Mine.item_row ?v33N ?v33ha ?v33m0 ?v33m1 ?v33m2 ?v33m3 ?v33a ?v33b ?_ ?v33s; (case v33N => k_asm); (case v33m0 => k_mem); (case v33m1 => k_mem); (case v33m2 => k_mem); (case v33m3 => k_mem); (case v33ha => omega); (case v33a => omega); (case v33b => omega); (case v33s => with_unfolding_all rfl); k_whole))
  k_with "call builtin:list.append cons nil" => (k_here; k_dflt (refine' Mine.append_w ?v34F ?v34N ?v34f ?v34n ?v34x ?_; (case v34F => k_asm); (case v34N => k_asm); (case v34f => assumption); (case v34n => omega); (case v34x => assumption); k_whole); intro h' F' N')
  k_with "compareOp NotIn str str" => (k_here; refine' Mine.notin_dots ?v35a ?_; (case v35a => assumption); k_whole)
  k_with "call builtin:str.split cons nil" => (k_here; k_dflt (refine' Mine.split_dots ?v36a ?v36F ?v36N ?_; (case v36a => assumption); (case v36F => k_asm); (case v36N => k_asm); k_whole); intro D' t1' t2' h' tk' F' N' l1; (try k_lt l1))
  k_with "call builtin:str.startswith cons nil" => (k_here; refine' Mine.starts_is ?v37a ?_; (case v37a => assumption); k_whole)
  k_with "call builtin:str.endswith cons nil" => (k_here; refine' Mine.ends_is ?v38a ?_; (case v38a => assumption); k_whole)
  k_with "call builtin:str.find cons nil" => (k_here; refine' Mine.find_is ?v39a ?_; (case v39a => assumption); k_whole)
  k_with "truthy str" => (k_here; refine' Mine.truthy_len ?v40a ?v40b ?_; (case v40a => assumption); (case v40b => decide); k_whole)
  k_with "call builtin:len cons nil" => (k_here; refine' Mine.len_is ?v41a ?v41b ?_; (case v41a => first | assumption | exact (by decide : Str.empty.length = 0)); (case v41b => decide); k_whole)
  k_with "exec For Name Name cons nil" => (k_here; k_dflt (refine' For_turns ?v42F ?_; (case v42F => k_asm); k_whole))
  k_with "pyIter ref" => (k_here; k_dflt (refine' iter_listTurns ?v43a ?v43F ?v43N ?v43m ?v43c ?v43d ?_; (case v43a => rfl); (case v43F => k_asm); (case v43N => k_asm); (case v43m => k_mem); (case v43c => rfl); (case v43d => with_unfolding_all rfl); k_whole); intro i' l1; (try k_lt l1))
  k_with "UnrEndW" => (k_here; k_dflt (refine' Mine.endW ?v44F ?v44N ?v44off ⟨?v44sub, ?_⟩; (case v44F => k_asm); (case v44N => k_asm); (case v44off => assumption); (case v44sub => k_subL); k_whole))
  trivial
section
variable {prog : Program} {w : World} {A : Around} {E : Value → Shared → Prop} {s : Shared} {h₀ : Heap} {L : Addr} {m : Str → Option Value} {env : Env} {news : List (Addr × Obj)} {t u : Tok} {Q : Value → Shared → Prop}
theorem fdiv_is {a k : Int} (e : a.fdiv 3 = k) (h : Q (.int k s.toks) { s with toks := s.toks + 1 }) : wpAny (model prog w) A (binaryOp .FloorDiv (.int a t) (.int 3 u)) Q E s := by
  subst e
  exact PyProof.Rows.floordiv_int (by decide) h
theorem rep_row {l : Addr} {ep k : Nat} {x : Int} (F : Fr h₀ L s.heap m) (N : News h₀ L s.heap news) (hm : (l, listOf #[.int 0 t] ep) ∈ news) (hx : x = k) (hk : k ≤ 3)
    (h : ∀ D h', Fr h₀ L h' m → News h₀ L h' ((D, lrow k 0 (fun _ => 0) (fun _ => t)) :: news) → (∀ p ∈ news, p.1 < D) → Q (.ref D) { s with heap := h' }) : wpAny (model prog w) A (binaryOp .Mult (.ref l) (.int x u)) Q E s := by
  subst hx
  refine KMa.mul (vs := [.int 0 t]) (ws := (List.range k).map fun _ => .int 0 t) F N ⟨_, (N _ hm).1, rfl, _, rfl⟩ (by omega) (by omega) (by simp; omega) ?_ h
  have hk' : k = 0 ∨ k = 1 ∨ k = 2 ∨ k = 3 := by omega
  rcases hk' with rfl | rfl | rfl | rfl <;> rfl
theorem CodeHd.lift {h : Heap} {c P : Addr} (C : CodeHd h₀ c P) (F : Fr h₀ L h m) : CodeHd h c P := CodeHd.keeps C fun _ o e => Fr.keep F _ o e
end
theorem len_row {D : Addr} {n ep : Nat} {R : Nat → Int} {T : Nat → Tok} (N : News h₀ L s.heap news) (hm : (D, lrow n ep R T) ∈ news) (hn : n ≤ 64) (h : Q (.int (n : Nat) (s.toks + 1)) { s with toks := s.toks + 1 + 1 }) : wpAny (model prog w) A (call (.builtin "len") [.ref D]) Q E s :=
  KM.len_K N hm (by simp) (by omega) h
theorem innerAll (w : World) {p : Program} {loose : List Str} {mean : ExcName → Option Value} {mg mb : Str → Option Value} {f c' D cA cI cN : Addr} {oc oA oI oN : Obj} {qual : Str} {doc pm ctv : Value} {ps : Arguments} {b : List Stmt} {sc : Scope} {k ep : Nat} {rest : List (Addr × Obj)} {vs : Array Value} {t : Tok} {tn : Tok}
    (hps : ps = in1.1) (hb : b = in1.2.1) (hsc : sc = in1.2.2) (hk1 : 1 ≤ k) (hk3 : k ≤ 3) (S : Apart (f :: c' :: D :: cI :: cA :: cN :: rest.map (·.1))) (hoc : oc.data = .fields vs) (hov : vs[1]? = some (.str qual t))
    (dA : oA.data = .cell (some (.ref D))) (dI : oI.data = .cell (some (.ref f))) (dN : oN.data = .cell (some (.int 3 tn))) :
    InnerT w p loose mean mg mb f k (inLed f c' D cA cI cN oc oA oI oN qual doc pm ctv ps b sc k ep rest) k := by
  have I1 := inner1 w (p := p) (loose := loose) (mean := mean) (mg := mg) (mb := mb) (doc := doc) (pm := pm) (ctv := ctv) (ep := ep) hps hb hsc hk3 S hoc hov dA dI dN
  have hk : k = 1 ∨ k = 2 ∨ k = 3 := by omega
  have I2 := innerS w hps hb hsc hk3 S hoc hov dA dI dN (Nat.le_refl 1) (by decide) I1 I1
  rcases hk with rfl | rfl | rfl
  · exact I1
  · exact I2
  · exact innerS w hps hb hsc hk3 S hoc hov dA dI dN (by decide) (by decide) I1 I2
theorem apartI {f c D L x y : Addr} (h1 : @LT.lt Nat _ c f) (h2 : @LT.lt Nat _ D c) (h3 : @LT.lt Nat _ (L + 1 + 1 + 1) D) (h4 : @LT.lt Nat _ x L) (h5 : @LT.lt Nat _ y x) : Apart [f, c, D, L + 1 + 1 + 1, L + 1 + 1, L + 1, x, y] := by
  simp only [Apart, List.mem_cons, List.not_mem_nil, or_false, and_true, forall_eq_or_imp, forall_eq, false_implies, implies_true]
  unfold Addr at *
  refine ⟨⟨?_, ?_, ?_, ?_, ?_, ?_, ?_⟩, ⟨?_, ?_, ?_, ?_, ?_, ?_⟩, ⟨?_, ?_, ?_, ?_, ?_⟩, ⟨?_, ?_, ?_, ?_⟩, ⟨?_, ?_, ?_⟩, ⟨?_, ?_⟩, ?_⟩ <;> omega
theorem News.put {h₀ h : Heap} {L : Addr} {l l' : List (Addr × Obj)} {p : Addr × Obj} (N : News h₀ L h l) (m : p ∈ l) (r : News h₀ L h l') : News h₀ L h (p :: l') := fun q hq => (List.mem_cons.mp hq).elim (fun e => e ▸ N p m) (r q)
theorem m1 {p a : Addr × Obj} {l : List (Addr × Obj)} (h : p ∈ l) : p ∈ a :: l := List.mem_cons_of_mem _ h
theorem m0 {p : Addr × Obj} {l : List (Addr × Obj)} : p ∈ p :: l := List.mem_cons_self
theorem m3 {p a b c : Addr × Obj} {l : List (Addr × Obj)} (h : p ∈ l) : p ∈ a :: b :: c :: l := m1 (m1 (m1 h))
theorem inNews {h₀ h : Heap} {L : Addr} {news : List (Addr × Obj)} {f c' D cA cI cN : Addr} {oc oA oI oN : Obj} {qual : Str} {doc pm ctv : Value} {ps : Arguments} {b : List Stmt} {sc : Scope} {k ep : Nat} {R : Nat → Int} {T : Nat → Tok} {x y o : Addr × Obj} (N : News h₀ L h ((f, fnMade (Str.ofString "inner") qual ps b sc [(Str.ofString "n", cN), (Str.ofString "inner", cI), (Str.ofString "a_digits", cA)] doc pm c' ctv) :: (c', oc) :: (D, lrow k ep R T) :: o :: (cI, oI) :: (cA, oA) :: (cN, oN) :: x :: y :: news)) :
   News h₀ L h (inLed f c' D cA cI cN oc oA oI oN qual doc pm ctv ps b sc k ep [x, y] R T) := 
  News.put N m0 (News.put N (m1 m0) (News.put N (m1 (m1 m0)) (News.put N (m3 (m1 m0)) (News.put N (m3 (m1 (m1 m0))) (News.put N (m3 (m3 m0)) (News.put N (m3 (m3 (m1 m0))) (News.put N (m3 (m3 (m1 (m1 m0)))) (fun _ h => nomatch h))))))))
theorem linesD4 : True := by
  k_with "binaryOp FloorDiv int int" => (k_here; k_dflt (refine' Mine.fdiv_is hbits ?_))
  k_with "binaryOp Mult ref int" => (k_here; k_dflt (refine' Mine.rep_row (k := k) ?wF9 ?wN9 ?wm9 ?wx9 hk3 ?_; (case wF9 => k_asm); (case wN9 => k_asm); (case wm9 => k_mem); (case wx9 => rfl); k_whole); intro D' h' F' N' l1; (try k_lt l1); (try k_sweep))
  k_with "call builtin:len cons nil" => (k_here; k_dflt (refine' Mine.len_row ?wN9 ?wm9 ?wh9 ?_; (case wN9 => k_asm); (case wm9 => k_mem); (case wh9 => omega); k_whole))
  trivial
theorem i2d_ok (w : World) {p : Program} {loose : List Str} {mean : ExcName → Option Value} {mg mb : Str → Option Value} {x k : Nat} {t u : Tok} (hx0 : 0 < x) (hk1 : 1 ≤ k) (hk3 : k ≤ 3) (hx : x < 8 ^ k) (hbits : ((PySem.Builtin.Int.intBits (x : Int) : Int) + 3 - 1).fdiv 3 = k) :
   TellsIf (fun h => CodeHd h 48 44 ∧ CodeHd h 55 51) w p loose mean mg mb 49 [.int x t, .int 3 u] [(51, tabObj #[]), (44, tabObj #[])] (k + 1) 40
    (fun v h₀ h' L m => ∃ D T ps, v = .ref D ∧ Fr h₀ L h' m ∧ @LT.lt Nat _ 51 D ∧ News h₀ L h' [(D, lrow k 0 (fun q => ((x / 8 ^ q % 8 : Nat) : Int)) T), (51, tabObj #[]), (44, tabObj ps)]) := by
  intro dp un gd cn cs aa ccd cl outer A₀ bs h₀ L m s Q E B F X N T hP hk hd hu hret
  refine wpAny_call ?_
  k_extra "enterC"
  obtain ⟨hP1, hP2⟩ := hP
  have hQ1 : CodeHd _ 48 44 := CodeHd.lift hP1 (by assumption)
  have hQ2 : CodeHd _ 55 51 := CodeHd.lift hP2 (by assumption)
  iterate 54 (first | (k_unfold; (try dsimp only)) | walk1 | (dsimp only; walk1))
  rotate_left
  · exfalso; omega
  have nI := Mine.inNews (by assumption)
  refine' Mine.tells_at (Mine.innerAll w (rest := [(51, tabObj #[]), (44, tabObj _)]) rfl rfl rfl hk1 hk3 (Mine.apartI ?wa1 ?wa2 ?wa3 ?wa4 (show @LT.lt Nat _ 44 51 by decide)) (by assumption) (by assumption) (by assumption) (by assumption) (by assumption) (fun _ => 0) _ x 0 k _ _ _ (Nat.zero_add k).symm (Nat.le_refl k) hx) ?wB9 ?wF9 ?wX9 nI ?wT9 ?wk9 ?wd9 ?wu9 ?_
  case wa1 => assumption
  case wa2 => exact (by assumption : _ ∧ _).1
  case wa3 => omega
  case wa4 => dsimp only; omega
  case wB9 => k_asm
  case wF9 => k_asm
  case wX9 => k_asm
  case wT9 => k_asm
  case wk9 => first | exact rfl | assumption
  case wd9 => ktr_room
  case wu9 => ktr_units
  rintro v9 h' tk' ⟨rfl, F', T1', N'⟩
  dsimp only [Mine.inLed] at N'
  k_steps
  have kN := (by assumption : News h₀ L _ _)
  have e : (fun q => if 0 ≤ q ∧ q < k then ((x / 8 ^ (q - 0) % 8 : Nat) : Int) else (0 : Int)) = fun q => ((x / 8 ^ q % 8 : Nat) : Int) := by
    funext q
    by_cases h : q < k
    · rw [if_pos ⟨Nat.zero_le _, h⟩, Nat.sub_zero]
    · rw [if_neg (fun c => h c.2), Nat.div_eq_of_lt (Nat.lt_of_lt_of_le hx (Nat.pow_le_pow_right (by decide) (by omega)))]
      rfl
  rw [e] at kN
  exact hret _ _ _ ⟨_, _, _, rfl, by k_asm, by omega, fun p hp => kN p (by
    simp only [List.mem_cons, List.not_mem_nil, or_false] at hp ⊢
    rcases hp with h | h | h
    · exact .inr (.inr (.inl h))
    · exact .inr (.inr (.inr (.inr (.inr (.inr (.inl h))))))
    · exact .inr (.inr (.inr (.inr (.inr (.inr (.inr h)))))))⟩
end
section
open PySem PySem.Spec PySem.Calls PySem.W PyProof.Rows PyProof.Rows.LCg
/-- what n digits base 8 from lo on say -/
noncomputable def oct (R : Nat → Nat) : Nat → Nat → Nat
  | _, 0 => 0
  | lo, n + 1 => R lo + 8 * oct R (lo + 1) n
theorem oct_lt {R : Nat → Nat} (hR : ∀ q, R q < 8) : ∀ n lo, oct R lo n < 8 ^ n
  | 0, _ => Nat.zero_lt_one
  | n + 1, lo => by
    have h1 := hR lo
    have h2 := oct_lt hR n (lo + 1)
    show R lo + 8 * oct R (lo + 1) n < 8 ^ (n + 1)
    rw [Nat.pow_succ]; omega
theorem walkD5 : True := by
  k_with_none
  k_with "enterC" => (k_dflt (refine' code_defC ?wek1 ?wek2 ?wek3 ?wek4 ?wek5 ?wekA ?wekF ?wekK ?wek6 ?wek7 ?wek8 ?wek9 ?wekB ?wekD ?_ ?wec2 ?wec3 ?wec4; (case wekA => exact rfl); (case wekF => exact rfl); (case wekK => assumption); (case wek1 => k_asm); (case wek2 => k_asm); (case wek3 => k_asm); (case wek4 => k_asm); (case wek5 => k_asm); (case wek6 => k_is); (case wek7 => k_is); (case wek8 => ktr_room); (case wek9 => exact BindsTo.of_eq rfl); (case wekB => exact rfl); (case wekD => decide +kernel); (case wec2 => exact rfl); (case wec3 => exact rfl); (case wec4 => exact rfl); k_whole; intro g' L' h' tk' cells' FG' F' N' Y' B' X' T' l1; (try k_lt l1); k_cells Y'; (try simp only [List.cons_append, List.nil_append] at N'); (try dsimp only); (try k_lift B'); (try k_fold)))
  trivial
theorem linesD5 : True := by
  k_with "nest" => (refine' code_nest ?wnk1 ?wnk2 ?wnk3 ?wnk4 ?wnk5 ?wnkA ?wnkF ?wnkK ?wnk6 ?wnk7 ?wnk8 ?wnk9 ?wnkB ?_ ?wnc2 ?wnc3 ?wnc4 ?wnc5; (case wnkA => exact rfl); (case wnkF => exact rfl); (case wnkK => first | exact rfl | assumption); (case wnk1 => k_asm); (case wnk2 => k_asm); (case wnk3 => k_asm); (case wnk4 => k_asm); (case wnk5 => k_asm); (case wnk6 => k_mem); (case wnk7 => exact codeRec_news (by k_asm) (by k_mem) (by assumption) (by assumption)); (case wnk8 => ktr_room); (case wnk9 => exact BindsTo.of_eq rfl); (case wnc5 => decide); (case wnkB => exact locs rfl); (case wnc2 => exact rfl); (case wnc3 => exact rfl); (case wnc4 => exact rfl); k_whole; intro g' L' h' FG' F' N' B' X' T'; (try dsimp only); (try k_lift B'); (try k_fold))
  k_with "compareOp Eq int int" => (k_here; first | (refine' Mine.eq_yes ?we9 ?_; (case we9 => omega)) | (refine' Mine.eq_no ?we9 ?_; (case we9 => omega)))
  k_with "eval Name" => (k_here; k_dflt (refine' nameX_F ?N9 ?c9 ?m9 ?d9 ?_ ?a9 ?b9; (case b9 => rfl); (case a9 => rfl); (case N9 => k_asm); (case c9 => rfl); (case m9 => k_mem); (case d9 => k_asm); k_whole))
  k_with "subscriptTail Name Name ref int" => k_dflt (k_here; refine' Mine.item_lrow ?wN9 ?wm9 ?wn9 ?wk9 ?wi9 ?_; (case wN9 => k_asm); (case wm9 => k_mem); (case wn9 => omega); (case wk9 => rfl); (case wi9 => omega))
  k_with "binaryOp RShift int int" => k_dflt (k_here; refine' Mine.shr_r (x := lo + hi) (k := 1) (r := lo + 1) ?wa9 ?wb9 ?wr9 ?_; (case wa9 => omega); (case wb9 => rfl); (case wr9 => omega))
  k_with "binaryOp Mult int int" => k_dflt (k_here; refine' Mine.mul3 (x := 1) ?wa9 ?_; (case wa9 => omega))
  k_with "binaryOp LShift int int" => k_dflt (k_here; refine' Mine.shl_nat (x := oct R (lo + 1) n) (k := 3) ?wa9 ?wb9 ?wk9 ?wx9 ?_; (case wa9 => rfl); (case wb9 => rfl); (case wk9 => decide); (case wx9 => exact hx2))
  k_with "call ref cons nil" => (k_here; first
    | (k_dflt (refine' Mine.tells_at (In (lo + 1) hi _ _ (by omega) (by omega)) ?wB9 ?wF9 ?wX9 ?wN9 ?wT9 ?wk9 ?wd9 ?wu9 ?_; (case wB9 => k_asm); (case wF9 => k_asm); (case wX9 => k_asm); (case wN9 => k_asm); (case wT9 => k_asm); (case wk9 => first | exact rfl | assumption); (case wd9 => ktr_room); (case wu9 => ktr_units); k_whole); rintro v9 h' tk' ⟨⟨t9, rfl⟩, F', N'⟩)
    | (k_dflt (refine' Mine.tells_at (I1 lo (lo + 1) _ _ rfl (by omega)) ?wB9 ?wF9 ?wX9 ?wN9 ?wT9 ?wk9 ?wd9 ?wu9 ?_; (case wB9 => k_asm); (case wF9 => k_asm); (case wX9 => k_asm); (case wN9 => k_asm); (case wT9 => k_asm); (case wk9 => first | exact rfl | assumption); (case wd9 => ktr_room); (case wu9 => ktr_units); k_whole); rintro v9 h' tk' ⟨⟨t9, rfl⟩, F', N'⟩))
  k_with "callWith ref nil nil" => (k_here; k_dflt (first
    | (refine' callWith_F ?wk9 ?_; (case wk9 => exact FnAt.of (by k_asm) (by k_mem)); k_whole)
    | (refine' callWith_F0 ?wk9 ?_; (case wk9 => exact FnAt.of (by k_asm) (by k_mem)); k_whole; try dsimp only [List.nil_append, List.cons_append])))
  trivial
/-- the ledger that the inner function of _digits2int sees -/
noncomputable abbrev sumLed (f c' D cA cI cN : Addr) (oc oA oI oN : Obj) (qual : Str) (doc pm ctv : Value) (ps : Arguments) (b : List Stmt) (sc : Scope) (k ep : Nat) (rest : List (Addr × Obj)) (R : Nat → Nat) (T : Nat → Tok) : List (Addr × Obj) :=
  (f, fnMade (Str.ofString "inner") qual ps b sc [(Str.ofString "n", cN), (Str.ofString "inner", cI), (Str.ofString "digits", cA)] doc pm c' ctv) :: (c', oc) :: (cI, oI) :: (cN, oN) :: (cA, oA) :: (D, lrow k ep (fun q => (R q : Int)) T) :: rest
noncomputable def SumT (w : World) (p : Program) (loose : List Str) (mean : ExcName → Option Value) (mg mb : Str → Option Value) (f : Addr) (k : Nat) (led : List (Addr × Obj)) (R : Nat → Nat) (sz : Nat) : Prop :=
  ∀ (lo hi : Nat) (t u : Tok), hi = lo + sz → hi ≤ k → Tells w p loose mean mg mb f [.int lo t, .int hi u] led sz (8 * sz)
    (fun v h₀ h' L m => (∃ t, v = .int (oct R lo sz : Nat) t) ∧ Fr h₀ L h' m ∧ News h₀ L h' led)
section
variable (w : World) {p : Program} {loose : List Str} {mean : ExcName → Option Value} {mg mb : Str → Option Value} {f c' D cA cI cN : Addr} {oc oA oI oN : Obj} {qual : Str} {doc pm ctv : Value} {ps : Arguments} {b : List Stmt} {sc : Scope} {k ep : Nat} {rest : List (Addr × Obj)} {vs : Array Value} {t : Tok} {tn : Tok} {R : Nat → Nat} {Tk : Nat → Tok}
    (hps : ps = in2.1) (hb : b = in2.2.1) (hsc : sc = in2.2.2) (hk3 : k ≤ 3) (hoc : oc.data = .fields vs) (hov : vs[1]? = some (.str qual t))
    (dA : oA.data = .cell (some (.ref D))) (dI : oI.data = .cell (some (.ref f))) (dN : oN.data = .cell (some (.int 3 tn)))
include hps hb hsc hk3 hoc hov dA dI dN
theorem sum1 : SumT w p loose mean mg mb f k (sumLed f c' D cA cI cN oc oA oI oN qual doc pm ctv ps b sc k ep rest R Tk) R 1 := by
  conv at hps => rhs; whnf
  conv at hb => rhs; whnf
  conv at hsc => rhs; whnf
  subst hps hb hsc
  intro lo hi t u hhi hlo dp un gd cn cs aa ccd cl outer A₀ bs h₀ L m s Q E B F X N T hk hd hu hret
  refine wpAny_call ?_
  k_extra "nest"
  k_steps
  exact hret _ _ _ ⟨⟨_, rfl⟩, by k_asm, by k_asm⟩
theorem sumS {n : Nat} (hn1 : 1 ≤ n) (hn2 : n ≤ 2) (hR : ∀ q, R q < 8)
    (I1 : SumT w p loose mean mg mb f k (sumLed f c' D cA cI cN oc oA oI oN qual doc pm ctv ps b sc k ep rest R Tk) R 1) (In : SumT w p loose mean mg mb f k (sumLed f c' D cA cI cN oc oA oI oN qual doc pm ctv ps b sc k ep rest R Tk) R n) :
    SumT w p loose mean mg mb f k (sumLed f c' D cA cI cN oc oA oI oN qual doc pm ctv ps b sc k ep rest R Tk) R (n + 1) := by
  conv at hps => rhs; whnf
  conv at hb => rhs; whnf
  conv at hsc => rhs; whnf
  subst hps hb hsc
  intro lo hi t u hhi hlo dp un gd cn cs aa ccd cl outer A₀ bs h₀ L m s Q E B F X N T hk hd hu hret
  refine wpAny_call ?_
  have hx2 : oct R (lo + 1) n < 1024 := by
    refine Nat.lt_of_lt_of_le (oct_lt hR n (lo + 1)) ?_
    have h12 : n = 1 ∨ n = 2 := by omega
    rcases h12 with e | e <;> rw [e] <;> decide
  k_extra "nest"
  k_steps
  have e : ((oct R (lo + 1) n * 2 ^ 3 : Nat) : Int) + ((oct R lo 1 : Nat) : Int) = ((oct R lo (n + 1) : Nat) : Int) := by
    simp only [oct]; omega
  exact hret _ _ _ ⟨⟨_, congrArg (Value.int · _) e⟩, by k_asm, by k_asm⟩
end
end
section
open PySem PySem.Spec PySem.Calls PySem.W PyProof.Rows PyProof.Rows.LCg
section
variable {prog : Program} {w : World} {A : Around} {E : Value → Shared → Prop} {s : Shared} {h₀ : Heap} {L : Addr} {m : Str → Option Value} {news : List (Addr × Obj)}
theorem truthy_row {D : Addr} {n ep : Nat} {R : Nat → Int} {T : Nat → Tok} {b : Bool} {Q : Bool → Shared → Prop} (N : News h₀ L s.heap news) (hm : (D, lrow n ep R T) ∈ news) (hn : n ≤ 64) (hb : decide (0 < n) = b) (h : Q b { s with toks := s.toks + 1 + 1 }) : wpAny (model prog w) A (truthy (.ref D)) Q E s := by
  have hl : s.heap.IsList D ((List.range n).map fun k => Value.int (R k) (T k)).toArray := ⟨_, (N _ hm).1, rfl, _, rfl⟩
  refine wpAny_truthy_list hl (by simp; omega) ?_
  have e : (!(((List.range n).map fun k => Value.int (R k) (T k)).toArray).isEmpty) = b := by
    subst hb
    cases n <;> simp
  rw [e]; exact h
end
theorem sumAll (w : World) {p : Program} {loose : List Str} {mean : ExcName → Option Value} {mg mb : Str → Option Value} {f c' D cA cI cN : Addr} {oc oA oI oN : Obj} {qual : Str} {doc pm ctv : Value} {ps : Arguments} {b : List Stmt} {sc : Scope} {k ep : Nat} {rest : List (Addr × Obj)} {vs : Array Value} {t : Tok} {tn : Tok} {R : Nat → Nat} {Tk : Nat → Tok}
    (hps : ps = in2.1) (hb : b = in2.2.1) (hsc : sc = in2.2.2) (hk1 : 1 ≤ k) (hk3 : k ≤ 3) (hR : ∀ q, R q < 8) (hoc : oc.data = .fields vs) (hov : vs[1]? = some (.str qual t))
    (dA : oA.data = .cell (some (.ref D))) (dI : oI.data = .cell (some (.ref f))) (dN : oN.data = .cell (some (.int 3 tn))) :
    SumT w p loose mean mg mb f k (sumLed f c' D cA cI cN oc oA oI oN qual doc pm ctv ps b sc k ep rest R Tk) R k := by
  have I1 := sum1 w (p := p) (loose := loose) (mean := mean) (mg := mg) (mb := mb) (doc := doc) (pm := pm) (ctv := ctv) (ep := ep) (rest := rest) (c' := c') (cI := cI) (cA := cA) (cN := cN) (R := R) (Tk := Tk) hps hb hsc hk3 hoc hov dA dI dN
  have hk : k = 1 ∨ k = 2 ∨ k = 3 := by omega
  have I2 := sumS w hps hb hsc hk3 hoc hov dA dI dN (Nat.le_refl 1) (by decide) hR I1 I1
  rcases hk with rfl | rfl | rfl
  · exact I1
  · exact I2
  · exact sumS w hps hb hsc hk3 hoc hov dA dI dN (by decide) (by decide) hR I1 I2
theorem d2News {h₀ h : Heap} {L : Addr} {f c' D cA cI cN : Addr} {oc oA oI oN : Obj} {qual : Str} {doc pm ctv : Value} {ps : Arguments} {b : List Stmt} {sc : Scope} {k ep : Nat} {R : Nat → Nat} {T : Nat → Tok} {rest : List (Addr × Obj)}
    (N : News h₀ L h ((f, fnMade (Str.ofString "inner") qual ps b sc [(Str.ofString "n", cN), (Str.ofString "inner", cI), (Str.ofString "digits", cA)] doc pm c' ctv) :: (c', oc) :: (cI, oI) :: (cN, oN) :: (cA, oA) :: (D, lrow k ep (fun q => (R q : Int)) T) :: rest)) :
   News h₀ L h (sumLed f c' D cA cI cN oc oA oI oN qual doc pm ctv ps b sc k ep rest R T) := N
theorem tail6 {h₀ h : Heap} {L : Addr} {a b c d e f : Addr × Obj} {rest : List (Addr × Obj)} (N : News h₀ L h (a :: b :: c :: d :: e :: f :: rest)) : News h₀ L h rest := newsTail (newsTail (newsTail (newsTail (newsTail (newsTail N)))))
theorem walkD6 : True := by
  k_with_none
  k_with "enterC" => (k_dflt (refine' code_defC ?wek1 ?wek2 ?wek3 ?wek4 ?wek5 ?wekA ?wekF ?wekK ?wek6 ?wek7 ?wek8 ?wek9 ?wekB ?wekD ?_ ?wec2 ?wec3 ?wec4; (case wekA => exact rfl); (case wekF => exact rfl); (case wekK => assumption); (case wek1 => k_asm); (case wek2 => k_asm); (case wek3 => k_asm); (case wek4 => k_asm); (case wek5 => k_asm); (case wek6 => k_is); (case wek7 => k_is); (case wek8 => ktr_room); (case wek9 => exact BindsTo.of_eq rfl); (case wekB => exact rfl); (case wekD => decide +kernel); (case wec2 => exact rfl); (case wec3 => exact rfl); (case wec4 => exact rfl); k_whole; intro g' L' h' tk' cells' FG' F' N' Y' B' X' T' l1; (try k_lt l1); k_cells Y'; (try simp only [List.cons_append, List.nil_append] at N'); (try dsimp only); (try k_lift B'); (try k_fold)))
  trivial
theorem linesD6 : True := by
  k_with "truthy ref" => (k_here; k_dflt (refine' Mine.truthy_row ?wN9 ?wm9 ?wh9 ?wb9 ?_; (case wN9 => k_asm); (case wm9 => k_mem); (case wh9 => omega); (case wb9 => exact hb9); k_whole))
  k_with "call builtin:len cons nil" => (k_here; k_dflt (refine' Mine.len_row ?wN9 ?wm9 ?wh9 ?_; (case wN9 => k_asm); (case wm9 => k_mem); (case wh9 => omega); k_whole))
  trivial
theorem d2i_ok (w : World) {p : Program} {loose : List Str} {mean : ExcName → Option Value} {mg mb : Str → Option Value} {D : Addr} {k ep : Nat} {R : Nat → Nat} {Tk : Nat → Tok} {u : Tok} {ps : Array Value} (hD : @LT.lt Nat _ 51 D) (hk1 : 1 ≤ k) (hk3 : k ≤ 3) (hR : ∀ q, R q < 8) :
   TellsIf (fun h => CodeHd h 55 51) w p loose mean mg mb 56 [.ref D, .int 3 u] [(D, lrow k ep (fun q => (R q : Int)) Tk), (51, tabObj #[]), (44, tabObj ps)] (k + 1) 40
    (fun v h₀ h' L m => (∃ t, v = .int (oct R 0 k : Nat) t) ∧ Fr h₀ L h' m ∧ ∃ pt, News h₀ L h' [(51, tabObj pt), (44, tabObj ps)]) := by
  intro dp un gd cn cs aa ccd cl outer A₀ bs h₀ L m s Q E B F X N T hP hk hd hu hret
  refine wpAny_call ?_
  k_extra "enterC"
  have hQ2 : CodeHd _ 55 51 := CodeHd.lift hP (by assumption)
  have hb9 : decide (0 < k) = true := by simp; omega
  k_steps
  have nI := Mine.d2News (by assumption)
  refine' Mine.tells_at (Mine.sumAll w (rest := [(51, tabObj _), (44, tabObj ps)]) rfl rfl rfl hk1 hk3 hR (by assumption) (by assumption) (by assumption) (by assumption) (by assumption) 0 k _ _ (Nat.zero_add k).symm (Nat.le_refl k)) ?wB9 ?wF9 ?wX9 nI ?wT9 ?wk9 ?wd9 ?wu9 ?_
  case wB9 => k_asm
  case wF9 => k_asm
  case wX9 => k_asm
  case wT9 => k_asm
  case wk9 => first | exact rfl | assumption
  case wd9 => ktr_room
  case wu9 => ktr_units
  rintro v9 h' tk' ⟨⟨t9, rfl⟩, F', N'⟩
  k_steps
  exact hret _ _ _ ⟨⟨_, rfl⟩, by k_asm, _, Mine.tail6 (by k_asm)⟩
theorem d2i0_ok (w : World) {p : Program} {loose : List Str} {mean : ExcName → Option Value} {mg mb : Str → Option Value} {D : Addr} {ep : Nat} {R : Nat → Nat} {Tk : Nat → Tok} {u : Tok} {ps : Array Value} (hD : @LT.lt Nat _ 51 D) :
   TellsIf (fun h => CodeHd h 55 51) w p loose mean mg mb 56 [.ref D, .int 3 u] [(D, lrow 0 ep (fun q => (R q : Int)) Tk), (51, tabObj #[]), (44, tabObj ps)] 1 40
    (fun v h₀ h' L m => (∃ t, v = .int (oct R 0 0 : Nat) t) ∧ Fr h₀ L h' m ∧ ∃ pt, News h₀ L h' [(51, tabObj pt), (44, tabObj ps)]) := by
  intro dp un gd cn cs aa ccd cl outer A₀ bs h₀ L m s Q E B F X N T hP hk hd hu hret
  refine wpAny_call ?_
  k_extra "enterC"
  have hQ2 : CodeHd _ 55 51 := CodeHd.lift hP (by assumption)
  have hb9 : decide (0 < 0) = false := rfl
  k_steps
  exact hret _ _ _ ⟨⟨_, rfl⟩, by k_asm, _, Mine.tail6 (by k_asm)⟩
end
section
open PySem PySem.Spec PySem.Calls PySem.W PyProof.Rows PyProof.Rows.LCg
theorem walkD7 : True := by
  k_with_none
  k_with "enterC" => (k_dflt (refine' code_defC ?wek1 ?wek2 ?wek3 ?wek4 ?wek5 ?wekA ?wekF ?wekK ?wek6 ?wek7 ?wek8 ?wek9 ?wekB ?wekD ?_ ?wec2 ?wec3 ?wec4; (case wekA => exact rfl); (case wekF => exact rfl); (case wekK => assumption); (case wek1 => k_asm); (case wek2 => k_asm); (case wek3 => k_asm); (case wek4 => k_asm); (case wek5 => k_asm); (case wek6 => k_is); (case wek7 => k_is); (case wek8 => ktr_room); (case wek9 => exact BindsTo.of_eq rfl); (case wekB => exact rfl); (case wekD => decide +kernel); (case wec2 => exact rfl); (case wec3 => exact rfl); (case wec4 => exact rfl); k_whole; intro g' L' h' tk' cells' FG' F' N' Y' B' X' T' l1; (try k_lt l1); k_cells Y'; (try simp only [List.cons_append, List.nil_append] at N'); (try dsimp only); (try k_lift B'); (try k_fold)))
  trivial
theorem linesD7 : True := by
  k_with "binaryOp FloorDiv int int" => (k_here; k_dflt (refine' Mine.fdiv_is hbits ?_))
  k_with "binaryOp Mult ref int" => (k_here; k_dflt (refine' Mine.rep_row (k := 0) ?wF9 ?wN9 ?wm9 ?wx9 (by decide) ?_; (case wF9 => k_asm); (case wN9 => k_asm); (case wm9 => k_mem); (case wx9 => rfl); k_whole); intro D' h' F' N' l1; (try k_lt l1); (try k_sweep))
  trivial
theorem i2d0_ok (w : World) {p : Program} {loose : List Str} {mean : ExcName → Option Value} {mg mb : Str → Option Value} {t u : Tok} :
   TellsIf (fun h => CodeHd h 48 44 ∧ CodeHd h 55 51) w p loose mean mg mb 49 [.int 0 t, .int 3 u] [(51, tabObj #[]), (44, tabObj #[])] 1 40
    (fun v h₀ h' L m => ∃ D T ps, v = .ref D ∧ Fr h₀ L h' m ∧ @LT.lt Nat _ 51 D ∧ News h₀ L h' [(D, lrow 0 0 (fun q => ((0 / 8 ^ q % 8 : Nat) : Int)) T), (51, tabObj #[]), (44, tabObj ps)]) := by
  intro dp un gd cn cs aa ccd cl outer A₀ bs h₀ L m s Q E B F X N T hP hk hd hu hret
  refine wpAny_call ?_
  k_extra "enterC"
  obtain ⟨hP1, hP2⟩ := hP
  have hQ1 : CodeHd _ 48 44 := CodeHd.lift hP1 (by assumption)
  have hQ2 : CodeHd _ 55 51 := CodeHd.lift hP2 (by assumption)
  have hbits : ((PySem.Builtin.Int.intBits (0 : Int) : Int) + 3 - 1).fdiv 3 = 0 := by decide +kernel
  k_steps
  have kN := (by assumption : News h₀ L _ _)
  have e : (fun q => ((0 / 8 ^ q % 8 : Nat) : Int)) = fun _ => 0 := by
    funext q
    rw [Nat.zero_div]; rfl
  exact hret _ _ _ ⟨_, fun _ => 0, _, rfl, by k_asm, by omega, by
    rw [e]
    exact fun p hp => kN p (by
      simp only [List.mem_cons, List.not_mem_nil, or_false] at hp ⊢
      rcases hp with h | h | h
      · exact .inr (.inr (.inl h))
      · exact .inr (.inr (.inr (.inr (.inr (.inr (.inr (.inl h)))))))
      · exact .inr (.inr (.inr (.inr (.inr (.inr (.inr (.inr h))))))))⟩
theorem le_yes {prog : Program} {w : World} {A : Around} {E : Value → Shared → Prop} {s : Shared} {t u : Tok} {Q : Value → Shared → Prop} {a b : Int} (e : a ≤ b) (h : Q (.bool true) s) : wpAny (model prog w) A (compareOp .LtE (.int a t) (.int b u)) Q E s := by
  refine le_int ?_
  have : decide (a ≤ b) = true := by simpa using e
  rw [this]; exact h
theorem linesD7b : True := by
  k_with "compareOp LtE int int" => k_dflt (k_here; refine' Mine.le_yes ?we9 ?_; (case we9 => omega))
  trivial
theorem div2_ok (w : World) {p : Program} {loose : List Str} {mean : ExcName → Option Value} {mg mb : Str → Option Value} {news : List (Addr × Obj)} {a : Nat} {t u v : Tok} (ha : a < 64) :
   Tells w p loose mean mg mb 35 [.int a t, .int 4 u, .int 3 v] news 1 8 (fun v h₀ h' L m => ∃ D t1 t2, v = .ref D ∧ Fr h₀ L h' m ∧ (∀ p ∈ news, @LT.lt Nat _ p.1 D) ∧ News h₀ L h' ((D, { cls := .type "tuple", data := .seq #[.int ((a / 4 : Nat) : Int) t1, .int ((a % 4 : Nat) : Int) t2] }) :: news)) := by
  intro dp un gd cn cs aa ccd cl outer A₀ bs h₀ L m s Q E B F X N T hk hd hu hret
  refine wpAny_call ?_
  have hb : (PySem.Builtin.Int.intBits (a : Int) : Int) ≤ 6 := by exact_mod_cast (by decide +kernel : ∀ a < 64, PySem.Builtin.Int.intBits ((a : Nat) : Int) ≤ 6) a ha
  k_dflt cell_enter
  k_steps
  have kN := (by assumption : News h₀ L _ _)
  have e1 : (a : Int).fdiv 4 = ((a / 4 : Nat) : Int) := by
    rw [Int.fdiv_eq_ediv_of_nonneg _ (by decide)]; omega
  have e2 : (a : Int).fmod 4 = ((a % 4 : Nat) : Int) := by
    rw [Int.fmod_eq_emod_of_nonneg _ (by decide)]; omega
  rw [e1, e2] at kN
  exact hret _ _ _ ⟨_, _, _, rfl, by k_asm, fun p hp => Heap.lt_size ((by assumption : News _ _ _ news) p hp).1, kN⟩
end
section
open PySem PySem.Spec PySem.Calls PySem.W PyProof.Rows PyProof.Rows.LCg
noncomputable def dpFor : List Stmt := bodyOf (nth (bodyOf (topAt 9)) 4)
noncomputable def dpSc : Scope := scopeOf (topAt 9)
noncomputable abbrev dpEnv (sc : Scope) (L : Addr) : Env := envOf (Str.ofString "_divmod_pos") sc L 63 (.ref 62)
section
variable {prog : Program} {w : World} {A : Around} {E : Value → Shared → Prop} {s : Shared} {h₀ : Heap} {L : Addr} {m : Str → Option Value} {env : Env} {news : List (Addr × Obj)} {t u : Tok} {Q : Value → Shared → Prop}
theorem rev_inv {x : Str} {body : List Stmt} {Q : Flow → Shared → Prop} {I : Addr} {lp : Addr × Obj} {vs : List Value} (J : Nat → (Str → Option Value) → List (Addr × Obj) → Prop) (jl : ∀ i m news, J i m news → lp ∈ news)
    (turn : ∀ i v m news, vs[i]? = some v → J i m news → ∀ it h tk, Fr h₀ env.locals h (fun y => if y = x then some v else m y) → News h₀ env.locals h ((I, it) :: news) →
      wpAny (model prog w) A (execs body env) (UnrPost h₀ env.locals { s with heap := h, toks := tk } I it (J (i + 1)) Q) E { s with heap := h, toks := tk })
    (done : ∀ m news, J vs.length m news → ∀ h tk, Fr h₀ env.locals h m → News h₀ env.locals h news → Q .next { s with heap := h, toks := tk }) :
    ∀ (k i : Nat) (m : Str → Option Value) (news : List (Addr × Obj)), i + k = vs.length → J i m news → RevRest prog w A E h₀ env x body Q s I lp (vs.drop i) m news
  | 0, i, m, news, e, j => by
    have : vs.drop i = [] := List.drop_eq_nil_of_le (by omega)
    rw [this]
    exact RevRest.zero fun h tk F N => done m news (by have : i = vs.length := by omega
                                                       rw [← this]; exact j) h tk F N
  | k + 1, i, m, news, e, j => by
    have hi : i < vs.length := by omega
    rw [List.drop_eq_getElem_cons hi]
    refine RevRest.succ fun it h tk _ F N => ?_
    refine wpAny_mono (turn i vs[i] m news (List.getElem?_eq_getElem hi) j it h tk F N) (fun f s₃ p => ?_) fun _ _ q => q
    have ih := rev_inv J jl turn done k (i + 1)
    cases f with
    | next => obtain ⟨h', tk', m', news', e1, F', N', o, j'⟩ := p; exact ⟨h', tk', m', news', e1, F', N', o, jl _ _ _ j', ih m' news' (by omega) j'⟩
    | cont => obtain ⟨h', tk', m', news', e1, F', N', o, j'⟩ := p; exact ⟨h', tk', m', news', e1, F', N', o, jl _ _ _ j', ih m' news' (by omega) j'⟩
    | brk => exact p
    | ret v => exact p
theorem add_nat {x y : Nat} (h : Q (.int ((x + y : Nat) : Int) s.toks) { s with toks := s.toks + 1 }) : wpAny (model prog w) A (binaryOp .Add (.int x t) (.int y u)) Q E s :=
  PyProof.Rows.add_int (by rw [← Int.natCast_add]; exact h)
theorem append_row {K : Addr} {i : Nat} {R : Nat → Int} {T : Nat → Tok} {v : Int} {news' : List (Addr × Obj)} (F : Fr h₀ L s.heap m) (N : News h₀ L s.heap news) (hi : i ≤ 64) (hv : R i = v)
    (U : Upd K (lrow i i R T) (lrow (i + 1) (i + 1) R (fun q => if q = i then t else T q)) news news') (h : ∀ h', Fr h₀ L h' m → News h₀ L h' news' → Q .none { s with heap := h' }) :
    wpAny (model prog w) A (call (.builtin "list.append") [.ref K, .int v t]) Q E s := by
  refine append_K (its := ((List.range i).map fun k => Value.int (R k) (T k)).toArray) (n := i) F N ?_ h (by simp; exact Nat.le_trans hi (by decide))
  have e : lrow (i + 1) (i + 1) R (fun q => if q = i then t else T q) = W.listOf (((List.range i).map fun k => Value.int (R k) (T k)).toArray.push (.int v t)) (i + 1) := by
    subst hv
    unfold lrow W.listOf
    congr 2
    apply Array.toList_inj.mp
    simp only [Array.toList_push, List.range_succ, List.map_append, List.map_cons, List.map_nil, if_true]
    refine congrArg (· ++ _) (List.map_congr_left fun q hq => ?_)
    have : q ≠ i := Nat.ne_of_lt (List.mem_range.mp hq)
    simp only [this, if_false]
  rw [← e]
  exact U
end
/-- the remainder behind i digits; the q-th digit laid down -/
noncomputable def rr (a k i : Nat) : Nat := a / 8 ^ (k - i) % 4
noncomputable def qq (a k q : Nat) : Nat := a / 4 / 8 ^ (k - 1 - q) % 8
theorem dp_law {a k i : Nat} (hi : i < k) : rr a k i * 2 ^ 3 + a / 8 ^ (k - 1 - i) % 8 < 64 ∧ (rr a k i * 2 ^ 3 + a / 8 ^ (k - 1 - i) % 8) / 4 = qq a k i ∧ (rr a k i * 2 ^ 3 + a / 8 ^ (k - 1 - i) % 8) % 4 = rr a k (i + 1) := by
  unfold rr qq
  have e1 : k - i = (k - 1 - i) + 1 := by omega
  have e2 : k - (i + 1) = k - 1 - i := by omega
  rw [e1, e2, Nat.pow_succ, ← Nat.div_div_eq_div_mul, Nat.div_div_eq_div_mul a 4, Nat.mul_comm 4, ← Nat.div_div_eq_div_mul]
  generalize a / 8 ^ (k - 1 - i) = b
  have e : b / 8 % 4 * 2 ^ 3 + b % 8 = b % 32 := by rw [show (32 : Nat) = 8 * 4 from rfl, Nat.mod_mul]; omega
  rw [e]
  exact ⟨Nat.lt_trans (Nat.mod_lt _ (by decide)) (by decide), by rw [show (32 : Nat) = 4 * 8 from rfl, Nat.mod_mul_right_div_self], Nat.mod_mod_of_dvd _ (by decide)⟩
inductive JD (ps : Array Value) (a k : Nat) (K D : Addr) (Td : Nat → Tok) (ub un : Tok) (i : Nat) (m : Str → Option Value) : List (Addr × Obj) → Prop
  | mk (t : Tok) (T : Nat → Tok) (er : m "r" = some (.int (rr a k i : Nat) t)) (eq : m "q_digits" = some (.ref K)) (eb : m "b" = some (.int 4 ub)) (en : m "n" = some (.int 3 un)) :
    JD ps a k K D Td ub un i m [(K, lrow i i (fun q => (qq a k q : Int)) T), (D, lrow k 0 (fun q => ((a / 8 ^ q % 8 : Nat) : Int)) Td), (51, tabObj #[]), (44, tabObj ps)]
theorem walkD8 : True := by
  k_with_none
  k_with "enterC" => (k_dflt (refine' code_defC ?wek1 ?wek2 ?wek3 ?wek4 ?wek5 ?wekA ?wekF ?wekK ?wek6 ?wek7 ?wek8 ?wek9 ?wekB ?wekD ?_ ?wec2 ?wec3 ?wec4; (case wekA => exact rfl); (case wekF => exact rfl); (case wekK => assumption); (case wek1 => k_asm); (case wek2 => k_asm); (case wek3 => k_asm); (case wek4 => k_asm); (case wek5 => k_asm); (case wek6 => k_is); (case wek7 => k_is); (case wek8 => ktr_room); (case wek9 => exact BindsTo.of_eq rfl); (case wekB => exact rfl); (case wekD => decide +kernel); (case wec2 => exact rfl); (case wec3 => exact rfl); (case wec4 => exact rfl); k_whole; intro g' L' h' tk' cells' FG' F' N' Y' B' X' T' l1; (try k_lt l1); k_cells Y'; (try simp only [List.cons_append, List.nil_append] at N'); (try dsimp only); (try k_lift B'); (try k_fold)))
  k_with "mine_map" => ((repeat (refine (if_neg (by decide)).trans ?_)); first | exact if_pos rfl | assumption | exact rfl)
  k_with "eval Name" => (k_here; k_dflt (refine' nameX_L ?v15F ?v15v ?_ ?v15a ?v15b; (case v15a => rfl); (case v15b => rfl); (case v15F => k_asm); (case v15v => k_extra "mine_map"); k_whole))
  k_with "subscriptTail Name BinOp ref int" => (k_here; k_dflt (refine' Mine.item_refs ?v16N ?v16m ?v16a ?v16b ?_ ?v16s; (case v16N => k_asm); (case v16m => k_mem); (case v16a => omega); (case v16b => omega); (case v16s => with_unfolding_all rfl); k_whole); intro i' hi')
  k_with "binaryOp Mod int int" => (k_here; (with_reducible refine' Mine.mod4 ?_); intro x' hx0' hx4')
  k_with "subscriptTail Name Name ref int" => (k_here; k_dflt (refine' Mine.item_row ?v18N ?v18ha ?v18m0 ?v18m1 ?v18m2 ?v18m3 ?v18a ?v18b ?_ ?v18s; (case v18N => k_asm); (case v18m0 => k_mem); (case v18m1 => k_mem); (case v18m2 => k_mem); (case v18m3 => k_mem); (case v18ha => omega); (case v18a => omega); (case v18b => omega); (case v18s => with_unfolding_all rfl); k_whole))
  k_with "setItem ref int" => (k_here; k_dflt (refine' Mine.store_row ?v19F ?v19N ?v19f ?v19ha ?v19a ?v19b ?_; (case v19F => k_asm); (case v19N => k_asm); (case v19f => assumption); (case v19ha => omega); (case v19a => omega); (case v19b => omega); k_whole); intro h' F' N')
  k_with "loadName" => (k_here; k_dflt (refine' wpAny_loadName_local ?v20a ?v20b ?v20c ?v20v ?_; (case v20a => rfl); (case v20b => rfl); (case v20c => exact Fr.ns (by k_asm)); (case v20v => k_extra "mine_map"); k_whole))
  k_with "exec While" => (k_here; k_dflt (refine' Mine.while_sq ?v21a ?v21b ?v21F ?v21N ?v21h1 ?v21h2 ?v21h3 ?v21h4 ?v21h5 ?v21d1 ?v21d2 ?v21d3 ?_ ?v21hE; (case v21hE => first | assumption | passes_own); (case v21F => k_asm); (case v21N => k_asm); (case v21h1 => k_extra "mine_map"); (case v21h2 => k_extra "mine_map"); (case v21h3 => k_extra "mine_map"); (case v21h4 => k_extra "mine_map"); (case v21h5 => k_extra "mine_map"); (case v21d1 => assumption); (case v21d2 => assumption); (case v21d3 => assumption); (case v21a => omega); (case v21b => omega); k_whole))
  k_with "LRest" => (k_dflt (refine' Mine.LRest.one ?v22o ?v22turn ?v22fin; (case v22o => assumption)); (case' v22fin => (intro y' hy'; (try (obtain ⟨t8', hy8'⟩ := hy'; subst hy8')))); (case' v22turn => (intro i' v' I' oI' C' oC' D' m' h' tk' E' ys' hi' hv' hC' hx' F' N' lie'; (first | (obtain ⟨t9', hv9'⟩ := hv'; subst hv9') | skip))))
  k_with "mine_hit" => (first | (refine' Mine.hit_yes ?v23hit ?v23hi ?v23h0 ?v23a ?v23b; (case v23hit => assumption); (case v23hi => assumption); (case v23h0 => assumption); (case v23a => assumption); (case v23b => assumption)) | (refine' Mine.hit_no1 ?v23hit ?v23hi ?v23a; (case v23hit => assumption); (case v23hi => assumption); (case v23a => assumption)) | (refine' Mine.hit_no2 ?v23hit ?v23hi ?v23a; (case v23hit => assumption); (case v23hi => assumption); (case v23a => assumption)))
  k_with "HitPost" => (k_dflt (first | (refine Mine.HitPost.yes' ?v24hh ?_; (case v24hh => k_extra "mine_hit"); intro hh'; (try subst hh')) | (refine Mine.HitPost.no ?v24hh ?_; (case v24hh => k_extra "mine_hit"))))
  k_with "WhileStep2" => (k_dflt (first
  | (refine' Mine.jw_next ?v25F ?v25N ?v25h1 ?v25h2 ?v25h3 ?v25h4 ?v25hb ?v25h5 ?v25d1 ?v25d2 ?v25d3 ?v25hn ?v25C ?v25e; (case v25F => k_asm); (case v25N => k_asm); (case v25C => assumption); (case v25e => assumption); (case v25h1 => k_extra "mine_map"); (case v25h2 => k_extra "mine_map"); (case v25h3 => k_extra "mine_map"); (case v25h4 => k_extra "mine_map"); (case v25h5 => k_extra "mine_map"); (case v25hb => first | assumption | rfl); (case v25d1 => assumption); (case v25d2 => assumption); (case v25d3 => assumption); (case v25hn => omega))
  | (refine' Mine.jw_last ?v25F ?v25N ?v25h1 ?v25h2 ?v25h3 ?v25h4 ?v25hb ?v25h5 ?v25d1 ?v25d2 ?v25d3 ?v25hn ?v25C; (case v25F => k_asm); (case v25N => k_asm); (case v25C => assumption); (case v25h1 => k_extra "mine_map"); (case v25h2 => k_extra "mine_map"); (case v25h3 => k_extra "mine_map"); (case v25h4 => k_extra "mine_map"); (case v25h5 => k_extra "mine_map"); (case v25hb => first | assumption | rfl); (case v25d1 => assumption); (case v25d2 => assumption); (case v25d3 => assumption); (case v25hn => omega))))
  k_with "UnrEnd" => (k_dflt (refine' Mine.jf_end ?v26F ?v26N ?v26h1 ?v26h2 ?v26d1 ?v26d2 ?v26d3 ?v26C ?v26lb ?v26lD ?v26l0 ?v26lI; (case v26F => k_asm); (case v26N => k_asm); (case v26C => assumption); (case v26h1 => k_extra "mine_map"); (case v26h2 => k_extra "mine_map"); (case v26d1 => assumption); (case v26d2 => assumption); (case v26d3 => assumption); (case v26lb => assumption); (case v26lD => assumption); (case v26l0 => assumption); (case v26lI => assumption)))
  trivial
theorem linesD8 : True := by
  k_with "binaryOp LShift int int" => k_dflt (k_here; refine' Mine.shl_nat (x := rr a k i) (k := 3) ?wa9 ?wb9 ?wk9 ?wx9 ?_; (case wa9 => rfl); (case wb9 => rfl); (case wk9 => decide); (case wx9 => exact Nat.lt_of_lt_of_le (Nat.mod_lt _ (by decide)) (by decide)))
  k_with "binaryOp Add int int" => (k_here; refine Mine.add_nat ?_)
  k_with "call ref cons nil" => (k_here; k_dflt (refine' Mine.tells_at (Mine.div2_ok _ hx.1) ?wB9 ?wF9 ?wX9 ?wN9 ?wT9 ?wk9 ?wd9 ?wu9 ?_; (case wB9 => k_asm); (case wF9 => k_asm); (case wX9 => k_asm); (case wN9 => k_asm); (case wT9 => k_asm); (case wk9 => first | exact rfl | assumption); (case wd9 => ktr_room); (case wu9 => ktr_units); k_whole); rintro v9 h' tk' ⟨D9, t8, t9, rfl, F', l9, N'⟩; (k_lt l9); rw [hx.2.1, hx.2.2] at N')
  k_with "call builtin:list.append cons nil" => (k_here; k_dflt (refine' Mine.append_row ?wF9 ?wN9 ?wh9 ?wv9 ?wU9 ?_; (case wF9 => k_asm); (case wN9 => k_asm); (case wU9 => k_upd); (case wh9 => omega); (case wv9 => rfl); k_whole); intro h' F' N')
  trivial
theorem dp_turn (w : World) {p : Program} {loose : List Str} {mean : ExcName → Option Value} {mg mb : Str → Option Value} {dp un : Nat} {gd : Option (List Code)} {cn : Str} {cs : Scope} {L a₀ : Addr} {ccd : Value} {cl : List (Str × Addr)} {outer : List Env}
    {bs h₀ : Heap} {L' : Addr} (B : Below (ktrTop dp un gd cn cs L a₀ ccd cl outer) bs (envX cn cs L a₀ ccd cl :: outer) h₀) (X : (hd.heap_39 w.params).In h₀) (T : Top p loose mean mg mb h₀) (hdd : dp + 8 < recursionLimit) (hu : un + 40 < cLine) (sc : Scope) (b : List Stmt) (hsc : sc = dpSc) (hb : b = dpFor)
    {ps : Array Value} {I K D : Addr} {Td : Nat → Tok} {ub uu : Tok} {a k : Nat} {s : Shared} {Q : Flow → Shared → Prop} {E : Value → Shared → Prop} (hk : k ≤ 3) (l1 : @LT.lt Nat _ 51 D) (l2 : @LT.lt Nat _ D K) (l3 : @LT.lt Nat _ K I)
    (hE : PassesOwn (model PR w) ((ktrTop dp un gd cn cs L a₀ ccd cl outer).deeper (dpEnv sc L')) (dpEnv sc L') E) :
    ∀ i v m news, (((List.range k).map fun q => Value.int ((a / 8 ^ q % 8 : Nat) : Int) (Td q)).reverse)[i]? = some v → JD ps a k K D Td ub uu i m news → ∀ it h tk, Fr h₀ (dpEnv sc L').locals h (fun y => if y = (Str.ofString "a_digit") then some v else m y) → News h₀ (dpEnv sc L').locals h ((I, it) :: news) →
      wpAny (model PR w) ((ktrTop dp un gd cn cs L a₀ ccd cl outer).deeper (dpEnv sc L')) (execs b (dpEnv sc L')) (UnrPost h₀ (dpEnv sc L').locals { s with heap := h, toks := tk } I it (JD ps a k K D Td ub uu (i + 1)) Q) E { s with heap := h, toks := tk } := by
  conv at hsc => rhs; whnf
  conv at hb => rhs; whnf
  subst hsc hb
  rintro i v m news hv ⟨t0, T0, er, eq, eb, en⟩ it h tk F N
  have hi : i < k := by
    rcases Nat.lt_or_ge i k with q | q
    · exact q
    · rw [List.getElem?_eq_none (by simpa using q)] at hv; cases hv
  have hx := dp_law (a := a) hi
  obtain ⟨td, rfl⟩ : ∃ td, v = .int ((a / 8 ^ (k - 1 - i) % 8 : Nat) : Int) td := by
    rw [List.getElem?_reverse (by simpa using hi)] at hv
    simp [show k - 1 - i < k by omega] at hv
    exact ⟨_, hv.symm⟩
  replace F : Fr h₀ L' h _ := F
  replace N : News h₀ L' h _ := N
  (try k_unmd); (try k_fold)
  k_steps
  refine' unr_tail ?F (newsTail ?N) ?off ?r
  case F => k_asm
  case N => k_asm
  case off =>
    intro y hy
    simp only [List.map_cons, List.map_nil, List.mem_cons, List.not_mem_nil, or_false] at hy
    unfold Addr at *
    rcases hy with rfl | rfl | rfl | rfl <;> omega
  case r => exact ⟨_, _, by k_extra "mine_map", by k_extra "mine_map", by k_extra "mine_map", by k_extra "mine_map"⟩
end
section
open PySem PySem.Spec PySem.Calls PySem.W PyProof.Rows PyProof.Rows.LCg
section
variable {prog : Program} {w : World} {A : Around} {E : Value → Shared → Prop} {s : Shared} {h₀ : Heap} {L : Addr} {m : Str → Option Value} {env : Env} {news : List (Addr × Obj)} {t u : Tok} {Q : Value → Shared → Prop}
theorem bits4 (h : Q (.int 3 s.toks) { s with toks := s.toks + 1 }) : wpAny (model prog w) A (call (.builtin "int.bit_length") [.int 4 t]) Q E s :=
  call_int_bit_length (by rw [show (PySem.Builtin.Int.intBits 4 : Int) = 3 by decide +kernel]; exact h)
theorem reverse_row {K : Addr} {n ep : Nat} {R : Nat → Int} {T : Nat → Tok} {news' : List (Addr × Obj)} (F : Fr h₀ L s.heap m) (N : News h₀ L s.heap news)
    {R' : Nat → Int} (e : ∀ j, j < n → R (n - 1 - j) = R' j) (U : Upd K (lrow n ep R T) (lrow n ep R' (fun j => T (n - 1 - j))) news news') (hn : n ≤ 64) (h : ∀ h', Fr h₀ L h' m → News h₀ L h' news' → Q .none { s with heap := h' }) :
    wpAny (model prog w) A (call (.builtin "list.reverse") [.ref K]) Q E s := by
  have er : lrow n ep R' (fun j => T (n - 1 - j)) = lrow n ep (fun j => R (n - 1 - j)) (fun j => T (n - 1 - j)) := by
    unfold lrow
    congr 3
    exact List.map_congr_left fun q hq => by
      show Value.int (R' q) _ = Value.int (R (n - 1 - q)) _
      rw [e q (List.mem_range.mp hq)]
  rw [er] at U
  refine kl_reverse (its := ((List.range n).map fun k => Value.int (R k) (T k)).toArray) (n := ep) (l := (List.range n).map fun j => Value.int (R (n - 1 - j)) (T (n - 1 - j))) F N ?_ U (by simp; exact Nat.le_trans hn (by decide)) h
  apply List.ext_getElem
  · simp
  · intro i h1 h2
    simp
theorem newsNil {h : Heap} (_ : Fr h₀ L h m) : News h₀ L h [] := fun _ hp => nomatch hp
theorem news13 {h : Heap} {x y : Addr × Obj} {l : List (Addr × Obj)} (N : News h₀ L h (x :: y :: l)) : News h₀ L h (x :: l) := fun p hp => N p (by
  rcases List.mem_cons.mp hp with h | h
  · rw [h]; exact List.mem_cons_self
  · exact List.mem_cons_of_mem _ (List.mem_cons_of_mem _ h))
end
theorem oct_is {a : Nat} : ∀ (k lo : Nat), oct (fun q => a / 8 ^ q % 8) lo k = a / 8 ^ lo % 8 ^ k
  | 0, lo => by rw [Nat.pow_zero, Nat.mod_one]; rfl
  | k + 1, lo => by
    show a / 8 ^ lo % 8 + 8 * oct (fun q => a / 8 ^ q % 8) (lo + 1) k = _
    rw [oct_is k (lo + 1), Nat.pow_succ 8 lo, ← Nat.div_div_eq_div_mul, Nat.pow_succ' , Nat.mod_mul]
theorem walkD9 : True := by
  k_with_none
  k_with "enterC" => (k_dflt (refine' code_defC ?wek1 ?wek2 ?wek3 ?wek4 ?wek5 ?wekA ?wekF ?wekK ?wek6 ?wek7 ?wek8 ?wek9 ?wekB ?wekD ?_ ?wec2 ?wec3 ?wec4; (case wekA => exact rfl); (case wekF => exact rfl); (case wekK => assumption); (case wek1 => k_asm); (case wek2 => k_asm); (case wek3 => k_asm); (case wek4 => k_asm); (case wek5 => k_asm); (case wek6 => k_is); (case wek7 => k_is); (case wek8 => ktr_room); (case wek9 => exact BindsTo.of_eq rfl); (case wekB => exact rfl); (case wekD => decide +kernel); (case wec2 => exact rfl); (case wec3 => exact rfl); (case wec4 => exact rfl); k_whole; intro g' L' h' tk' cells' FG' F' N' Y' B' X' T' l1; (try k_lt l1); k_cells Y'; (try simp only [List.cons_append, List.nil_append] at N'); (try dsimp only); (try k_lift B'); (try k_fold)))
  k_with "mine_map" => ((repeat (refine (if_neg (by decide)).trans ?_)); first | exact if_pos rfl | assumption | exact rfl)
  k_with "eval Name" => (k_here; k_dflt (refine' nameX_L ?v15F ?v15v ?_ ?v15a ?v15b; (case v15a => rfl); (case v15b => rfl); (case v15F => k_asm); (case v15v => k_extra "mine_map"); k_whole))
  k_with "subscriptTail Name BinOp ref int" => (k_here; k_dflt (refine' Mine.item_refs ?v16N ?v16m ?v16a ?v16b ?_ ?v16s; (case v16N => k_asm); (case v16m => k_mem); (case v16a => omega); (case v16b => omega); (case v16s => with_unfolding_all rfl); k_whole); intro i' hi')
  k_with "binaryOp Mod int int" => (k_here; (with_reducible refine' Mine.mod4 ?_); intro x' hx0' hx4')
  k_with "subscriptTail Name Name ref int" => (k_here; k_dflt (refine' Mine.item_row ?v18N ?v18ha ?v18m0 ?v18m1 ?v18m2 ?v18m3 ?v18a ?v18b ?_ ?v18s; (case v18N => k_asm); (case v18m0 => k_mem); (case v18m1 => k_mem); (case v18m2 => k_mem); (case v18m3 => k_mem); (case v18ha => omega); (case v18a => omega); (case v18b => omega); (case v18s => with_unfolding_all rfl); k_whole))
  k_with "setItem ref int" => (k_here; k_dflt (refine' Mine.store_row ?v19F ?v19N ?v19f ?v19ha ?v19a ?v19b ?_; (case v19F => k_asm); (case v19N => k_asm); (case v19f => assumption); (case v19ha => omega); (case v19a => omega); (case v19b => omega); k_whole); intro h' F' N')
  k_with "loadName" => (k_here; k_dflt (refine' wpAny_loadName_local ?v20a ?v20b ?v20c ?v20v ?_; (case v20a => rfl); (case v20b => rfl); (case v20c => exact Fr.ns (by k_asm)); (case v20v => k_extra "mine_map"); k_whole))
  k_with "exec While" => (k_here; k_dflt (refine' Mine.while_sq ?v21a ?v21b ?v21F ?v21N ?v21h1 ?v21h2 ?v21h3 ?v21h4 ?v21h5 ?v21d1 ?v21d2 ?v21d3 ?_ ?v21hE; (case v21hE => first | assumption | passes_own); (case v21F => k_asm); (case v21N => k_asm); (case v21h1 => k_extra "mine_map"); (case v21h2 => k_extra "mine_map"); (case v21h3 => k_extra "mine_map"); (case v21h4 => k_extra "mine_map"); (case v21h5 => k_extra "mine_map"); (case v21d1 => assumption); (case v21d2 => assumption); (case v21d3 => assumption); (case v21a => omega); (case v21b => omega); k_whole))
  k_with "LRest" => (k_dflt (refine' Mine.LRest.one ?v22o ?v22turn ?v22fin; (case v22o => assumption)); (case' v22fin => (intro y' hy'; (try (obtain ⟨t8', hy8'⟩ := hy'; subst hy8')))); (case' v22turn => (intro i' v' I' oI' C' oC' D' m' h' tk' E' ys' hi' hv' hC' hx' F' N' lie'; (first | (obtain ⟨t9', hv9'⟩ := hv'; subst hv9') | skip))))
  k_with "mine_hit" => (first | (refine' Mine.hit_yes ?v23hit ?v23hi ?v23h0 ?v23a ?v23b; (case v23hit => assumption); (case v23hi => assumption); (case v23h0 => assumption); (case v23a => assumption); (case v23b => assumption)) | (refine' Mine.hit_no1 ?v23hit ?v23hi ?v23a; (case v23hit => assumption); (case v23hi => assumption); (case v23a => assumption)) | (refine' Mine.hit_no2 ?v23hit ?v23hi ?v23a; (case v23hit => assumption); (case v23hi => assumption); (case v23a => assumption)))
  k_with "HitPost" => (k_dflt (first | (refine Mine.HitPost.yes' ?v24hh ?_; (case v24hh => k_extra "mine_hit"); intro hh'; (try subst hh')) | (refine Mine.HitPost.no ?v24hh ?_; (case v24hh => k_extra "mine_hit"))))
  k_with "WhileStep2" => (k_dflt (first
  | (refine' Mine.jw_next ?v25F ?v25N ?v25h1 ?v25h2 ?v25h3 ?v25h4 ?v25hb ?v25h5 ?v25d1 ?v25d2 ?v25d3 ?v25hn ?v25C ?v25e; (case v25F => k_asm); (case v25N => k_asm); (case v25C => assumption); (case v25e => assumption); (case v25h1 => k_extra "mine_map"); (case v25h2 => k_extra "mine_map"); (case v25h3 => k_extra "mine_map"); (case v25h4 => k_extra "mine_map"); (case v25h5 => k_extra "mine_map"); (case v25hb => first | assumption | rfl); (case v25d1 => assumption); (case v25d2 => assumption); (case v25d3 => assumption); (case v25hn => omega))
  | (refine' Mine.jw_last ?v25F ?v25N ?v25h1 ?v25h2 ?v25h3 ?v25h4 ?v25hb ?v25h5 ?v25d1 ?v25d2 ?v25d3 ?v25hn ?v25C; (case v25F => k_asm); (case v25N => k_asm); (case v25C => assumption); (case v25h1 => k_extra "mine_map"); (case v25h2 => k_extra "mine_map"); (case v25h3 => k_extra "mine_map"); (case v25h4 => k_extra "mine_map"); (case v25h5 => k_extra "mine_map"); (case v25hb => first | assumption | rfl); (case v25d1 => assumption); (case v25d2 => assumption); (case v25d3 => assumption); (case v25hn => omega))))
  k_with "UnrEnd" => (k_dflt (refine' Mine.jf_end ?v26F ?v26N ?v26h1 ?v26h2 ?v26d1 ?v26d2 ?v26d3 ?v26C ?v26lb ?v26lD ?v26l0 ?v26lI; (case v26F => k_asm); (case v26N => k_asm); (case v26C => assumption); (case v26h1 => k_extra "mine_map"); (case v26h2 => k_extra "mine_map"); (case v26d1 => assumption); (case v26d2 => assumption); (case v26d3 => assumption); (case v26lb => assumption); (case v26lD => assumption); (case v26l0 => assumption); (case v26lI => assumption)))
  trivial
theorem linesD9 : True := by
  k_with "call builtin:int.bit_length cons nil" => (k_here; refine Mine.bits4 ?_)
  k_with "newList nil" => (k_here; k_dflt (refine' newList_K ?wk1 ?wk2 ?_; (case wk1 => k_asm); (case wk2 => k_asm); k_whole); intro K9 h' F' N' l7; (try k_lt l7); (try k_sweep))
  k_with "call type:reversed cons nil" => (k_here; k_dflt (refine' krv_reversed (vs := (List.range k).map fun q => Value.int ((a / 8 ^ q % 8 : Nat) : Int) (T9 q)) ?wF9 ?wN9 ?wl9 ?_; (case wF9 => k_asm); (case wN9 => k_asm); (case wl9 => exact ⟨_, ((by assumption : News _ _ _ _) _ (List.mem_cons_of_mem _ List.mem_cons_self)).1, rfl, _, rfl⟩)); intro I9 h' F' N' l8; (try k_lt l8); (try k_sweep))
  k_with "call builtin:list.reverse cons nil" => (k_here; k_dflt (refine' Mine.reverse_row (R' := fun j => ((a / 4 / 8 ^ j % 8 : Nat) : Int)) ?wF9 ?wN9 ?we9 ?wU9 ?wn9 ?_; (case wF9 => k_asm); (case wN9 => k_asm); (case wU9 => k_upd); (case we9 => exact fun j hj => by unfold qq; rw [show k - 1 - (k - 1 - j) = j by omega]); (case wn9 => omega); k_whole); intro h' F' N')
  k_with "call ref cons nil" => (k_here; first
    | (k_dflt (refine' Mine.tellsIf_at (hI _ _) ?wB9 ?wF9 ?wX9 ?wN9 ?wT9 ⟨hQ1, hQ2⟩ ?wk9 ?wd9 ?wu9 ?_; (case wB9 => k_asm); (case wF9 => k_asm); (case wX9 => k_asm); (case wN9 => k_asm); (case wT9 => k_asm); (case wk9 => first | exact rfl | assumption); (case wd9 => ktr_room); (case wu9 => ktr_units); k_whole); rintro v9 h' tk' ⟨D9, T9, ps9, rfl, F', l9, N'⟩)
    | (k_dflt (refine' Mine.tellsIf_at (hS _ _ _ _ _ _ ?wl9 ?wr9) ?wB9 ?wF9 ?wX9 ?wN9 ?wT9 hQ2 ?wk9 ?wd9 ?wu9 ?_; (case wB9 => k_asm); (case wF9 => k_asm); (case wX9 => k_asm); (case wN9 => exact Mine.news13 (by k_asm)); (case wT9 => k_asm); (case wl9 => omega); (case wr9 => exact fun q => Nat.mod_lt _ (by decide)); (case wk9 => first | exact rfl | assumption); (case wd9 => ktr_room); (case wu9 => ktr_units); k_whole); rintro v9 h' tk' ⟨⟨t9, rfl⟩, F', pt9, N'⟩))
  trivial
noncomputable def dmPost (q r : Int) (v : Value) (h₀ h' : Heap) (L : Addr) (m : Str → Option Value) : Prop :=
  ∃ D t1 t2 p1 p2, v = .ref D ∧ Fr h₀ L h' m ∧ News h₀ L h' [(D, { cls := .type "tuple", data := .seq #[.int q t1, .int r t2] }), (51, tabObj p1), (44, tabObj p2)]
/-- what a call of _int2digits, of _digits2int gives, whatever the number of digits -/
noncomputable def I2dT (w : World) (p : Program) (loose : List Str) (mean : ExcName → Option Value) (mg mb : Str → Option Value) (a k : Nat) : Prop :=
  ∀ t u, TellsIf (fun h => CodeHd h 48 44 ∧ CodeHd h 55 51) w p loose mean mg mb 49 [.int a t, .int 3 u] [(51, tabObj #[]), (44, tabObj #[])] (k + 1) 40
    (fun v h₀ h' L m => ∃ D T ps, v = .ref D ∧ Fr h₀ L h' m ∧ @LT.lt Nat _ 51 D ∧ News h₀ L h' [(D, lrow k 0 (fun q => ((a / 8 ^ q % 8 : Nat) : Int)) T), (51, tabObj #[]), (44, tabObj ps)])
noncomputable def D2iT (w : World) (p : Program) (loose : List Str) (mean : ExcName → Option Value) (mg mb : Str → Option Value) (k : Nat) : Prop :=
  ∀ (D : Addr) (ep : Nat) (R : Nat → Nat) (Tk : Nat → Tok) (u : Tok) (ps : Array Value), @LT.lt Nat _ 51 D → (∀ q, R q < 8) → TellsIf (fun h => CodeHd h 55 51) w p loose mean mg mb 56 [.ref D, .int 3 u] [(D, lrow k ep (fun q => (R q : Int)) Tk), (51, tabObj #[]), (44, tabObj ps)] (k + 1) 40
    (fun v h₀ h' L m => (∃ t, v = .int (oct R 0 k : Nat) t) ∧ Fr h₀ L h' m ∧ ∃ pt, News h₀ L h' [(51, tabObj pt), (44, tabObj ps)])
theorem dp_ok (w : World) {p : Program} {loose : List Str} {mean : ExcName → Option Value} {mg mb : Str → Option Value} {a k : Nat} {t u : Tok} (hk3 : k ≤ 3) (ha : a < 8 ^ k) (hI : I2dT w p loose mean mg mb a k) (hS : D2iT w p loose mean mg mb k) :
   TellsIf (fun h => CodeHd h 48 44 ∧ CodeHd h 55 51) w p loose mean mg mb 63 [.int a t, .int 4 u] [(51, tabObj #[]), (44, tabObj #[])] 9 60
    (dmPost ((a / 4 : Nat) : Int) ((a % 4 : Nat) : Int)) := by
  intro dp un gd cn cs aa ccd cl outer A₀ bs h₀ L m s Q E B F X N T hP hk hd hu hret
  refine wpAny_call ?_
  k_dflt cell_enter
  have hQ1 : CodeHd _ 48 44 := CodeHd.lift hP.1 (by assumption)
  have hQ2 : CodeHd _ 55 51 := CodeHd.lift hP.2 (by assumption)
  k_steps
  refine' iter_revUnr (lo := lrow k 0 _ T9) (vs := (List.range k).map fun q => Value.int ((a / 8 ^ q % 8 : Nat) : Int) (T9 q)) ?hh ?hF ?hN ?hof ?hm ?hc ?hd ?rest
  case hh => exact rfl
  case hF => k_asm
  case hN => k_asm
  case hof => k_offL
  case hm => k_mem
  case hc => rfl
  case hd => rfl
  case rest =>
  have hl : (((List.range k).map fun q => Value.int ((a / 8 ^ q % 8 : Nat) : Int) (T9 q)).reverse).length = k := by simp
  have h0 : rr a k 0 = 0 := by
    unfold rr
    rw [Nat.sub_zero, Nat.div_eq_of_lt ha]
  refine' rev_inv (JD ps9 a k K9 D9 T9 u _) ?jl (dp_turn w ?fB ?fX ?fT ?fd ?fu _ _ rfl rfl hk3 l9 ?l2 ?l3 ?hE) ?done _ 0 _ _ (Nat.zero_add _) ?j0
  case j0 => exact JD.mk _ T9 (by rw [h0]; k_extra "mine_map") (by k_extra "mine_map") (by k_extra "mine_map") (by k_extra "mine_map")
  case jl =>
    rintro i m1 n1 ⟨⟩
    simp
  case fB => k_asm
  case fX => k_asm
  case fT => k_asm
  case fd => omega
  case fu => omega
  case l2 => k_dflt omega
  case l3 => k_dflt omega
  case hE => passes_own
  case done =>
    rw [hl]
    rintro m1 n1 ⟨t1, T1, er, eq, eb, en⟩ h1 tk1 F1 N1
    replace F1 : Fr _ _ h1 _ := F1
    replace N1 : News _ _ h1 _ := N1
    k_steps
    have e1 : oct (fun q => a / 4 / 8 ^ q % 8) 0 k = a / 4 := by
      rw [oct_is, Nat.pow_zero, Nat.div_one, Nat.mod_eq_of_lt (Nat.lt_of_le_of_lt (Nat.div_le_self _ _) ha)]
    have e2 : rr a k k = a % 4 := by
      unfold rr
      rw [Nat.sub_self, Nat.pow_zero, Nat.div_one]
    have kN := (by assumption : News h₀ L _ _)
    rw [e1, e2] at kN
    exact hret _ _ _ ⟨_, _, _, _, _, rfl, by k_asm, kN⟩
end
section
open PySem PySem.Spec PySem.Calls PySem.W PyProof.Rows PyProof.Rows.LCg
theorem bits_all : ∀ x < 512, ∃ k : Nat, k ≤ 3 ∧ x < 8 ^ k ∧ (k = 0 → x = 0) ∧ ((PySem.Builtin.Int.intBits ((x : Nat) : Int) : Int) + 3 - 1).fdiv 3 = k := fun x hx => by
  have h : ∀ x < 512, x < 8 ^ ((((PySem.Builtin.Int.intBits ((x : Nat) : Int) : Int) + 3 - 1).fdiv 3).toNat) ∧ (((PySem.Builtin.Int.intBits ((x : Nat) : Int) : Int) + 3 - 1).fdiv 3).toNat ≤ 3 ∧ 0 ≤ ((PySem.Builtin.Int.intBits ((x : Nat) : Int) : Int) + 3 - 1).fdiv 3 := by decide +kernel
  obtain ⟨h1, h2, h3⟩ := h x hx
  refine ⟨_, h2, h1, fun e => ?_, (Int.toNat_of_nonneg h3).symm⟩
  rw [e] at h1
  simpa using h1
theorem dp_all (w : World) {p : Program} {loose : List Str} {mean : ExcName → Option Value} {mg mb : Str → Option Value} {a : Nat} {t u : Tok} (ha : a < 512) :
   TellsIf (fun h => CodeHd h 48 44 ∧ CodeHd h 55 51) w p loose mean mg mb 63 [.int a t, .int 4 u] [(51, tabObj #[]), (44, tabObj #[])] 9 60 (dmPost ((a / 4 : Nat) : Int) ((a % 4 : Nat) : Int)) := by
  obtain ⟨k, hk, hx, h0, hb⟩ := bits_all a ha
  refine dp_ok w hk hx ?_ ?_
  · rcases Nat.eq_zero_or_pos k with e | e
    · obtain rfl := h0 e
      subst e
      exact fun t u => i2d0_ok w
    · rcases Nat.eq_zero_or_pos a with e2 | e2
      · subst e2
        have : ((PySem.Builtin.Int.intBits ((0 : Nat) : Int) : Int) + 3 - 1).fdiv 3 = 0 := by decide +kernel
        rw [this] at hb; omega
      · exact fun t u => i2d_ok w e2 e hk hx hb
  · rcases Nat.eq_zero_or_pos k with e | e
    · subst e
      exact fun D ep R Tk u ps h1 h2 => d2i0_ok w h1
    · exact fun D ep R Tk u ps h1 h2 => d2i_ok w h1 e hk h2
theorem lt_no {prog : Program} {w : World} {A : Around} {E : Value → Shared → Prop} {s : Shared} {t u : Tok} {Q : Value → Shared → Prop} {a b : Int} (e : ¬ a < b) (h : Q (.bool false) s) : wpAny (model prog w) A (compareOp .Lt (.int a t) (.int b u)) Q E s := by
  refine lt_int ?_
  have : decide (a < b) = false := by simpa using e
  rw [this]; exact h
theorem lt_yes {prog : Program} {w : World} {A : Around} {E : Value → Shared → Prop} {s : Shared} {t u : Tok} {Q : Value → Shared → Prop} {a b : Int} (e : a < b) (h : Q (.bool true) s) : wpAny (model prog w) A (compareOp .Lt (.int a t) (.int b u)) Q E s := by
  refine lt_int ?_
  have : decide (a < b) = true := by simpa using e
  rw [this]; exact h
theorem inv_neg {prog : Program} {w : World} {A : Around} {E : Value → Shared → Prop} {s : Shared} {t : Tok} {Q : Value → Shared → Prop} {x : Nat} (h : Q (.int x s.toks) { s with toks := s.toks + 1 }) : wpAny (model prog w) A (unaryOp .Invert (.int (-(x : Int) - 1) t)) Q E s := by
  refine PyProof.Rows.invert_int ?_
  have e : PySem.Builtin.bitNot (-(x : Int) - 1) = x := by unfold PySem.Builtin.bitNot; omega
  rw [e]; exact h
theorem inv_pos {prog : Program} {w : World} {A : Around} {E : Value → Shared → Prop} {s : Shared} {t : Tok} {Q : Value → Shared → Prop} {x : Nat} (h : Q (.int (-(x : Int) - 1) s.toks) { s with toks := s.toks + 1 }) : wpAny (model prog w) A (unaryOp .Invert (.int x t)) Q E s := by
  refine PyProof.Rows.invert_int ?_
  have e : PySem.Builtin.bitNot (x : Int) = -(x : Int) - 1 := by unfold PySem.Builtin.bitNot; omega
  rw [e]; exact h
theorem walkD10 : True := by
  k_with_none
  k_with "enterC" => (k_dflt (refine' code_defC ?wek1 ?wek2 ?wek3 ?wek4 ?wek5 ?wekA ?wekF ?wekK ?wek6 ?wek7 ?wek8 ?wek9 ?wekB ?wekD ?_ ?wec2 ?wec3 ?wec4; (case wekA => exact rfl); (case wekF => exact rfl); (case wekK => assumption); (case wek1 => k_asm); (case wek2 => k_asm); (case wek3 => k_asm); (case wek4 => k_asm); (case wek5 => k_asm); (case wek6 => k_is); (case wek7 => k_is); (case wek8 => ktr_room); (case wek9 => exact BindsTo.of_eq rfl); (case wekB => exact rfl); (case wekD => decide +kernel); (case wec2 => exact rfl); (case wec3 => exact rfl); (case wec4 => exact rfl); k_whole; intro g' L' h' tk' cells' FG' F' N' Y' B' X' T' l1; (try k_lt l1); k_cells Y'; (try simp only [List.cons_append, List.nil_append] at N'); (try dsimp only); (try k_lift B'); (try k_fold)))
  trivial
theorem linesD10 : True := by
  k_with "unaryOp Invert int" => (k_here; first | refine Mine.inv_neg ?_ | refine Mine.inv_pos ?_)
  k_with "compareOp Eq int int" => (k_here; refine' Mine.eq_no ?we9 ?_; (case we9 => decide))
  k_with "compareOp Lt int int" => (k_here; first | (refine' Mine.lt_no ?we9 ?_; (case we9 => omega)) | (refine' Mine.lt_yes ?we9 ?_; (case we9 => omega)))
  k_with "call ref cons nil" => (k_here; k_dflt (refine' Mine.tellsIf_at (Mine.dp_all _ ha) ?wB9 ?wF9 ?wX9 ?wN9 ?wT9 ⟨hQ1, hQ2⟩ ?wk9 ?wd9 ?wu9 ?_; (case wB9 => k_asm); (case wF9 => k_asm); (case wX9 => k_asm); (case wN9 => k_asm); (case wT9 => k_asm); (case wk9 => first | exact rfl | assumption); (case wd9 => ktr_room); (case wu9 => ktr_units); k_whole); rintro v9 h' tk' ⟨D9, t8, t9, p8, p9, rfl, F', N'⟩)
  trivial
theorem id_pos (w : World) {p : Program} {loose : List Str} {mean : ExcName → Option Value} {mg mb : Str → Option Value} {a : Nat} {t u : Tok} (ha : a < 512) :
   TellsIf (fun h => CodeHd h 48 44 ∧ CodeHd h 55 51) w p loose mean mg mb 70 [.int a t, .int 4 u] [(51, tabObj #[]), (44, tabObj #[])] 11 70 (dmPost ((a / 4 : Nat) : Int) ((a % 4 : Nat) : Int)) := by
  intro dp un gd cn cs aa ccd cl outer A₀ bs h₀ L m s Q E B F X N T hP hk hd hu hret
  refine wpAny_call ?_
  k_dflt cell_enter
  have hQ1 : CodeHd _ 48 44 := CodeHd.lift hP.1 (by assumption)
  have hQ2 : CodeHd _ 55 51 := CodeHd.lift hP.2 (by assumption)
  k_steps
  exact hret _ _ _ ⟨_, _, _, _, _, rfl, by k_asm, by k_asm⟩
theorem linesD10b : True := by
  k_with "call ref cons nil" => (k_here; k_dflt (refine' Mine.tellsIf_at (Mine.id_pos _ ha) ?wB9 ?wF9 ?wX9 ?wN9 ?wT9 ⟨hQ1, hQ2⟩ ?wk9 ?wd9 ?wu9 ?_; (case wB9 => k_asm); (case wF9 => k_asm); (case wX9 => k_asm); (case wN9 => k_asm); (case wT9 => k_asm); (case wk9 => first | exact rfl | assumption); (case wd9 => ktr_room); (case wu9 => ktr_units); k_whole); rintro v9 h' tk' ⟨D9, t8, t9, p8, p9, rfl, F', N'⟩)
  trivial
theorem id_neg (w : World) {p : Program} {loose : List Str} {mean : ExcName → Option Value} {mg mb : Str → Option Value} {a : Nat} {t u : Tok} (ha : a < 512) :
   TellsIf (fun h => CodeHd h 48 44 ∧ CodeHd h 55 51) w p loose mean mg mb 70 [.int (-(a : Int) - 1) t, .int 4 u] [(51, tabObj #[]), (44, tabObj #[])] 13 80 (dmPost (-((a / 4 : Nat) : Int) - 1) (4 + (-((a % 4 : Nat) : Int) - 1))) := by
  intro dp un gd cn cs aa ccd cl outer A₀ bs h₀ L m s Q E B F X N T hP hk hd hu hret
  refine wpAny_call ?_
  k_dflt cell_enter
  have hQ1 : CodeHd _ 48 44 := CodeHd.lift hP.1 (by assumption)
  have hQ2 : CodeHd _ 55 51 := CodeHd.lift hP.2 (by assumption)
  k_steps
  exact hret _ _ _ ⟨_, _, _, _, _, rfl, by k_asm, Mine.news13 (by k_asm)⟩
end
section
open PySem PySem.Spec PySem.Calls PySem.W PyProof.Rows PyProof.Rows.LCg
theorem id_ok (w : World) {p : Program} {loose : List Str} {mean : ExcName → Option Value} {mg mb : Str → Option Value} {T a : Int} {t u : Tok} (ha : a = 4 * T) (h1 : -128 < T) (h2 : T < 128) :
   TellsIf (fun h => CodeHd h 48 44 ∧ CodeHd h 55 51) w p loose mean mg mb 70 [.int a t, .int 4 u] [(51, tabObj #[]), (44, tabObj #[])] 13 80 (dmPost T 0) := by
  intro dp un gd cn cs aa ccd cl outer A₀ bs h₀ L m s Q E B F X N Tp hP hk hd hu hret
  rcases Int.lt_or_le T 0 with c | c
  · have e0 : a = -(((-a - 1).toNat : Nat) : Int) - 1 := by omega
    have e1 : -((((-a - 1).toNat / 4 : Nat)) : Int) - 1 = T := by omega
    have e2 : 4 + (-((((-a - 1).toNat % 4 : Nat)) : Int) - 1) = 0 := by omega
    have C := id_neg w (p := p) (loose := loose) (mean := mean) (mg := mg) (mb := mb) (t := t) (u := u) (a := (-a - 1).toNat) (by omega)
    rw [e1, e2, ← e0] at C
    exact C _ _ _ _ _ _ _ _ _ _ _ _ _ _ _ _ _ B F X N Tp hP hk hd hu hret
  · have e0 : a = ((a.toNat : Nat) : Int) := by omega
    have e1 : ((a.toNat / 4 : Nat) : Int) = T := by omega
    have e2 : ((a.toNat % 4 : Nat) : Int) = 0 := by omega
    have C := id_pos w (p := p) (loose := loose) (mean := mean) (mg := mg) (mb := mb) (t := t) (u := u) (a := a.toNat) (by omega)
    rw [e1, e2, ← e0] at C
    exact C _ _ _ _ _ _ _ _ _ _ _ _ _ _ _ _ _ B F X N Tp hP hk (by omega) (by omega) hret
end
section
open PySem PySem.Spec PySem.Calls PySem.W PyProof.Rows PyProof.Rows.LCg
/-- the letters of a square's words -/
noncomputable def gOf (P : Nat → Nat → Int) (n q : Nat) : Nat := if q = 0 then n / 4 else if q = 1 then n % 4 else (P (n / 4) (n % 4)).toNat
theorem gOf_lt {P : Nat → Nat → Int} (lat : Lat P) : ∀ n, n < 16 → ∀ q, q < 3 → gOf P n q < 4 := fun n hn q hq => by
  have h1 : n / 4 < 4 := by omega
  have h2 : n % 4 < 4 := Nat.mod_lt _ (by decide)
  have h3 := lat.lo _ _ h1 h2
  have h4 := lat.hi _ _ h1 h2
  unfold gOf
  rcases lt3 hq with rfl | rfl | rfl
  · exact h1
  · exact h2
  · show (P (n / 4) (n % 4)).toNat < 4
    omega
theorem word_wrd (P : Nat → Nat → Int) (n : Nat) : wrdAt P n = word 3 (gOf P n) := rfl
theorem wl_eq (P : Nat → Nat → Int) (T : Nat → Tok) : wlist P T 16 = wl16 (gOf P) T := rfl
/-! the words taken -/
theorem hit0 (P : Nat → Nat → Int) {i j : Nat} (hi : i < 4) (hj : j < 4) : 4 * i + j < 16 ∧ ∀ n, n < 16 → ((gOf P n 0 = i ∧ gOf P n 1 = j) ↔ n = 4 * i + j) := ⟨by omega, fun n hn => by
  show (n / 4 = i ∧ n % 4 = j) ↔ _
  omega⟩
theorem hit1 {P : Nat → Nat → Int} (lat : Lat P) {i j : Nat} (hi : i < 4) (hj : j < 4) : ∃ y, y < 4 ∧ P i y = j ∧ ∀ n, n < 16 → ((gOf P n 0 = i ∧ gOf P n 2 = j) ↔ n = 4 * i + y) := by
  obtain ⟨y, hy, e⟩ := four_onto (P i) (fun b hb => lat.lo i b hi hb) (fun b hb => lat.hi i b hi hb) (fun b c hb hc e => lat.row i b c hi hb hc e) j (Int.natCast_nonneg j) (by omega)
  refine ⟨y, hy, e, fun n hn => ?_⟩
  show (n / 4 = i ∧ (P (n / 4) (n % 4)).toNat = j) ↔ _
  constructor
  · rintro ⟨rfl, h⟩
    have h0 := lat.lo (n / 4) (n % 4) hi (Nat.mod_lt _ (by decide))
    have := lat.row (n / 4) (n % 4) y hi (Nat.mod_lt _ (by decide)) hy (by rw [e]; omega)
    omega
  · rintro rfl
    rw [show (4 * i + y) / 4 = i by omega, show (4 * i + y) % 4 = y by omega, e]
    exact ⟨rfl, Int.toNat_natCast j⟩
theorem hit2 {P : Nat → Nat → Int} (lat : Lat P) {i j : Nat} (hi : i < 4) (hj : j < 4) : ∃ x, x < 4 ∧ P x i = j ∧ ∀ n, n < 16 → ((gOf P n 1 = i ∧ gOf P n 2 = j) ↔ n = 4 * x + i) := by
  obtain ⟨x, hx, e⟩ := four_onto (fun a => P a i) (fun b hb => lat.lo b i hb hi) (fun b hb => lat.hi b i hb hi) (fun b c hb hc e => lat.col b i c hb hi hc e) j (Int.natCast_nonneg j) (by omega)
  refine ⟨x, hx, e, fun n hn => ?_⟩
  show (n % 4 = i ∧ (P (n / 4) (n % 4)).toNat = j) ↔ _
  have h4 : n / 4 < 4 := by omega
  constructor
  · rintro ⟨rfl, h⟩
    have h0 := lat.lo (n / 4) (n % 4) h4 hi
    have := lat.col (n / 4) (n % 4) x h4 hi hx (by rw [e]; omega)
    omega
  · rintro rfl
    rw [show (4 * x + i) / 4 = x by omega, show (4 * x + i) % 4 = i by omega, e]
    exact ⟨rfl, Int.toNat_natCast j⟩
/-! the distances -/
theorem lvIn_congr {c c' : Nat → Int} {d : Int} {R : Nat → Int} : ∀ {n : Nat}, (∀ i, i < n → c i = c' i) → lvIn c d R n = lvIn c' d R n
  | 0, _ => rfl
  | n + 1, h => by
    have ih := lvIn_congr (d := d) (R := R) (n := n) fun i hi => h i (Nat.lt_succ_of_lt hi)
    simp only [lvIn, ih, h n (Nat.lt_succ_self n)]
theorem lvOut_congr {n : Nat} {f f' g g' : Nat → Nat} (hf : ∀ i, i < n → f i = f' i) : ∀ {k : Nat}, (∀ q, q < k → g q = g' q) → lvOut n f g k = lvOut n f' g' k
  | 0, _ => rfl
  | k + 1, h => by
    have ih := lvOut_congr (g := g) (g' := g') hf (k := k) fun q hq => h q (Nat.lt_succ_of_lt hq)
    have e : lvIn (fun i => cst (g k) (f i)) (2 * (k : Int)) (lvOut n f g k).1 n = lvIn (fun i => cst (g' k) (f' i)) (2 * (k : Int)) (lvOut n f' g' k).1 n := by
      rw [ih]
      exact lvIn_congr fun i hi => by rw [h k (Nat.lt_succ_self k), hf i hi]
    show (_, _) = (_, _)
    rw [e]
theorem LevR.congr {n : Nat} {f f' g g' : Nat → Nat} (hf : ∀ i, i < n → f i = f' i) (hg : ∀ i, i < n → g i = g' i) (h : LevR n f' g') : LevR n f g := by
  refine ⟨fun q hq => ?_, ?_⟩
  · rw [lvOut_congr hf fun i hi => hg i (Nat.lt_trans hi hq), lvIn_congr (c' := fun i => cst (g' q) (f' i)) fun i hi => by rw [hg q hq, hf i hi]]
    exact h.least q hq
  · rw [lvOut_congr hf hg]
    exact h.last
noncomputable def tri (a b c : Nat) (q : Nat) : Nat := if q = 0 then a else if q = 1 then b else c
noncomputable def levB (n : Nat) (f g : Nat → Nat) : Bool := (List.range n).all (fun q => decide ((lvIn (fun i => cst (g q) (f i)) (2 * (q : Int)) (lvOut n f g q).1 n).2.2.2 ≤ 4)) && decide ((lvOut n f g n).2 = 4)
theorem LevR.of {n : Nat} {f g : Nat → Nat} (h : levB n f g = true) : LevR n f g := by
  obtain ⟨h1, h2⟩ := Bool.and_eq_true_iff.mp h
  exact ⟨fun q hq => of_decide_eq_true (List.all_eq_true.mp h1 q (List.mem_range.mpr hq)), of_decide_eq_true h2⟩
theorem lev2a : ∀ a < 4, ∀ b < 4, ∀ c < 4, (a == b || c == a || levB 2 (tri a b 0) (tri c a 0)) = true := by decide +kernel
theorem lev2b : ∀ a < 4, ∀ b < 4, ∀ c < 4, (a == b || b == c || levB 2 (tri a b 0) (tri b c 0)) = true := by decide +kernel
theorem lev3 : ∀ a < 4, ∀ b < 4, ∀ c < 4, ∀ d < 4, (a == d || c == b || levB 3 (tri a b c) (tri d a b)) = true := by decide +kernel
theorem or3 {a b c d : Nat} {x : Bool} (h : (a == b || c == d || x) = true) (h1 : a ≠ b) (h2 : c ≠ d) : x = true := by
  simpa [h1, h2] using h
/-! the sizes -/
theorem perm_sum {l l' : List Nat} (h : l.Perm l') (F : Nat → Int) : (l.map F).sum = (l'.map F).sum := by
  induction h with
  | nil => rfl
  | cons a _ ih => simp only [List.map_cons, List.sum_cons, ih]
  | swap a b l => simp only [List.map_cons, List.sum_cons]; omega
  | trans _ _ h1 h2 => exact h1.trans h2
theorem perm4 : ∀ a < 4, ∀ b < 4, ∀ c < 4, ∀ d < 4, (a == b || a == c || a == d || b == c || b == d || c == d || [a, b, c, d].isPerm [0, 1, 2, 3]) = true := by decide +kernel
theorem sum4 {f : Nat → Nat} (F : Nat → Int) (hf : ∀ q, q < 4 → f q < 4) (inj : ∀ p q, p < 4 → q < 4 → f p = f q → p = q) : F (f 0) + (F (f 1) + (F (f 2) + F (f 3))) = F 0 + (F 1 + (F 2 + F 3)) := by
  have ne : ∀ p q, p < 4 → q < 4 → p ≠ q → f p ≠ f q := fun p q hp hq h e => h (inj p q hp hq e)
  have h6 := perm4 _ (hf 0 (by decide)) _ (hf 1 (by decide)) _ (hf 2 (by decide)) _ (hf 3 (by decide))
  simp only [Bool.or_eq_true, beq_iff_eq, ne 0 1 (by decide) (by decide) (by decide), ne 0 2 (by decide) (by decide) (by decide), ne 0 3 (by decide) (by decide) (by decide), ne 1 2 (by decide) (by decide) (by decide), ne 1 3 (by decide) (by decide) (by decide), ne 2 3 (by decide) (by decide) (by decide), false_or] at h6
  have h := perm_sum (List.isPerm_iff.mp h6) F
  simpa using h
/-- 1 where two lights are one -/
noncomputable def like (p q : Nat) : Int := if p = q then 1 else 0
theorem score_is {p q r : Nat} (hp : p < 3) (hq : q < 3) (hr : r < 3) : score p q r = like p q + like q r + like p r - 1 := by
  rcases lt3 hp with rfl | rfl | rfl <;> rcases lt3 hq with rfl | rfl | rfl <;> rcases lt3 hr with rfl | rfl | rfl <;> decide
theorem like_is {p q : Nat} (hp : p < 3) : like p q = like p 0 * like q 0 + like p 1 * like q 1 + like p 2 * like q 2 := by
  rcases lt3 hp with rfl | rfl | rfl <;> simp [like, eq_comm]
theorem cnt_is (r : Nat → Nat) (k : Nat) : (cnt4 r k : Int) = like (r 0) k + (like (r 1) k + (like (r 2) k + like (r 3) k)) := by
  have e : ∀ c : Prop, [Decidable c] → ((if c then 1 else 0 : Nat) : Int) = if c then 1 else 0 := fun c _ => by split <;> rfl
  unfold cnt4 like
  rw [Int.natCast_add, Int.natCast_add, Int.natCast_add, e, e, e, e]
  omega
theorem cnt_sum {r : Nat → Nat} (hr : ∀ q, q < 4 → r q < 3) : (cnt4 r 0 : Int) + cnt4 r 1 + cnt4 r 2 = 4 := by
  have one : ∀ p, p < 3 → like p 0 + like p 1 + like p 2 = 1 := fun p hp => by rcases lt3 hp with rfl | rfl | rfl <;> decide
  have h0 := one _ (hr 0 (by decide)); have h1 := one _ (hr 1 (by decide)); have h2 := one _ (hr 2 (by decide)); have h3 := one _ (hr 3 (by decide))
  rw [cnt_is, cnt_is, cnt_is]
  omega
theorem pair_sum {a b : Nat → Nat} (ha : ∀ q, q < 4 → a q < 3) : (like (a 0) (b 0) + (like (a 0) (b 1) + (like (a 0) (b 2) + like (a 0) (b 3)))) + (like (a 1) (b 0) + (like (a 1) (b 1) + (like (a 1) (b 2) + like (a 1) (b 3)))) + (like (a 2) (b 0) + (like (a 2) (b 1) + (like (a 2) (b 2) + like (a 2) (b 3)))) + (like (a 3) (b 0) + (like (a 3) (b 1) + (like (a 3) (b 2) + like (a 3) (b 3)))) = cnt4 a 0 * cnt4 b 0 + cnt4 a 1 * cnt4 b 1 + cnt4 a 2 * cnt4 b 2 := by
  rw [like_is (p := a 0) (q := b 0) (ha 0 (by decide)), like_is (p := a 0) (q := b 1) (ha 0 (by decide)), like_is (p := a 0) (q := b 2) (ha 0 (by decide)), like_is (p := a 0) (q := b 3) (ha 0 (by decide)), like_is (p := a 1) (q := b 0) (ha 1 (by decide)), like_is (p := a 1) (q := b 1) (ha 1 (by decide)), like_is (p := a 1) (q := b 2) (ha 1 (by decide)), like_is (p := a 1) (q := b 3) (ha 1 (by decide)), like_is (p := a 2) (q := b 0) (ha 2 (by decide)), like_is (p := a 2) (q := b 1) (ha 2 (by decide)), like_is (p := a 2) (q := b 2) (ha 2 (by decide)), like_is (p := a 2) (q := b 3) (ha 2 (by decide)), like_is (p := a 3) (q := b 0) (ha 3 (by decide)), like_is (p := a 3) (q := b 1) (ha 3 (by decide)), like_is (p := a 3) (q := b 2) (ha 3 (by decide)), like_is (p := a 3) (q := b 3) (ha 3 (by decide))]
  rw [cnt_is, cnt_is, cnt_is, cnt_is, cnt_is, cnt_is]
  grind
theorem sizes_alg {A0 A1 A2 B0 B1 B2 C0 C1 C2 : Int} (hA : A0 + A1 + A2 = 4) (hB : B0 + B1 + B2 = 4) (hC : C0 + C1 + C2 = 4) :
    0 + 2 * A0 * B0 * C0 + 2 * A1 * B1 * C1 + 2 * A2 * B2 * C2 - A0 * B1 * C2 - A0 * B2 * C1 - A1 * B0 * C2 - A1 * B2 * C0 - A2 * B0 * C1 - A2 * B1 * C0 =
    4 * ((A0 * B0 + A1 * B1 + A2 * B2) + (A0 * C0 + A1 * C1 + A2 * C2) + (B0 * C0 + B1 * C1 + B2 * C2) - 16) := by
  obtain rfl : A2 = 4 - A0 - A1 := by omega
  obtain rfl : B2 = 4 - B0 - B1 := by omega
  obtain rfl : C2 = 4 - C0 - C1 := by omega
  grind
theorem sizes_law {P : Nat → Nat → Int} {pa : Nat → Nat → Nat} (lat : Lat P) (hp : ∀ j k, j < 3 → k < 4 → pa j k < 3) : sizes pa = 4 * told (gOf P) pa 16 := by
  have e : told (gOf P) pa 16 = 0 + score (pa 0 0) (pa 1 0) (pa 2 (P 0 0).toNat) + score (pa 0 0) (pa 1 1) (pa 2 (P 0 1).toNat) + score (pa 0 0) (pa 1 2) (pa 2 (P 0 2).toNat) + score (pa 0 0) (pa 1 3) (pa 2 (P 0 3).toNat) + score (pa 0 1) (pa 1 0) (pa 2 (P 1 0).toNat) + score (pa 0 1) (pa 1 1) (pa 2 (P 1 1).toNat) + score (pa 0 1) (pa 1 2) (pa 2 (P 1 2).toNat) + score (pa 0 1) (pa 1 3) (pa 2 (P 1 3).toNat) + score (pa 0 2) (pa 1 0) (pa 2 (P 2 0).toNat) + score (pa 0 2) (pa 1 1) (pa 2 (P 2 1).toNat) + score (pa 0 2) (pa 1 2) (pa 2 (P 2 2).toNat) + score (pa 0 2) (pa 1 3) (pa 2 (P 2 3).toNat) + score (pa 0 3) (pa 1 0) (pa 2 (P 3 0).toNat) + score (pa 0 3) (pa 1 1) (pa 2 (P 3 1).toNat) + score (pa 0 3) (pa 1 2) (pa 2 (P 3 2).toNat) + score (pa 0 3) (pa 1 3) (pa 2 (P 3 3).toNat) := rfl
  have hz : ∀ x y, x < 4 → y < 4 → (P x y).toNat < 4 := fun x y hx hy => by
    have h3 := lat.lo _ _ hx hy
    have h4 := lat.hi _ _ hx hy
    omega
  have sc : ∀ x y, x < 4 → y < 4 → score (pa 0 x) (pa 1 y) (pa 2 (P x y).toNat) = like (pa 0 x) (pa 1 y) + like (pa 1 y) (pa 2 (P x y).toNat) + like (pa 0 x) (pa 2 (P x y).toNat) - 1 := fun x y hx hy =>
    score_is (hp 0 x (by decide) hx) (hp 1 y (by decide) hy) (hp 2 _ (by decide) (hz x y hx hy))
  have row : ∀ x, x < 4 → _ := fun x hx => sum4 (f := fun y => (P x y).toNat) (fun z => like (pa 0 x) (pa 2 z)) (fun y hy => hz x y hx hy) (fun p q hp' hq h => by
    have h1 := lat.lo x p hx hp'
    have h2 := lat.lo x q hx hq
    have h3 : (P x p).toNat = (P x q).toNat := h
    exact lat.row x p q hx hp' hq (by omega))
  have col : ∀ y, y < 4 → _ := fun y hy => sum4 (f := fun x => (P x y).toNat) (fun z => like (pa 1 y) (pa 2 z)) (fun x hx => hz x y hx hy) (fun p q hp' hq h => by
    have h1 := lat.lo p y hp' hy
    have h2 := lat.lo q y hq hy
    have h3 : (P p y).toNat = (P q y).toNat := h
    exact lat.col p y q hp' hy hq (by omega))
  have r0 := row 0 (by decide)
  have c0 := col 0 (by decide)
  have r1 := row 1 (by decide)
  have c1 := col 1 (by decide)
  have r2 := row 2 (by decide)
  have c2 := col 2 (by decide)
  have r3 := row 3 (by decide)
  have c3 := col 3 (by decide)
  have k1 := pair_sum (b := pa 1) fun q hq => hp 0 q (by decide) hq
  have k2 := pair_sum (b := pa 2) fun q hq => hp 0 q (by decide) hq
  have k3 := pair_sum (b := pa 2) fun q hq => hp 1 q (by decide) hq
  have al := sizes_alg (cnt_sum fun q hq => hp 0 q (by decide) hq) (cnt_sum fun q hq => hp 1 q (by decide) hq) (cnt_sum fun q hq => hp 2 q (by decide) hq)
  rw [← k1, ← k2, ← k3] at al
  refine Eq.trans ?_ (al.trans ?_)
  · rfl
  · rw [e, sc 0 0 (by decide) (by decide), sc 0 1 (by decide) (by decide), sc 0 2 (by decide) (by decide), sc 0 3 (by decide) (by decide), sc 1 0 (by decide) (by decide), sc 1 1 (by decide) (by decide), sc 1 2 (by decide) (by decide), sc 1 3 (by decide) (by decide), sc 2 0 (by decide) (by decide), sc 2 1 (by decide) (by decide), sc 2 2 (by decide) (by decide), sc 2 3 (by decide) (by decide), sc 3 0 (by decide) (by decide), sc 3 1 (by decide) (by decide), sc 3 2 (by decide) (by decide), sc 3 3 (by decide) (by decide)]
    clear e sc row col k1 k2 k3 al hz
    grind
end
section
open PySem PySem.Spec PySem.Calls PySem.W PyProof.Rows PyProof.Rows.LCg
/-- two words of three letters: one, or four apart -/
noncomputable def Apart4 (f g : Nat → Nat) : Prop := (∀ q, q < 3 → f q = g q) ∨ ∃ pp ss, pp + ss ≤ 1 ∧ LevF f g pp ss ∧ LevR (3 - pp - ss) (fun q => f (pp + q)) (fun q => g (pp + q))
theorem lt1 {q : Nat} (h : q < 1) : q = 0 := by omega
theorem lt2 {q : Nat} (h : q < 2) : q = 0 ∨ q = 1 := by omega
section
variable {P : Nat → Nat → Int} {i j : Nat}
theorem gOf_at {x y : Nat} (hx : x < 4) (hy : y < 4) : gOf P (4 * x + y) = tri x y (P x y).toNat := by
  have h1 : (4 * x + y) / 4 = x := by omega
  have h2 : (4 * x + y) % 4 = y := by omega
  funext q
  unfold gOf tri
  rw [h1, h2]
theorem lv1 {y z : Nat} (hi : i < 4) (hj : j < 4) (hy : y < 4) (hz : z < 4) (lat : Lat P) (ez : P i j = z) (ey : P i y = j) : Apart4 (tri i y j) (tri i j z) := by
  by_cases e : y = j
  · subst e
    have : z = y := by omega
    subst this
    exact .inl fun q _ => rfl
  · have ez' : j ≠ z := fun h => e (lat.row i y j hi hy hj (by rw [ey, ez, h]))
    refine .inr ⟨1, 0, by decide, ⟨fun q hq => by rw [lt1 hq]; rfl, e, fun q hq => absurd hq (Nat.not_lt_zero _), ez'⟩, ?_⟩
    exact LevR.congr (f' := tri y j 0) (g' := tri j z 0) (fun q hq => by rcases lt2 hq with rfl | rfl <;> rfl) (fun q hq => by rcases lt2 hq with rfl | rfl <;> rfl) (LevR.of (or3 (lev2b y hy j hj z hz) e ez'))
theorem lv0 {x z : Nat} (hi : i < 4) (hj : j < 4) (hx : x < 4) (hz : z < 4) (lat : Lat P) (ez : P i j = z) (ex : P x i = j) : Apart4 (tri i j z) (tri x i j) := by
  by_cases e : i = x
  · subst e
    by_cases e2 : j = i
    · subst e2
      have : z = j := by omega
      subst this
      exact .inl fun q _ => rfl
    · have ez' : z ≠ j := fun h => e2 (lat.row i j i hi hj hi (by rw [ez, ex, h]))
      refine .inr ⟨1, 0, by decide, ⟨fun q hq => by rw [lt1 hq]; rfl, e2, fun q hq => absurd hq (Nat.not_lt_zero _), ez'⟩, ?_⟩
      exact LevR.congr (f' := tri j z 0) (g' := tri i j 0) (fun q hq => by rcases lt2 hq with rfl | rfl <;> rfl) (fun q hq => by rcases lt2 hq with rfl | rfl <;> rfl) (LevR.of (or3 (lev2a j hj z hz i hi) (Ne.symm ez') (Ne.symm e2)))
  · by_cases e2 : z = j
    · have e3 : j ≠ i := fun h => e (lat.col i i x hi hi hx (by
        have h2 : P i i = z := by rw [← ez, h]
        rw [h2, ex, e2]))
      refine .inr ⟨0, 1, by decide, ⟨fun q hq => absurd hq (Nat.not_lt_zero _), e, fun q hq => by rw [lt1 hq]; exact e2, e3⟩, ?_⟩
      exact LevR.congr (f' := tri i j 0) (g' := tri x i 0) (fun q hq => by rcases lt2 hq with rfl | rfl <;> rfl) (fun q hq => by rcases lt2 hq with rfl | rfl <;> rfl) (LevR.of (or3 (lev2a i hi j hj x hx) (Ne.symm e3) (Ne.symm e)))
    · refine .inr ⟨0, 0, by decide, ⟨fun q hq => absurd hq (Nat.not_lt_zero _), e, fun q hq => absurd hq (Nat.not_lt_zero _), e2⟩, ?_⟩
      exact LevR.congr (f' := tri i j z) (g' := tri x i j) (fun q hq => by rw [Nat.zero_add]) (fun q hq => by rw [Nat.zero_add]) (LevR.of (or3 (lev3 i hi j hj z hz x hx) e e2))
theorem lv2 {x y : Nat} (hi : i < 4) (hx : x < 4) (hy : y < 4) (lat : Lat P) (ey : P i y = j) (ex : P x i = j) : Apart4 (tri x i j) (tri i y j) := by
  by_cases e : x = i
  · subst e
    have : y = x := lat.row x y x hi hy hi (by rw [ey, ex])
    subst this
    exact .inl fun q _ => rfl
  · have e2 : i ≠ y := fun h => e (lat.col x i i hx hi hi (by rw [ex, ← ey, ← h]))
    refine .inr ⟨0, 1, by decide, ⟨fun q hq => absurd hq (Nat.not_lt_zero _), e, fun q hq => by rw [lt1 hq]; rfl, e2⟩, ?_⟩
    exact LevR.congr (f' := tri x i 0) (g' := tri i y 0) (fun q hq => by rcases lt2 hq with rfl | rfl <;> rfl) (fun q hq => by rcases lt2 hq with rfl | rfl <;> rfl) (LevR.of (or3 (lev2b x hx i hi y hy) e e2))
end
theorem lev_any (w : World) {p : Program} {loose : List Str} {mean : ExcName → Option Value} {mg mb : Str → Option Value} {f g : Nat → Nat} (h : Apart4 f g) (hf : ∀ i, i < 3 → f i < 4) (hg : ∀ i, i < 3 → g i < 4) :
    ∃ b : Bool, (word 3 f == word 3 g) = b ∧ ∀ t u z news, Tells w p loose mean mg mb 91 [.str (word 3 f) t, .str (word 3 g) u, .int 4 z] news 2 16 (intPost (if b then 0 else 4) news) := by
  rcases h with h | ⟨pp, ss, h1, H, hr⟩
  · have e : (word 3 f == word 3 g) = true := by
      have : word 3 f = word 3 g := by
        unfold word
        exact congrArg (fun l => Str.mk (List.toArray l)) (List.map_congr_left fun q hq => by rw [h q (List.mem_range.mp hq)])
      rw [this]
      exact beq_self_eq_true _
    exact ⟨true, e, fun t u z news => lev0_ok w e⟩
  · have e : (word 3 f == word 3 g) = false := by
      rw [beq_eq_false_iff_ne]
      intro c
      have hl : ((List.range 3).map fun q => 97 + f q) = (List.range 3).map fun q => 97 + g q := by
        have c' := congrArg (fun x : Str => x.cps.toList) c
        simpa only [word, List.toList_toArray] using c'
      have hp3 : pp < 3 := by omega
      have he : ((List.range 3).map fun q => 97 + f q)[pp]? = ((List.range 3).map fun q => 97 + g q)[pp]? := by rw [hl]
      simp [hp3] at he
      exact H.out he
    exact ⟨false, e, fun t u z news => lev_ok w e h1 H hf hg hr⟩
/-- the words taken and their distances: what the law asks of them -/
theorem far_sq (w : World) {p : Program} {loose : List Str} {mean : ExcName → Option Value} {mg mb : Str → Option Value} {base : List (Addr × Obj)} {W : Addr} {P : Nat → Nat → Int} {Tw : Nat → Tok} {i j : Nat} {t u : Tok} (lat : Lat P) (hi : i < 4) (hj : j < 4) :
   Tells w p loose mean mg mb 115 [.ref W, .str (ltr i) t, .str (ltr j) u] ((W, wl16 (gOf P) Tw) :: base) 3 24 (boolPost true ((W, wl16 (gOf P) Tw) :: base)) := by
  obtain ⟨y, hy, ey, h1⟩ := hit1 lat hi hj
  obtain ⟨x, hx, ex, h2⟩ := hit2 lat hi hj
  obtain ⟨z, ez⟩ : ∃ z : Nat, P i j = z := ⟨(P i j).toNat, (Int.toNat_of_nonneg (lat.lo i j hi hj)).symm⟩
  have hz : z < 4 := by have := lat.hi i j hi hj; omega
  have g0 : gOf P (4 * i + j) = tri i j z := by rw [gOf_at hi hj, ez]; rfl
  have g1 : gOf P (4 * i + y) = tri i y j := by rw [gOf_at hi hy, ey]; rfl
  have g2 : gOf P (4 * x + i) = tri x i j := by rw [gOf_at hx hi, ex]; rfl
  have tl : ∀ {a b c : Nat}, a < 4 → b < 4 → c < 4 → ∀ q, q < 3 → tri a b c q < 4 := fun ha hb hc q hq => by
    rcases lt3 hq with rfl | rfl | rfl
    · exact ha
    · exact hb
    · exact hc
  refine far_ok w (k0 := 4 * i + j) (k1 := 4 * i + y) (k2 := 4 * x + i) hi hj (gOf_lt lat) (by omega) (by omega) (by omega) (hit0 P hi hj).2 h1 h2 fun q hq => ?_
  rcases lt3 hq with rfl | rfl | rfl
  · show ∃ b : Bool, (word 3 (gOf P (4 * i + j)) == word 3 (gOf P (4 * x + i))) = b ∧ ∀ t u z news, Tells w p loose mean mg mb 91 [.str (word 3 (gOf P (4 * i + j))) t, .str (word 3 (gOf P (4 * x + i))) u, .int 4 z] news 2 16 (intPost (if b then 0 else 4) news)
    rw [g0, g2]
    exact lev_any w (lv0 hi hj hx hz lat ez ex) (tl hi hj hz) (tl hx hi hj)
  · show ∃ b : Bool, (word 3 (gOf P (4 * i + y)) == word 3 (gOf P (4 * i + j))) = b ∧ ∀ t u z news, Tells w p loose mean mg mb 91 [.str (word 3 (gOf P (4 * i + y))) t, .str (word 3 (gOf P (4 * i + j))) u, .int 4 z] news 2 16 (intPost (if b then 0 else 4) news)
    rw [g1, g0]
    exact lev_any w (lv1 hi hj hy hz lat ez ey) (tl hi hy hj) (tl hi hj hz)
  · show ∃ b : Bool, (word 3 (gOf P (4 * x + i)) == word 3 (gOf P (4 * i + y))) = b ∧ ∀ t u z news, Tells w p loose mean mg mb 91 [.str (word 3 (gOf P (4 * x + i))) t, .str (word 3 (gOf P (4 * i + y))) u, .int 4 z] news 2 16 (intPost (if b then 0 else 4) news)
    rw [g2, g1]
    exact lev_any w (lv2 hi hx hy lat ey ex) (tl hx hi hj) (tl hi hy hj)
end
section
open PySem PySem.Spec PySem.Calls PySem.W PyProof.Rows PyProof.Rows.LCg
section
variable {prog : Program} {w : World} {A : Around} {E : Value → Shared → Prop} {s : Shared} {h₀ : Heap} {L : Addr} {m : Str → Option Value} {env : Env} {news : List (Addr × Obj)} {t u : Tok} {Q : Value → Shared → Prop}
theorem pow3 {k : Nat} {b : Int} (hb : b = k) (hk : k < 4) (h : Q (.int ((3 ^ k : Nat) : Int) s.toks) { s with toks := s.toks + 1 }) : wpAny (model prog w) A (binaryOp .Pow (.int 3 t) (.int b u)) Q E s := by
  subst hb
  rcases lt4 hk with rfl | rfl | rfl | rfl
  · exact AutoIntOps.pow_0 (by decide) (by decide) h
  · exact AutoIntOps.pow_4 (by decide) (by decide) (by decide) (by decide) (by decide +kernel) h
  · exact AutoIntOps.pow_4 (by decide) (by decide) (by decide) (by decide) (by decide +kernel) h
  · exact AutoIntOps.pow_4 (by decide) (by decide) (by decide) (by decide) (by decide +kernel) h
theorem div_pow3 {a : Int} {k : Nat} (hk : k < 4) (h : ∀ x : Int, Q (.int x s.toks) { s with toks := s.toks + 1 }) : wpAny (model prog w) A (binaryOp .FloorDiv (.int a t) (.int ((3 ^ k : Nat) : Int) u)) Q E s := by
  rcases lt4 hk with rfl | rfl | rfl | rfl
  · exact PyProof.Rows.floordiv_int (b := 1) (by decide) (h _)
  · exact PyProof.Rows.floordiv_int (b := 3) (by decide) (h _)
  · exact PyProof.Rows.floordiv_int (b := 9) (by decide) (h _)
  · exact PyProof.Rows.floordiv_int (b := 27) (by decide) (h _)
theorem div_any {a b : Int} (hb : b = 4 ∨ b = 16) (h : ∀ x : Int, Q (.int x s.toks) { s with toks := s.toks + 1 }) : wpAny (model prog w) A (binaryOp .FloorDiv (.int a t) (.int b u)) Q E s := by
  rcases hb with rfl | rfl
  · exact PyProof.Rows.floordiv_int (by decide) (h _)
  · exact PyProof.Rows.floordiv_int (by decide) (h _)
theorem mod_nat {a b : Int} (hb : 0 < b) (h : ∀ n : Nat, (n : Int) < b → Q (.int (n : Int) s.toks) { s with toks := s.toks + 1 }) : wpAny (model prog w) A (binaryOp .Mod (.int a t) (.int b u)) Q E s := by
  have e : a.fmod b = ((a.fmod b).toNat : Int) := (Int.toNat_of_nonneg (Int.fmod_nonneg_of_pos a hb)).symm
  refine mod_int' (by omega) ?_
  rw [e]
  exact h _ (by rw [← e]; exact Int.fmod_lt_of_pos a hb)
theorem dropSq {h : Heap} {W D a b c d : Addr} {oW o1 o2 o3 o4 o5 : Obj} {base : List (Addr × Obj)} (N : News h₀ L h ((W, oW) :: (D, o1) :: (a, o2) :: (b, o3) :: (c, o4) :: (d, o5) :: base)) : News h₀ L h ((W, oW) :: base) := fun p hp => N p (by
  rcases List.mem_cons.mp hp with e | e
  · rw [e]; exact List.mem_cons_self
  · exact List.mem_cons_of_mem _ (List.mem_cons_of_mem _ (List.mem_cons_of_mem _ (List.mem_cons_of_mem _ (List.mem_cons_of_mem _ (List.mem_cons_of_mem _ e))))))
theorem mra {p : Addr × Obj} {new l : List (Addr × Obj)} (h : p ∈ l) : p ∈ new ++ l := List.mem_append_right _ h
theorem tailNews {h : Heap} {a b c d e1 e2 e3 e4 e5 e6 : Addr × Obj} {new : List (Addr × Obj)} (N : News h₀ L h (a :: b :: c :: d :: (new ++ [e1, e2, e3, e4, e5, e6]))) : News h₀ L h (a :: b :: c :: d :: e1 :: e2 :: e3 :: e4 :: e5 :: e6 :: new) :=
  News.put N (m0) (News.put N (m1 m0) (News.put N (m1 (m1 m0)) (News.put N (m3 m0) (News.put N (m3 (m1 (mra (m0)))) (News.put N (m3 (m1 (mra (m1 m0)))) (News.put N (m3 (m1 (mra (m1 (m1 m0))))) (News.put N (m3 (m1 (mra (m3 m0)))) (News.put N (m3 (m1 (mra (m1 (m3 m0))))) (News.put N (m3 (m1 (mra (m1 (m1 (m3 m0)))))) (fun _ hp => N _ (m3 (m1 (List.mem_append_left _ hp)))))))))))))
theorem backNews {h : Heap} {z a b c d e1 e2 e3 e4 e5 e6 : Addr × Obj} {new : List (Addr × Obj)} (N : News h₀ L h (z :: a :: b :: c :: d :: e1 :: e2 :: e3 :: e4 :: e5 :: e6 :: new)) : News h₀ L h (z :: ([a, b, c] ++ d :: (new ++ [e1, e2, e3, e4, e5, e6]))) :=
  have r : News h₀ L h [e1, e2, e3, e4, e5, e6] := News.put N (m1 (m1 (m3 m0))) (News.put N (m3 (m3 m0)) (News.put N (m1 (m3 (m3 m0))) (News.put N (m1 (m1 (m3 (m3 m0)))) (News.put N (m3 (m3 (m3 m0))) (News.put N (m1 (m3 (m3 (m3 m0)))) (fun _ h => nomatch h))))))
  News.put N (m0) (News.put N (m1 m0) (News.put N (m1 (m1 m0)) (News.put N (m3 m0) (News.put N (m1 (m3 m0)) (fun p hp => (List.mem_append.mp hp).elim (fun h => N _ (m3 (m3 (m3 (m1 (m1 h)))))) (r p))))))
theorem new_lt {z : Addr} {a b c d e1 e2 e3 e4 e5 e6 : Addr × Obj} {new : List (Addr × Obj)} (N : ∀ p ∈ a :: b :: c :: d :: e1 :: e2 :: e3 :: e4 :: e5 :: e6 :: new, @LT.lt Nat _ p.1 z) : ∀ p ∈ new, @LT.lt Nat _ p.1 z := fun p hp => N p (m3 (m3 (m3 (m1 hp))))
/-- the ledger as the last three functions want it -/
theorem toPainted {h : Heap} {W PP x y : Addr} {oW oH oA oB ox oy : Obj} {a : Nat → Addr} {pa : Nat → Nat → Nat} {Tp : Nat → Nat → Tok} {H A' B' : Addr}
    (N : News h₀ L h ((PP, refs3 a) :: (a 2, row4 (fun k => (pa 2 k : Int)) (Tp 2)) :: (a 1, row4 (fun k => (pa 1 k : Int)) (Tp 1)) :: (a 0, row4 (fun k => (pa 0 k : Int)) (Tp 0)) :: (W, oW) :: (H, oH) :: (A', oA) :: (B', oB) :: [(x, ox), (y, oy)])) :
    News h₀ L h ((W, oW) :: painted PP a pa Tp [(x, ox), (y, oy)]) := 
  News.put N (m3 (m1 m0)) (News.put N m0 (News.put N (m3 m0) (News.put N (m1 (m1 m0)) (News.put N (m1 m0) (News.put N (m3 (m3 (m1 (m1 m0)))) (News.put N (m3 (m3 (m3 m0))) (fun _ h => nomatch h)))))))
theorem lawApart {W PP x y : Addr} {a : Nat → Addr} (h1 : @LT.lt Nat _ x W) (h2 : @LT.lt Nat _ y W) (h3 : @LT.lt Nat _ W PP) (h4 : @LT.lt Nat _ PP (a 0)) (h5 : @LT.lt Nat _ (a 0) (a 1)) (h6 : @LT.lt Nat _ (a 1) (a 2)) (h7 : @LT.lt Nat _ y x) :
    Apart [W, PP, a 0, a 1, a 2, x, y] := by
  simp only [Apart, List.mem_cons, List.not_mem_nil, or_false, and_true, forall_eq_or_imp, forall_eq, false_implies, implies_true]
  unfold Addr at *
  refine ⟨⟨?_, ?_, ?_, ?_, ?_, ?_⟩, ⟨?_, ?_, ?_, ?_, ?_⟩, ⟨?_, ?_, ?_, ?_⟩, ⟨?_, ?_, ?_⟩, ⟨?_, ?_⟩, ?_⟩ <;> omega
end
/-- the heaps, one by one -/
noncomputable def JHp (i : Nat) (ys : List Value) (new : List (Addr × Obj)) : Prop := ∃ (H : Nat → Nat) (tk : Nat → Tok), ys = (List.range i).map (fun q => Value.int (H q) (tk q)) ∧ new = []
theorem JHp.zero : JHp 0 [] [] := ⟨fun _ => 0, fun _ => 0, rfl, rfl⟩
theorem ints_succ {i n : Nat} {H : Nat → Nat} {tk : Nat → Tok} {t : Tok} : (List.range i).map (fun q => Value.int (H q) (tk q)) ++ [.int n t] = (List.range (i + 1)).map (fun q => Value.int ((if q = i then n else H q : Nat) : Int) (if q = i then t else tk q)) := by
  rw [List.range_succ, List.map_append, List.map_cons, List.map_nil]
  simp only [if_true]
  refine congrArg (· ++ _) (List.map_congr_left fun q hq => ?_)
  have : q ≠ i := Nat.ne_of_lt (List.mem_range.mp hq)
  simp only [this, if_false]
theorem JHp.succ {i n : Nat} {H : Nat → Nat} {tk : Nat → Tok} {t : Tok} : JHp (i + 1) ((List.range i).map (fun q => Value.int (H q) (tk q)) ++ [.int n t]) [] :=
  ⟨_, _, ints_succ, rfl⟩
/-- the lights of one painting, one by one; the paintings -/
noncomputable def JQ (i : Nat) (ys : List Value) (new : List (Addr × Obj)) : Prop := ∃ (H : Nat → Nat) (tk : Nat → Tok), (∀ q, q < i → H q < 3) ∧ ys = (List.range i).map (fun q => Value.int (H q) (tk q)) ∧ new = []
theorem JQ.zero : JQ 0 [] [] := ⟨fun _ => 0, fun _ => 0, fun _ h => absurd h (Nat.not_lt_zero _), rfl, rfl⟩
theorem JQ.succ {i n : Nat} {H : Nat → Nat} {tk : Nat → Tok} {t : Tok} (hH : ∀ q, q < i → H q < 3) (hn : (n : Int) < 3) : JQ (i + 1) ((List.range i).map (fun q => Value.int (H q) (tk q)) ++ [.int n t]) [] :=
  ⟨_, _, fun q hq => by
    by_cases e : q = i
    · rw [if_pos e]; omega
    · rw [if_neg e]; exact hH q (by omega), ints_succ, rfl⟩
noncomputable def JPt (i : Nat) (ys : List Value) (new : List (Addr × Obj)) : Prop :=
  ∃ (Af : Nat → Addr) (pa : Nat → Nat → Nat) (tf : Nat → Nat → Tok), (∀ j k, j < i → k < 4 → pa j k < 3) ∧ ys = (List.range i).map (fun q => .ref (Af q)) ∧ new = (List.range i).reverse.map (fun q => (Af q, row4 (fun k => (pa q k : Int)) (tf q))) ∧ ∀ p q, p < q → q < i → @LT.lt Nat _ (Af p) (Af q)
theorem JPt.zero : JPt 0 [] [] := ⟨fun _ => 0, fun _ _ => 0, fun _ _ => 0, fun _ _ h => absurd h (Nat.not_lt_zero _), rfl, rfl, fun _ _ _ h => absurd h (Nat.not_lt_zero _)⟩
theorem JPt.succ {i : Nat} {ys : List Value} {new : List (Addr × Obj)} {T : Addr} {H : Nat → Nat} {t : Nat → Tok} (j : JPt i ys new) (hH : ∀ q, q < 4 → H q < 3) (hl : ∀ p ∈ new, @LT.lt Nat _ p.1 T) :
    JPt (i + 1) (ys ++ [.ref T]) ((T, row4 (fun k => (H k : Int)) t) :: new) := by
  obtain ⟨Af, pa, tf, hp, rfl, rfl, ord⟩ := j
  refine ⟨fun q => if q = i then T else Af q, fun q => if q = i then H else pa q, fun q => if q = i then t else tf q, fun q k hq hk => ?_, ?_, ?_, fun p q h1 h2 => ?_⟩
  · by_cases e : q = i
    · simp only [e, if_true]; exact hH k hk
    · simp only [e, if_false]; exact hp q k (by omega) hk
  · rw [List.range_succ, List.map_append, List.map_cons, List.map_nil]
    simp only [if_true]
    refine congrArg (· ++ _) (List.map_congr_left fun q hq => ?_)
    have : q ≠ i := Nat.ne_of_lt (List.mem_range.mp hq)
    simp only [this, if_false]
  · rw [List.range_succ, List.reverse_append, List.reverse_singleton, List.singleton_append, List.map_cons]
    simp only [if_true]
    refine congrArg (_ :: ·) (List.map_congr_left fun q hq => ?_)
    have : q ≠ i := Nat.ne_of_lt (List.mem_range.mp (List.mem_reverse.mp hq))
    simp only [this, if_false]
  · have hp' : p ≠ i := by omega
    simp only [hp', if_false]
    by_cases e : q = i
    · simp only [e, if_true]
      exact hl (Af p, _) (List.mem_map.mpr ⟨p, List.mem_reverse.mpr (List.mem_range.mpr (by omega)), rfl⟩)
    · simp only [e, if_false]
      exact ord p q h1 (by omega)
theorem size_ok {vs : List Value} {ns : List Int} (h : IntsAre vs ns) (hc : ¬ ((63 : Nat) : Int) < (ns.length : Int)) : vs.toArray.size ≤ sizeLine := by
  have e := h.length
  rw [List.size_toArray, sizeLine_eq]
  omega
theorem told_in (g pa : Nat → Nat → Nat) : ∀ n : Nat, -(n : Int) ≤ told g pa n ∧ told g pa n ≤ 2 * n
  | 0 => by simp [told]
  | n + 1 => by
    have h := told_in g pa n
    have hs : -1 ≤ score (pa 0 (g n 0)) (pa 1 (g n 1)) (pa 2 (g n 2)) ∧ score (pa 0 (g n 0)) (pa 1 (g n 1)) (pa 2 (g n 2)) ≤ 2 := by
      unfold score
      split
      · decide
      · split <;> decide
    show _ ≤ told g pa n + _ ∧ told g pa n + _ ≤ _
    omega
end
section
open PySem PySem.Spec PySem.Calls PySem.W PyProof.Rows PyProof.Rows.LCg
theorem walkLw : True := by
  k_with_none
  k_with "enterC" => (k_dflt (refine' code_defC ?wek1 ?wek2 ?wek3 ?wek4 ?wek5 ?wekA ?wekF ?wekK ?wek6 ?wek7 ?wek8 ?wek9 ?wekB ?wekD ?_ ?wec2 ?wec3 ?wec4; (case wekA => exact rfl); (case wekF => exact rfl); (case wekK => assumption); (case wek1 => k_asm); (case wek2 => k_asm); (case wek3 => k_asm); (case wek4 => k_asm); (case wek5 => k_asm); (case wek6 => k_is); (case wek7 => k_is); (case wek8 => ktr_room); (case wek9 => exact BindsTo.of_eq rfl); (case wekB => exact rfl); (case wekD => decide +kernel); (case wec2 => exact rfl); (case wec3 => exact rfl); (case wec4 => exact rfl); k_whole; intro g' L' h' tk' cells' FG' F' N' Y' B' X' T' l1; (try k_lt l1); k_cells Y'; (try simp only [List.cons_append, List.nil_append] at N'); (try dsimp only); (try k_lift B'); (try k_fold)))
  k_with "exec Assign cons ListComp" => (k_here; k_dflt (first
  | refine Mine.Assign_C (_F₀ := by k_asm) (by rfl) (by with_unfolding_all rfl) (by with_unfolding_all rfl) (fun _ => rfl) (fun _ => rfl) (by rfl) (by rfl) (by decide) (by rfl) (by rfl) ?_
  | refine Mine.Assign_L (ct := none) (_F₀ := by k_asm) (by rfl) (by with_unfolding_all rfl) (by with_unfolding_all rfl) (by decide) (by rfl) (by decide) (by rfl) (by rfl) (by rfl) ?_
  | refine Mine.Assign_L (ct := some _) (_F₀ := by k_asm) (by rfl) (by with_unfolding_all rfl) (by with_unfolding_all rfl) (by decide) (by rfl) (by decide) (by rfl) (by rfl) (by rfl) ?_))
  k_with "eval ListComp BinOp cons" => (k_here; k_dflt (refine Mine.ListComp_L (ct := none) (_F₀ := by k_asm) (by with_unfolding_all rfl) (by decide) (by rfl) (by decide) (by rfl) ?_))
  k_with "eval ListComp Call cons" => (k_here; k_dflt (refine Mine.ListComp_L (ct := none) (_F₀ := by k_asm) (by with_unfolding_all rfl) (by decide) (by rfl) (by decide) (by rfl) ?_))
  k_with "eval ListComp Subscript cons" => (k_here; k_dflt (refine Mine.ListComp_L (ct := none) (_F₀ := by k_asm) (by with_unfolding_all rfl) (by decide) (by rfl) (by decide) (by rfl) ?_))
  k_with "eval ListComp Name cons" => (k_here; k_dflt (refine Mine.ListComp_L (ct := none) (_F₀ := by k_asm) (by with_unfolding_all rfl) (by decide) (by rfl) (by decide) (by rfl) ?_))
  k_with "eval ListComp Name cons" => (k_here; k_dflt (refine Mine.ListComp_L (ct := some _) (_F₀ := by k_asm) (by with_unfolding_all rfl) (by decide) (by rfl) (by decide) (by rfl) ?_))
  k_with "eval ListComp ListComp cons" => (k_here; k_dflt (refine Mine.ListComp_C (_F₀ := by k_asm) (by with_unfolding_all rfl) (fun _ => rfl) (fun _ => rfl) (by rfl) (by rfl) (by decide) ?_))
  k_with "SrcM" => (k_here; k_dflt (first
  | (refine Mine.SrcM.range 4 (by rfl) (by k_asm) (by k_asm) (by assumption) (by first | decide | rfl) (by first | rfl | decide) (by exact Nat.le_of_ble_eq_true rfl) ?_; intro g'; (try dsimp only))
  | (refine Mine.SrcM.range 3 (by rfl) (by k_asm) (by k_asm) (by assumption) (by first | decide | rfl) (by first | rfl | decide) (by exact Nat.le_of_ble_eq_true rfl) ?_; intro g'; (try dsimp only))
  | (refine Mine.SrcM.ledger 3 (by rfl) (by k_asm) (by k_asm) (by k_mem) (by rfl) (by exact Nat.le_of_ble_eq_true rfl) ?_; intro g'; (try dsimp only))))
  k_with "LRest" => (with_unfolding_all first
  | (refine Mine.LRest.turn ?_; intro v' I' oI' C' oC' D' m' h' tk' E' hv' hC' hx' F' N' lie'; (first | lcg_open hv' | (obtain ⟨t9', hv9'⟩ := hv'; subst hv9')); (try simp only [List.nil_append, List.cons_append] at N'))
  | (refine Mine.LRest.test ?_; intro v' I' oI' C' oC' D' m' h' tk' E' hv' hC' hx' F' N' lie'; (first | lcg_open hv' | (obtain ⟨t9', hv9'⟩ := hv'; subst hv9')); (try simp only [List.nil_append, List.cons_append] at N'))
  | refine Mine.LRest.zero ?_)
  k_with "CRest" => (with_unfolding_all first
  | (refine Mine.CRest.turn ?_; intro v' I' oI' C' X' oX' D' h' tk' E' hv' hdX' F' N' lie'; (first | lcg_open hv' | (obtain ⟨t9', hv9'⟩ := hv'; subst hv9')); (try simp only [List.nil_append, List.cons_append] at N'))
  | refine Mine.CRest.zero ?_)
  k_with "LEnd" => (k_dflt (first
  | refine Mine.LEnd.push0 (by k_asm) (by k_asm) (by k_asm) ?_
  | refine Mine.LEnd.push1 (by k_asm) (by k_asm) (by k_asm) (by omega) ?_))
  k_with "FinV" => ((unfold Mine.FinV); intro D' h' tk' F' N' nlt' abv'; (k_lt nlt'); (try simp only [List.forall_mem_cons, List.forall_mem_nil, and_true] at abv'); (try simp only [List.nil_append, List.cons_append] at N'); (try dsimp only))
  k_with "FinB" => ((unfold Mine.FinB); intro D' h' tk' F' N' nlt' abv'; (k_lt nlt'); (try simp only [List.forall_mem_cons, List.forall_mem_nil, and_true] at abv'); (try simp only [List.nil_append, List.cons_append] at N'); (try dsimp only))
  k_with "mine_map" => ((repeat (refine (if_neg (by decide)).trans ?_)); first | exact if_pos rfl | assumption | exact rfl)
  k_with "eval Name" => (k_here; k_dflt (refine' nameX_L ?v15F ?v15v ?_ ?v15a ?v15b; (case v15a => rfl); (case v15b => rfl); (case v15F => k_asm); (case v15v => k_extra "mine_map"); k_whole))
  k_with "subscriptTail Name BinOp ref int" => (k_here; k_dflt (refine' Mine.item_refs ?v16N ?v16m ?v16a ?v16b ?_ ?v16s; (case v16N => k_asm); (case v16m => k_mem); (case v16a => omega); (case v16b => omega); (case v16s => with_unfolding_all rfl); k_whole); intro i' hi')
  k_with "binaryOp Mod int int" => (k_here; (with_reducible refine' Mine.mod4 ?_); intro x' hx0' hx4')
  k_with "subscriptTail Name Name ref int" => (k_here; k_dflt (refine' Mine.item_row ?v18N ?v18ha ?v18m0 ?v18m1 ?v18m2 ?v18m3 ?v18a ?v18b ?_ ?v18s; (case v18N => k_asm); (case v18m0 => k_mem); (case v18m1 => k_mem); (case v18m2 => k_mem); (case v18m3 => k_mem); (case v18ha => omega); (case v18a => omega); (case v18b => omega); (case v18s => with_unfolding_all rfl); k_whole))
  k_with "setItem ref int" => (k_here; k_dflt (refine' Mine.store_row ?v19F ?v19N ?v19f ?v19ha ?v19a ?v19b ?_; (case v19F => k_asm); (case v19N => k_asm); (case v19f => assumption); (case v19ha => omega); (case v19a => omega); (case v19b => omega); k_whole); intro h' F' N')
  k_with "loadName" => (k_here; k_dflt (refine' wpAny_loadName_local ?v20a ?v20b ?v20c ?v20v ?_; (case v20a => rfl); (case v20b => rfl); (case v20c => exact Fr.ns (by k_asm)); (case v20v => k_extra "mine_map"); k_whole))
  k_with "exec While" => (k_here; k_dflt (refine' Mine.while_sq ?v21a ?v21b ?v21F ?v21N ?v21h1 ?v21h2 ?v21h3 ?v21h4 ?v21h5 ?v21d1 ?v21d2 ?v21d3 ?_ ?v21hE; (case v21hE => first | assumption | passes_own); (case v21F => k_asm); (case v21N => k_asm); (case v21h1 => k_extra "mine_map"); (case v21h2 => k_extra "mine_map"); (case v21h3 => k_extra "mine_map"); (case v21h4 => k_extra "mine_map"); (case v21h5 => k_extra "mine_map"); (case v21d1 => assumption); (case v21d2 => assumption); (case v21d3 => assumption); (case v21a => omega); (case v21b => omega); k_whole))
  k_with "LRest" => (k_dflt (refine' Mine.LRest.one ?v22o ?v22turn ?v22fin; (case v22o => assumption)); (case' v22fin => (intro y' hy'; (try (obtain ⟨t8', hy8'⟩ := hy'; subst hy8')))); (case' v22turn => (intro i' v' I' oI' C' oC' D' m' h' tk' E' ys' hi' hv' hC' hx' F' N' lie'; (first | (obtain ⟨t9', hv9'⟩ := hv'; subst hv9') | skip))))
  k_with "mine_hit" => (first | (refine' Mine.hit_yes ?v23hit ?v23hi ?v23h0 ?v23a ?v23b; (case v23hit => assumption); (case v23hi => assumption); (case v23h0 => assumption); (case v23a => assumption); (case v23b => assumption)) | (refine' Mine.hit_no1 ?v23hit ?v23hi ?v23a; (case v23hit => assumption); (case v23hi => assumption); (case v23a => assumption)) | (refine' Mine.hit_no2 ?v23hit ?v23hi ?v23a; (case v23hit => assumption); (case v23hi => assumption); (case v23a => assumption)))
  k_with "HitPost" => (k_dflt (first | (refine Mine.HitPost.yes' ?v24hh ?_; (case v24hh => k_extra "mine_hit"); intro hh'; (try subst hh')) | (refine Mine.HitPost.no ?v24hh ?_; (case v24hh => k_extra "mine_hit"))))
  k_with "WhileStep2" => (k_dflt (first
  | (refine' Mine.jw_next ?v25F ?v25N ?v25h1 ?v25h2 ?v25h3 ?v25h4 ?v25hb ?v25h5 ?v25d1 ?v25d2 ?v25d3 ?v25hn ?v25C ?v25e; (case v25F => k_asm); (case v25N => k_asm); (case v25C => assumption); (case v25e => assumption); (case v25h1 => k_extra "mine_map"); (case v25h2 => k_extra "mine_map"); (case v25h3 => k_extra "mine_map"); (case v25h4 => k_extra "mine_map"); (case v25h5 => k_extra "mine_map"); (case v25hb => first | assumption | rfl); (case v25d1 => assumption); (case v25d2 => assumption); (case v25d3 => assumption); (case v25hn => omega))
  | (refine' Mine.jw_last ?v25F ?v25N ?v25h1 ?v25h2 ?v25h3 ?v25h4 ?v25hb ?v25h5 ?v25d1 ?v25d2 ?v25d3 ?v25hn ?v25C; (case v25F => k_asm); (case v25N => k_asm); (case v25C => assumption); (case v25h1 => k_extra "mine_map"); (case v25h2 => k_extra "mine_map"); (case v25h3 => k_extra "mine_map"); (case v25h4 => k_extra "mine_map"); (case v25h5 => k_extra "mine_map"); (case v25hb => first | assumption | rfl); (case v25d1 => assumption); (case v25d2 => assumption); (case v25d3 => assumption); (case v25hn => omega))))
  k_with "UnrEnd" => (k_dflt (refine' Mine.jf_end ?v26F ?v26N ?v26h1 ?v26h2 ?v26d1 ?v26d2 ?v26d3 ?v26C ?v26lb ?v26lD ?v26l0 ?v26lI; (case v26F => k_asm); (case v26N => k_asm); (case v26C => assumption); (case v26h1 => k_extra "mine_map"); (case v26h2 => k_extra "mine_map"); (case v26d1 => assumption); (case v26d2 => assumption); (case v26d3 => assumption); (case v26lb => assumption); (case v26lD => assumption); (case v26l0 => assumption); (case v26lI => assumption)))
  k_with "subscriptTail Constant str Name str int" => (k_here; k_dflt (refine' Mine.abcd_item ?v27a ?v27b ?_ ?v27s ?v27t; (case v27a => omega); (case v27b => omega); (case v27s => with_unfolding_all rfl); (case v27t => (intro _; with_unfolding_all rfl)); k_whole))
  k_with "subscriptTail Constant str Subscript str int" => (k_here; k_dflt (refine' Mine.abcd_item ?v28a ?v28b ?_ ?v28s ?v28t; (case v28a => first | omega | k_extra "mine_lat"); (case v28b => first | omega | k_extra "mine_lat"); (case v28s => with_unfolding_all rfl); (case v28t => (intro _; with_unfolding_all rfl)); k_whole))
  k_with "mine_lat" => (first | exact Lat.lo (by assumption) _ _ (by omega) (by omega) | exact Lat.hi (by assumption) _ _ (by omega) (by omega))
  k_with "binaryOp Add str str" => (k_here; (first | with_reducible refine' Mine.cat_1 ?_ | with_reducible refine' Mine.cat_2 ?_); intro t' tk')
  k_with "subscriptTail Name Name ref int" => (k_here; k_dflt (refine' Mine.item_refsX ?v31N ?v31m ?v31a ?v31b ?_ ?v31s; (case v31N => k_asm); (case v31m => k_mem); (case v31a => omega); (case v31b => omega); (case v31s => with_unfolding_all rfl); k_whole))
  k_with "subscriptTail Name Name ref int" => (k_here; k_dflt (refine' Mine.item_row ?v32N ?v32ha ?v32m0 ?v32m1 ?v32m2 ?v32m3 ?v32a ?v32b ?_ ?v32s; (case v32N => k_asm); (case v32m0 => k_mem); (case v32m1 => k_mem); (case v32m2 => k_mem); (case v32m3 => k_mem); (case v32ha => omega); (case v32a => omega); (case v32b => omega); (case v32s => with_unfolding_all rfl); k_whole))
  k_with "subscriptTail Subscript Name Name Name ref int" => (k_here; k_dflt (refine' Mine.item_row ?v33N ?v33ha ?v33m0 ?v33m1 ?v33m2 ?v33m3 ?v33a ?v33b ?_ ?v33s; (case v33N => k_asm); (case v33m0 => k_mem); (case v33m1 => k_mem); (case v33m2 => k_mem); (case v33m3 => k_mem); (case v33ha => omega); (case v33a => omega); (case v33b => omega); (case v33s => with_unfolding_all rfl); k_whole))
  k_with "call builtin:list.append cons nil" => (k_here; k_dflt (refine' Mine.append_w ?v34F ?v34N ?v34f ?v34n ?v34x ?_; (case v34F => k_asm); (case v34N => k_asm); (case v34f => assumption); (case v34n => omega); (case v34x => assumption); k_whole); intro h' F' N')
  k_with "compareOp NotIn str str" => (k_here; refine' Mine.notin_dots ?v35a ?_; (case v35a => assumption); k_whole)
  k_with "call builtin:str.split cons nil" => (k_here; k_dflt (refine' Mine.split_dots ?v36a ?v36F ?v36N ?_; (case v36a => assumption); (case v36F => k_asm); (case v36N => k_asm); k_whole); intro D' t1' t2' h' tk' F' N' l1; (try k_lt l1))
  k_with "call builtin:str.startswith cons nil" => (k_here; refine' Mine.starts_is ?v37a ?_; (case v37a => assumption); k_whole)
  k_with "call builtin:str.endswith cons nil" => (k_here; refine' Mine.ends_is ?v38a ?_; (case v38a => assumption); k_whole)
  k_with "call builtin:str.find cons nil" => (k_here; refine' Mine.find_is ?v39a ?_; (case v39a => assumption); k_whole)
  k_with "truthy str" => (k_here; refine' Mine.truthy_len ?v40a ?v40b ?_; (case v40a => assumption); (case v40b => decide); k_whole)
  k_with "call builtin:len cons nil" => (k_here; refine' Mine.len_is ?v41a ?v41b ?_; (case v41a => first | assumption | exact (by decide : Str.empty.length = 0)); (case v41b => decide); k_whole)
  k_with "exec For Name Name cons nil" => (k_here; k_dflt (refine' For_turns ?v42F ?_; (case v42F => k_asm); k_whole))
  k_with "pyIter ref" => (k_here; k_dflt (refine' iter_listTurns ?v43a ?v43F ?v43N ?v43m ?v43c ?v43d ?_; (case v43a => rfl); (case v43F => k_asm); (case v43N => k_asm); (case v43m => k_mem); (case v43c => rfl); (case v43d => with_unfolding_all rfl); k_whole); intro i' l1; (try k_lt l1))
  k_with "UnrEndW" => (k_here; k_dflt (refine' Mine.endW ?v44F ?v44N ?v44off ⟨?v44sub, ?_⟩; (case v44F => k_asm); (case v44N => k_asm); (case v44off => assumption); (case v44sub => k_subL); k_whole))
  trivial
theorem linesL : True := by
  k_with "exec Assign cons ListComp" => (k_here; k_dflt (refine wpAny_Assign_Name ?_))
  k_with "SrcM ref" => (k_here; k_dflt (refine Mine.SrcM.range 5 (by rfl) (by k_asm) (by k_asm) (by assumption) (by first | decide | rfl) (by first | rfl | decide) (by exact Nat.le_of_ble_eq_true rfl) ?_; intro g'; (try dsimp only)))
  k_with "LRest Call none cons cons nil nil" => (k_dflt (refine' Mine.LRest.all Mine.JHp Mine.JHp.zero ?wtu6 ?wfi6); (case' wfi6 => (k_dflt (rintro ys' new' ⟨Hp, Tp, rfl, rfl⟩))); (case' wtu6 => (k_dflt (rintro i' ys' new' v' I' oI' C' oC' D' m' h' tk' E' hi' ⟨Hq, Tq, rfl, rfl⟩ ⟨t9', rfl⟩ hC' hx' F' N' lie'); simp only [List.nil_append] at N')))
  k_with "LRest BinOp none cons cons nil nil" => (k_dflt (refine' Mine.LRest.all Mine.JQ Mine.JQ.zero ?wtu7 ?wfi7); (case' wfi7 => (k_dflt (rintro ys' new' ⟨Hr, Tr, hH9, rfl, rfl⟩))); (case' wtu7 => (k_dflt (rintro k' ys'' new'' v'' I'' oI'' C'' oC'' D'' m'' h'' tk'' E'' hk' ⟨Hr, Tr, hH9, rfl, rfl⟩ ⟨t8', rfl⟩ hC'' hx'' F'' N'' lie''); simp only [List.nil_append] at N'')))
  k_with "CRest" => (k_dflt (refine' Mine.CRest.all Mine.JPt Mine.JPt.zero ?wtu8 ?wfi8); (case' wfi8 => (k_dflt (rintro ys' new' ⟨Af, pa, tf, hp9, rfl, rfl, ord9⟩); dsimp only [List.range, List.range.loop, List.reverse, List.reverseAux, List.map])); (case' wtu8 => (k_dflt (rintro j' ys' new' v' I' oI' C' X' oX' D' h' tk' E' hj' jp9 ⟨t7', rfl⟩ hX' F' N' lie'); replace N' := Mine.tailNews N')))
  k_with "LEnd" => k_dflt (first
    | (refine Mine.LEnd.push0 (by k_asm) (by k_asm) (by k_asm) ?_; first | exact Mine.JHp.succ | exact Mine.JQ.succ hH9 (by assumption))
    | (refine Mine.LEnd.push1 (by k_asm) (by k_asm) (Mine.backNews (by k_asm)) (by omega) (Mine.JPt.succ jp9 hH9 (Mine.new_lt nl9))))
  k_with "FinV" => ((unfold Mine.FinV); intro HH h' tk' F' N' nlt' abv'; have nl9 := nlt'; (k_lt nlt'); (try simp only [List.forall_mem_cons, List.forall_mem_nil, and_true] at abv'); (try simp only [List.nil_append, List.cons_append] at N'); (try dsimp only))
  k_with "FinB" => ((unfold Mine.FinB); intro PP h' tk' F' N' nlt' abv'; (k_lt nlt'); (try simp only [List.forall_mem_cons, List.forall_mem_nil, and_true] at abv'); (try simp only [List.nil_append, List.cons_append] at N'); (try dsimp only))
  k_with "subscriptTail Name Name ref int" => k_dflt (k_here; refine' Mine.item_lrow (n := 5) (ep := 5) (R := fun q => (Hp q : Int)) (T := Tp) ?wN9 ?wm9 ?wn9 ?wk9 ?wi9 ?_; (case wN9 => k_asm); (case wm9 => k_mem); (case wn9 => decide); (case wk9 => exact Int.zero_add _); (case wi9 => omega))
  k_with "subscriptTail Name Constant ref int" => k_dflt (k_here; refine' Mine.item_lrow (n := 5) (ep := 5) (R := fun q => (Hp q : Int)) (T := Tp) ?wN9 ?wm9 ?wn9 ?wk9 ?wi9 ?_; (case wN9 => k_asm); (case wm9 => k_mem); (case wn9 => decide); (case wk9 => first | exact (rfl : (3 : Int) = (3 : Nat)) | exact (rfl : (4 : Int) = (4 : Nat))); (case wi9 => decide))
  k_with "subscriptTail Constant str BinOp str int" => (k_here; k_dflt (refine' Mine.abcd_item ?va ?vb ?_ ?vs ?vt; (case va => omega); (case vb => omega); (case vs => with_unfolding_all rfl); (case vt => (intro _; with_unfolding_all rfl)); k_whole))
  k_with "binaryOp FloorDiv int int" => (k_here; first | (refine' Mine.div_any ?wb9 ?_; (case wb9 => first | exact .inl rfl | exact .inr rfl); intro x9) | (refine' Mine.div_pow3 hk' ?_; intro x9))
  k_with "binaryOp Pow int int" => (k_here; refine' Mine.pow3 (k := k') ?wb9 hk' ?_; (case wb9 => exact Int.zero_add _))
  k_with "binaryOp Mod int int" => (k_here; first | (refine' Mine.mod4 ?_; intro x' hx0' hx4') | (refine' Mine.mod_nat ?wb9 ?_; (case wb9 => decide); intro n9 hn9))
  k_with "call ref cons nil" => (k_here; k_dflt (refine' Mine.tellsIf_at (Mine.heap_ok _ (by assumption) (Mine.size_ok (by assumption) (by assumption)) ?wa9 ?wb9) ?wB9 ?wF9 ?wX9 ?wN9 ?wT9 ?wP9 ?wk9 ?wd9 ?wu9 ?_; (case wB9 => k_asm); (case wF9 => k_asm); (case wX9 => k_asm); (case wN9 => k_asm); (case wT9 => k_asm); (case wP9 => k_asm); (case wa9 => omega); (case wb9 => omega); (case wk9 => first | exact rfl | assumption); (case wd9 => ktr_room); (case wu9 => ktr_units); k_whole); rintro v9 h' tk' ⟨F', ⟨n9, t8, rfl⟩, N'⟩)
  k_with "call ref cons nil" => (k_here; k_dflt (refine' Mine.tells_at (Mine.sq_ok _ _ _) ?wB9 ?wF9 ?wX9 ?wN9 ?wT9 ?wk9 ?wd9 ?wu9 ?_; (case wB9 => k_asm); (case wF9 => k_asm); (case wX9 => k_asm); (case wN9 => k_asm); (case wT9 => k_asm); (case wk9 => first | exact rfl | assumption); (case wd9 => ktr_room); (case wu9 => ktr_units); k_whole); rintro v9 h' tk' ⟨F', D9, r9, P9, T9, rfl, lat9, lD9, lr9, N'⟩; (k_lt lD9))
  k_with "call ref cons nil" => (k_here; k_dflt (refine' Mine.tells_at (Mine.words_ok _ lat9) ?wB9 ?wF9 ?wX9 ?wN9 ?wT9 ?wk9 ?wd9 ?wu9 ?_; (case wB9 => k_asm); (case wF9 => k_asm); (case wX9 => k_asm); (case wN9 => k_asm); (case wT9 => k_asm); (case wk9 => first | exact rfl | assumption); (case wd9 => ktr_room); (case wu9 => ktr_units); k_whole); rintro v9 h' tk' ⟨F', W9, Tw, rfl, lW9, N9⟩; (k_lt lW9); have N' := Mine.dropSq N9; clear N9)
  k_with "call ref cons nil" => (k_here; k_dflt (refine' Mine.tells_at (Mine.far_sq _ lat9 ?wa9 ?wb9) ?wB9 ?wF9 ?wX9 ?wN9 ?wT9 ?wk9 ?wd9 ?wu9 ?_; (case wB9 => k_asm); (case wF9 => k_asm); (case wX9 => k_asm); (case wN9 => k_asm); (case wT9 => k_asm); (case wa9 => omega); (case wb9 => omega); (case wk9 => first | exact rfl | assumption); (case wd9 => ktr_room); (case wu9 => ktr_units); k_whole); rintro v9 h' tk' ⟨F', rfl, N'⟩)
  k_with "call ref cons nil" => (k_here; k_dflt (have tS := Mine.lawApart (x := 51) (y := 44) (W := W9) (PP := PP) (a := Af) (by omega) (by omega) (by omega) abv'.2.2.1 (ord9 0 1 (by decide) (by decide)) (ord9 1 2 (by decide) (by decide)) (by decide)); k_dflt (have tN := Mine.toPainted (a := Af) (pa := pa) (Tp := tf) (by k_asm)); k_dflt (refine' Mine.tells_at (Mine.mixed_ok _ (g := gOf P9) (a := Af) (pa := pa) (Tp := tf) (W := W9) (PP := PP) (Tw := Tw) (base := [(51, tabObj #[]), (44, tabObj #[])]) (by omega) (Mine.gOf_lt lat9) hp9 tS) ?wB9 ?wF9 ?wX9 tN ?wT9 ?wk9 ?wd9 ?wu9 ?_; (case wB9 => k_asm); (case wF9 => k_asm); (case wX9 => k_asm); (case wT9 => k_asm); (case wk9 => first | exact rfl | assumption); (case wd9 => ktr_room); (case wu9 => ktr_units); k_whole); clear tN tS; rintro v9 h' tk' ⟨F', t9, rfl, N'⟩)
  k_with "call ref cons nil" => (k_here; k_dflt (refine' Mine.tells_at (Mine.sizes_ok _) ?wB9 ?wF9 ?wX9 (Mine.newsTail ?wN9) ?wT9 ?wk9 ?wd9 ?wu9 ?_; (case wB9 => k_asm); (case wF9 => k_asm); (case wX9 => k_asm); (case wN9 => k_asm); (case wT9 => k_asm); (case wk9 => first | exact rfl | assumption); (case wd9 => ktr_room); (case wu9 => ktr_units); k_whole); rintro v9 h' tk' ⟨F', t9, rfl, N'⟩)
  k_with "call ref cons nil" => (k_here; k_dflt (refine' Mine.tellsIf_at (Mine.id_ok _ (Mine.sizes_law lat9 hp9) (by have := Mine.told_in (gOf P9) pa 16; omega) (by have := Mine.told_in (gOf P9) pa 16; omega)) ?wB9 ?wF9 ?wX9 (Mine.newsTail (Mine.newsTail (Mine.newsTail (Mine.newsTail ?wN9)))) ?wT9 ⟨?wp9, ?wq9⟩ ?wk9 ?wd9 ?wu9 ?_; (case wB9 => k_asm); (case wF9 => k_asm); (case wX9 => k_asm); (case wN9 => k_asm); (case wT9 => k_asm); (case wp9 => k_asm); (case wq9 => k_asm); (case wk9 => first | exact rfl | assumption); (case wd9 => ktr_room); (case wu9 => ktr_units); k_whole); rintro v9 h' tk' ⟨D8, t8, t9, p8, p9, rfl, F', N'⟩)
  trivial
theorem lawx : PySem.Challenge.rw_sl0022_01.Holds := hd (by
  k_go0
  (all_goals try k_fold)
  k_steps)
end
end Mine
theorem PySem.Challenge.cw_sl0022_01_holds : PySem.Challenge.rw_sl0022_01.Holds := by
  exact Mine.lawx
