import PyProof.Rows.All
import Wide.All
import OpenK.AllK
import Wide.FinOn
import Lean
import PySem.Challenge.RW_tx0014_01
open PySem PySem.W PyProof.Rows
set_option Elab.async false
namespace Mine
section
noncomputable abbrev PW : Program := Challenge.pw_tx0014_01
noncomputable def vw : Program := view PW [0, 2, 3, 4, 5, 6, 8, 9, 11, 12, 13, 14, 15]
/-- the top's run from the booted heap, and all looks at what it leaves, as one equation -/
theorem left_of {p q : Program} {loose : List Str} {Xt : Shared → Bool} {α : Type} {Yf : Shared → α} {Ya : World → α} {N m₀ k₀ : Nat} {ann : Option Value} {H₀ : Params → Heap} {d₀ : Drawn}
    (o : ∀ w : World, (fencedOpening treeTable p w N).map (fun s => (s.heap, s.gens, s.drawn, s.toks)) = some (H₀ w.params, Array.mk [], d₀, k₀))
    (z1 : ∀ w : World, ((H₀ w.params).isNs mainGlobals && (Array.mk [] : Array GenState).size == 0) = true) (z2 : ∀ w : World, (H₀ w.params).objs.size = m₀)
    (z3 : ∀ w : World, (H₀ w.params).nsMap mainGlobals "__annotations__" = ann)
    (h : ∀ (w : World) (os : OsState), (topRun treeTable p w m₀ ann N ⟨H₀ w.params, Array.mk [], d₀, k₀, os⟩ (topStub p)).map
      (fun s => ((staticsOk (importedModules p.main.body) (H₀ w.params) s.heap && namesBound p s.heap && gensDone s && laidKept (H₀ w.params) s.heap), openSeen q loose (importedModules p.main.body) Xt true s, Yf s)) =
      some (true, openGood q loose, Ya w)) : LeftO p q loose Xt Yf Ya N := fun w => by
  obtain ⟨⟨hp, gs, d, k, os⟩, e, e'⟩ := Option.map_eq_some_iff.mp (o w)
  obtain ⟨rfl, rfl, rfl, rfl⟩ : hp = H₀ w.params ∧ gs = Array.mk [] ∧ d = d₀ ∧ k = k₀ := by simpa only [Prod.mk.injEq, Option.some.injEq] using e'
  obtain ⟨s₁, r, l⟩ := Option.map_eq_some_iff.mp (h w os)
  have l1 : (_ && _) = true := congrArg Prod.fst l
  have t : topFrom treeTable p w N ⟨H₀ w.params, Array.mk [], d, k, os⟩ = some s₁ := by
    unfold topFrom
    dsimp only
    rw [z1 w, z2 w, z3 w, r]
    show (match staticsOk (importedModules p.main.body) (H₀ w.params) s₁.heap && namesBound p s₁.heap && gensDone s₁ && laidKept (H₀ w.params) s₁.heap with | true => _ | false => _) = _
    rw [l1]
  unfold openEnds
  rw [e]
  show (topFrom treeTable p w N _).map _ = _
  rw [t]
  exact congrArg some (congrArg Prod.snd l)
set_option maxRecDepth 100000
theorem said0 : looksOpen PW = true := by
  rw [Fast.te12908688711261696721]; kernel_rfl
theorem said1 : (OpenLaw.row Challenge.rw_tx0014_01).wellSaid = true := by
  unfold OpenRow.wellSaid OpenRow.partSaid
  rw [show looksOpen (OpenRow.toRowW (OpenLaw.row Challenge.rw_tx0014_01)).prog = true from said0, Fast.te18344453789297297638, Fast.te13582783067957832011, Fast.te5318747976498570220]
  kernel_rfl
theorem law_said : OpenLaw.wellSaid Challenge.rw_tx0014_01 = true := by
  unfold OpenLaw.wellSaid
  rw [said1, Fast.te8179353310426384613, Fast.te8326940854005059898, Fast.te17119622794617984870, Fast.te10501279942588096481, Fast.te9558739934217749035, Fast.te16286561074155671207, Fast.te6984425678791042302, Fast.te10792542408131684335, Fast.te482687673346738481, Fast.te12879404354523853263]
  kernel_rfl
/-- k_head, for nothing but the written part of the heap that it lays (hd.heap_1) -/
local macro_rules
  | `(tactic| o_head $H) => `(tactic| exact (by assumption : ∀ _ : Hook, _) $H)
theorem hd (_ : Hook → (OpenLaw.row Challenge.rw_tx0014_01).Holds) : (OpenLaw.row Challenge.rw_tx0014_01).Holds := by k_head
noncomputable abbrev LS : List Str := [Str.ofString "_tuplegetter", Str.ofString "Mismatch", Str.ofString "_Mismatch"]
abbrev AS : List Addr := [2, 3, 15, 17, 18, 20, 21, 29, 31, 32, 34, 35, 36, 37, 39, 40, 42, 43, 44, 46, 47, 49, 50, 51, 53, 54, 56, 57,
  58, 59, 60, 61, 62, 65, 67, 68, 70, 71, 72, 75, 80, 81, 82, 83, 85, 86, 88, 89, 90, 92, 93, 95, 96, 97, 98,
  99, 100, 101, 103, 104, 106, 107, 108, 110, 111, 113, 114, 115, 117, 118, 120, 121, 122, 124, 125, 127, 128,
  129, 130, 131, 133, 134, 136, 137, 139, 141, 142, 143, 146, 148, 149, 151, 152, 153, 155, 156, 158, 159, 160,
  162, 163, 165, 166, 167, 169, 170, 172, 173, 174, 177, 178, 179, 181, 182, 184, 185, 186, 189, 190, 191, 194, 195]
theorem hAS : ∀ P, AS = (hd.heap_1 P).map (·.1) := fun _ => by kernel_rfl
noncomputable abbrev HK : Hook := kmHook hd.heap_1 AS hAS [161, 154]
noncomputable abbrev XT (s : Shared) : Bool := xlAt vw [] s && recOk (RowW.records (OpenRow.toRowW (OpenLaw.row Challenge.rw_tx0014_01))) s
theorem top_run (w : World) (os : OsState) : (topRun treeTable PW w 11 (some (.ref 6)) 3570 ⟨boot_heap w.params, Array.mk [], boot_drawn, boot_toks, os⟩ (topStub PW)).map
    (fun s => ((staticsOk (importedModules PW.main.body) (boot_heap w.params) s.heap && namesBound PW s.heap && gensDone s && laidKept (boot_heap w.params) s.heap), openSeen vw LS (importedModules PW.main.body) XT true s, Hook.obs HK s)) =
    some (true, openGood vw LS, Hook.val HK w) := by
  rw [Fast.te14082659384304107361, Fast.te14364793385576792824, Fast.te4187177175401517315]
  kernel_rfl
theorem left : LeftO PW vw LS XT (Hook.obs HK) (Hook.val HK) 3570 :=
  left_of (boot_open (by rfl) (by rfl) (fun _ => rfl)) (fun w => by kernel_rfl) (fun w => by kernel_rfl) (fun w => by kernel_rfl) top_run
end
theorem fill_all : (hd.heap_1 = hd.heap_1) ∧ (Challenge.rw_tx0014_01 = Challenge.rw_tx0014_01) := by k_fill; w_top off; exact ⟨rfl, rfl⟩
section
theorem sub_nil {α : Type} {l : List α} : ∀ p ∈ ([] : List α), p ∈ l := fun _ h => nomatch h
theorem sub_cons {α : Type} {a : α} {r l : List α} (h : a ∈ l) (t : ∀ p ∈ r, p ∈ l) : ∀ p ∈ a :: r, p ∈ l := fun p hp => by
  rcases List.mem_cons.mp hp with rfl | hp
  · exact h
  · exact t p hp
theorem sub_app {α : Type} {a b l : List α} (h : ∀ p ∈ a, p ∈ l) (t : ∀ p ∈ b, p ∈ l) : ∀ p ∈ a ++ b, p ∈ l := fun p hp => (List.mem_append.mp hp).elim (h p) (t p)
theorem sub_self {α : Type} {a : List α} : ∀ p ∈ a, p ∈ a := fun _ h => h
theorem sub_tail {α : Type} {b : α} {a l : List α} (h : ∀ p ∈ a, p ∈ l) : ∀ p ∈ a, p ∈ b :: l := fun p hp => .tail _ (h p hp)
theorem sub_left {α : Type} {a l r : List α} (h : ∀ p ∈ a, p ∈ l) : ∀ p ∈ a, p ∈ l ++ r := fun p hp => List.mem_append_left _ (h p hp)
theorem sub_right {α : Type} {a l r : List α} (h : ∀ p ∈ a, p ∈ r) : ∀ p ∈ a, p ∈ l ++ r := fun p hp => List.mem_append_right _ (h p hp)
end
section
open PySem PySem.Spec PySem.Calls PyProof.Rows PyProof.Rows.LCg
abbrev LoopRule (prog : Program) (w : World) (A : Around) (c : Code) (tgt : PySem.Expr) (it : Value) (env : Env) (BodyP : (Shared → Prop) → (Value → Shared → Prop) → Shared → Prop) : Prop :=
  ∀ (R : Result → Shared → Prop) (Inv : Nat → Shared → Prop),
    (∀ n s, Inv n s → wpAny (model prog w) A (pyNext it) (fun r s₁ => match r with
      | none => R (.ok .next) s₁
      | some v => wpAny (model prog w) A (letOwnedTupleGo tgt it v) (fun _ s₁' => wpAny (model prog w) A (assign tgt env v) (fun _ s₂ => BodyP (fun s₅ => ∃ m, m < n ∧ Inv m s₅) (notedBy (model prog w) A env fun e s' => R (.error e) s') s₂)
          (notedBy (model prog w) A env fun e s' => R (.error e) s') s₁') (notedBy (model prog w) A env fun e s' => R (.error e) s') s₁) (notedBy (model prog w) A env fun e s' => R (.error e) s') s) →
    ∀ n s, Inv n s → codeAny (model prog w) A c R s
section
variable {prog : Program} {w : World} {A : Around}
theorem compTurn_two0 (elt tgt iter tgt2 iter2 : PySem.Expr) (scope : Scope) (pos : Pos) (it acc : Value) (env : Env) :
    compTurn (.ListComp elt [⟨tgt, iter, [], 0⟩, ⟨tgt2, iter2, [], 0⟩] scope pos) 0 it acc env = (standAt iter.pos >>= fun _ => pyNext it >>= fun r => match r with
      | none => pure (.done .next)
      | some v => letOwnedTupleGo tgt it v >>= fun _ => assign tgt env v >>= fun _ =>
        (eval iter2 env >>= fun x => standAt iter2.pos >>= fun _ => foldedSetIterable iter2 env x >>= fun x => holding [x] (pyIter x) >>= fun i => runOwn (.compStart (.ListComp elt [⟨tgt, iter, [], 0⟩, ⟨tgt2, iter2, [], 0⟩] scope pos) 1 i acc env) env >>= fun _ => 
          again (.compLoop (.ListComp elt [⟨tgt, iter, [], 0⟩, ⟨tgt2, iter2, [], 0⟩] scope pos) 0 it acc env))) := by rfl
theorem compTurn_two1 (elt tgt iter tgt2 iter2 : PySem.Expr) (scope : Scope) (pos : Pos) (it acc : Value) (env : Env) :
    compTurn (.ListComp elt [⟨tgt, iter, [], 0⟩, ⟨tgt2, iter2, [], 0⟩] scope pos) 1 it acc env = (standAt iter2.pos >>= fun _ => pyNext it >>= fun r => match r with
      | none => pure (.done .next)
      | some v => letOwnedTupleGo tgt2 it v >>= fun _ => assign tgt2 env v >>= fun _ =>
        (eval elt env >>= fun x => call (.builtin "list.append") [acc, x] >>= fun _ => pure ()) >>= fun _ =>
          again (.compLoop (.ListComp elt [⟨tgt, iter, [], 0⟩, ⟨tgt2, iter2, [], 0⟩] scope pos) 1 it acc env)) := by rfl
end
section
variable {prog : Program} {w : World} {A : Around}
abbrev BodyE (prog : Program) (w : World) (A : Around) (ifs : List PySem.Expr) (elt : PySem.Expr) (acc : Value) (env : Env) (P : Shared → Prop) (E : Value → Shared → Prop) (s : Shared) : Prop :=
  wpAny (model prog w) A (forIn ifs true fun c r => if r = true then do let ok ← isTrue c env (eval c env); pure (ForInStep.yield ok) else pure (ForInStep.yield r)) (fun ok s₃ =>
    if ok = true then wpAny (model prog w) A (eval elt env) (fun x s₄ => wpAny (model prog w) A (call (.builtin "list.append") [acc, x]) (fun _ s₅ => P s₅) E s₄) E s₃ else P s₃) E s
abbrev BodyI (prog : Program) (w : World) (A : Around) (elt : PySem.Expr) (acc : Value) (env : Env) (P : Shared → Prop) (E : Value → Shared → Prop) (s : Shared) : Prop :=
  wpAny (model prog w) A (eval elt env) (fun x s₄ => wpAny (model prog w) A (call (.builtin "list.append") [acc, x]) (fun _ s₅ => P s₅) E s₄) E s
abbrev BodyN (prog : Program) (w : World) (A : Around) (e : PySem.Expr) (iter2 : PySem.Expr) (acc : Value) (env : Env) (P : Shared → Prop) (E : Value → Shared → Prop) (s : Shared) : Prop :=
  wpAny (model prog w) A (eval iter2 env) (fun x s₁ => wpAny (model prog w) A (pyIter x) (fun i s₂ =>
    codeAny (model prog w) A (.compStart e 1 i acc env) (fun r s₃ => r = .ok .next ∧ P s₃) s₂) E s₁) E s
theorem loop_one {elt tgt iter : PySem.Expr} {ifs : List PySem.Expr} {scope : Scope} {pos : Pos} {it acc : Value} {env : Env} :
    LoopRule prog w A (.compLoop (.ListComp elt [⟨tgt, iter, ifs, 0⟩] scope pos) 0 it acc env) tgt it env (BodyE prog w A ifs elt acc env) := by
  intro R Inv turn n s h
  refine codeAny_loop rfl Inv (fun n s hI => ?_) n h
  show wpAny _ A ((compTurn (.ListComp elt [⟨tgt, iter, ifs, 0⟩] scope pos) 0 it acc env).onRaise (fun x => do noteFrame x env; theTreesLotGoes x)) _ _ s
  refine wpAny_noted ?_
  rw [compTurn_list]
  refine wpAny_bind (wpAny_standAt (wpAny_bind (wpAny_mono (turn n s hI) (fun r s₁ h₁ => ?_) fun _ _ h' => h')))
  cases r with
  | none => exact wpAny_pure h₁
  | some v =>
    refine wpAny_bind (wpAny_mono h₁ (fun _ s₁' h₁' => ?_) fun _ _ h' => h')
    refine wpAny_bind (wpAny_mono h₁' (fun _ s₂ h₂ => wpAny_bind (wpAny_mono h₂ (fun ok s₃ h₃ => ?_) fun _ _ h' => h')) fun _ _ h' => h')
    cases ok with
    | false => exact wpAny_pure ⟨rfl, h₃⟩
    | true =>
      exact wpAny_bind (wpAny_bind (wpAny_mono h₃ (fun x s₄ h₄ => wpAny_bind (wpAny_mono h₄ (fun _ s₅ h₅ => wpAny_pure (wpAny_pure ⟨rfl, h₅⟩)) fun _ _ h' => h')) fun _ _ h' => h'))
theorem loop_in {elt tgt iter tgt2 iter2 : PySem.Expr} {scope : Scope} {pos : Pos} {it acc : Value} {env : Env} :
    LoopRule prog w A (.compLoop (.ListComp elt [⟨tgt, iter, [], 0⟩, ⟨tgt2, iter2, [], 0⟩] scope pos) 1 it acc env) tgt2 it env (BodyI prog w A elt acc env) := by
  intro R Inv turn n s h
  refine codeAny_loop rfl Inv (fun n s hI => ?_) n h
  show wpAny _ A ((compTurn (.ListComp elt [⟨tgt, iter, [], 0⟩, ⟨tgt2, iter2, [], 0⟩] scope pos) 1 it acc env).onRaise (fun x => do noteFrame x env; theTreesLotGoes x)) _ _ s
  refine wpAny_noted ?_
  rw [compTurn_two1]
  refine wpAny_bind (wpAny_standAt (wpAny_bind (wpAny_mono (turn n s hI) (fun r s₁ h₁ => ?_) fun _ _ h' => h')))
  cases r with
  | none => exact wpAny_pure h₁
  | some v =>
    refine wpAny_bind (wpAny_mono h₁ (fun _ s₁' h₁' => ?_) fun _ _ h' => h')
    refine wpAny_bind (wpAny_mono h₁' (fun _ s₂ h₂ => ?_) fun _ _ h' => h')
    refine wpAny_bind (wpAny_bind ?_)
    exact wpAny_mono h₂ (fun x s₄ h₄ => wpAny_bind (wpAny_mono h₄ (fun _ s₅ h₅ => wpAny_pure (wpAny_pure ⟨rfl, h₅⟩)) fun _ _ h' => h')) fun _ _ h' => h'
theorem loop_out {elt tgt iter tgt2 iter2 : PySem.Expr} {scope : Scope} {pos : Pos} {it acc : Value} {env : Env} (hs : ∀ x, foldedSetIterable iter2 env x = pure x) (hh : A.handled = none) :
    LoopRule prog w A (.compLoop (.ListComp elt [⟨tgt, iter, [], 0⟩, ⟨tgt2, iter2, [], 0⟩] scope pos) 0 it acc env) tgt it env (BodyN prog w A (.ListComp elt [⟨tgt, iter, [], 0⟩, ⟨tgt2, iter2, [], 0⟩] scope pos) iter2 acc env) := by
  intro R Inv turn n s h
  refine codeAny_loop rfl Inv (fun n s hI => ?_) n h
  show wpAny _ A ((compTurn (.ListComp elt [⟨tgt, iter, [], 0⟩, ⟨tgt2, iter2, [], 0⟩] scope pos) 0 it acc env).onRaise (fun x => do noteFrame x env; theTreesLotGoes x)) _ _ s
  refine wpAny_noted ?_
  rw [compTurn_two0]
  refine wpAny_bind (wpAny_standAt (wpAny_bind (wpAny_mono (turn n s hI) (fun r s₁ h₁ => ?_) fun _ _ h' => h')))
  cases r with
  | none => exact wpAny_pure h₁
  | some v =>
    refine wpAny_bind (wpAny_mono h₁ (fun _ s₁' h₁' => ?_) fun _ _ h' => h')
    refine wpAny_bind (wpAny_mono h₁' (fun _ s₂ h₂ => ?_) fun _ _ h' => h')
    refine wpAny_bind (wpAny_mono h₂ (fun x s₃ h₃ => ?_) fun _ _ h' => h')
    refine wpAny_bind (wpAny_standAt (wpAny_bind (wpAny_of_eq (hs x) (wpAny_bind (wpAny_holding (wpAny_mono h₃ (fun i s₄ h₄ => ?_) fun _ _ h' => h'))))))
    refine wpAny_bind (wpAny_runOwn (codeAny_mono h₄ fun r s₅ h₅ => ?_))
    obtain ⟨rfl, h₅⟩ := h₅
    exact wpAny_pure ⟨rfl, h₅⟩
end

structure Src (prog : Program) (w : World) (A : Around) (tgt : PySem.Expr) (scope : Scope) (cl : List (Str × Addr)) (env : Env) (I : Addr) (fp wr : List Addr) (n : Nat) (T : Nat → (Str → Option Value) → (Str → Option Value) → Heap → Prop) (St : Nat → Heap → Prop) : Prop where
  sub : ∀ b ∈ wr, b ∈ fp
  frame : ∀ i h h', St i h → (∀ b ∈ fp, ∀ o, h.get? b = some o → h'.get? b = some o) → St i h'
  has : ∀ i h, St i h → ∀ b ∈ wr, ∃ o, h.get? b = some o
  item : ∀ i (s : Shared) (C : Addr) (m₁ : Str → Option Value) (Q : Unit → Shared → Prop) (E : Value → Shared → Prop), i < n → St i s.heap → s.heap.Ns C m₁ → C ∉ fp →
    (∀ h' tk m₂, T i m₁ m₂ h' → h'.Ns C m₂ → St (i + 1) h' → (∀ b o, b ∉ wr → b ≠ C → s.heap.get? b = some o → h'.get? b = some o) → Q () { s with heap := h', toks := tk }) →
    wpAny (model prog w) A (pyNext (.ref I)) (fun r s₁ => ∃ v, r = some v ∧ wpAny (model prog w) A (letOwnedTupleGo tgt (.ref I) v) (fun _ s₂ => wpAny (model prog w) A (assign tgt (compEnvC scope cl C env) v) Q E s₂) E s₁) E s
  done : ∀ (s : Shared) (Q : Option Value → Shared → Prop) (E : Value → Shared → Prop), St n s.heap →
    (∀ h' tk, (∀ b o, b ∉ wr → s.heap.get? b = some o → h'.get? b = some o) → Q none { s with heap := h', toks := tk }) → wpAny (model prog w) A (pyNext (.ref I)) Q E s
  self : ∀ i (s : Shared) (Q : Value → Shared → Prop) (E : Value → Shared → Prop), St i s.heap → Q (.ref I) s → wpAny (model prog w) A (pyIter (.ref I)) Q E s

def Apart (C D : Addr) (wr : List Addr) (nx : List (Addr × Obj)) : Prop := ∀ q ∈ nx, q.1 ≠ C ∧ q.1 ≠ D ∧ q.1 ∉ wr
def CEnd (K : (Str → Option Value) → Prop) (h₀ : Heap) (L : Addr) (m : Str → Option Value) (s₁ : Shared) (own : List (Addr × Obj)) (C D : Addr) (wr : List Addr) (J : List Value → List (Addr × Obj) → Prop) (s₂ : Shared) : Prop :=
  ∃ h' tk oC m₂ ys nx, s₂ = { s₁ with heap := h', toks := tk } ∧ Fr h₀ L h' m ∧ News h₀ L h' (own ++ (C, oC) :: (D, lst ys) :: nx) ∧ NsObj oC m₂ ∧ K m₂ ∧ Apart C D wr nx ∧ J ys nx
theorem CEnd.intro {K : (Str → Option Value) → Prop} {h₀ : Heap} {L : Addr} {m : Str → Option Value} {s₁ : Shared} {own : List (Addr × Obj)} {C D : Addr} {wr : List Addr} {J : List Value → List (Addr × Obj) → Prop} {h' : Heap} {tk : Nat} {oC : Obj} {m₂ : Str → Option Value} {ys : List Value} {all : List (Addr × Obj)} (nx : List (Addr × Obj))
    (F : Fr h₀ L h' m) (N : News h₀ L h' all) (sub : ∀ p ∈ own ++ (C, oC) :: (D, lst ys) :: nx, p ∈ all) (hC : NsObj oC m₂) (hK : K m₂) (off : Apart C D wr nx) (hJ : J ys nx) : CEnd K h₀ L m s₁ own C D wr J { s₁ with heap := h', toks := tk } :=
  ⟨h', tk, oC, m₂, ys, nx, rfl, F, fun p hp => N p (sub p hp), hC, hK, off, hJ⟩

section
variable {prog : Program} {w : World} {A : Around} {s : Shared} {h₀ : Heap} {L : Addr} {m : Str → Option Value} {env : Env} {K : (Str → Option Value) → Prop}
theorem comp_core {c : Code} {tgt : PySem.Expr} {scope : Scope} {cl : List (Str × Addr)} {I C D : Addr} {fp wr : List Addr} {n : Nat} {T : Nat → (Str → Option Value) → (Str → Option Value) → Heap → Prop} {St : Nat → Heap → Prop} {BodyP : (Shared → Prop) → (Value → Shared → Prop) → Shared → Prop} {R : Result → Shared → Prop}
    {oC : Obj} {m₁ : Str → Option Value} {ys₀ : List Value} {nx₀ : List (Addr × Obj)} (J : Nat → List Value → List (Addr × Obj) → Prop)
    (LR : LoopRule prog w A c tgt (.ref I) (compEnvC scope cl C env) BodyP) (mono : ∀ P P' E s, BodyP P E s → (∀ s', P s' → P' s') → BodyP P' E s) (S : Src prog w A tgt scope cl env I fp wr n T St)
    (F : Fr h₀ L s.heap m) (N : News h₀ L s.heap ((C, oC) :: (D, lst ys₀) :: nx₀)) (hoC : NsObj oC m₁) (hK : K m₁) (hCD : C ≠ D) (off : Apart C D wr nx₀) (hLf : L ∉ fp) (hwr : ∀ b ∈ wr, h₀.get? b = none) (hCf : C ∉ fp) (hDf : D ∉ fp) (hst : St 0 s.heap) (hJ : J 0 ys₀ nx₀)
    (turn : ∀ i ys m₁ m₂ oC nx h tk own E', i < n → J i ys nx → K m₁ → T i m₁ m₂ h → NsObj oC m₂ → (∀ b ∈ fp, ∀ o, h.get? b = some o → h₀.get? b = none → (b, o) ∈ own) → (∀ b ∈ wr, ∃ o, (b, o) ∈ own) → (∀ p ∈ own, p.1 ∈ fp) → Apart C D wr nx → Fr h₀ L h m → News h₀ L h (own ++ (C, oC) :: (D, lst ys) :: nx) →
      BodyP (CEnd K h₀ L m { s with heap := h, toks := tk } own C D wr (J (i + 1))) E' { s with heap := h, toks := tk })
    (done : ∀ ys oC m₂ nx h tk, J n ys nx → Apart C D wr nx → NsObj oC m₂ → K m₂ → Fr h₀ L h m → News h₀ L h ((C, oC) :: (D, lst ys) :: nx) → R (.ok .next) { s with heap := h, toks := tk }) :
    codeAny (model prog w) A c R s := by
  have hCw : C ∉ wr := fun h => hCf (S.sub _ h)
  have hDw : D ∉ wr := fun h => hDf (S.sub _ h)
  have hLw : L ∉ wr := fun h => hLf (S.sub _ h)
  have hCL : C ≠ L := (N _ (.head _)).2.1
  have hC₀ : h₀.get? C = none := (N _ (.head _)).2.2
  refine LR R (fun k s' => ∃ h' tk i ys oC m₁ nx, s' = { s with heap := h', toks := tk } ∧ St i h' ∧ Fr h₀ L h' m ∧ News h₀ L h' ((C, oC) :: (D, lst ys) :: nx) ∧ NsObj oC m₁ ∧ K m₁ ∧ Apart C D wr nx ∧ J i ys nx ∧ i ≤ n ∧ k = n + 1 - i) ?_ (n + 1) s
    ⟨s.heap, s.toks, 0, ys₀, oC, m₁, nx₀, rfl, hst, F, N, hoC, hK, off, hJ, Nat.zero_le _, rfl⟩
  rintro k s' ⟨h', tk, i, ys, oC', m', nx, rfl, hst', F', N', hoC', hK', off', hJ', hi, rfl⟩
  by_cases hlt : i < n
  · refine wpAny_mono (S.item i _ C m' ?QQ _ hlt hst' (hoC'.ns (N' _ (.head _)).1) hCf (fun h₂ tk₂ m₂ hT hn₂ hst₂ hk₂ => ?_)) (fun r s₁ hr => ?_) fun _ _ e => e
    rotate_left 2
    · obtain ⟨v, rfl, hr⟩ := hr
      exact hr
    · obtain ⟨oC₂, heC, hoC₂⟩ := ns_obj hn₂
      have F₂ : Fr h₀ L h₂ m := ⟨F'.ns.at' fun o e => hk₂ L o hLw (Ne.symm hCL) e, fun b o e => hk₂ b o (fun hb => by rw [hwr b hb] at e; cases e) (fun hb => by rw [hb, hC₀] at e; cases e) (F'.keep b o e), F'.above⟩
      have N₂ : News h₀ L h₂ (ownOf h₀ fp h₂ ++ (C, oC₂) :: (D, lst ys) :: nx) := by
        intro p hp
        rcases List.mem_append.mp hp with hp | hp
        · exact news_ownOf hLf p hp
        · rcases List.mem_cons.mp hp with rfl | hp
          · exact ⟨heC, hCL, hC₀⟩
          · have z := N' p (List.mem_cons_of_mem _ hp)
            refine ⟨hk₂ _ _ ?_ ?_ z.1, z.2⟩
            · rcases List.mem_cons.mp hp with rfl | hp
              · exact hDw
              · exact (off' p hp).2.2
            · rcases List.mem_cons.mp hp with rfl | hp
              · exact Ne.symm hCD
              · exact (off' p hp).1
      refine mono _ _ _ _ (turn i ys m' m₂ oC₂ nx h₂ tk₂ (ownOf h₀ fp h₂) _ hlt hJ' hK' hT hoC₂ (fun b hb o ho h0 => mem_ownOf hb h0 ho) (fun b hb => ?_) (fun p hp => ?_) off' F₂ N₂) (fun s₃ h₃ => ?_)
      · obtain ⟨o, ho⟩ := S.has _ _ hst₂ b hb
        exact ⟨o, mem_ownOf (S.sub b hb) (hwr b hb) ho⟩
      · obtain ⟨b, hb, e⟩ := List.mem_filterMap.mp hp
        cases hn : h₀.get? b with
        | some x => simp [hn] at e
        | none =>
          cases ho : h₂.get? b with
          | none => simp [hn, ho] at e
          | some o =>
            have : p = (b, o) := by simpa [hn, ho] using e.symm
            subst this; exact hb
      · obtain ⟨h₃', tk₃, oC₃, m₃, ys₃, nx₃, rfl, F₃, N₃, hoC₃, hK₃, off₃, hJ₃⟩ := h₃
        refine ⟨n + 1 - (i + 1), by omega, h₃', tk₃, i + 1, ys₃, oC₃, m₃, nx₃, rfl, ?_, F₃, N₃.right, hoC₃, hK₃, off₃, hJ₃, hlt, rfl⟩
        refine S.frame _ _ _ hst₂ fun b hb o e => ?_
        cases hn : h₀.get? b with
        | some o₀ =>
          have : o₀ = o := by have := F₂.keep b o₀ hn; rw [e] at this; exact (Option.some.inj this).symm
          exact this ▸ F₃.keep b o₀ hn
        | none => exact (N₃ _ (List.mem_append_left _ (mem_ownOf hb hn e))).1
  · have hin : i = n := by omega
    subst hin
    refine S.done _ _ _ hst' fun h₁ tk₁ hk₁ => ?_
    refine done ys oC' m' nx h₁ tk₁ hJ' off' hoC' hK' ⟨F'.ns.at' fun o e => hk₁ L o hLw e, fun b o e => hk₁ b o (fun hb => by rw [hwr b hb] at e; cases e) (F'.keep b o e), F'.above⟩ fun p hp => ⟨hk₁ _ _ ?_ (N' p hp).1, (N' p hp).2⟩
    rcases List.mem_cons.mp hp with rfl | hp
    · exact hCw
    · rcases List.mem_cons.mp hp with rfl | hp
      · exact hDw
      · exact (off' p hp).2.2
theorem mono_BodyE {ifs : List PySem.Expr} {elt : PySem.Expr} {acc : Value} {env : Env} : ∀ P P' E s, BodyE prog w A ifs elt acc env P E s → (∀ s', P s' → P' s') → BodyE prog w A ifs elt acc env P' E s := by
  intro P P' E s h hp
  refine wpAny_mono h (fun ok s₃ h₃ => ?_) fun _ _ e => e
  cases ok with
  | false => simp only [Bool.false_eq_true, if_false] at h₃ ⊢; exact hp _ h₃
  | true => simp only [if_true] at h₃ ⊢; exact wpAny_mono h₃ (fun x s₄ h₄ => wpAny_mono h₄ (fun _ s₅ h₅ => hp _ h₅) fun _ _ e => e) fun _ _ e => e
theorem mono_BodyI {elt : PySem.Expr} {acc : Value} {env : Env} : ∀ P P' E s, BodyI prog w A elt acc env P E s → (∀ s', P s' → P' s') → BodyI prog w A elt acc env P' E s := by
  intro P P' E s h hp
  exact wpAny_mono h (fun x s₄ h₄ => wpAny_mono h₄ (fun _ s₅ h₅ => hp _ h₅) fun _ _ e => e) fun _ _ e => e
theorem mono_BodyN {e iter2 : PySem.Expr} {acc : Value} {env : Env} : ∀ P P' E s, BodyN prog w A e iter2 acc env P E s → (∀ s', P s' → P' s') → BodyN prog w A e iter2 acc env P' E s := by
  intro P P' E s h hp
  exact wpAny_mono h (fun x s₄ h₄ => wpAny_mono h₄ (fun _ s₅ h₅ => codeAny_mono h₅ fun r s₆ h₆ => ⟨h₆.1, hp _ h₆.2⟩) fun _ _ e => e) fun _ _ e => e
end
def CEndY (K : (Str → Option Value) → Prop) (h₀ : Heap) (L : Addr) (m : Str → Option Value) (s₁ : Shared) (own : List (Addr × Obj)) (C D : Addr) (wr : List Addr) (ys : List Value) (J : List Value → List (Addr × Obj) → Prop) (y : Value) (s₂ : Shared) : Prop :=
  ∃ h' tk oC m₂ nx, s₂ = { s₁ with heap := h', toks := tk } ∧ Fr h₀ L h' m ∧ News h₀ L h' (own ++ (C, oC) :: (D, lst ys) :: nx) ∧ NsObj oC m₂ ∧ K m₂ ∧ Apart C D wr nx ∧ J (ys ++ [y]) nx
theorem CEndY.intro {K : (Str → Option Value) → Prop} {h₀ : Heap} {L : Addr} {m : Str → Option Value} {s₁ : Shared} {own : List (Addr × Obj)} {C D : Addr} {wr : List Addr} {ys : List Value} {J : List Value → List (Addr × Obj) → Prop} {y : Value} {h' : Heap} {tk : Nat} {oC : Obj} {m₂ : Str → Option Value} {all : List (Addr × Obj)} (nx : List (Addr × Obj))
    (F : Fr h₀ L h' m) (N : News h₀ L h' all) (sub : ∀ p ∈ own ++ (C, oC) :: (D, lst ys) :: nx, p ∈ all) (hC : NsObj oC m₂) (hK : K m₂) (off : Apart C D wr nx) (hJ : J (ys ++ [y]) nx) : CEndY K h₀ L m s₁ own C D wr ys J y { s₁ with heap := h', toks := tk } :=
  ⟨h', tk, oC, m₂, nx, rfl, F, fun p hp => N p (sub p hp), hC, hK, off, hJ⟩
def CPost (h₀ : Heap) (L : Addr) (m : Str → Option Value) (s₂ : Shared) (C D : Addr) (Fin : List Value → List (Addr × Obj) → Prop) (r : Result) (s' : Shared) : Prop :=
  r = .ok .next ∧ ∃ h' tk ys oC m₂ nx, s' = { s₂ with heap := h', toks := tk } ∧ Fr h₀ L h' m ∧ News h₀ L h' ((C, oC) :: (D, lst ys) :: nx) ∧ NsObj oC m₂ ∧ (∀ q ∈ nx, q.1 ≠ C ∧ q.1 ≠ D) ∧ Fin ys nx
theorem CPost.intro {h₀ : Heap} {L : Addr} {m : Str → Option Value} {s₂ : Shared} {C D : Addr} {Fin : List Value → List (Addr × Obj) → Prop} {h' : Heap} {tk : Nat} {ys : List Value} {oC : Obj} {m₂ : Str → Option Value} {nx : List (Addr × Obj)}
    (F : Fr h₀ L h' m) (N : News h₀ L h' ((C, oC) :: (D, lst ys) :: nx)) (hC : NsObj oC m₂) (off : ∀ q ∈ nx, q.1 ≠ C ∧ q.1 ≠ D) (fin : Fin ys nx) : CPost h₀ L m s₂ C D Fin (.ok .next) { s₂ with heap := h', toks := tk } :=
  ⟨rfl, h', tk, ys, oC, m₂, nx, rfl, F, N, hC, off, fin⟩
section
variable {prog : Program} {w : World} {A : Around} {s : Shared} {h₀ : Heap} {L : Addr} {m : Str → Option Value} {env : Env} {K : (Str → Option Value) → Prop} {E : Value → Shared → Prop}
theorem emit_at {C D : Addr} {wr : List Addr} {own : List (Addr × Obj)} {ys : List Value} {J : List Value → List (Addr × Obj) → Prop} {s₁ : Shared} (hle : ys.length ≤ sizeLine) (own_off : ∀ p ∈ own, p.1 ≠ D) (hCD : C ≠ D) {y : Value} (h : CEndY K h₀ L m s₁ own C D wr ys J y s) :
    wpAny (model prog w) A (call (.builtin "list.append") [.ref D, y]) (fun _ s₅ => CEnd K h₀ L m s₁ own C D wr J s₅) E s := by
  obtain ⟨h', tk, oC, m₂, nx, rfl, F, N, hC, hK, off, hJ⟩ := h
  have z := N (D, lst ys) (List.mem_append_right _ (.tail _ (.head _)))
  refine append_at (hsz := by show ys.toArray.size ≤ sizeLine; rw [List.size_toArray]; exact hle) z.1 fun h₅ hs₅ hD₅ => ?_
  refine ⟨h₅, tk, oC, m₂, ys ++ [y], nx, rfl, F.change hs₅ z.2.1 z.2.2, fun p hp => ?_, hC, hK, off, hJ⟩
  have keep : ∀ q ∈ own ++ (C, oC) :: nx, News h₀ L h₅ [q] := fun q hq => by
    have hq' : q ∈ own ++ (C, oC) :: (D, lst ys) :: nx := by
      rcases List.mem_append.mp hq with h | h
      · exact List.mem_append_left _ h
      · rcases List.mem_cons.mp h with rfl | h
        · exact List.mem_append_right _ (.head _)
        · exact List.mem_append_right _ (.tail _ (.tail _ h))
    have zq := N q hq'
    intro p hp
    rw [List.mem_singleton] at hp; subst hp
    refine ⟨hs₅.extBut _ _ ?_ zq.1, zq.2⟩
    rcases List.mem_append.mp hq with h | h
    · exact own_off _ h
    · rcases List.mem_cons.mp h with rfl | h
      · exact hCD
      · exact (off _ h).2.1
  rcases List.mem_append.mp hp with hp | hp
  · exact keep p (List.mem_append_left _ hp) p (.head _)
  · rcases List.mem_cons.mp hp with rfl | hp
    · exact keep _ (List.mem_append_right _ (.head _)) _ (.head _)
    · rcases List.mem_cons.mp hp with rfl | hp
      · exact ⟨hD₅.trans (congrArg some (lst_snoc ys y)), z.2⟩
      · exact keep p (List.mem_append_right _ (.tail _ hp)) p (.head _)
theorem emit_I {elt : PySem.Expr} {C D : Addr} {wr : List Addr} {own : List (Addr × Obj)} {ys : List Value} {J : List Value → List (Addr × Obj) → Prop} {s₁ : Shared} {cenv : Env} (hle : ys.length ≤ sizeLine) (own_off : ∀ p ∈ own, p.1 ≠ D) (hCD : C ≠ D)
    (h : wpAny (model prog w) A (eval elt cenv) (CEndY K h₀ L m s₁ own C D wr ys J) E s) : BodyI prog w A elt (.ref D) cenv (CEnd K h₀ L m s₁ own C D wr J) E s :=
  wpAny_mono h (fun _ _ hy => emit_at hle own_off hCD hy) fun _ _ e => e
theorem emit_0 {elt : PySem.Expr} {C D : Addr} {wr : List Addr} {own : List (Addr × Obj)} {ys : List Value} {J : List Value → List (Addr × Obj) → Prop} {s₁ : Shared} {cenv : Env} (hle : ys.length ≤ sizeLine) (own_off : ∀ p ∈ own, p.1 ≠ D) (hCD : C ≠ D)
    (h : wpAny (model prog w) A (eval elt cenv) (CEndY K h₀ L m s₁ own C D wr ys J) E s) : BodyE prog w A [] elt (.ref D) cenv (CEnd K h₀ L m s₁ own C D wr J) E s :=
  wpAny_tests_nil (by simp only [if_true]; exact wpAny_mono h (fun _ _ hy => emit_at hle own_off hCD hy) fun _ _ e => e)
theorem emit_1 {ct elt : PySem.Expr} {C D : Addr} {wr : List Addr} {own : List (Addr × Obj)} {ys : List Value} {J : List Value → List (Addr × Obj) → Prop} {s₁ : Shared} {cenv : Env} (hle : ys.length ≤ sizeLine) (own_off : ∀ p ∈ own, p.1 ≠ D) (hCD : C ≠ D)
    (h : wpAny (model prog w) A (isTrue ct cenv (eval ct cenv)) (fun ok s₂ => if ok = true then wpAny (model prog w) A (eval elt cenv) (CEndY K h₀ L m s₁ own C D wr ys J) E s₂ else CEnd K h₀ L m s₁ own C D wr J s₂) E s) : BodyE prog w A [ct] elt (.ref D) cenv (CEnd K h₀ L m s₁ own C D wr J) E s :=
  wpAny_tests_one (wpAny_mono h (fun ok s₂ h₂ => by
    cases ok with
    | false => simp only [Bool.false_eq_true, if_false] at h₂ ⊢; exact h₂
    | true => simp only [if_true] at h₂ ⊢; exact wpAny_mono h₂ (fun _ _ hy => emit_at hle own_off hCD hy) fun _ _ e => e) fun _ _ e => e)

def CStart (prog : Program) (w : World) (A : Around) (h₀ : Heap) (L : Addr) (elt : PySem.Expr) (gens : List Comprehension) (scope : Scope) (pos : Pos) (cl : List (Str × Addr)) (env : Env) (Fin : Shared → Addr → (Str → Option Value) → List Value → List (Addr × Obj) → Prop) (it : Value) (s₂ : Shared) : Prop :=
  ∃ I m news, it = .ref I ∧ Fr h₀ L s₂.heap m ∧ News h₀ L s₂.heap news ∧
    (∀ s' (Q : Value → Shared → Prop) (E : Value → Shared → Prop), (∀ b o, s₂.heap.get? b = some o → s'.heap.get? b = some o) → Q (.ref I) s' → wpAny (model prog w) A (pyIter (.ref I)) Q E s') ∧
    ∀ C D oC h tk, (∀ b o, s₂.heap.get? b = some o → b < C ∧ b < D) → C ≠ D → NsObj oC (fun _ => none) → (∀ b o, s₂.heap.get? b = some o → h.get? b = some o) → Fr h₀ L h m → News h₀ L h ((C, oC) :: (D, lst []) :: news) →
      codeAny (model prog w) A (.compLoop (.ListComp elt gens scope pos) 0 (.ref I) (.ref D) (compEnvC scope cl C env)) (CPost h₀ L m s₂ C D (Fin s₂ D m)) { s₂ with heap := h, toks := tk }
def FinX (h₀ : Heap) (L : Addr) (Q : Value → Shared → Prop) (s₂ : Shared) (D : Addr) (m : Str → Option Value) (ys : List Value) (nx : List (Addr × Obj)) : Prop :=
  ∀ h tk, Fr h₀ L h m → News h₀ L h ((D, lst ys) :: nx) → (∀ q ∈ nx, q.1 ≠ D) → Q (.ref D) { s₂ with heap := h, toks := tk }
def FinS (h₀ : Heap) (L : Addr) (y : Str) (Q : Flow → Shared → Prop) (s₂ : Shared) (D : Addr) (m : Str → Option Value) (ys : List Value) (nx : List (Addr × Obj)) : Prop :=
  ∀ h tk, Fr h₀ L h (fun z => if z = y then some (.ref D) else m z) → News h₀ L h ((D, lst ys) :: nx) → (∀ q ∈ nx, q.1 ≠ D) → Q .next { s₂ with heap := h, toks := tk }

theorem comp_block {elt target iter : PySem.Expr} {ifs : List PySem.Expr} {gs : List Comprehension} {scope : Scope} {cl : List (Str × Addr)} {pos : Pos} {it : Value} {s₂ : Shared} {Fin : Shared → Addr → (Str → Option Value) → List Value → List (Addr × Obj) → Prop} {RR : Value → Addr → Result → Shared → Prop}
    (hcell : ∀ y ∈ scope.names, y.2 ≠ .cell) (hkind : scope.kind = .function)
    (h : CStart prog w A h₀ L elt (⟨target, iter, ifs, 0⟩ :: gs) scope pos cl env Fin it s₂)
    (hRR : ∀ D C oC m m₂ h' tk ys nx, Fr h₀ L h' m → News h₀ L h' ((C, oC) :: (D, lst ys) :: nx) → NsObj oC m₂ → C ≠ D → (∀ q ∈ nx, q.1 ≠ C ∧ q.1 ≠ D) → Fin s₂ D m ys nx → RR (.ref D) C (.ok .next) { s₂ with heap := h', toks := tk }) :
    wpAny (model prog w) A (newList []) (fun acc s₃ => wpAny (model prog w) A (newFunctionEnv scope env.globals cl [] env.qual none .none (some env)) (fun cenv s₄ =>
      codeAny (model prog w) A (.compStart (.ListComp elt (⟨target, iter, ifs, 0⟩ :: gs) scope pos) 0 it acc { cenv with scope := relabel scope env }) (RR acc cenv.locals) s₄) E s₃) E s₂ := by
  obtain ⟨I, m, news, rfl, F, N, self, run⟩ := h
  refine wpAny_newObj_type (wpAny_newFunctionEnv hcell (by intro y hy; simp at hy) (fun h₁ hns₁ hsb₁ => ?_) hkind)
  dsimp only at hns₁ hsb₁ ⊢
  generalize hH2 : s₂.heap.push { cls := .type "list", dict := none, data := .seq ([] : List Value).toArray } = H2 at hns₁ hsb₁ ⊢
  have hC : H2.objs.size = s₂.heap.objs.size + 1 := by rw [← hH2, Heap.size_push]
  have hDC : s₂.heap.objs.size ≠ H2.objs.size := by rw [hC]; exact Nat.ne_of_lt (Nat.lt_succ_self _)
  have below : ∀ b, b < s₂.heap.objs.size → b ≠ H2.objs.size ∧ b ≠ s₂.heap.objs.size := fun b hb => ⟨by rw [hC]; exact Nat.ne_of_lt (Nat.lt_succ_of_lt hb), Nat.ne_of_lt hb⟩
  have old : ∀ b o, s₂.heap.get? b = some o → h₁.get? b = some o := fun b o e => hsb₁.extBut b o (below b (Heap.lt_size e)).1 (Heap.get?_push_of_some _ (hH2 ▸ Heap.get?_push_of_some _ e))
  have hacc : h₁.get? s₂.heap.objs.size = some (lst []) := hsb₁.extBut _ _ hDC (Heap.get?_push_of_some _ (hH2 ▸ Heap.get?_push_size _ rfl))
  have fresh : ∀ a, s₂.heap.objs.size ≤ a → s₂.heap.get? a = none := fun a ha => by
    cases e : s₂.heap.get? a with
    | none => rfl
    | some o' => exact absurd (Heap.lt_size e) (Nat.not_lt.mpr ha)
  have fresh₀ : ∀ a, s₂.heap.objs.size ≤ a → h₀.get? a = none := fun a ha => by
    cases e : h₀.get? a with
    | none => rfl
    | some o' => have := F.keep a o' e; rw [fresh a ha] at this; cases this
  have hD₀ : h₀.get? s₂.heap.objs.size = none := fresh₀ _ (Nat.le_refl _)
  have hC₀ : h₀.get? H2.objs.size = none := fresh₀ _ (by rw [hC]; exact Nat.le_succ _)
  have hLlt : L < s₂.heap.objs.size := F.ns.lt
  have hDL : s₂.heap.objs.size ≠ L := Ne.symm (below L hLlt).2
  have hCL : H2.objs.size ≠ L := Ne.symm (below L hLlt).1
  obtain ⟨oC, heC, hoC⟩ := ns_obj hns₁
  have N₁ : News h₀ L h₁ ((H2.objs.size, oC) :: (s₂.heap.objs.size, lst []) :: news) := fun p hp => by
    rcases List.mem_cons.mp hp with rfl | hp
    · exact ⟨heC, hCL, hC₀⟩
    · rcases List.mem_cons.mp hp with rfl | hp
      · exact ⟨hacc, hDL, hD₀⟩
      · exact ⟨old _ _ (N p hp).1, (N p hp).2⟩
  have loop : ∀ s₃ : Shared, s₃ = { s₂ with heap := h₁, toks := s₂.toks + ([] : List (Str × Value)).length } →
      codeAny (model prog w) A (.compLoop (.ListComp elt (⟨target, iter, ifs, 0⟩ :: gs) scope pos) 0 (.ref I) (.ref s₂.heap.objs.size) (compEnvC scope cl H2.objs.size env))
        (RR (.ref s₂.heap.objs.size) H2.objs.size) s₃ := by
    rintro s₃ rfl
    refine codeAny_mono (run H2.objs.size s₂.heap.objs.size oC h₁ _ (fun b o e => ⟨by rw [hC]; exact Nat.lt_succ_of_lt (Heap.lt_size e), Heap.lt_size e⟩) (Ne.symm hDC) hoC old (F.keeps old) N₁) fun r s' hr => ?_
    obtain ⟨rfl, h', tk, ys, oC', m₂, nx, rfl, F', N', hoC', off, fin⟩ := hr
    exact hRR _ _ _ _ _ _ _ _ _ F' N' hoC' (Ne.symm hDC) off fin
  exact codeAny_compStart_list (loop _ rfl) (self _ _ _ old (loop _ rfl))

theorem ListComp_G {elt target iter : PySem.Expr} {ifs : List PySem.Expr} {gs : List Comprehension} {scope : Scope} {cl : List (Str × Addr)} {pos : Pos} {Q : Value → Shared → Prop}
    (hclos : closureFor scope env = pure cl) (hcell : ∀ y ∈ scope.names, y.2 ≠ .cell) (hkind : scope.kind = .function)
    (hnames : ∀ y ∈ scope.names, y.2 = .local → scope.names.lookup y.1 = some .local)
    (h : wpAny (model prog w) A (eval iter env) (fun xv s₁ => wpAny (model prog w) A (pyIter xv) (CStart prog w A h₀ L elt (⟨target, iter, ifs, 0⟩ :: gs) scope pos cl env (FinX h₀ L Q)) E s₁) E s)
    (hs : ∀ x, foldedSetIterable iter env x = pure x := by intro _; rfl) :
    wpAny (model prog w) A (eval (.ListComp elt (⟨target, iter, ifs, 0⟩ :: gs) scope pos) env) Q E s := by
  rw [eval_ListComp]
  refine wpAny_comprehension_free (use := none) rfl hs hclos hkind hnames (wpAny_mono h (fun xv s₁ h₁ => wpAny_mono h₁ (fun it s₂ h₂ => ?_) fun _ _ e => e) fun _ _ e => e)
  refine comp_block hcell hkind h₂ fun D C oC m m₂ h' tk ys nx F' N' hoC hCD off fin => ?_
  refine ⟨m₂, hoC.ns (N' _ (.head _)).1, fun h'' hs'' => fin h'' tk (F'.change hs'' (N' _ (.head _)).2.1 (N' _ (.head _)).2.2) (fun p hp => ?_) fun q hq => (off q hq).2⟩
  have z := N' p (.tail _ hp)
  refine ⟨hs''.extBut _ _ ?_ z.1, z.2⟩
  rcases List.mem_cons.mp hp with rfl | hp
  · exact Ne.symm hCD
  · exact (off p hp).1
theorem Assign_ListComp_G {elt target iter : PySem.Expr} {ifs : List PySem.Expr} {gs : List Comprehension} {y : Str} {py : Pos} {scope : Scope} {cl : List (Str × Addr)} {pos spos : Pos} {Q : Flow → Shared → Prop} (hLe : env.locals = L)
    (hsw : swapsWith (.ListComp elt (⟨target, iter, ifs, 0⟩ :: gs) scope pos) (some (.Name y py)) spos.line env = pure true)
    (hclos : closureFor scope env = pure cl) (hcell : ∀ z ∈ scope.names, z.2 ≠ .cell) (hkind : scope.kind = .function)
    (hnames : ∀ z ∈ scope.names, z.2 = .local → scope.names.lookup z.1 = some .local)
    (hy : env.kindOf y = some .local) (hp : (env.scope.kind == .class || (env.scope.kind == .module && env.locals != env.globals)) = false)
    (h : wpAny (model prog w) A (eval iter env) (fun xv s₁ => wpAny (model prog w) A (pyIter xv) (CStart prog w A h₀ L elt (⟨target, iter, ifs, 0⟩ :: gs) scope pos cl env (FinS h₀ L y Q)) E s₁) E s)
    (hs : ∀ x, foldedSetIterable iter env x = pure x := by intro _; rfl) :
    wpAny (model prog w) A (exec (.Assign [.Name y py] (.ListComp elt (⟨target, iter, ifs, 0⟩ :: gs) scope pos) spos) env) Q E s := by
  subst hLe
  rw [exec_Assign_Name_used _ _ _ _ hsw]
  refine wpAny_bind (wpAny_standAt (wpAny_bind ?_))
  show wpAny _ A (do let _ ← comprehension (.ListComp elt (⟨target, iter, ifs, 0⟩ :: gs) scope pos) scope env _ (newList []) false (eval iter env) (some (assign (.Name y py) env))) _ _ s
  refine wpAny_bind (wpAny_mono (wpAny_comprehension_free (use := some (assign (.Name y py) env)) (Q := fun _ s' => Q .next s') rfl hs hclos hkind hnames
    (wpAny_mono h (fun xv s₁ h₁ => wpAny_mono h₁ (fun it s₂ h₂ => ?_) fun _ _ e => e) fun _ _ e => e)) (fun _ s' hq => wpAny_pure (wpAny_pure hq)) fun _ _ e => e)
  refine comp_block hcell hkind h₂ fun D C oC m m₂ h' tk ys nx F' N' hoC hCD off fin => ?_
  have zC := N' _ (.head _)
  show wpAny _ A (assign (.Name y py) env (.ref D)) _ _ _
  refine wpAny_assign_Name (wpAny_storeName_local hy F'.ns (fun h₂ hn₂ hs₂ => ?_) hp)
  have hL₀ : h₀.get? env.locals = none := Heap.get?_none_of_le F'.above
  have F₂ : Fr h₀ env.locals h₂ (fun z => if z = y then some (.ref D) else m z) := ⟨hn₂, fun b o e => hs₂.extBut b o (fun q => by rw [q, hL₀] at e; cases e) (F'.keep b o e), F'.above⟩
  refine ⟨m₂, (hoC.ns zC.1).sameBut hs₂ zC.2.1, fun h'' hs'' => fin h'' _ (F₂.change hs'' zC.2.1 zC.2.2) (fun p hp => ?_) fun q hq => (off q hq).2⟩
  have z := N' p (.tail _ hp)
  have z₂ : h₂.get? p.1 = some p.2 := hs₂.extBut _ _ z.2.1 z.1
  refine ⟨hs''.extBut _ _ ?_ z₂, z.2⟩
  rcases List.mem_cons.mp hp with rfl | hp
  · exact Ne.symm hCD
  · exact (off p hp).1
end

section
variable {prog : Program} {w : World} {A : Around} {s : Shared} {h₀ : Heap} {L : Addr} {m : Str → Option Value} {env : Env}
theorem src_name {x : Str} {px : Pos} {scope : Scope} {cl : List (Str × Addr)} {I : Addr} {fp wr : List Addr} {n : Nat} {P : Nat → Value → Prop} {St : Nat → Heap → Prop} (W : Walks prog w A I fp wr n P St) (hx : scope.names.lookup x = some .local) (hkind : scope.kind = .function) (has : ∀ i h, St i h → ∀ b ∈ wr, ∃ o, h.get? b = some o) :
    Src prog w A (.Name x px) scope cl env I fp wr n (fun i m₁ m₂ _ => ∃ v, P i v ∧ m₂ = fun y => if y = x then some v else m₁ y) St where
  sub := W.sub
  frame := W.frame
  has := has
  item := fun i s C m₁ Q E hi hst hn hC hQ => by
    refine W.item i _ _ _ hi hst fun v h₂ tk₂ hPv hst₂ hk₂ => ⟨v, rfl, ?_⟩
    have hCw : C ∉ wr := fun h => hC (W.sub _ h)
    show wpAny _ A (pure ()) _ _ _
    refine wpAny_pure ?_
    refine wpAny_assign_Name (wpAny_storeName_local (lookup_relabel_local hx) (hn.at' fun o e => hk₂ _ o hCw e) (fun h₃ hn₃ hs₃ => ?_) (by simp [compEnvC, relabel, hkind]))
    refine hQ h₃ _ _ ⟨v, hPv, rfl⟩ hn₃ (W.frame _ _ _ hst₂ fun b hb o e => hs₃.extBut b o (fun q => hC (by have q' : b = C := q; rw [← q']; exact hb)) e) fun b o hb hbC e => hs₃.extBut b o hbC (hk₂ b o hb e)
  done := W.done
  self := W.self

theorem start_src {elt tgt iter : PySem.Expr} {ifs : List PySem.Expr} {scope : Scope} {cl : List (Str × Addr)} {pos : Pos} {I : Addr} {fp wr : List Addr} {n : Nat} {T : Nat → (Str → Option Value) → (Str → Option Value) → Heap → Prop} {St : Nat → Heap → Prop} {news : List (Addr × Obj)}
    {Fin : Shared → Addr → (Str → Option Value) → List Value → List (Addr × Obj) → Prop} (J : Nat → List Value → List (Addr × Obj) → Prop) (S : Src prog w A tgt scope cl env I fp wr n T St)
    (F : Fr h₀ L s.heap m) (N : News h₀ L s.heap news) (hLf : L ∉ fp) (hwr : ∀ b ∈ wr, h₀.get? b = none) (off : ∀ p ∈ news, p.1 ∉ wr) (hfp : ∀ b ∈ fp, ∃ o, s.heap.get? b = some o) (hst : St 0 s.heap) (hJ : J 0 [] news)
    (turn : ∀ C D i ys m₁ m₂ oC nx h tk own E', i < n → J i ys nx → T i m₁ m₂ h → NsObj oC m₂ → C ≠ D → (∀ p ∈ own, p.1 ≠ D) → (∀ b ∈ fp, ∀ o, h.get? b = some o → h₀.get? b = none → (b, o) ∈ own) → (∀ b ∈ wr, ∃ o, (b, o) ∈ own) → Apart C D wr nx → Fr h₀ L h m → News h₀ L h (own ++ (C, oC) :: (D, lst ys) :: nx) →
      BodyE prog w A ifs elt (.ref D) (compEnvC scope cl C env) (CEnd (fun _ => True) h₀ L m { s with heap := h, toks := tk } own C D wr (J (i + 1))) E' { s with heap := h, toks := tk })
    (done : ∀ D ys nx, (∀ b o, s.heap.get? b = some o → b < D) → J n ys nx → Fin s D m ys nx) :
    CStart prog w A h₀ L elt [⟨tgt, iter, ifs, 0⟩] scope pos cl env Fin (.ref I) s := by
  refine ⟨I, m, news, rfl, F, N, fun s' Q E hk hQ => S.self 0 _ _ _ (S.frame _ _ _ hst fun b _ o e => hk b o e) hQ, fun C D oC h tk hlt hCD hoC old F' N' => ?_⟩
  have hCf : C ∉ fp := fun hb => by obtain ⟨o, e⟩ := hfp _ hb; exact Nat.lt_irrefl _ (hlt _ _ e).1
  have hDf : D ∉ fp := fun hb => by obtain ⟨o, e⟩ := hfp _ hb; exact Nat.lt_irrefl _ (hlt _ _ e).2
  refine comp_core (K := fun _ => True) J loop_one mono_BodyE S F' N' hoC trivial hCD (fun q hq => ⟨Nat.ne_of_lt (hlt _ _ (N q hq).1).1, Nat.ne_of_lt (hlt _ _ (N q hq).1).2, off q hq⟩) hLf hwr hCf hDf (S.frame _ _ _ hst fun b _ o e => old b o e) hJ ?_ ?_
  · intro i ys m₁ m₂ oC nx h tk own E' hi hJ _ hT hoC hown hwo hfo ha F N
    exact turn C D i ys m₁ m₂ oC nx h tk own E' hi hJ hT hoC hCD (fun p hp => fun e => hDf (e ▸ hfo p hp)) hown hwo ha F N
  · intro ys oC m₂ nx h tk hJ ha hoC _ F N
    exact CPost.intro F N hoC (fun q hq => ⟨(ha q hq).1, (ha q hq).2.1⟩) (done D ys nx (fun b o e => (hlt b o e).2) hJ)
/-- a list of the ledger, a plain name, no test -/
theorem start_list {elt iter : PySem.Expr} {x : Str} {px : Pos} {scope : Scope} {cl : List (Str × Addr)} {pos : Pos} {ax : Addr} {vs : List Value} {k : Nat} {news : List (Addr × Obj)} {E : Value → Shared → Prop}
    {Fin : Shared → Addr → (Str → Option Value) → List Value → List (Addr × Obj) → Prop} (J : Nat → List Value → List (Addr × Obj) → Prop) (hh : A.handled = none) (hx : scope.names.lookup x = some .local) (hkind : scope.kind = .function)
    (F : Fr h₀ L s.heap m) (N : News h₀ L s.heap news) (hm : (ax, listOf vs.toArray k) ∈ news) (hJ : J 0 [] news) (hmem : ∀ i ys nx, J i ys nx → (ax, listOf vs.toArray k) ∈ nx) (hlen : ∀ i ys nx, i < vs.length → J i ys nx → ys.length ≤ sizeLine)
    (turn : ∀ C D i v ys m₂ oC I nx h tk own E', vs[i]? = some v → J i ys nx → m₂ x = some v → NsObj oC m₂ → (∃ o, (I, o) ∈ own) → Apart C D [I] nx → Fr h₀ L h m → News h₀ L h (own ++ (C, oC) :: (D, lst ys) :: nx) →
      wpAny (model prog w) A (eval elt (compEnvC scope cl C env)) (CEndY (fun _ => True) h₀ L m { s with heap := h, toks := tk } own C D [I] ys (J (i + 1))) E' { s with heap := h, toks := tk })
    (done : ∀ s₂ D ys nx, (∃ h, s₂ = { s with heap := h }) → (∀ b o, s.heap.get? b = some o → b < D) → J vs.length ys nx → Fin s₂ D m ys nx) :
    wpAny (model prog w) A (pyIter (.ref ax)) (CStart prog w A h₀ L elt [⟨.Name x px, iter, [], 0⟩] scope pos cl env Fin) E s := by
  have hol : s.heap.get? ax = some (listOf vs.toArray k) := (N _ hm).1
  have hls : s.heap.IsList ax vs.toArray := ⟨_, hol, rfl, k, rfl⟩
  have hlt : ax < s.heap.objs.size := Heap.lt_size hol
  refine wpAny_pyIter_list hls ?_
  have up : ∀ b o, s.heap.get? b = some o → (s.heap.push { cls := .type "list_iterator", data := .fields #[.ref ax, .int 0 0] }).get? b = some o := fun b o e => Heap.get?_push_of_some _ e
  have W := Walks.list (prog := prog) (w := w) hh s.heap.objs.size ax (Nat.ne_of_lt hlt) vs.toArray
  have S : Src prog w A (.Name x px) scope cl env _ _ _ _ _ _ := src_name (px := px) (cl := cl) (env := env) W hx hkind (fun i h st b hb => by obtain ⟨o, e, _⟩ := st.1; rw [List.mem_singleton.mp hb]; exact ⟨o, e⟩)
  refine start_src (s := { s with heap := s.heap.push _ }) J S (F.keeps up) (N.grown up) ?_ ?_ ?_ ?_ ⟨⟨_, Heap.get?_push_size _ rfl, rfl, rfl⟩, hls.push _⟩ hJ ?_ ?_
  · intro hb
    rcases List.mem_cons.mp hb with e | hb
    · exact Nat.ne_of_lt F.ns.lt e
    · exact (N _ hm).2.1 (List.mem_singleton.mp hb).symm
  · intro b hb; rw [List.mem_singleton.mp hb]; exact next_is_new F
  · intro p hp hb; exact Nat.ne_of_lt (Heap.lt_size (N p hp).1) (List.mem_singleton.mp hb)
  · intro b hb
    rcases List.mem_cons.mp hb with e | hb
    · rw [e]; exact ⟨_, Heap.get?_push_size _ rfl⟩
    · rw [List.mem_singleton.mp hb]; exact ⟨_, up _ _ hol⟩
  · rintro C D i ys m₁ m₂ oC nx h tk own E' hi hJ' ⟨v, hv, hm₂⟩ hoC hCD hD hown hwo ha F' N'
    have hi' : i < vs.length := by simpa using hi
    refine emit_0 (hlen i ys nx hi' hJ') hD hCD ?_
    have hv' : vs[i]? = some v := by simpa using hv
    exact turn C D i v ys m₂ oC _ nx h tk own E' hv' hJ' (by rw [hm₂]; simp) hoC (hwo _ (.head _)) ha F' N'
  · intro D ys nx hD hJ'
    exact done _ D ys nx ⟨_, rfl⟩ (fun b o e => hD b o (up b o e)) (by simpa using hJ')
end
section
variable {prog : Program} {w : World} {A : Around} {s : Shared} {h₀ : Heap} {L : Addr} {m : Str → Option Value} {env : Env}
/-- a list of the ledger, a plain name, one test -/
theorem start_listT {ct elt iter : PySem.Expr} {x : Str} {px : Pos} {scope : Scope} {cl : List (Str × Addr)} {pos : Pos} {ax : Addr} {vs : List Value} {k : Nat} {news : List (Addr × Obj)} {E : Value → Shared → Prop}
    {Fin : Shared → Addr → (Str → Option Value) → List Value → List (Addr × Obj) → Prop} (J : Nat → List Value → List (Addr × Obj) → Prop) (hh : A.handled = none) (hx : scope.names.lookup x = some .local) (hkind : scope.kind = .function)
    (F : Fr h₀ L s.heap m) (N : News h₀ L s.heap news) (hm : (ax, listOf vs.toArray k) ∈ news) (hJ : J 0 [] news) (hmem : ∀ i ys nx, J i ys nx → (ax, listOf vs.toArray k) ∈ nx) (hlen : ∀ i ys nx, i < vs.length → J i ys nx → ys.length ≤ sizeLine)
    (turn : ∀ C D i v ys m₂ oC I nx h tk own E', vs[i]? = some v → J i ys nx → m₂ x = some v → NsObj oC m₂ → (∃ o, (I, o) ∈ own) → Apart C D [I] nx → Fr h₀ L h m → News h₀ L h (own ++ (C, oC) :: (D, lst ys) :: nx) →
      wpAny (model prog w) A (isTrue ct (compEnvC scope cl C env) (eval ct (compEnvC scope cl C env))) (fun ok s₂ => if ok = true then wpAny (model prog w) A (eval elt (compEnvC scope cl C env)) (CEndY (fun _ => True) h₀ L m { s with heap := h, toks := tk } own C D [I] ys (J (i + 1))) E' s₂
        else CEnd (fun _ => True) h₀ L m { s with heap := h, toks := tk } own C D [I] (J (i + 1)) s₂) E' { s with heap := h, toks := tk })
    (done : ∀ s₂ D ys nx, (∃ h, s₂ = { s with heap := h }) → (∀ b o, s.heap.get? b = some o → b < D) → J vs.length ys nx → Fin s₂ D m ys nx) :
    wpAny (model prog w) A (pyIter (.ref ax)) (CStart prog w A h₀ L elt [⟨.Name x px, iter, [ct], 0⟩] scope pos cl env Fin) E s := by
  have hol : s.heap.get? ax = some (listOf vs.toArray k) := (N _ hm).1
  have hls : s.heap.IsList ax vs.toArray := ⟨_, hol, rfl, k, rfl⟩
  have hlt : ax < s.heap.objs.size := Heap.lt_size hol
  refine wpAny_pyIter_list hls ?_
  have up : ∀ b o, s.heap.get? b = some o → (s.heap.push { cls := .type "list_iterator", data := .fields #[.ref ax, .int 0 0] }).get? b = some o := fun b o e => Heap.get?_push_of_some _ e
  have W := Walks.list (prog := prog) (w := w) hh s.heap.objs.size ax (Nat.ne_of_lt hlt) vs.toArray
  have S : Src prog w A (.Name x px) scope cl env _ _ _ _ _ _ := src_name (px := px) (cl := cl) (env := env) W hx hkind (fun i h st b hb => by obtain ⟨o, e, _⟩ := st.1; rw [List.mem_singleton.mp hb]; exact ⟨o, e⟩)
  refine start_src (s := { s with heap := s.heap.push _ }) J S (F.keeps up) (N.grown up) ?_ ?_ ?_ ?_ ⟨⟨_, Heap.get?_push_size _ rfl, rfl, rfl⟩, hls.push _⟩ hJ ?_ ?_
  · intro hb
    rcases List.mem_cons.mp hb with e | hb
    · exact Nat.ne_of_lt F.ns.lt e
    · exact (N _ hm).2.1 (List.mem_singleton.mp hb).symm
  · intro b hb; rw [List.mem_singleton.mp hb]; exact next_is_new F
  · intro p hp hb; exact Nat.ne_of_lt (Heap.lt_size (N p hp).1) (List.mem_singleton.mp hb)
  · intro b hb
    rcases List.mem_cons.mp hb with e | hb
    · rw [e]; exact ⟨_, Heap.get?_push_size _ rfl⟩
    · rw [List.mem_singleton.mp hb]; exact ⟨_, up _ _ hol⟩
  · rintro C D i ys m₁ m₂ oC nx h tk own E' hi hJ' ⟨v, hv, hm₂⟩ hoC hCD hD hown hwo ha F' N'
    have hi' : i < vs.length := by simpa using hi
    refine emit_1 (hlen i ys nx hi' hJ') hD hCD ?_
    have hv' : vs[i]? = some v := by simpa using hv
    exact turn C D i v ys m₂ oC _ nx h tk own E' hv' hJ' (by rw [hm₂]; simp) hoC (hwo _ (.head _)) ha F' N'
  · intro D ys nx hD hJ'
    exact done _ D ys nx ⟨_, rfl⟩ (fun b o e => hD b o (up b o e)) (by simpa using hJ')
/-- a range -/
theorem start_range {elt iter : PySem.Expr} {x : Str} {px : Pos} {scope : Scope} {cl : List (Str × Addr)} {pos : Pos} {r : Addr} {a b : Int} {t u v : Tok} {n : Nat} {news : List (Addr × Obj)} {E : Value → Shared → Prop}
    {Fin : Shared → Addr → (Str → Option Value) → List Value → List (Addr × Obj) → Prop} (J : Nat → List Value → List (Addr × Obj) → Prop) (hh : A.handled = none) (hx : scope.names.lookup x = some .local) (hkind : scope.kind = .function)
    (F : Fr h₀ L s.heap m) (N : News h₀ L s.heap news) (hr : IsRange s.heap r a b 1 t u v) (hsm : Builtin.Range.small a b 1 = true) (hn : Builtin.Range.rangeSize a b 1 = ((n : Nat) : Int)) (hJ : J 0 [] news) (hlen : ∀ i ys nx, i < n → J i ys nx → ys.length ≤ sizeLine)
    (turn : ∀ C D i t' ys m₂ oC I nx h tk own E', i < n → J i ys nx → m₂ x = some (.int (a + (i : Nat)) t') → NsObj oC m₂ → (∃ o, (I, o) ∈ own) → Apart C D [I] nx → Fr h₀ L h m → News h₀ L h (own ++ (C, oC) :: (D, lst ys) :: nx) →
      wpAny (model prog w) A (eval elt (compEnvC scope cl C env)) (CEndY (fun _ => True) h₀ L m { s with heap := h, toks := tk } own C D [I] ys (J (i + 1))) E' { s with heap := h, toks := tk })
    (done : ∀ s₂ D ys nx, (∃ h, s₂ = { s with heap := h }) → (∀ b o, s.heap.get? b = some o → b < D) → J n ys nx → Fin s₂ D m ys nx) :
    wpAny (model prog w) A (pyIter (.ref r)) (CStart prog w A h₀ L elt [⟨.Name x px, iter, [], 0⟩] scope pos cl env Fin) E s := by
  refine wpAny_pyIter_range hr hsm ?_
  have up : ∀ (o₁ : Obj) b o, s.heap.get? b = some o → (s.heap.push o₁).get? b = some o := fun o₁ b o e => Heap.get?_push_of_some _ e
  have W := range_walks (prog := prog) (w := w) (I := s.heap.objs.size) hh a n
  have S : Src prog w A (.Name x px) scope cl env _ _ _ _ _ _ := src_name (px := px) (cl := cl) (env := env) W hx hkind (fun i h st b hb => by rw [List.mem_singleton.mp hb]; exact ⟨_, st⟩)
  refine start_src (s := { s with heap := s.heap.push _ }) J S (F.keeps (up _)) (N.grown (up _)) ?_ ?_ ?_ ?_ (by show IsRangeIter _ _ _ _ _; rw [hn]; simpa using Heap.get?_push_size _ rfl) hJ ?_ ?_
  · intro hb; exact Nat.ne_of_lt F.ns.lt (List.mem_singleton.mp hb)
  · intro b hb; rw [List.mem_singleton.mp hb]; exact next_is_new F
  · intro p hp hb; exact Nat.ne_of_lt (Heap.lt_size (N p hp).1) (List.mem_singleton.mp hb)
  · intro b hb; rw [List.mem_singleton.mp hb]; exact ⟨_, Heap.get?_push_size _ rfl⟩
  · rintro C D i ys m₁ m₂ oC nx h tk own E' hi hJ' ⟨v, ⟨t', rfl⟩, hm₂⟩ hoC hCD hD hown hwo ha F' N'
    refine emit_0 (hlen i ys nx hi hJ') hD hCD ?_
    exact turn C D i t' ys m₂ oC _ nx h tk own E' hi hJ' (by rw [hm₂]; simp) hoC (hwo _ (.head _)) ha F' N'
  · intro D ys nx hD hJ'
    exact done _ D ys nx ⟨_, rfl⟩ (fun b o e => hD b o (up _ b o e)) hJ'
end
section
variable {prog : Program} {w : World} {A : Around} {s : Shared} {h₀ : Heap} {L : Addr} {m : Str → Option Value} {env : Env}
theorem compStart_in {elt g0 tgt iter ifs scope pos it acc env} {R : Result → Shared → Prop}
    (h0 : codeAny (model prog w) A (.compLoop (.ListComp elt [g0, ⟨tgt, iter, ifs, 0⟩] scope pos) 1 it acc env) R s)
    (h : wpAny (model prog w) A (pyIter it) (fun it' s' => codeAny (model prog w) A (.compLoop (.ListComp elt [g0, ⟨tgt, iter, ifs, 0⟩] scope pos) 1 it' acc env) R s')
      (notedBy (model prog w) A env fun x s' => R (.error x) s') s) :
    codeAny (model prog w) A (.compStart (.ListComp elt [g0, ⟨tgt, iter, ifs, 0⟩] scope pos) 1 it acc env) R s := by
  refine codeAny_of_tree ?_
  show wpAny _ _ ((compStart (.ListComp elt [g0, ⟨tgt, iter, ifs, 0⟩] scope pos) 1 it acc env).onRaise (fun x => do noteFrame x env; standAt theWindowsPlace)) _ _ s
  refine wpAny_notedAt ?_
  unfold compStart
  show wpAny _ _ (ask >>= _) _ _ s
  refine wpAny_bind (wpAny_askSetting (wpAny_ite ?_))
  split
  · first
      | exact wpAny_bind (wpAny_pure (wpAny_pure (And.intro rfl h0)))
      | exact wpAny_pure (And.intro rfl h0)
  · first
      | exact wpAny_bind (wpAny_rule (wpAny_bind (wpAny_standAt (wpAny_bind (wpAny_mono h (fun it' s' h' => wpAny_pure (And.intro rfl h')) fun _ _ x => x)))))
      | (refine wpAny_bind (wpAny_rule ?_); show wpAny _ _ (standAt iter.pos >>= _) _ _ s; exact wpAny_bind (wpAny_standAt (wpAny_bind (wpAny_mono h (fun it' s' h' => wpAny_pure (And.intro rfl h')) fun _ _ x => x))))

/-- the inner clause over a range: what the outer turn must show once its iterable is evaluated -/
def InRange (prog : Program) (w : World) (A : Around) (h₀ : Heap) (L : Addr) (m : Str → Option Value) (s₁ : Shared) (own : List (Addr × Obj)) (C D : Addr) (wr : List Addr) (elt : PySem.Expr) (cenv : Env) (x2 : Str) (ys : List Value) (J : List Value → List (Addr × Obj) → Prop) (xv : Value) (s₂ : Shared) : Prop :=
  ∃ (r : Addr) (a b : Int) (t u v : Tok) (n : Nat) (h' : Heap) (tk : Nat) (oC : Obj) (m₂ : Str → Option Value) (nx : List (Addr × Obj)) (J2 : Nat → List Value → List (Addr × Obj) → Prop),
    xv = .ref r ∧ s₂ = { s₁ with heap := h', toks := tk } ∧ IsRange h' r a b 1 t u v ∧ Builtin.Range.small a b 1 = true ∧ Builtin.Range.rangeSize a b 1 = ((n : Nat) : Int) ∧
    Fr h₀ L h' m ∧ News h₀ L h' (own ++ (C, oC) :: (D, lst ys) :: nx) ∧ NsObj oC m₂ ∧ Apart C D wr nx ∧ J2 0 ys nx ∧ (∀ i ys nx, i < n → J2 i ys nx → ys.length ≤ sizeLine) ∧ (∀ ys nx, J2 n ys nx → J ys nx) ∧
    ∀ i t' ys m₃ oC nx h tk own' I E', i < n → J2 i ys nx → m₃ x2 = some (.int (a + (i : Nat)) t') → (∀ z, z ≠ x2 → m₃ z = m₂ z) → NsObj oC m₃ → (∃ o, (I, o) ∈ own') → (∀ p ∈ own, p ∈ own') → Apart C D (I :: wr) nx → Fr h₀ L h m → News h₀ L h (own' ++ (C, oC) :: (D, lst ys) :: nx) →
      wpAny (model prog w) A (eval elt cenv) (fun y s₃ => ∃ h' tk nx', s₃ = { s₁ with heap := h', toks := tk } ∧ Fr h₀ L h' m ∧ News h₀ L h' (own' ++ (C, oC) :: (D, lst ys) :: nx') ∧ Apart C D (I :: wr) nx' ∧ J2 (i + 1) (ys ++ [y]) nx') E' { s₁ with heap := h, toks := tk }

theorem in_range {elt iter iter2 tgt : PySem.Expr} {x2 : Str} {px : Pos} {scope : Scope} {cl : List (Str × Addr)} {pos : Pos} {own : List (Addr × Obj)} {C D : Addr} {wr : List Addr} {ys : List Value} {J : List Value → List (Addr × Obj) → Prop} {E : Value → Shared → Prop} {s₁ : Shared} (hh : A.handled = none) (hx : scope.names.lookup x2 = some .local) (hkind : scope.kind = .function) (hCD : C ≠ D)
    (hown : ∀ p ∈ own, p.1 ≠ C ∧ p.1 ≠ D)
    (h : wpAny (model prog w) A (eval iter2 (compEnvC scope cl C env)) (InRange prog w A h₀ L m s₁ own C D wr elt (compEnvC scope cl C env) x2 ys J) E s) :
    BodyN prog w A (.ListComp elt [⟨tgt, iter, [], 0⟩, ⟨.Name x2 px, iter2, [], 0⟩] scope pos) iter2 (.ref D) (compEnvC scope cl C env) (CEnd (fun _ => True) h₀ L m s₁ own C D wr J) E s := by
  refine wpAny_mono h (fun xv s₂ h₂ => ?_) fun _ _ e => e
  obtain ⟨r, a, b, t, u, v, n, h', tk, oC, m₂, nx, J2, rfl, rfl, hr, hsm, hn, F, N, hoC, off, hJ, hlen, hout, turn⟩ := h₂
  refine wpAny_pyIter_range hr hsm ?_
  have up : ∀ (o₁ : Obj) b o, h'.get? b = some o → (h'.push o₁).get? b = some o := fun o₁ b o e => Heap.get?_push_of_some _ e
  have W := range_walks (prog := prog) (w := w) (I := h'.objs.size) hh a n
  have S : Src prog w A (.Name x2 px) scope cl env _ _ _ _ _ _ := src_name (px := px) (cl := cl) (env := env) W hx hkind (fun i h st b hb => by rw [List.mem_singleton.mp hb]; exact ⟨_, st⟩)
  have N' : News h₀ L h' ((C, oC) :: (D, lst ys) :: (own ++ nx)) := fun p hp => N p (by
    rcases List.mem_cons.mp hp with rfl | hp
    · exact List.mem_append_right _ (.head _)
    · rcases List.mem_cons.mp hp with rfl | hp
      · exact List.mem_append_right _ (.tail _ (.head _))
      · rcases List.mem_append.mp hp with hp | hp
        · exact List.mem_append_left _ hp
        · exact List.mem_append_right _ (.tail _ (.tail _ hp)))
  have hlt : ∀ p ∈ (C, oC) :: (D, lst ys) :: (own ++ nx), p.1 < h'.objs.size := fun p hp => Heap.lt_size (N' p hp).1
  have aps : ∀ nx, Apart C D wr nx → (∀ p ∈ own ++ nx, p.1 ∉ [h'.objs.size]) → Apart C D [h'.objs.size] (own ++ nx) := fun nx ha hI q hq => by
    refine ⟨?_, ?_, hI q hq⟩
    · rcases List.mem_append.mp hq with hq | hq
      · exact (hown q hq).1
      · exact (ha q hq).1
    · rcases List.mem_append.mp hq with hq | hq
      · exact (hown q hq).2
      · exact (ha q hq).2.1
  have core : ∀ s₃ : Shared, s₃ = { s₁ with heap := h'.push { cls := .type "range_iterator", data := .fields #[rawInt a, rawInt (Builtin.Range.rangeSize a b 1), rawInt 1] }, toks := tk } →
      codeAny (model prog w) A (.compLoop (.ListComp elt [⟨tgt, iter, [], 0⟩, ⟨.Name x2 px, iter2, [], 0⟩] scope pos) 1 (.ref h'.objs.size) (.ref D) (compEnvC scope cl C env)) (fun r s₃ => r = .ok .next ∧ CEnd (fun _ => True) h₀ L m s₁ own C D wr J s₃) s₃ := by
    intro s₃ e₃
    have hs₃ : s₃.heap = h'.push { cls := .type "range_iterator", data := .fields #[rawInt a, rawInt (Builtin.Range.rangeSize a b 1), rawInt 1] } := by rw [e₃]
    refine comp_core (s := s₃) (I := h'.objs.size) (fp := [h'.objs.size]) (wr := [h'.objs.size]) (K := fun m₃ => ∀ z, z ≠ x2 → m₃ z = m₂ z) (m₁ := m₂) (fun i ys nxx => ∃ nx, nxx = own ++ nx ∧ J2 i ys nx ∧ Apart C D wr nx) loop_in mono_BodyI S (by rw [hs₃]; exact F.keeps (up _)) (by rw [hs₃]; exact N'.grown (up _)) hoC (fun _ _ => rfl) hCD
      (aps nx off fun p hp hI => Nat.ne_of_lt (hlt p (.tail _ (.tail _ hp))) (List.mem_singleton.mp hI)) ?_ ?_ ?_ ?_ ?_ ⟨nx, rfl, hJ, off⟩ ?_ ?_
    · intro hb; exact Nat.ne_of_lt F.ns.lt (List.mem_singleton.mp hb)
    · intro b hb; rw [List.mem_singleton.mp hb]; exact next_is_new F
    · intro hb; exact Nat.ne_of_lt (hlt _ (.head _)) (List.mem_singleton.mp hb)
    · intro hb; exact Nat.ne_of_lt (hlt _ (.tail _ (.head _))) (List.mem_singleton.mp hb)
    · show IsRangeIter s₃.heap _ _ _ _
      rw [hs₃]; unfold IsRangeIter; rw [Heap.get?_push_size _ rfl, hn]; simp
    · rintro i ys' m₁' m₃ oC₃ nxx h tk' own₁ E' hi ⟨nx₃, rfl, hJ₃, ha₃⟩ hK ⟨v', ⟨t', rfl⟩, hm₃⟩ hoC₃ hown₁ hwo hfo ha F₃ N₃
      have hown₁D : ∀ p ∈ own₁, p.1 ≠ D := fun p hp e => Nat.ne_of_lt (hlt _ (.tail _ (.head _))) (show D = _ from e ▸ List.mem_singleton.mp (hfo p hp))
      have hap : Apart C D (h'.objs.size :: wr) nx₃ := fun q hq => ⟨(ha₃ q hq).1, (ha₃ q hq).2.1, fun hb => by
        rcases List.mem_cons.mp hb with e | hb
        · exact (ha q (List.mem_append_right _ hq)).2.2 (List.mem_singleton.mpr e)
        · exact (ha₃ q hq).2.2 hb⟩
      have hm₃' : ∀ z, z ≠ x2 → m₃ z = m₂ z := fun z hz => by rw [hm₃]; simp only [if_neg hz]; exact hK z hz
      refine emit_I (K := fun m₃ => ∀ z, z ≠ x2 → m₃ z = m₂ z) (hlen i ys' nx₃ hi hJ₃) hown₁D hCD ?_
      have k := turn i t' ys' m₃ oC₃ nx₃ h tk' (own₁ ++ own) h'.objs.size E' hi hJ₃ (by rw [hm₃]; simp) hm₃' hoC₃ (by obtain ⟨o, ho⟩ := hwo _ (.head _); exact ⟨o, List.mem_append_left _ ho⟩) (fun p hp => List.mem_append_right _ hp) hap F₃ (fun p hp => N₃ p (by
        rcases List.mem_append.mp hp with hp | hp
        · rcases List.mem_append.mp hp with hp | hp
          · exact List.mem_append_left _ hp
          · exact List.mem_append_right _ (.tail _ (.tail _ (List.mem_append_left _ hp)))
        · rcases List.mem_cons.mp hp with rfl | hp
          · exact List.mem_append_right _ (.head _)
          · rcases List.mem_cons.mp hp with rfl | hp
            · exact List.mem_append_right _ (.tail _ (.head _))
            · exact List.mem_append_right _ (.tail _ (.tail _ (List.mem_append_right _ hp)))))
      have e₄ : ({ s₃ with heap := h, toks := tk' } : Shared) = { s₁ with heap := h, toks := tk' } := by rw [e₃]
      rw [e₄]
      refine wpAny_mono k (fun y s₅ h₅ => ?_) fun _ _ e => e
      obtain ⟨h₅, tk₅, nx₅, rfl, F₅, N₅, ap₅, hJ₅⟩ := h₅
      refine CEndY.intro (s₁ := { s₁ with heap := h, toks := tk' }) (own ++ nx₅) F₅ N₅ (fun p hp => ?_) hoC₃ hm₃' (aps nx₅ (fun q hq => ⟨(ap₅ q hq).1, (ap₅ q hq).2.1, fun hb => (ap₅ q hq).2.2 (.tail _ hb)⟩) fun p hp => ?_) ⟨nx₅, rfl, hJ₅, fun q hq => ⟨(ap₅ q hq).1, (ap₅ q hq).2.1, fun hb => (ap₅ q hq).2.2 (.tail _ hb)⟩⟩
      · rcases List.mem_append.mp hp with hp | hp
        · exact List.mem_append_left _ (List.mem_append_left _ hp)
        · rcases List.mem_cons.mp hp with rfl | hp
          · exact List.mem_append_right _ (.head _)
          · rcases List.mem_cons.mp hp with rfl | hp
            · exact List.mem_append_right _ (.tail _ (.head _))
            · rcases List.mem_append.mp hp with hp | hp
              · exact List.mem_append_left _ (List.mem_append_right _ hp)
              · exact List.mem_append_right _ (.tail _ (.tail _ hp))
      · rcases List.mem_append.mp hp with hp | hp
        · exact fun hb => Nat.ne_of_lt (hlt p (.tail _ (.tail _ (List.mem_append_left _ hp)))) (List.mem_singleton.mp hb)
        · exact fun hb => (ap₅ p hp).2.2 (by rw [List.mem_singleton.mp hb]; exact .head _)
    · rintro ys' oC' m₃ nxx h tk' ⟨nx₃, rfl, hJ₃, ha₃⟩ ha hoC' _ F₃ N₃
      refine ⟨rfl, ?_⟩
      have e₄ : ({ s₃ with heap := h, toks := tk' } : Shared) = { s₁ with heap := h, toks := tk' } := by rw [e₃]
      rw [e₄]
      refine CEnd.intro nx₃ F₃ N₃ (fun p hp => ?_) hoC' trivial ha₃ (hout _ _ hJ₃)
      rcases List.mem_append.mp hp with hp | hp
      · exact .tail _ (.tail _ (List.mem_append_left _ hp))
      · rcases List.mem_cons.mp hp with rfl | hp
        · exact .head _
        · rcases List.mem_cons.mp hp with rfl | hp
          · exact .tail _ (.head _)
          · exact .tail _ (.tail _ (List.mem_append_right _ hp))
  refine compStart_in (core _ rfl) (wpAny_pyIter_rangeiter (x := a) (left := Builtin.Range.rangeSize a b 1) (step := 1) (Heap.get?_push_size _ rfl) (core _ rfl))
/-- two clauses, the outer over a range -/
theorem start_two {elt iter iter2 : PySem.Expr} {x x2 : Str} {px px2 : Pos} {scope : Scope} {cl : List (Str × Addr)} {pos : Pos} {r : Addr} {a b : Int} {t u v : Tok} {n : Nat} {news : List (Addr × Obj)} {E : Value → Shared → Prop}
    {Fin : Shared → Addr → (Str → Option Value) → List Value → List (Addr × Obj) → Prop} (J : Nat → List Value → List (Addr × Obj) → Prop) (hh : A.handled = none) (hx : scope.names.lookup x = some .local) (hx2 : scope.names.lookup x2 = some .local) (hkind : scope.kind = .function)
    (F : Fr h₀ L s.heap m) (N : News h₀ L s.heap news) (hr : IsRange s.heap r a b 1 t u v) (hsm : Builtin.Range.small a b 1 = true) (hn : Builtin.Range.rangeSize a b 1 = ((n : Nat) : Int)) (hJ : J 0 [] news)
    (turn : ∀ C D i t' ys m₂ oC I nx h tk own E', i < n → J i ys nx → m₂ x = some (.int (a + (i : Nat)) t') → NsObj oC m₂ → (∃ o, (I, o) ∈ own) → Apart C D [I] nx → Fr h₀ L h m → News h₀ L h (own ++ (C, oC) :: (D, lst ys) :: nx) →
      wpAny (model prog w) A (eval iter2 (compEnvC scope cl C env)) (InRange prog w A h₀ L m { s with heap := h, toks := tk } own C D [I] elt (compEnvC scope cl C env) x2 ys (J (i + 1))) E' { s with heap := h, toks := tk })
    (done : ∀ s₂ D ys nx, (∃ h, s₂ = { s with heap := h }) → (∀ b o, s.heap.get? b = some o → b < D) → J n ys nx → Fin s₂ D m ys nx)
    (hs : ∀ C x, foldedSetIterable iter2 (compEnvC scope cl C env) x = pure x := by intro _ _; rfl) :
    wpAny (model prog w) A (pyIter (.ref r)) (CStart prog w A h₀ L elt [⟨.Name x px, iter, [], 0⟩, ⟨.Name x2 px2, iter2, [], 0⟩] scope pos cl env Fin) E s := by
  refine wpAny_pyIter_range hr hsm ?_
  have up : ∀ (o₁ : Obj) b o, s.heap.get? b = some o → (s.heap.push o₁).get? b = some o := fun o₁ b o e => Heap.get?_push_of_some _ e
  have W := range_walks (prog := prog) (w := w) (I := s.heap.objs.size) hh a n
  have S : Src prog w A (.Name x px) scope cl env _ _ _ _ _ _ := src_name (px := px) (cl := cl) (env := env) W hx hkind (fun i h st b hb => by rw [List.mem_singleton.mp hb]; exact ⟨_, st⟩)
  have hI : IsRangeIter (s.heap.push { cls := .type "range_iterator", data := .fields #[rawInt a, rawInt (Builtin.Range.rangeSize a b 1), rawInt 1] }) s.heap.objs.size a (Builtin.Range.rangeSize a b 1) 1 := Heap.get?_push_size _ rfl
  refine ⟨s.heap.objs.size, m, news, rfl, F.keeps (up _), N.grown (up _), fun s' Q E hk hQ => wpAny_pyIter_rangeiter (hk _ _ hI) hQ, fun C D oC h tk hlt hCD hoC old F' N' => ?_⟩
  have hCf : C ∉ [s.heap.objs.size] := fun hb => Nat.lt_irrefl _ (List.mem_singleton.mp hb ▸ (hlt _ _ hI).1)
  have hDf : D ∉ [s.heap.objs.size] := fun hb => Nat.lt_irrefl _ (List.mem_singleton.mp hb ▸ (hlt _ _ hI).2)
  have N₁ : News h₀ L (s.heap.push { cls := .type "range_iterator", data := .fields #[rawInt a, rawInt (Builtin.Range.rangeSize a b 1), rawInt 1] }) news := N.grown (up _)
  refine comp_core (K := fun _ => True) J (loop_out (hs C) hh) mono_BodyN S F' N' hoC trivial hCD (fun q hq => ⟨Nat.ne_of_lt (hlt _ _ (N₁ q hq).1).1, Nat.ne_of_lt (hlt _ _ (N₁ q hq).1).2, fun hb => Nat.ne_of_lt (Heap.lt_size (N q hq).1) (List.mem_singleton.mp hb)⟩) ?_ ?_ hCf hDf ?_ hJ ?_ ?_
  · intro hb; exact Nat.ne_of_lt F.ns.lt (List.mem_singleton.mp hb)
  · intro b hb; rw [List.mem_singleton.mp hb]; exact next_is_new F
  · show IsRangeIter h _ _ _ _
    have := old _ _ hI
    unfold IsRangeIter; rw [this, hn]; simp
  · rintro i ys m₁ m₂ oC nx h tk own E' hi hJ' _ ⟨v, ⟨t', rfl⟩, hm₂⟩ hoC hown hwo hfo ha F' N'
    exact in_range hh hx2 hkind hCD (fun p hp => ⟨fun e => hCf (e ▸ hfo p hp), fun e => hDf (e ▸ hfo p hp)⟩) (turn C D i t' ys m₂ oC _ nx h tk own E' hi hJ' (by rw [hm₂]; simp) hoC (hwo _ (.head _)) ha F' N')
  · intro ys oC m₂ nx h tk hJ ha hoC _ F N
    exact CPost.intro F N hoC (fun q hq => ⟨(ha q hq).1, (ha q hq).2.1⟩) (done _ D ys nx ⟨_, rfl⟩ (fun b o e => (hlt b o (up _ b o e)).2) hJ)
end
theorem CEndY.one {K : (Str → Option Value) → Prop} {h₀ : Heap} {L : Addr} {m : Str → Option Value} {s₁ : Shared} {own : List (Addr × Obj)} {C D : Addr} {wr : List Addr} {ys : List Value} {J : List Value → List (Addr × Obj) → Prop} {y : Value} {h' : Heap} {tk : Nat} {oC : Obj} {m₂ : Str → Option Value} {q : Addr × Obj} {nx : List (Addr × Obj)}
    (F : Fr h₀ L h' m) (N : News h₀ L h' (q :: (own ++ (C, oC) :: (D, lst ys) :: nx))) (hl : ∀ p ∈ own ++ (C, oC) :: (D, lst ys) :: nx, p.1 < q.1) (hw : ∀ b ∈ wr, ∃ o, (b, o) ∈ own) (hC : NsObj oC m₂) (hK : K m₂) (off : Apart C D wr nx) (hJ : J (ys ++ [y]) (q :: nx)) : CEndY K h₀ L m s₁ own C D wr ys J y { s₁ with heap := h', toks := tk } :=
  CEndY.intro (q :: nx) F N (fun p hp => by
    rcases List.mem_append.mp hp with hp | hp
    · exact .tail _ (List.mem_append_left _ hp)
    · rcases List.mem_cons.mp hp with rfl | hp
      · exact .tail _ (List.mem_append_right _ (.head _))
      · rcases List.mem_cons.mp hp with rfl | hp
        · exact .tail _ (List.mem_append_right _ (.tail _ (.head _)))
        · rcases List.mem_cons.mp hp with rfl | hp
          · exact .head _
          · exact .tail _ (List.mem_append_right _ (.tail _ (.tail _ hp)))) hC hK (fun p hp => by
    rcases List.mem_cons.mp hp with rfl | hp
    · refine ⟨Nat.ne_of_gt (hl (C, oC) (List.mem_append_right _ (.head _))), Nat.ne_of_gt (hl (D, lst ys) (List.mem_append_right _ (.tail _ (.head _)))), fun hb => ?_⟩
      obtain ⟨o, ho⟩ := hw _ hb
      exact Nat.lt_irrefl _ (hl (p.1, o) (List.mem_append_left _ ho))
    · exact off p hp) hJ
end
section
open PySem PySem.Spec PySem.Calls PyProof.Rows
def GoOn (h₀ : Heap) (L : Addr) (l e li : Addr) (own : List (Addr × Obj)) (n : Nat) (J : List Value → (Str → Option Value) → List (Addr × Obj) → Prop) (s₁ : Shared) (f : Flow) (s₂ : Shared) : Prop :=
  (f = .next ∨ f = .cont) ∧ ∃ h' tk m' vs k nx, s₂ = { s₁ with heap := h', toks := tk } ∧ Fr h₀ L h' m' ∧ News h₀ L h' (own ++ (l, listOf vs.toArray k) :: nx) ∧ vs.length = n ∧ (∀ q ∈ nx, q.1 ≠ e ∧ q.1 ≠ li) ∧ J vs m' nx
theorem GoOn.intro {h₀ : Heap} {L : Addr} {l e li : Addr} {own : List (Addr × Obj)} {n : Nat} {J : List Value → (Str → Option Value) → List (Addr × Obj) → Prop} {s₁ : Shared} {h' : Heap} {tk : Nat} {m' : Str → Option Value} {vs : List Value} {k : Nat} {all : List (Addr × Obj)} {f : Flow} (nx : List (Addr × Obj))
    (F : Fr h₀ L h' m') (N : News h₀ L h' all) (sub : ∀ p ∈ own ++ (l, listOf vs.toArray k) :: nx, p ∈ all) (hl : vs.length = n) (off : ∀ q ∈ nx, q.1 ≠ e ∧ q.1 ≠ li) (hJ : J vs m' nx) (hf : f = .next ∨ f = .cont) : GoOn h₀ L l e li own n J s₁ f { s₁ with heap := h', toks := tk } :=
  ⟨hf, h', tk, m', vs, k, nx, rfl, F, fun p hp => N p (sub p hp), hl, off, hJ⟩
section
variable {prog : Program} {w : World} {A : Around} {s : Shared} {h₀ : Heap} {env : Env} {E : Value → Shared → Prop}
def EnumAt (prog : Program) (w : World) (A : Around) (h₀ : Heap) (env : Env) (xi xv : Str) (pi pv pt : Pos) (x1 : Nat) (body : List Stmt) (R : Result → Shared → Prop) (it : Value) (s₂ : Shared) : Prop :=
  codeAny (model prog w) A (.forLoop (.Tuple [.Name xi pi, .Name xv pv] x1 pt) it body [] env) R s₂
theorem For_enumM {xi xv : Str} {pi pv pt pos : Pos} {x1} {iter : PySem.Expr} {body : List Stmt} {Q : Flow → Shared → Prop}
    (h : wpAny (model prog w) A (eval iter env) (fun xv' s₁ => wpAny (model prog w) A (pyIter xv') (EnumAt prog w A h₀ env xi xv pi pv pt x1 body (fun r s' => match r with | .ok f => Q f s' | .error e => cameBackBy (model prog w) A env E e s')) E s₁) E s)
    (hs : ∀ x, foldedSetIterable iter env x = pure x := by intro _; rfl) :
    wpAny (model prog w) A (exec (.For (.Tuple [.Name xi pi, .Name xv pv] x1 pt) iter body [] pos) env) Q E s :=
  wpAny_For h hs
theorem enum_loop {xi xv : Str} {pi pv pt : Pos} {x1} {body : List Stmt} {Q : Flow → Shared → Prop} {l : Addr} {vs₀ : List Value} {k₀ n : Nat} {m₀ : Str → Option Value} {news : List (Addr × Obj)}
    (J : Nat → List Value → (Str → Option Value) → List (Addr × Obj) → Prop)
    (hh : A.handled = none) (hxi : env.kindOf xi = some .local) (hxv : env.kindOf xv = some .local)
    (hp : (env.scope.kind == .class || (env.scope.kind == .module && env.locals != env.globals)) = false)
    (F : Fr h₀ env.locals s.heap m₀) (N : News h₀ env.locals s.heap ((l, listOf vs₀.toArray k₀) :: news)) (hlen : vs₀.length = n) (hJ : J 0 vs₀ m₀ news)
    (turn : ∀ e li i v tk vs k m₁ nx h tk' own E', i < n → vs[i]? = some v → J i vs m₁ nx → (∃ o, (e, o) ∈ own) → (∃ o, (li, o) ∈ own) → (∀ p ∈ own, p.1 = e ∨ p.1 = li) → (∀ q ∈ nx, q.1 ≠ e ∧ q.1 ≠ li) → l ≠ e → l ≠ li → (∀ p ∈ news, p.1 < e ∧ p.1 < li) → l < e ∧ l < li →
      Fr h₀ env.locals h (fun y => if y = xv then some v else if y = xi then some (.int i tk) else m₁ y) → News h₀ env.locals h (own ++ (l, listOf vs.toArray k) :: nx) →
      wpAny (model prog w) A (execs body env) (GoOn h₀ env.locals l e li own n (J (i + 1)) { s with heap := h, toks := tk' }) E' { s with heap := h, toks := tk' })
    (done : ∀ vs k m₁ nx h tk, J n vs m₁ nx → Fr h₀ env.locals h m₁ → News h₀ env.locals h ((l, listOf vs.toArray k) :: nx) → Q .next { s with heap := h, toks := tk }) :
    wpAny (model prog w) A (call (.type "enumerate") [.ref l]) (fun xv' s₁ => wpAny (model prog w) A (pyIter xv') (EnumAt prog w A h₀ env xi xv pi pv pt x1 body (fun r s' => match r with | .ok f => Q f s' | .error e => cameBackBy (model prog w) A env E e s')) E s₁) E s := by
  have hax := N _ (.head _)
  have hl₀ : s.heap.IsList l vs₀.toArray := ⟨_, hax.1, rfl, k₀, rfl⟩
  refine call_enumerate_list hl₀ fun h' hE hI hsz hk => ?_
  refine wpAny_pyIter_enum hE ?_
  show codeAny _ _ _ _ _
  generalize he : s.heap.objs.size + 1 = e at hE
  generalize hli : s.heap.objs.size = li at hE hI
  have heN : @Eq Nat e (s.heap.objs.size + 1) := he.symm
  have hlN : @Eq Nat li s.heap.objs.size := hli.symm
  have hlt : ∀ b o, s.heap.get? b = some o → b < e ∧ b < li := fun b o x => by
    have h1 : @LT.lt Nat _ b s.heap.objs.size := Heap.lt_size x
    exact ⟨by show @LT.lt Nat _ b e; omega, by show @LT.lt Nat _ b li; omega⟩
  have hLlt : @LT.lt Nat _ env.locals s.heap.objs.size := F.ns.lt
  have hei : e ≠ li := by show ¬ @Eq Nat e li; omega
  have hLe : e ≠ env.locals := by show ¬ @Eq Nat e env.locals; omega
  have hLi : li ≠ env.locals := by show ¬ @Eq Nat li env.locals; omega
  have new : ∀ b, s.heap.objs.size ≤ b → h₀.get? b = none := fun b hb => Heap.get?_none_of_le (Nat.le_trans F.above (Nat.le_trans (Nat.le_of_lt hLlt) hb))
  have he₀ : h₀.get? e = none := new e (by show @LE.le Nat _ _ _; omega)
  have hli₀ : h₀.get? li = none := new li (by show @LE.le Nat _ _ _; omega)
  have hle : l ≠ e := Nat.ne_of_lt (hlt _ _ hax.1).1
  have hll : l ≠ li := Nat.ne_of_lt (hlt _ _ hax.1).2
  have hlL : l ≠ env.locals := hax.2.1
  refine codeAny_forLoop_any
    (fun c s' => ∃ h' tk m' i old vs k nx, s' = { s with heap := h', toks := tk } ∧ IsEnum h' e li ((i : Nat) : Int) old ∧ h'.IsListIter li l i ∧ Fr h₀ env.locals h' m' ∧ News h₀ env.locals h' ((l, listOf vs.toArray k) :: nx) ∧ vs.length = n ∧ (∀ q ∈ nx, q.1 ≠ e ∧ q.1 ≠ li) ∧ J i vs m' nx ∧ i ≤ n ∧ c = n + 1 - i) ?_ (n + 1)
    ⟨h', s.toks, m₀, 0, .none, vs₀, k₀, news, rfl, hE, hI, F.keeps hk, N.grown hk, hlen, fun q hq => ⟨Nat.ne_of_lt (hlt _ _ (N q (.tail _ hq)).1).1, Nat.ne_of_lt (hlt _ _ (N q (.tail _ hq)).1).2⟩, hJ, Nat.zero_le _, rfl⟩
  rintro c s' ⟨H, tk, m', i, old, vs, k, nx, rfl, he', hit', F', N', hvl, hoff, hJ', hi, rfl⟩
  have hlH : H.get? l = some (listOf vs.toArray k) := (N' _ (.head _)).1
  have hl' : H.IsList l vs.toArray := ⟨_, hlH, rfl, k, rfl⟩
  have offall : ∀ q ∈ (l, listOf vs.toArray k) :: nx, q.1 ≠ e ∧ q.1 ≠ li := fun q hq => by
    rcases List.mem_cons.mp hq with rfl | hq
    · exact ⟨hle, hll⟩
    · exact hoff q hq
  by_cases hv : i < n
  · obtain ⟨v, hv'⟩ : ∃ v, vs[i]? = some v := ⟨vs[i], List.getElem?_eq_getElem (by omega)⟩
    have heH : e < H.objs.size := Heap.lt_size he'
    have hLH : env.locals < H.objs.size := F'.ns.lt
    obtain ⟨oi, hoi, _⟩ := id hit'
    have hiH : li < H.objs.size := Heap.lt_size hoi
    refine wpAny_pyNext_enum_item he' hit' hl' (by simpa using hv') hei fun h₁ heo hit₁ ht₁ hz₁ hk₁ => ?_
    refine wpAny_letOwnedTupleGo_enum heo fun h₂ he₂ hs₂ => ?_
    replace hs₂ : Heap.SameBut e h₁ h₂ := hs₂
    have ht₂ : h₂.IsTuple H.objs.size #[.int i tk, v] := ⟨_, (hs₂.2 _ (Nat.ne_of_gt heH)).trans ht₁, rfl, _, rfl⟩
    have hz₂ : h₂.objs.size = H.objs.size + 1 := hs₂.1.trans hz₁
    refine wpAny_assign_Tuple hh ht₂ rfl rfl fun h₃ hx₃ => ?_
    replace hx₃ : Heap.ExtBut h₂.objs.size h₂ h₃ := hx₃
    have old₃ : ∀ b o, b < H.objs.size → h₂.get? b = some o → h₃.get? b = some o := fun b o hb x => hx₃ b o (by rw [hz₂]; exact Nat.ne_of_lt (Nat.lt_succ_of_lt hb)) x
    have up₃ : ∀ b o, b ≠ e → b ≠ li → H.get? b = some o → h₃.get? b = some o := fun b o hbe hbi x => old₃ b o (Heap.lt_size x) (hs₂.extBut b o hbe (hk₁ b o hbe hbi x))
    have F₃ : Fr h₀ env.locals h₃ m' := ⟨F'.ns.at' fun o x => up₃ _ o (Ne.symm hLe) (Ne.symm hLi) x, fun b o x => up₃ b o (fun q => by rw [q, he₀] at x; cases x) (fun q => by rw [q, hli₀] at x; cases x) (F'.keep b o x), F'.above⟩
    show wpAny _ A (do holding [v] (assign (.Name xi pi) env (.int i tk)); do holding [] (assign (.Name xv pv) env v); pure ()) _ _ _
    refine wpAny_bind (wpAny_holding (wpAny_assign_Name (wpAny_storeName_local hxi F₃.ns (fun h₄ hn₄ hs₄ => ?_) hp)))
    replace hs₄ : Heap.SameBut env.locals h₃ h₄ := hs₄
    have F₄ := F₃.set hn₄ hs₄
    refine wpAny_bind (wpAny_holding (wpAny_assign_Name (wpAny_storeName_local hxv F₄.ns (fun h₅ hn₅ hs₅ => wpAny_pure ?_) hp)))
    replace hs₅ : Heap.SameBut env.locals h₄ h₅ := hs₅
    have F₅ := F₄.set hn₅ hs₅
    have up : ∀ b o, b ≠ env.locals → h₃.get? b = some o → h₅.get? b = some o := fun b o hbL x => hs₅.extBut b o hbL (hs₄.extBut b o hbL x)
    have he₅ : IsEnum h₅ e li ((i : Int) + 1) v := up e _ hLe (old₃ _ _ heH he₂)
    have hit₅ : h₅.IsListIter li l (i + 1) := (hit₁.extBut hs₂.extBut (Ne.symm hei)).at fun o x => up li o hLi (old₃ _ _ hiH x)
    obtain ⟨oi₅, hoi₅, hit₅'⟩ := id hit₅
    have N₅ : News h₀ env.locals h₅ ((l, listOf vs.toArray k) :: nx) := fun p hp => ⟨up _ _ (N' p hp).2.1 (up₃ _ _ (offall p hp).1 (offall p hp).2 (N' p hp).1), (N' p hp).2⟩
    have No : News h₀ env.locals h₅ ([(e, _), (li, oi₅)] ++ (l, listOf vs.toArray k) :: nx) := fun p hp => by
      rcases List.mem_append.mp hp with hp | hp
      · rcases List.mem_cons.mp hp with rfl | hp
        · exact ⟨he₅, hLe, he₀⟩
        · rw [List.mem_singleton.mp hp]; exact ⟨hoi₅, hLi, hli₀⟩
      · exact N₅ p hp
    refine wpAny_mono (turn e li i v tk vs k m' nx h₅ _ [(e, _), (li, oi₅)] _ hv hv' hJ' ⟨_, .head _⟩ ⟨_, .tail _ (.head _)⟩ (fun p hp => ?_) hoff hle hll (fun p hp => hlt _ _ (N p (.tail _ hp)).1) (hlt _ _ hax.1) F₅ No) (fun f s₃ h₆ => ?_) fun _ _ x => x
    · rcases List.mem_cons.mp hp with rfl | hp
      · exact .inl rfl
      · rw [List.mem_singleton.mp hp]; exact .inr rfl
    · obtain ⟨hf, h₆, tk₆, m₆, vs₆, k₆, nx₆, rfl, F₆, N₆, hl₆, off₆, hJ₆⟩ := h₆
      have goal : ∃ m, m < n + 1 - i ∧ ∃ h' tk m' i old vs k nx, ({ s with heap := h₆, toks := tk₆ } : Shared) = { s with heap := h', toks := tk } ∧ IsEnum h' e li ((i : Nat) : Int) old ∧ h'.IsListIter li l i ∧ Fr h₀ env.locals h' m' ∧ News h₀ env.locals h' ((l, listOf vs.toArray k) :: nx) ∧ vs.length = n ∧ (∀ q ∈ nx, q.1 ≠ e ∧ q.1 ≠ li) ∧ J i vs m' nx ∧ i ≤ n ∧ m = n + 1 - i := by
        refine ⟨n + 1 - (i + 1), by omega, h₆, tk₆, m₆, i + 1, v, vs₆, k₆, nx₆, rfl, ?_, ⟨oi₅, (N₆ _ (.tail _ (.head _))).1, hit₅'⟩, F₆, fun p hp => N₆ p (List.mem_append_right _ hp), hl₆, off₆, hJ₆, hv, rfl⟩
        have : ((i + 1 : Nat) : Int) = (i : Int) + 1 := by push_cast; rfl
        rw [this]
        exact (N₆ _ (.head _)).1
      rcases hf with rfl | rfl
      · exact goal
      · exact goal
  · have hin : i = n := by omega
    refine wpAny_pyNext_enum_end hh he' hit' hl' (by simp; omega) fun h₁ he₁ => wpAny_execs_nil ?_
    have up₁ : ∀ b o, b ≠ li → H.get? b = some o → h₁.get? b = some o := fun b o hb x => he₁ b o hb x
    refine done vs k m' nx h₁ tk (hin ▸ hJ') ⟨F'.ns.at' fun o x => up₁ _ o (Ne.symm hLi) x, fun b o x => up₁ b o (fun q => by rw [q, hli₀] at x; cases x) (F'.keep b o x), F'.above⟩ fun p hp => ⟨up₁ _ _ (offall p hp).2 (N' p hp).1, (N' p hp).2⟩
end
def GoR (h₀ : Heap) (L : Addr) (I : Addr) (own : List (Addr × Obj)) (J : (Str → Option Value) → List (Addr × Obj) → Prop) (s₁ : Shared) (f : Flow) (s₂ : Shared) : Prop :=
  (f = .next ∨ f = .cont) ∧ ∃ h' tk m' nx, s₂ = { s₁ with heap := h', toks := tk } ∧ Fr h₀ L h' m' ∧ News h₀ L h' (own ++ nx) ∧ (∀ q ∈ nx, q.1 ≠ I) ∧ J m' nx
theorem GoR.intro {h₀ : Heap} {L : Addr} {I : Addr} {own : List (Addr × Obj)} {J : (Str → Option Value) → List (Addr × Obj) → Prop} {s₁ : Shared} {h' : Heap} {tk : Nat} {m' : Str → Option Value} {all : List (Addr × Obj)} {f : Flow} (nx : List (Addr × Obj))
    (F : Fr h₀ L h' m') (N : News h₀ L h' all) (sub : ∀ p ∈ own ++ nx, p ∈ all) (off : ∀ q ∈ nx, q.1 ≠ I) (hJ : J m' nx) (hf : f = .next ∨ f = .cont) : GoR h₀ L I own J s₁ f { s₁ with heap := h', toks := tk } :=
  ⟨hf, h', tk, m', nx, rfl, F, fun p hp => N p (sub p hp), off, hJ⟩
section
variable {prog : Program} {w : World} {A : Around} {s : Shared} {h₀ : Heap} {env : Env} {E : Value → Shared → Prop}
def RangeAt (prog : Program) (w : World) (A : Around) (env : Env) (x : Str) (px : Pos) (body : List Stmt) (R : Result → Shared → Prop) (it : Value) (s₂ : Shared) : Prop :=
  codeAny (model prog w) A (.forLoop (.Name x px) it body [] env) R s₂
theorem For_rangeM {x : Str} {px pos : Pos} {iter : PySem.Expr} {body : List Stmt} {Q : Flow → Shared → Prop}
    (h : wpAny (model prog w) A (eval iter env) (fun xv' s₁ => wpAny (model prog w) A (pyIter xv') (RangeAt prog w A env x px body (fun r s' => match r with | .ok f => Q f s' | .error e => cameBackBy (model prog w) A env E e s')) E s₁) E s)
    (hs : ∀ x, foldedSetIterable iter env x = pure x := by intro _; rfl) :
    wpAny (model prog w) A (exec (.For (.Name x px) iter body [] pos) env) Q E s :=
  wpAny_For h hs
theorem range_loop {x : Str} {px : Pos} {body : List Stmt} {Q : Flow → Shared → Prop} {r : Addr} {a b : Int} {t u v : Tok} {n : Nat} {m₀ : Str → Option Value} {news : List (Addr × Obj)}
    (J : Nat → (Str → Option Value) → List (Addr × Obj) → Prop)
    (hh : A.handled = none) (hx : env.kindOf x = some .local)
    (hp : (env.scope.kind == .class || (env.scope.kind == .module && env.locals != env.globals)) = false)
    (F : Fr h₀ env.locals s.heap m₀) (N : News h₀ env.locals s.heap news) (hr : IsRange s.heap r a b 1 t u v) (hsm : Builtin.Range.small a b 1 = true) (hn : Builtin.Range.rangeSize a b 1 = ((n : Nat) : Int)) (hJ : J 0 m₀ news)
    (turn : ∀ I oI i tk m₁ nx h tk' E', i < n → J i m₁ nx → (∀ q ∈ nx, q.1 ≠ I) → (∀ p ∈ news, p.1 < I) →
      Fr h₀ env.locals h (fun y => if y = x then some (.int (a + (i : Nat)) tk) else m₁ y) → News h₀ env.locals h ([(I, oI)] ++ nx) →
      wpAny (model prog w) A (execs body env) (GoR h₀ env.locals I [(I, oI)] (J (i + 1)) { s with heap := h, toks := tk' }) E' { s with heap := h, toks := tk' })
    (done : ∀ m₁ nx h tk, J n m₁ nx → Fr h₀ env.locals h m₁ → News h₀ env.locals h nx → Q .next { s with heap := h, toks := tk }) :
    wpAny (model prog w) A (pyIter (.ref r)) (RangeAt prog w A env x px body (fun r s' => match r with | .ok f => Q f s' | .error e => cameBackBy (model prog w) A env E e s')) E s := by
  refine wpAny_pyIter_range hr hsm ?_
  show codeAny _ _ _ _ _
  have up : ∀ (o₁ : Obj) b o, s.heap.get? b = some o → (s.heap.push o₁).get? b = some o := fun o₁ b o e => Heap.get?_push_of_some _ e
  have W := PyProof.Rows.LCg.range_walks (prog := prog) (w := w) (I := s.heap.objs.size) hh a n
  have hLI : env.locals ≠ s.heap.objs.size := Nat.ne_of_lt F.ns.lt
  have hI₀ : h₀.get? s.heap.objs.size = none := next_is_new F
  refine codeAny_forLoop_any
    (fun c s' => ∃ h' tk m' i nx, s' = { s with heap := h', toks := tk } ∧ IsRangeIter h' s.heap.objs.size (a + (i : Nat) * 1) ((n : Int) - (i : Nat)) 1 ∧ Fr h₀ env.locals h' m' ∧ News h₀ env.locals h' nx ∧ (∀ q ∈ nx, q.1 ≠ s.heap.objs.size) ∧ J i m' nx ∧ i ≤ n ∧ c = n + 1 - i) ?_ (n + 1)
    ⟨_, s.toks, m₀, 0, news, rfl, by unfold IsRangeIter; rw [Heap.get?_push_size _ rfl, hn]; simp, F.keeps (up _), N.grown (up _), fun q hq => Nat.ne_of_lt (Heap.lt_size (N q hq).1), hJ, Nat.zero_le _, rfl⟩
  rintro c s' ⟨H, tk, m', i, nx, rfl, hI, F', N', hoff, hJ', hi, rfl⟩
  by_cases hv : i < n
  · refine W.item i _ _ _ hv hI fun v h₂ tk₂ hPv hst₂ hk₂ => ?_
    obtain ⟨t', rfl⟩ := hPv
    show wpAny _ A (pure ()) _ _ _
    refine wpAny_pure ?_
    have F₂ : Fr h₀ env.locals h₂ m' := ⟨F'.ns.at' fun o e => hk₂ _ o (by simpa using hLI) e, fun b o e => hk₂ b o (fun hm => by rw [List.mem_singleton.mp hm, hI₀] at e; cases e) (F'.keep b o e), F'.above⟩
    refine wpAny_assign_Name (wpAny_storeName_local hx F₂.ns (fun h₃ hn₃ hs₃ => ?_) hp)
    have F₃ := F₂.set hn₃ hs₃
    have hI₃ : IsRangeIter h₃ s.heap.objs.size (a + ((i + 1 : Nat) : Int) * 1) ((n : Int) - ((i + 1 : Nat) : Int)) 1 := hs₃.extBut _ _ (Ne.symm hLI) hst₂
    have N₃ : News h₀ env.locals h₃ ([(s.heap.objs.size, _)] ++ nx) := fun p hp => by
      rcases List.mem_append.mp hp with hp | hp
      · rw [List.mem_singleton.mp hp]; exact ⟨hI₃, Ne.symm hLI, hI₀⟩
      · exact ⟨hs₃.extBut _ _ (N' p hp).2.1 (hk₂ _ _ (by simpa using hoff p hp) (N' p hp).1), (N' p hp).2⟩
    refine wpAny_mono (turn s.heap.objs.size _ i t' m' nx h₃ _ _ hv hJ' hoff (fun p hp => Heap.lt_size (N p hp).1) F₃ N₃) (fun f s₃ h₆ => ?_) fun _ _ x => x
    obtain ⟨hf, h₆, tk₆, m₆, nx₆, rfl, F₆, N₆, off₆, hJ₆⟩ := h₆
    have goal : ∃ m, m < n + 1 - i ∧ ∃ h' tk m' i nx, ({ s with heap := h₆, toks := tk₆ } : Shared) = { s with heap := h', toks := tk } ∧ IsRangeIter h' s.heap.objs.size (a + (i : Nat) * 1) ((n : Int) - (i : Nat)) 1 ∧ Fr h₀ env.locals h' m' ∧ News h₀ env.locals h' nx ∧ (∀ q ∈ nx, q.1 ≠ s.heap.objs.size) ∧ J i m' nx ∧ i ≤ n ∧ m = n + 1 - i :=
      ⟨n + 1 - (i + 1), by omega, h₆, tk₆, m₆, i + 1, nx₆, rfl, (N₆ _ (.head _)).1, F₆, fun p hp => N₆ p (List.mem_append_right _ hp), off₆, hJ₆, hv, rfl⟩
    rcases hf with rfl | rfl
    · exact goal
    · exact goal
  · have hin : i = n := by omega
    subst hin
    refine W.done _ _ _ hI fun h₁ tk₁ hk₁ => wpAny_execs_nil ?_
    exact done m' nx h₁ tk₁ hJ' ⟨F'.ns.at' fun o e => hk₁ _ o (by simpa using hLI) e, fun b o e => hk₁ b o (fun hm => by rw [List.mem_singleton.mp hm, hI₀] at e; cases e) (F'.keep b o e), F'.above⟩ fun p hp => ⟨hk₁ _ _ (by simpa using hoff p hp) (N' p hp).1, (N' p hp).2⟩
end
end
section
open PySem PySem.Spec PySem.Calls PyProof.Rows
section
open PySem.W
variable {prog : Program} {w : World} {A : Around} {E : Value → Shared → Prop} {s : Shared} {h₀ : Heap} {L l : Addr} {m : Str → Option Value} {news : List (Addr × Obj)} {value slice : PySem.Expr} {vs : List Value} {ns : List Int} {vl vu : Value} {lo hi : Option Int} {n : Nat} {Q : Value → Shared → Prop}
def cutF (ns : List Int) (lo hi : Option Int) : List Int := (ns.drop (kms_lo lo ns.length)).take (kms_hi hi ns.length - kms_lo lo ns.length)
theorem slice_K (F : Fr h₀ L s.heap m) (N : News h₀ L s.heap news) (hl : (l, listOf vs.toArray n) ∈ news) (hi' : IntsAre vs ns) (pl : IsPart vl lo) (pu : IsPart vu hi) (hz : ns.length ≤ 1000)
    (h : ∀ D ws h', Fr h₀ L h' m → News h₀ L h' ((D, listOf (List.toArray ws) 0) :: news) → (∀ p ∈ news, p.1 < D) → IntsAre ws (cutF ns lo hi) → Q (.ref D) { s with heap := h' })
    (hs : subscripted slice false (.ref l) (.ref s.heap.objs.size) = operate [.ref s.heap.objs.size, .ref l] (getItem (.ref l) (.ref s.heap.objs.size))) :
    wpAny (model prog w) A (subscriptTail value slice (.ref l) (.ref s.heap.objs.size)) Q E { s with heap := s.heap.push { cls := .type "slice", data := .fields #[vl, vu, .none] } } := by
  refine kba_turn (value' := PySem.Expr.Name (PySem.Str.ofString "_") ⟨0, 0, 0, 0⟩) (fun _ => rfl) ?_
  refine kms_slice_lit F N (News.isList N hl) pl pu rfl (fun D h' F' N' l1 => h D _ h' F' N' l1 ?_) hs (fun _ => rfl) (by rw [List.size_toArray, hi'.length, sizeLine_eq]; omega)
  unfold kms_pick cutF
  rw [show vs.toArray.toList = vs from rfl, hi'.length]
  exact (hi'.drop _).take _
theorem rev_K {vk : Value} {ops : List Value} (F : Fr h₀ L s.heap m) (N : News h₀ L s.heap news) (hl : (l, listOf vs.toArray n) ∈ news) (hi' : IntsAre vs ns) (pk : IsPart vk (some (-1))) (hz : ns.length ≤ 1000)
    (h : ∀ D ws h', Fr h₀ L h' m → News h₀ L h' ((D, listOf (List.toArray ws) 0) :: news) → (∀ p ∈ news, p.1 < D) → IntsAre ws ns.reverse → Q (.ref D) { s with heap := h' })
    (hs : subscripted slice false (.ref l) (.ref s.heap.objs.size) = operate ops (getItem (.ref l) (.ref s.heap.objs.size))) :
    wpAny (model prog w) A (subscriptTail value slice (.ref l) (.ref s.heap.objs.size)) Q E { s with heap := s.heap.push { cls := .type "slice", data := .fields #[.none, .none, vk] } } := by
  refine kba_turn (value' := PySem.Expr.Name (PySem.Str.ofString "_") ⟨0, 0, 0, 0⟩) (fun _ => rfl) ?_
  exact krv_ints F N (News.isList N hl) pk hi' (fun D ws h' F' N' l1 i1 _ => h D ws h' F' N' l1 i1) hs (fun _ => rfl) (by rw [List.size_toArray, hi'.length, sizeLine_eq]; omega)
end
end
section
open PySem PySem.Spec PySem.Calls PyProof.Rows
set_option maxRecDepth 100000
theorem mro_object : mroOf (.type "object") = pure [.type "object"] := by rw [mroOf_type]; kernel_rfl
theorem lookup_object_new : typeLookup (.type "object") "__new__" = pure (some (.builtin "object.__new__")) := by rw [typeLookup_type, builtinLookup_eq_fast]; kernel_rfl
theorem made_object : Bind.madeBy (.type "object") = pure (some "object.__new__") := madeBy_type mro_object lookup_object_new (by decide +kernel)
theorem called_object : TypeCalled "object" "object.__new__" "object.__init__" :=
  ⟨by decide +kernel, by decide +kernel, ⟨_, _, mro_object⟩, made_object, by decide +kernel, by rw [isSubtype_type]; kernel_rfl, F.slot_object_init⟩
theorem typeCall_object : checkTypeCall "object" ⟨[], []⟩ = pure () := by kernel_rfl
theorem newCall_object : checkBuiltinCall "object.__new__" ⟨[.type "object"], []⟩ = pure () := by kernel_rfl
theorem entry_object_new : entryFor table "object.__new__" = some Builtin.«object.__new__» := entryFor_of_tree (by kernel_rfl)
theorem args_object_init_1 (a : Value) : argsOk "object.__init__" ⟨[a], []⟩ := by
  unfold argsOk; rw [signature?_of (id := "object.__init__") (n := ['_', '_', 't', 'i', 'n', 'i', '_', '_']) (o := ['t', 'c', 'e', 'j', 'b', 'o']) (by kernel_rfl) F.owner_object]; kernel_rfl
theorem madeHere_object : Bind.madeHere "object.__new__" (.type "object") = pure () := by
  unfold Bind.madeHere
  have e : Bind.staticBase (.type "object") = pure (.type "object") := by first | rfl | kernel_rfl
  rw [e]
  simp only [pure_bind, made_object]
  first | rfl | kernel_rfl | (simp; rfl)
theorem meets_object_new :
    Meets (Builtin.«object.__new__» ⟨[.type "object"], []⟩) (fun _ R s => R (.ok (.ret (.ref s.heap.objs.size))) { s with heap := s.heap.push { cls := .type "object", data := .plain } }) :=
  .of_wp fun prog w A R s h => by
    obtain ⟨hp, g, d, tk, os⟩ := s
    have hmh := madeHere_object
    unfold Builtin.«object.__new__»
    dsimp only
    repeat (any_goals (first | assumption | wp_step))
    exact ⟨_, rfl, h⟩
abbrev objO : Obj := { cls := .type "object", data := .plain }
section
variable {prog : Program} {w : World} {A : Around} {E : Value → Shared → Prop} {s : Shared} {h₀ : Heap} {L : Addr} {m : Str → Option Value} {news : List (Addr × Obj)}
theorem call_object {Q : Value → Shared → Prop} (h : Q (.ref s.heap.objs.size) { s with heap := s.heap.push objO }) : wpAny (model prog w) A (call (.type "object") []) Q E s := by
  refine callType_meets (Q₁ := fun obj s₁ => s₁.TypeIs obj "object" ∧ Q obj s₁) called_object typeCall_object newCall_object entry_object_new F.entry_object_init meets_object_new ⟨⟨_, Heap.get?_push_size _ rfl, rfl⟩, h⟩ fun obj s₁ hq => ?_
  refine ⟨hq.1, args_object_init_1 obj, fun _ R s => R (.ok (.ret .none)) s, ?_, ⟨rfl, hq.2⟩⟩
  exact Meets.of_wp fun prog w A R s hs => wpAny_pure ⟨_, rfl, hs⟩
theorem object_K {Q : Value → Shared → Prop} (F : Fr h₀ L s.heap m) (N : News h₀ L s.heap news)
    (h : ∀ D h', (∀ p ∈ news, p.1 < D) → L < D → Fr h₀ L h' m → News h₀ L h' ((D, objO) :: news) → Q (.ref D) { s with heap := h' }) : wpAny (model prog w) A (call (.type "object") []) Q E s := by
  refine call_object (h s.heap.objs.size _ (fun p hp => Heap.lt_size (N p hp).1) F.ns.lt (F.keeps fun _ _ e => Heap.get?_push_of_some _ e) fun p hp => ?_)
  rcases List.mem_cons.mp hp with rfl | hp
  · exact ⟨Heap.get?_push_size _ rfl, Nat.ne_of_gt F.ns.lt, next_is_new F⟩
  · exact N.grown (fun _ _ e => Heap.get?_push_of_some _ e) p hp
end
section
theorem int_eq_obj (x : Int) (t : Tok) (D : Addr) : Meets (Builtin.«int.__eq__» ⟨[.int x t, .ref D], []⟩) (fun _ R s => s.heap.get? D = some objO ∧ R (.ok (.ret .notImplemented)) s) :=
  .of_wp fun prog w A R s h => by
    obtain ⟨hp, g, d, tk, os⟩ := s
    obtain ⟨hD, h⟩ := h
    wp_walk using wpAny_load hD
    exact ⟨_, rfl, h⟩
theorem obj_eq_int (x : Int) (t : Tok) (D : Addr) : Meets (Builtin.«object.__eq__» ⟨[.ref D, .int x t], []⟩) (fun _ R s => s.heap.get? D = some objO ∧ R (.ok (.ret .notImplemented)) s) :=
  .of_wp fun prog w A R s h => by
    obtain ⟨hp, g, d, tk, os⟩ := s
    obtain ⟨hD, h⟩ := h
    have hs : isSame (.ref D) (.int x t) = pure false := rfl
    unfold Builtin.«object.__eq__»
    repeat (any_goals (first | assumption | wp_step))
    exact ⟨_, rfl, h⟩
end
section
variable {prog : Program} {w : World} {A : Around} {E : Value → Shared → Prop} {s : Shared}
theorem eq_obj_int {D : Addr} {x : Int} {t : Tok} {Q : Value → Shared → Prop} (hD : s.heap.get? D = some objO) (hu : A.units < cLine) (h : Q (.bool false) s) : wpAny (model prog w) A (compareOp .Eq (.ref D) (.int x t)) Q E s := by
  show wpAny _ A (richCompare .Eq _ _) Q E s
  have ha : s.TypeIs (.ref D) "object" := ⟨_, hD, rfl⟩
  have hb : s.TypeIs (.int x t) "int" := typeIs_int s x t
  rcases hi : cmpInfo CmpOp.Eq with ⟨sym, f, r⟩
  have h1 := F.slot_object_eq
  have h2 := F.slot_int_eq_refl
  rw [hi] at h1 h2
  simp only [richCompare, hi, ha.oneThing_none]
  try with_reducible refine wpAny_holding ?_
  refine wpAny_bind (wpAny_cRoomFor hu ?_)
  refine wpAny_bind (wpAny_typeOf ha (wpAny_bind (wpAny_typeOf hb ?_)))
  simp only [show (Value.type "object" != Value.type "int") = true from by decide, if_true]
  refine wpAny_bind (wpAny_of_eq F.sub_int_object ?_)
  simp only [if_true, Bool.not_true, Bool.false_eq_true, if_false]
  refine wpAny_bind (wpAny_tryCompare_declines hb h2 (call_meets F.slot_int_eq_refl hb F.entry_int_eq (F.args_int_eq_2 _ _) (int_eq_obj x t D) ⟨hD, rfl, ?_⟩))
  refine wpAny_bind (wpAny_tryCompare_declines ha h1 (call_meets F.slot_object_eq ha F.entry_object_eq (F.args_object_eq_2 _ _) (obj_eq_int x t D) ⟨hD, rfl, ?_⟩))
  exact wpAny_bind (wpAny_rule (wpAny_bind (wpAny_of_eq (show isSame (.ref D) (.int x t) = pure false from rfl) (wpAny_pure h))))
end
end
section
open PySem PySem.Spec PySem.Calls PyProof.Rows
inductive SlotIs (NU : Addr) : Value → Option Int → Prop
  | int (n : Int) (t : Tok) : SlotIs NU (.int n t) (some n)
  | gone : SlotIs NU (.ref NU) none
inductive SlotsAre (NU : Addr) : List Value → List (Option Int) → Prop
  | nil : SlotsAre NU [] []
  | cons {v : Value} {o : Option Int} {vs : List Value} {os : List (Option Int)} : SlotIs NU v o → SlotsAre NU vs os → SlotsAre NU (v :: vs) (o :: os)
namespace SlotsAre
theorem length {NU : Addr} : ∀ {vs : List Value} {os : List (Option Int)}, SlotsAre NU vs os → vs.length = os.length
  | _, _, .nil => rfl
  | _, _, .cons _ r => by simp [length r]
theorem ofInts {NU : Addr} : ∀ {vs : List Value} {ns : List Int}, IntsAre vs ns → SlotsAre NU vs (ns.map some)
  | _, _, .nil => .nil
  | _, _, .cons n t r => .cons (.int n t) (ofInts r)
theorem get {NU : Addr} : ∀ {vs : List Value} {os : List (Option Int)}, SlotsAre NU vs os → ∀ {i : Nat} {v : Value} {o : Option Int}, vs[i]? = some v → os[i]? = some o → SlotIs NU v o
  | _, _, .nil, i, v, _, h, _ => by simp at h
  | _, _, .cons h r, 0, v, o, hv, ho => by
    simp only [List.getElem?_cons_zero, Option.some.injEq] at hv ho
    subst hv; subst ho; exact h
  | _, _, .cons h r, i + 1, v, o, hv, ho => get r (by simpa using hv) (by simpa using ho)
theorem set {NU : Addr} : ∀ {vs : List Value} {os : List (Option Int)}, SlotsAre NU vs os → ∀ (i : Nat), SlotsAre NU (vs.set i (.ref NU)) (os.set i none)
  | _, _, .nil, i => by simpa using SlotsAre.nil
  | _, _, .cons h r, 0 => .cons .gone r
  | _, _, .cons h r, i + 1 => .cons h (set r i)
end SlotsAre
def maskF (S seen : List Int) : List (Option Int) := S.map fun y => if y ∈ seen then none else some y
def midF (S seen : List Int) (x : Int) (p : Nat) : List (Option Int) := maskF (S.take p) (seen ++ [x]) ++ maskF (S.drop p) seen
theorem maskF_nil (S : List Int) : maskF S [] = S.map some := by unfold maskF; simp
theorem maskF_len (S seen : List Int) : (maskF S seen).length = S.length := by unfold maskF; simp
theorem maskF_get {S seen : List Int} {i : Nat} {x : Int} (h : S[i]? = some x) : (maskF S seen)[i]? = some (if x ∈ seen then none else some x) := by
  unfold maskF; rw [List.getElem?_map, h]; rfl
theorem maskF_same {S seen : List Int} {x : Int} (h : x ∈ seen) : maskF S (seen ++ [x]) = maskF S seen := by
  unfold maskF
  refine List.map_congr_left fun y _ => ?_
  have : (y ∈ seen ++ [x]) ↔ y ∈ seen := by
    simp only [List.mem_append, List.mem_singleton]
    exact ⟨fun e => e.elim id fun e => e ▸ h, .inl⟩
  simp only [this]
theorem midF_zero (S seen : List Int) (x : Int) : midF S seen x 0 = maskF S seen := by unfold midF; simp [maskF]
theorem midF_full (S seen : List Int) (x : Int) : midF S seen x S.length = maskF S (seen ++ [x]) := by unfold midF; simp [maskF]
theorem midF_start {S seen : List Int} {x : Int} {i : Nat} (h : ∀ y ∈ S.take i, y ∈ seen) : midF S seen x i = maskF S seen := by
  unfold midF
  have : maskF (S.take i) (seen ++ [x]) = maskF (S.take i) seen := by
    unfold maskF
    refine List.map_congr_left fun y hy => ?_
    rw [if_pos (List.mem_append_left _ (h y hy)), if_pos (h y hy)]
  rw [this]
  unfold maskF
  rw [← List.map_append, List.take_append_drop]
theorem midF_get {S seen : List Int} {x y : Int} {p : Nat} (h : S[p]? = some y) : (midF S seen x p)[p]? = some (if y ∈ seen then none else some y) := by
  unfold midF
  have hp : p < S.length := by
    rcases Nat.lt_or_ge p S.length with h' | h'
    · exact h'
    · rw [List.getElem?_eq_none h'] at h; cases h
  have hl : (maskF (S.take p) (seen ++ [x])).length = p := by rw [maskF_len, List.length_take]; omega
  rw [List.getElem?_append_right (by omega), hl, Nat.sub_self]
  exact maskF_get (by rw [List.getElem?_drop]; simpa using h)
theorem midF_succ {S seen : List Int} {x y : Int} {p : Nat} (h : S[p]? = some y) :
    midF S seen x (p + 1) = maskF (S.take p) (seen ++ [x]) ++ (if y ∈ seen ++ [x] then none else some y) :: maskF (S.drop (p + 1)) seen := by
  have hp : p < S.length := by
    rcases Nat.lt_or_ge p S.length with h' | h'
    · exact h'
    · rw [List.getElem?_eq_none h'] at h; cases h
  unfold midF maskF
  have e : S.take (p + 1) = S.take p ++ [y] := by rw [List.take_add_one, h]; rfl
  rw [e, List.map_append, List.append_assoc]; rfl
theorem midF_drop {S seen : List Int} {x y : Int} {p : Nat} (h : S[p]? = some y) :
    midF S seen x p = maskF (S.take p) (seen ++ [x]) ++ (if y ∈ seen then none else some y) :: maskF (S.drop (p + 1)) seen := by
  have hp : p < S.length := by
    rcases Nat.lt_or_ge p S.length with h' | h'
    · exact h'
    · rw [List.getElem?_eq_none h'] at h; cases h
  unfold midF maskF
  have e : S.drop p = y :: S.drop (p + 1) := by
    rw [List.drop_eq_getElem_cons hp]
    have : S[p] = y := by rw [List.getElem?_eq_getElem hp] at h; exact Option.some.inj h
    rw [this]
  rw [e]; rfl
theorem midF_set {S seen : List Int} {x : Int} {p : Nat} (h : S[p]? = some x) : (midF S seen x p).set p none = midF S seen x (p + 1) := by
  have hp : p < S.length := by
    rcases Nat.lt_or_ge p S.length with h' | h'
    · exact h'
    · rw [List.getElem?_eq_none h'] at h; cases h
  rw [midF_succ h, midF_drop h, if_pos (show x ∈ seen ++ [x] from List.mem_append_right _ (.head _))]
  have hl : (maskF (S.take p) (seen ++ [x])).length = p := by rw [maskF_len, List.length_take]; omega
  rw [List.set_append_right _ _ (by omega), hl, Nat.sub_self]; rfl
theorem midF_keep {S seen : List Int} {x y : Int} {p : Nat} (h : S[p]? = some y) (hne : y ≠ x ∨ y ∈ seen) : midF S seen x p = midF S seen x (p + 1) := by
  rw [midF_succ h, midF_drop h]
  have : (y ∈ seen ++ [x]) ↔ y ∈ seen := by
    simp only [List.mem_append, List.mem_singleton]
    refine ⟨fun e => ?_, .inl⟩
    rcases e with e | e
    · exact e
    · exact hne.elim (fun h => absurd e h) id
  simp only [this]
theorem count_take {S : List Int} {x y : Int} {p : Nat} (h : S[p]? = some y) : (S.take (p + 1)).count x = (S.take p).count x + if y = x then 1 else 0 := by
  rw [List.take_add_one, h, List.count_append]
  show _ + List.count x [y] = _
  rw [List.count_singleton]
  by_cases e : y = x <;> simp [e]
theorem midF_len (S seen : List Int) (x : Int) (p : Nat) : (midF S seen x p).length = S.length := by
  unfold midF; rw [List.length_append, maskF_len, maskF_len, ← List.length_append, List.take_append_drop]
theorem upd_at {D : Addr} {o o' : Obj} {post : List (Addr × Obj)} (hb : ∀ p ∈ post, p.1 ≠ D) : ∀ {pre : List (Addr × Obj)}, (∀ p ∈ pre, p.1 ≠ D) → PySem.W.Upd D o o' (pre ++ (D, o) :: post) (pre ++ (D, o') :: post)
  | [], _ => .head hb
  | q :: r, ha => .tail (ha q (.head _)) (upd_at hb fun p hp => ha p (.tail _ hp))
section
open PySem.W
variable {prog : Program} {w : World} {A : Around} {E : Value → Shared → Prop} {s : Shared} {h₀ : Heap} {L D : Addr} {m : Str → Option Value} {news news' : List (Addr × Obj)} {vs : List Value} {n : Nat} {k : Int} {t : Tok} {v : Value}
theorem set_any {Q : Unit → Shared → Prop} (F : Fr h₀ L s.heap m) (N : News h₀ L s.heap news) (U : Upd D (listOf vs.toArray n) (listOf (vs.set k.toNat v).toArray n) news news') (h0 : 0 ≤ k) (h1 : k < vs.length) (hfit : k < 2 ^ 63)
    (h : ∀ h', Fr h₀ L h' m → News h₀ L h' news' → Q () { s with heap := h' }) :
    wpAny (model prog w) A (setItem (.ref D) (.int k t) v) Q E s := by
  obtain ⟨pre, post, rfl, rfl, a, b⟩ := U.split
  have z := N (D, listOf vs.toArray n) (List.mem_append.mpr (.inr (.head _)))
  have hs : vs.toArray.size = vs.length := List.size_toArray ..
  refine ki_setAt z.1 h0 hfit (by omega) (h _ (F.change (Heap.SameBut.update ..) z.2.1 z.2.2) (ki_turn _ N a b ?_ ?_))
  · show vs.toArray.setIfInBounds k.toNat v = (vs.set k.toNat v).toArray
    apply Array.toList_inj.mp
    simp
  · simp
end
end
section
open PySem PySem.Spec PySem.Calls PyProof.Rows PyProof.Rows.LCg
section
variable {prog : Program} {w : World} {A : Around} {s : Shared} {h₀ : Heap} {L : Addr} {m : Str → Option Value} {env : Env}
theorem store_one {a : Str} {pa : Pos} {scope : Scope} {cl : List (Str × Addr)} {C : Addr} {x : Value} {m₁ : Str → Option Value} {Q : Unit → Shared → Prop} {E : Value → Shared → Prop}
    (hx : scope.names.lookup a = some .local) (hkind : scope.kind = .function) (hn : s.heap.Ns C m₁)
    (h : ∀ h' tk, h'.Ns C (fun z => if z = a then some x else m₁ z) → (∀ b o, b ≠ C → s.heap.get? b = some o → h'.get? b = some o) → Q () { s with heap := h', toks := tk }) :
    wpAny (model prog w) A (assign (.Name a pa) (compEnvC scope cl C env) x) Q E s :=
  wpAny_assign_Name (wpAny_storeName_local (lookup_relabel_local hx) hn (fun h₃ hn₃ hs₃ => h h₃ _ hn₃ fun b o hb e => hs₃.extBut b o hb e) (by simp [compEnvC, relabel, hkind]))
theorem store_two {a b : Str} {pa pb : Pos} {scope : Scope} {cl : List (Str × Addr)} {C : Addr} {x y : Value} {m₁ : Str → Option Value} {Q : Unit → Shared → Prop} {E : Value → Shared → Prop}
    (hxa : scope.names.lookup a = some .local) (hxb : scope.names.lookup b = some .local) (hkind : scope.kind = .function) (hn : s.heap.Ns C m₁)
    (h : ∀ h' tk, h'.Ns C (fun z => if z = b then some y else if z = a then some x else m₁ z) → (∀ b o, b ≠ C → s.heap.get? b = some o → h'.get? b = some o) → Q () { s with heap := h', toks := tk }) :
    wpAny (model prog w) A (assignInOrder ((assignEach [.Name a pa, .Name b pb] (compEnvC scope cl C env)).map (·.2)) [x, y]) Q E s := by
  show wpAny _ A (do holding [y] (assign (.Name a pa) (compEnvC scope cl C env) x); do holding [] (assign (.Name b pb) (compEnvC scope cl C env) y); pure ()) _ _ _
  refine wpAny_bind (wpAny_holding (store_one hxa hkind hn fun h₁ t₁ hn₁ k₁ => ?_))
  refine wpAny_bind (wpAny_holding (store_one (s := { s with heap := h₁, toks := t₁ }) hxb hkind hn₁ fun h₂ t₂ hn₂ k₂ => wpAny_pure ?_))
  exact h h₂ _ hn₂ fun b o hb e => k₂ b o hb (k₁ b o hb e)
theorem store_three {a b c : Str} {pa pb pc : Pos} {scope : Scope} {cl : List (Str × Addr)} {C : Addr} {x y z' : Value} {m₁ : Str → Option Value} {Q : Unit → Shared → Prop} {E : Value → Shared → Prop}
    (hxa : scope.names.lookup a = some .local) (hxb : scope.names.lookup b = some .local) (hxc : scope.names.lookup c = some .local) (hkind : scope.kind = .function) (hn : s.heap.Ns C m₁)
    (h : ∀ h' tk, h'.Ns C (fun z => if z = c then some z' else if z = b then some y else if z = a then some x else m₁ z) → (∀ b o, b ≠ C → s.heap.get? b = some o → h'.get? b = some o) → Q () { s with heap := h', toks := tk }) :
    wpAny (model prog w) A (assignInOrder ((assignEach [.Name a pa, .Name b pb, .Name c pc] (compEnvC scope cl C env)).map (·.2)) [x, y, z']) Q E s := by
  show wpAny _ A (do holding [y, z'] (assign (.Name a pa) (compEnvC scope cl C env) x); do holding [z'] (assign (.Name b pb) (compEnvC scope cl C env) y); do holding [] (assign (.Name c pc) (compEnvC scope cl C env) z'); pure ()) _ _ _
  refine wpAny_bind (wpAny_holding (store_one hxa hkind hn fun h₁ t₁ hn₁ k₁ => ?_))
  refine wpAny_bind (wpAny_holding (store_one (s := { s with heap := h₁, toks := t₁ }) hxb hkind hn₁ fun h₂ t₂ hn₂ k₂ => ?_))
  refine wpAny_bind (wpAny_holding (store_one (s := { s with heap := h₂, toks := t₂ }) hxc hkind hn₂ fun h₃ t₃ hn₃ k₃ => wpAny_pure ?_))
  exact h h₃ _ hn₃ fun b o hb e => k₃ b o hb (k₂ b o hb (k₁ b o hb e))
theorem src_pair {a b : Str} {pa pb : Pos} {k : Nat} {pos : Pos} {scope : Scope} {cl : List (Str × Addr)} {I : Addr} {fp wr : List Addr} {n : Nat} {Pt : Nat → Array Value → Prop} {P2 : Nat → Value → Value → Prop} {St : Nat → Heap → Prop} {Mid : Nat → Addr → Heap → Prop}
    (hh : A.handled = none) (W : WalksU prog w A I fp wr n Pt St Mid) (hPt : ∀ i vals, Pt i vals → ∃ x y, P2 i x y ∧ vals = #[x, y]) (hxa : scope.names.lookup a = some .local) (hxb : scope.names.lookup b = some .local) (hkind : scope.kind = .function)
    (has : ∀ i h, St i h → ∀ b ∈ fp, ∃ o, h.get? b = some o) :
    Src prog w A (.Tuple [.Name a pa, .Name b pb] k pos) scope cl env I fp wr n (fun i m₁ m₂ _ => ∃ x y, P2 i x y ∧ m₂ = fun z => if z = b then some y else if z = a then some x else m₁ z) St where
  sub := W.sub
  frame := W.frame
  has := fun i h st b hb => has i h st b (W.sub b hb)
  item := fun i s C m₁ Q E hi hst hn hC hQ => by
    have hCw : C ∉ wr := fun h => hC (W.sub _ h)
    refine W.item i s _ _ hi hst fun T vals h₂ tk₂ hP hT hMid hk₂ => ⟨.ref T, rfl, ?_⟩
    obtain ⟨x, y, hP2, rfl⟩ := hPt _ _ hP
    refine W.go _ k pos i T _ _ _ hMid fun h₃ hst₃ hk₃ => ?_
    have hTw := W.apart i T h₂ hMid
    obtain ⟨oT, hoT, hcT, nT, hdT⟩ := hT
    have hT₃ : h₃.IsTuple T #[x, y] := ⟨oT, hk₃ T oT hTw hoT, hcT, nT, hdT⟩
    refine wpAny_assign_Tuple hh hT₃ rfl rfl fun h₄ hx₄ => ?_
    replace hx₄ : Heap.ExtBut h₃.objs.size h₃ h₄ := hx₄
    have up : ∀ b o, h₃.get? b = some o → h₄.get? b = some o := fun b o e => hx₄ b o (Nat.ne_of_lt (Heap.lt_size e)) e
    refine store_two hxa hxb hkind (hn.at' fun o e => up _ o (hk₃ _ o hCw (hk₂ _ o hCw e))) fun h₅ _ hn₅ hk₅ => ?_
    refine hQ h₅ _ _ ⟨x, y, hP2, rfl⟩ hn₅ (W.frame _ h₃ _ hst₃ fun b hb o e => hk₅ b o (fun q => hC (by have q' : b = C := q; rw [← q']; exact hb)) (up b o e)) fun b o hb hbC e => hk₅ b o hbC (up b o (hk₃ b o hb (hk₂ b o hb e)))
  done := W.done
  self := W.self
theorem start_zip {elt iter : PySem.Expr} {a b : Str} {pa pb : Pos} {k : Nat} {tpos : Pos} {scope : Scope} {cl : List (Str × Addr)} {pos : Pos} {l1 l2 : Addr} {vs1 vs2 : List Value} {n1 n2 : Nat} {news : List (Addr × Obj)} {E : Value → Shared → Prop}
    {Fin : Shared → Addr → (Str → Option Value) → List Value → List (Addr × Obj) → Prop} (J : Nat → List Value → List (Addr × Obj) → Prop) (hh : A.handled = none) (hxa : scope.names.lookup a = some .local) (hxb : scope.names.lookup b = some .local) (hkind : scope.kind = .function)
    (F : Fr h₀ L s.heap m) (N : News h₀ L s.heap news) (hm1 : (l1, listOf vs1.toArray n1) ∈ news) (hm2 : (l2, listOf vs2.toArray n2) ∈ news) (hJ : J 0 [] news)
    (hlen : ∀ i ys nx, i < min vs1.length vs2.length → J i ys nx → ys.length ≤ sizeLine)
    (turn : ∀ C D i x y ys m₂ oC nx h tk own E', i < min vs1.length vs2.length → vs1[i]? = some x → vs2[i]? = some y → J i ys nx → m₂ a = (if a = b then some y else some x) → m₂ b = some y → NsObj oC m₂ → (∀ p ∈ own, p.1 ≠ D) → Apart C D [s.heap.objs.size + 4, s.heap.objs.size + 3, s.heap.objs.size, s.heap.objs.size + 1] nx → (∀ q ∈ [s.heap.objs.size + 4, s.heap.objs.size + 3, s.heap.objs.size, s.heap.objs.size + 1], ∃ o, (q, o) ∈ own) → Fr h₀ L h m → News h₀ L h (own ++ (C, oC) :: (D, lst ys) :: nx) →
      wpAny (model prog w) A (eval elt (compEnvC scope cl C env)) (CEndY (fun _ => True) h₀ L m { s with heap := h, toks := tk } own C D [s.heap.objs.size + 4, s.heap.objs.size + 3, s.heap.objs.size, s.heap.objs.size + 1] ys (J (i + 1))) E' { s with heap := h, toks := tk })
    (done : ∀ s₂ D ys nx, (∃ h, s₂ = { s with heap := h }) → (∀ b o, s.heap.get? b = some o → b < D) → J (min vs1.length vs2.length) ys nx → Fin s₂ D m ys nx) :
    wpAny (model prog w) A (call (.type "zip") [.ref l1, .ref l2]) (fun xv s₁ => wpAny (model prog w) A (pyIter xv) (CStart prog w A h₀ L elt [⟨.Tuple [.Name a pa, .Name b pb] k tpos, iter, [], 0⟩] scope pos cl env Fin) E s₁) E s := by
  have hl1 : s.heap.IsList l1 vs1.toArray := ⟨_, (N _ hm1).1, rfl, n1, rfl⟩
  have hl2 : s.heap.IsList l2 vs2.toArray := ⟨_, (N _ hm2).1, rfl, n2, rfl⟩
  have hlt1 : l1 < s.heap.objs.size := Heap.lt_size (N _ hm1).1
  have hlt2 : l2 < s.heap.objs.size := Heap.lt_size (N _ hm2).1
  have D0 : ZipApart (s.heap.objs.size + 4) (s.heap.objs.size + 2) (s.heap.objs.size + 3) s.heap.objs.size (s.heap.objs.size + 1) l1 l2 := ktu_apart _ _ _ hlt1 hlt2
  refine call_zip_2 hl1 hl2 fun h' hz hTI hTO hi1 hi2 hsz hk => ?_
  refine wpAny_pyIter_zip hz ?_
  have W := (WalksT.zip2 (prog := prog) (w := w) hh _ _ _ _ _ _ _ D0 vs1.toArray vs2.toArray).toU
  have S : Src prog w A (.Tuple [.Name a pa, .Name b pb] k tpos) scope cl env _ _ _ _ _ _ := src_pair (P2 := fun i x y => vs1[i]? = some x ∧ vs2[i]? = some y) hh W (fun i vals h => by
    obtain ⟨x, y, hx, hy, e⟩ := h
    exact ⟨x, y, ⟨by simpa using hx, by simpa using hy⟩, e⟩) hxa hxb hkind (fun i h st b hb => by
    obtain ⟨hz, hTI, ⟨p, q, hTO⟩, ⟨o1, ho1, _⟩, ⟨o2, ho2, _⟩, ⟨o3, ho3, _⟩, ⟨o4, ho4, _⟩⟩ := st
    simp only [List.mem_cons, List.not_mem_nil, or_false] at hb
    rcases hb with rfl | rfl | rfl | rfl | rfl | rfl | rfl
    · exact ⟨_, hz⟩
    · exact ⟨_, hTI⟩
    · exact ⟨_, hTO⟩
    · exact ⟨_, ho1⟩
    · exact ⟨_, ho2⟩
    · exact ⟨_, ho3⟩
    · exact ⟨_, ho4⟩)
  have new : ∀ j, h₀.get? (s.heap.objs.size + j) = none := fun j => Heap.get?_none_of_le (Nat.le_trans F.above (Nat.le_trans (Nat.le_of_lt F.ns.lt) (Nat.le_add_right _ _)))
  have lt : ∀ b o j, s.heap.get? b = some o → ¬ @Eq Nat b (s.heap.objs.size + j) := fun b o j e => by
    have : @LT.lt Nat _ b s.heap.objs.size := Heap.lt_size e
    omega
  have hLlt : @LT.lt Nat _ L s.heap.objs.size := F.ns.lt
  have hst0 : IsZip h' (s.heap.objs.size + 4) (s.heap.objs.size + 2) (s.heap.objs.size + 3) .none ∧ IsPair h' (s.heap.objs.size + 2) (.ref s.heap.objs.size) (.ref (s.heap.objs.size + 1)) ∧ (∃ a b, IsPair h' (s.heap.objs.size + 3) a b) ∧ h'.IsListIter s.heap.objs.size l1 0 ∧ h'.IsListIter (s.heap.objs.size + 1) l2 0 ∧ h'.IsList l1 vs1.toArray ∧ h'.IsList l2 vs2.toArray :=
    ⟨hz, hTI, ⟨_, _, hTO⟩, hi1, hi2, hl1.at fun o e => hk _ o e, hl2.at fun o e => hk _ o e⟩
  refine start_src (s := { s with heap := h' }) J S (F.keeps hk) (N.grown hk) ?_ ?_ ?_ (fun b hb => ?_) hst0 hJ ?_ ?_
  · intro hb
    simp only [List.mem_cons, List.not_mem_nil, or_false] at hb
    have e1 : ¬ @Eq Nat L l1 := fun e => (N _ hm1).2.1 e.symm
    have e2 : ¬ @Eq Nat L l2 := fun e => (N _ hm2).2.1 e.symm
    rcases hb with e | e | e | e | e | e | e
    · have : @Eq Nat L (s.heap.objs.size + 4) := e
      omega
    · have : @Eq Nat L (s.heap.objs.size + 2) := e
      omega
    · have : @Eq Nat L (s.heap.objs.size + 3) := e
      omega
    · have : @Eq Nat L s.heap.objs.size := e
      omega
    · have : @Eq Nat L (s.heap.objs.size + 1) := e
      omega
    · exact e1 e
    · exact e2 e
  · intro b hb
    simp only [List.mem_cons, List.not_mem_nil, or_false] at hb
    rcases hb with rfl | rfl | rfl | rfl
    · exact new 4
    · exact new 3
    · exact new 0
    · exact new 1
  · intro p hp hb
    simp only [List.mem_cons, List.not_mem_nil, or_false] at hb
    have hq := (N p hp).1
    rcases hb with e | e | e | e
    · exact lt _ _ 4 hq e
    · exact lt _ _ 3 hq e
    · exact lt _ _ 0 hq e
    · exact lt _ _ 1 hq e
  · obtain ⟨hz, hTI, ⟨p, q, hTO⟩, ⟨o1, ho1, _⟩, ⟨o2, ho2, _⟩, ⟨o3, ho3, _⟩, ⟨o4, ho4, _⟩⟩ := hst0
    simp only [List.mem_cons, List.not_mem_nil, or_false] at hb
    rcases hb with rfl | rfl | rfl | rfl | rfl | rfl | rfl
    · exact ⟨_, hz⟩
    · exact ⟨_, hTI⟩
    · exact ⟨_, hTO⟩
    · exact ⟨_, ho1⟩
    · exact ⟨_, ho2⟩
    · exact ⟨_, ho3⟩
    · exact ⟨_, ho4⟩
  · rintro C D i ys m₁ m₂ oC nx h tk own E' hi hJ' ⟨x, y, ⟨hx, hy⟩, rfl⟩ hoC hCD hoD hown hwo hap F' N'
    rw [show min vs1.toArray.size vs2.toArray.size = min vs1.length vs2.length by simp] at hi
    refine emit_0 (hlen i ys nx hi hJ') hoD hCD ?_
    exact turn C D i x y ys _ oC nx h tk own E' hi hx hy hJ' (by by_cases e : a = b <;> simp [e]) (by simp) hoC hoD hap hwo F' N'
  · intro D ys nx hD hJ'
    rw [show min vs1.toArray.size vs2.toArray.size = min vs1.length vs2.length by simp] at hJ'
    exact done _ D ys nx ⟨_, rfl⟩ (fun b o e => hD b o (hk b o e)) hJ'
end
end
section
open PySem PySem.Spec PySem.Calls PyProof.Rows PyProof.Rows.LCg
section
variable {prog : Program} {w : World} {A : Around} {s : Shared} {h₀ : Heap} {L : Addr} {m : Str → Option Value} {env : Env}
/-- what unpacks into three, as long as the fragment and the named objects stand -/
def Un3 (prog : Program) (w : World) (A : Around) (K : Frag) (es : List (Addr × Obj)) (v x y z : Value) : Prop :=
  ∀ (s : Shared) (Q : List Value → Shared → Prop) (E : Value → Shared → Prop), K.In s.heap → (∀ q ∈ es, s.heap.get? q.1 = some q.2) → (∀ h' tk, Heap.ExtBut s.heap.objs.size s.heap h' → Q [x, y, z] { s with heap := h', toks := tk }) → wpAny (model prog w) A (unpackItems v 3 none) Q E s
theorem un3_tuple {K : Frag} {es : List (Addr × Obj)} {t : Addr} {o : Obj} {x y z : Value} {n : Nat} (hh : A.handled = none) (hm : (t, o) ∈ es) (hc : o.cls = .type "tuple") (hd : o.data = .seq #[x, y, z] n) : Un3 prog w A K es (.ref t) x y z := fun s Q E _ hes hQ =>
  wpAny_unpackItems_tuple (items := #[x, y, z]) hh ⟨o, hes _ hm, hc, n, hd⟩ fun h' he => hQ h' _ he
theorem start_list3 {elt iter : PySem.Expr} {a b c : Str} {pa pb pc : Pos} {k : Nat} {tpos : Pos} {scope : Scope} {cl : List (Str × Addr)} {pos : Pos} {ax : Addr} {vs : List Value} {n : Nat} {news es : List (Addr × Obj)} {K : Frag} {E : Value → Shared → Prop} {P3 : Nat → Value → Value → Value → Prop}
    {Fin : Shared → Addr → (Str → Option Value) → List Value → List (Addr × Obj) → Prop} (J : Nat → List Value → List (Addr × Obj) → Prop) (hh : A.handled = none) (hxa : scope.names.lookup a = some .local) (hxb : scope.names.lookup b = some .local) (hxc : scope.names.lookup c = some .local) (hkind : scope.kind = .function)
    (hab : a ≠ b) (hac : a ≠ c) (hbc : b ≠ c) (X : K.In h₀) (F : Fr h₀ L s.heap m) (N : News h₀ L s.heap news) (hm : (ax, listOf vs.toArray n) ∈ news) (hes : ∀ e ∈ es, e ∈ news)
    (hU : ∀ i v, vs[i]? = some v → ∃ x y z, P3 i x y z ∧ Un3 prog w A K es v x y z) (hJ : J 0 [] news)
    (hlen : ∀ i ys nx, i < vs.length → J i ys nx → ys.length ≤ sizeLine)
    (turn : ∀ C D i x y z ys m₂ oC I nx h tk own E', i < vs.length → P3 i x y z → J i ys nx → m₂ a = some x → m₂ b = some y → m₂ c = some z → NsObj oC m₂ → (∃ o, (I, o) ∈ own) → Apart C D [I] nx → Fr h₀ L h m → News h₀ L h (own ++ (C, oC) :: (D, lst ys) :: nx) →
      wpAny (model prog w) A (eval elt (compEnvC scope cl C env)) (CEndY (fun _ => True) h₀ L m { s with heap := h, toks := tk } own C D [I] ys (J (i + 1))) E' { s with heap := h, toks := tk })
    (done : ∀ s₂ D ys nx, (∃ h, s₂ = { s with heap := h }) → (∀ b o, s.heap.get? b = some o → b < D) → J vs.length ys nx → Fin s₂ D m ys nx) :
    wpAny (model prog w) A (pyIter (.ref ax)) (CStart prog w A h₀ L elt [⟨.Tuple [.Name a pa, .Name b pb, .Name c pc] k tpos, iter, [], 0⟩] scope pos cl env Fin) E s := by
  have hol : s.heap.get? ax = some (listOf vs.toArray n) := (N _ hm).1
  have hls : s.heap.IsList ax vs.toArray := ⟨_, hol, rfl, n, rfl⟩
  have hlt : ax < s.heap.objs.size := Heap.lt_size hol
  refine wpAny_pyIter_list hls ?_
  have up : ∀ b o, s.heap.get? b = some o → (s.heap.push { cls := .type "list_iterator", data := .fields #[.ref ax, .int 0 0] }).get? b = some o := fun b o e => Heap.get?_push_of_some _ e
  have W := Walks.list (prog := prog) (w := w) hh s.heap.objs.size ax (Nat.ne_of_lt hlt) vs.toArray
  have KX : ∀ {h : Heap}, K.In h → ∀ b ∈ K.map (·.1), ∃ o, h.get? b = some o := fun {h} x b hb => by
    obtain ⟨p, hp, rfl⟩ := List.mem_map.mp hb
    cases e : K.lookup p.1 with
    | none => exact absurd hp (fun hp => by
        have := List.lookup_eq_none_iff.mp e p hp
        simp at this)
    | some o => exact ⟨o, x _ _ e⟩
  have KM : ∀ b o, K.lookup b = some o → b ∈ K.map (·.1) := fun b o e => by
    rcases List.lookup_eq_some_iff.mp e with ⟨l1, l2, e2, _⟩
    rw [e2]; simp
  have KI : ∀ b ∈ K.map (·.1), b ≠ s.heap.objs.size := fun b hb e => by
    obtain ⟨o, ho⟩ := KX (X.keeps F.keep) b hb
    exact Nat.lt_irrefl _ (e ▸ Heap.lt_size ho)
  have EI : ∀ q ∈ es, q.1 ≠ s.heap.objs.size := fun q hq => Nat.ne_of_lt (Heap.lt_size (N q (hes q hq)).1)
  have S : Src prog w A (.Tuple [.Name a pa, .Name b pb, .Name c pc] k tpos) scope cl env s.heap.objs.size ([s.heap.objs.size, ax] ++ (K.map (·.1) ++ es.map (·.1))) [s.heap.objs.size] vs.toArray.size
      (fun i m₁ m₂ _ => ∃ x y z, P3 i x y z ∧ m₂ = fun u => if u = c then some z else if u = b then some y else if u = a then some x else m₁ u)
      (fun i h => (h.IsListIter s.heap.objs.size ax i ∧ h.IsList ax vs.toArray) ∧ K.In h ∧ ∀ q ∈ es, h.get? q.1 = some q.2) :=
    { sub := fun b hb => List.mem_append_left _ (W.sub b hb)
      frame := fun i h h' st hk => ⟨W.frame i h h' st.1 fun b hb o e => hk b (List.mem_append_left _ hb) o e, fun b o e => hk b (List.mem_append_right _ (List.mem_append_left _ (KM b o e))) o (st.2.1 b o e), fun q hq => hk _ (List.mem_append_right _ (List.mem_append_right _ (List.mem_map_of_mem hq))) _ (st.2.2 q hq)⟩
      has := fun i h st b hb => by obtain ⟨o, e, _⟩ := st.1.1; rw [List.mem_singleton.mp hb]; exact ⟨o, e⟩
      item := fun i s' C m₁ Q E hi st hn hC hQ => by
        have hCw : C ≠ s.heap.objs.size := fun e => hC (List.mem_append_left _ (e ▸ .head _))
        refine W.item i s' _ _ hi st.1 fun v h₂ tk₂ hPv hst₂ hk₂ => ⟨v, rfl, ?_⟩
        refine letGo_listiter hst₂.1 ?_
        obtain ⟨x, y, z, hP3, hun⟩ := hU i v (by simpa using hPv)
        have K₂ : K.In h₂ := fun b o e => hk₂ b o (by simpa using KI b (KM b o e)) (st.2.1 b o e)
        have E₂ : ∀ q ∈ es, h₂.get? q.1 = some q.2 := fun q hq => hk₂ _ _ (by simpa using EI q hq) (st.2.2 q hq)
        rw [arm_assign_Tuple]
        refine wpAny_bind (wpAny_standAt ?_)
        unfold unpack
        rw [show (assignEach [.Name a pa, .Name b pb, .Name c pc] (compEnvC scope cl C env)).length = 3 from rfl, show (assignEach [.Name a pa, .Name b pb, .Name c pc] (compEnvC scope cl C env)).findIdx? (·.1) = none from rfl]
        refine wpAny_bind (wpAny_holding (hun _ _ _ K₂ E₂ fun h₃ t₃ hx₃ => ?_))
        replace hx₃ : Heap.ExtBut h₂.objs.size h₂ h₃ := hx₃
        have up₃ : ∀ b o, h₂.get? b = some o → h₃.get? b = some o := fun b o e => hx₃ b o (Nat.ne_of_lt (Heap.lt_size e)) e
        refine store_three hxa hxb hxc hkind (hn.at' fun o e => up₃ _ o (hk₂ _ o (by simpa using hCw) e)) fun h₄ t₄ hn₄ k₄ => ?_
        have kC : ∀ b ∈ [s.heap.objs.size, ax] ++ (K.map (·.1) ++ es.map (·.1)), ∀ o, h₂.get? b = some o → h₄.get? b = some o := fun b hb o e => k₄ b o (fun q => hC (by have q' : b = C := q; rw [← q']; exact hb)) (up₃ b o e)
        refine hQ h₄ _ _ ⟨x, y, z, hP3, rfl⟩ hn₄ ⟨W.frame _ h₂ _ hst₂ fun b hb o e => kC b (List.mem_append_left _ hb) o e, fun b o e => kC b (List.mem_append_right _ (List.mem_append_left _ (KM b o e))) o (K₂ b o e), fun q hq => kC _ (List.mem_append_right _ (List.mem_append_right _ (List.mem_map_of_mem hq))) _ (E₂ q hq)⟩ fun b o hb hbC e => k₄ b o hbC (up₃ b o (hk₂ b o hb e))
      done := fun s Q E st hQ => W.done s Q E st.1 hQ
      self := fun i s Q E st hQ => W.self i s Q E st.1 hQ }
  refine start_src (s := { s with heap := s.heap.push _ }) J S (F.keeps up) (N.grown up) ?_ ?_ ?_ ?_ ⟨⟨⟨_, Heap.get?_push_size _ rfl, rfl, rfl⟩, hls.push _⟩, (X.keeps F.keep).keeps up, fun q hq => up _ _ (N q (hes q hq)).1⟩ hJ ?_ ?_
  · intro hb
    rcases List.mem_append.mp hb with hb | hb
    · rcases List.mem_cons.mp hb with e | hb
      · exact Nat.ne_of_lt F.ns.lt e
      · exact (N _ hm).2.1 (List.mem_singleton.mp hb).symm
    · rcases List.mem_append.mp hb with hb | hb
      · obtain ⟨o, ho⟩ := KX X L hb
        rw [Heap.get?_none_of_le F.above] at ho
        cases ho
      · obtain ⟨p, hp, e⟩ := List.mem_map.mp hb
        exact (N p (hes p hp)).2.1 e
  · intro b hb; rw [List.mem_singleton.mp hb]; exact next_is_new F
  · intro p hp hb; exact Nat.ne_of_lt (Heap.lt_size (N p hp).1) (List.mem_singleton.mp hb)
  · intro b hb
    rcases List.mem_append.mp hb with hb | hb
    · rcases List.mem_cons.mp hb with e | hb
      · rw [e]; exact ⟨_, Heap.get?_push_size _ rfl⟩
      · rw [List.mem_singleton.mp hb]; exact ⟨_, up _ _ hol⟩
    · rcases List.mem_append.mp hb with hb | hb
      · obtain ⟨o, ho⟩ := KX (X.keeps F.keep) b hb
        exact ⟨o, up _ _ ho⟩
      · obtain ⟨p, hp, e⟩ := List.mem_map.mp hb
        exact ⟨p.2, up _ _ (e ▸ (N p (hes p hp)).1)⟩
  · rintro C D i ys m₁ m₂ oC nx h tk own E' hi hJ' ⟨x, y, z, hP3, rfl⟩ hoC hCD hD hown hwo ha F' N'
    have hi' : i < vs.length := by simpa using hi
    refine emit_0 (hlen i ys nx hi' hJ') hD hCD ?_
    exact turn C D i x y z ys _ oC _ nx h tk own E' hi' hP3 hJ' (by simp [hab, hac]) (by simp [hbc]) (by simp) hoC (hwo _ (.head _)) ha F' N'
  · intro D ys nx hD hJ'
    exact done _ D ys nx ⟨_, rfl⟩ (fun b o e => hD b o (up b o e)) (by simpa using hJ')
end
end
section
open PySem PySem.Spec PySem.Calls PyProof.Rows PySem.W PyProof.V
theorem dat_ints {news : List (Addr × Obj)} : ∀ {vs : List Value} {ns : List Int}, IntsAre vs ns → DatAll news vs (ns.map Dat.int)
  | _, _, .nil => .nil
  | _, _, .cons n t r => .cons (.int n t) (dat_ints r)
theorem ok_int (k : Nat) (i : Int) : kqdOk k (.int i) = true := by cases k <;> rfl
theorem ok_ints (k : Nat) (ns : List Int) : kqdOk (k + 1) (.list (ns.map Dat.int)) = true := by
  simp only [kqdOk, List.all_map, List.all_eq_true]
  exact fun i _ => ok_int k i
section
variable {prog : Program} {w : World} {A : Around} {E : Value → Shared → Prop} {s : Shared} {h₀ : Heap} {L : Addr} {news : List (Addr × Obj)} {va vb : Value} {d : Dat} {Q : Value → Shared → Prop}
theorem ne_same (N : News h₀ L s.heap news) (Da : DatIn news va d) (Db : DatIn news vb d) (ha : kqdOk 9 d = true) (hu : A.units + 64 < cLine) (h : Q (.bool false) s) : wpAny (model prog w) A (compareOp .NotEq va vb) Q E s := by
  obtain ⟨as, ra⟩ := kqd_in N 9 Da ha
  obtain ⟨bs, rb⟩ := kqd_in N 9 Db ha
  have la := kqd_lay 9 d ha
  have e : PyData.eqv (kqdP d) (kqdP d) = true := (kqd_eqv 9 d d 9 ha ha).mpr rfl
  refine ne_dataH ra rb ?_ ?_ hu (by rw [e]; exact h)
  · unfold SeqAt.shaped; rw [la.1, Bool.true_and]; exact decide_eq_true (Nat.le_trans la.2 (by decide))
  · unfold SeqAt.shaped; rw [la.1, Bool.true_and]; exact decide_eq_true (Nat.le_trans la.2 (by decide))
theorem eq_same (N : News h₀ L s.heap news) (Da : DatIn news va d) (Db : DatIn news vb d) (ha : kqdOk 9 d = true) (hu : A.units + 64 < cLine) (h : Q (.bool true) s) : wpAny (model prog w) A (compareOp .Eq va vb) Q E s := by
  obtain ⟨as, ra⟩ := kqd_in N 9 Da ha
  obtain ⟨bs, rb⟩ := kqd_in N 9 Db ha
  have la := kqd_lay 9 d ha
  have e : PyData.eqv (kqdP d) (kqdP d) = true := (kqd_eqv 9 d d 9 ha ha).mpr rfl
  refine eq_dataH ra rb ?_ ?_ hu (by rw [e]; exact h)
  · unfold SeqAt.shaped; rw [la.1, Bool.true_and]; exact decide_eq_true (Nat.le_trans la.2 (by decide))
  · unfold SeqAt.shaped; rw [la.1, Bool.true_and]; exact decide_eq_true (Nat.le_trans la.2 (by decide))
end
end
section
open PySem PySem.Spec PySem.Calls PyProof.Rows PyProof.Rows.LCg
abbrev cellO (v : Option Value) : Obj := { cls := .type "cell", data := .cell v }
section
variable {prog : Program} {w : World} {A : Around} {s : Shared} {h₀ : Heap} {L : Addr} {m : Str → Option Value} {env : Env} {E : Value → Shared → Prop}
/-- as CStart, with one cell of the comprehension's own -/
def CStartP (prog : Program) (w : World) (A : Around) (h₀ : Heap) (L : Addr) (elt : PySem.Expr) (gens : List Comprehension) (scope : Scope) (pos : Pos) (cl : List (Str × Addr)) (env : Env) (x : Str) (Fin : Shared → Addr → (Str → Option Value) → List Value → List (Addr × Obj) → Prop) (it : Value) (s₂ : Shared) : Prop :=
  ∃ I m news, it = .ref I ∧ Fr h₀ L s₂.heap m ∧ News h₀ L s₂.heap news ∧
    (∀ s' (Q : Value → Shared → Prop) (E : Value → Shared → Prop), (∀ b o, s₂.heap.get? b = some o → s'.heap.get? b = some o) → Q (.ref I) s' → wpAny (model prog w) A (pyIter (.ref I)) Q E s') ∧
    ∀ C D P oC h tk, (∀ b o, s₂.heap.get? b = some o → b < C ∧ b < D ∧ b < P) → C ≠ D → C ≠ P → D ≠ P → NsObj oC (fun _ => none) → (∀ b o, s₂.heap.get? b = some o → h.get? b = some o) → Fr h₀ L h m → News h₀ L h ((P, cellO none) :: (C, oC) :: (D, lst []) :: news) →
      codeAny (model prog w) A (.compLoop (.ListComp elt gens scope pos) 0 (.ref I) (.ref D) (compEnvC scope ((x, P) :: cl) C env)) (CPost h₀ L m s₂ C D (Fin s₂ D m)) { s₂ with heap := h, toks := tk }
theorem comp_blockP {elt target iter : PySem.Expr} {ifs : List PySem.Expr} {gs : List Comprehension} {scope : Scope} {cl : List (Str × Addr)} {pos : Pos} {x : Str} {it : Value} {s₂ : Shared} {Fin : Shared → Addr → (Str → Option Value) → List Value → List (Addr × Obj) → Prop} {RR : Value → Addr → Result → Shared → Prop}
    (hcf : ∀ n acc, cellsFrom n scope.names acc = (x, n) :: acc) (hpc : ∀ h, pushCells h scope.names = h.push (cellO none))
    (h : CStartP prog w A h₀ L elt (⟨target, iter, ifs, 0⟩ :: gs) scope pos cl env x Fin it s₂)
    (hRR : ∀ D C oC m m₂ h' tk ys nx, Fr h₀ L h' m → News h₀ L h' ((C, oC) :: (D, lst ys) :: nx) → NsObj oC m₂ → C ≠ D → (∀ q ∈ nx, q.1 ≠ C ∧ q.1 ≠ D) → Fin s₂ D m ys nx → RR (.ref D) C (.ok .next) { s₂ with heap := h', toks := tk }) :
    wpAny (model prog w) A (newList []) (fun acc s₃ => wpAny (model prog w) A (newFunctionEnv scope env.globals cl [] env.qual none .none (some env)) (fun cenv s₄ =>
      codeAny (model prog w) A (.compStart (.ListComp elt (⟨target, iter, ifs, 0⟩ :: gs) scope pos) 0 it acc { cenv with scope := relabel scope env }) (RR acc cenv.locals) s₄) E s₃) E s₂ := by
  obtain ⟨I, m, news, rfl, F, N, self, run⟩ := h
  refine wpAny_newObj_type ?_
  simp only [newFunctionEnv, Option.isSome_some, if_true]
  refine wpAny_bind (wpAny_alloc ?_)
  refine wpAny_bind (wpAny_layCells _ (fun name kind cells => by cases hkc : kind == NameKind.cell <;> simp [hkc]) _ _ _ _ ?_)
  rw [hcf, hpc]
  refine wpAny_bind (wpAny_pure ?_)
  refine wpAny_pure ?_
  dsimp only
  generalize hH1 : s₂.heap.push { cls := .type "list", dict := none, data := .seq ([] : List Value).toArray } = H1
  generalize hH2 : H1.push { cls := .type "dict", data := .dict #[] } = H2
  generalize hH3 : H2.push (cellO none) = H3
  have z1 : @Eq Nat H1.objs.size (s₂.heap.objs.size + 1) := by rw [← hH1]; exact Heap.size_push ..
  have z2 : @Eq Nat H2.objs.size (s₂.heap.objs.size + 2) := by rw [← hH2]; exact (Heap.size_push ..).trans (by rw [z1])
  have u1 : ∀ b o, s₂.heap.get? b = some o → H1.get? b = some o := fun b o e => by rw [← hH1]; exact Heap.get?_push_of_some _ e
  have u2 : ∀ b o, H1.get? b = some o → H2.get? b = some o := fun b o e => by rw [← hH2]; exact Heap.get?_push_of_some _ e
  have u3 : ∀ b o, H2.get? b = some o → H3.get? b = some o := fun b o e => by rw [← hH3]; exact Heap.get?_push_of_some _ e
  have old : ∀ b o, s₂.heap.get? b = some o → H3.get? b = some o := fun b o e => u3 _ _ (u2 _ _ (u1 _ _ e))
  have hns : H3.Ns H1.objs.size (fun _ => none) := by
    have q : H2.Ns H1.objs.size (fun _ => none) := by rw [← hH2]; exact Heap.Ns.new H1 (.type "dict")
    exact q.keeps u3
  obtain ⟨oC, heC, hoC⟩ := ns_obj hns
  have gD : H3.get? s₂.heap.objs.size = some (lst []) := u3 _ _ (u2 _ _ (by rw [← hH1]; exact Heap.get?_push_size _ rfl))
  have gP : H3.get? H2.objs.size = some (cellO none) := by rw [← hH3]; exact Heap.get?_push_size _ rfl
  have fresh₀ : ∀ a, @LE.le Nat _ s₂.heap.objs.size a → h₀.get? a = none := fun a ha => Heap.get?_none_of_le (Nat.le_trans F.above (Nat.le_trans (Nat.le_of_lt F.ns.lt) ha))
  have hLlt : @LT.lt Nat _ L s₂.heap.objs.size := F.ns.lt
  have hDC : ¬ @Eq Nat H1.objs.size s₂.heap.objs.size := by omega
  have hCP : ¬ @Eq Nat H1.objs.size H2.objs.size := by omega
  have hDP : ¬ @Eq Nat s₂.heap.objs.size H2.objs.size := by omega
  have N₁ : News h₀ L H3 ((H2.objs.size, cellO none) :: (H1.objs.size, oC) :: (s₂.heap.objs.size, lst []) :: news) := fun p hp => by
    rcases List.mem_cons.mp hp with rfl | hp
    · exact ⟨gP, by show ¬ @Eq Nat H2.objs.size L; omega, fresh₀ _ (by omega)⟩
    rcases List.mem_cons.mp hp with rfl | hp
    · exact ⟨heC, by show ¬ @Eq Nat H1.objs.size L; omega, fresh₀ _ (by omega)⟩
    rcases List.mem_cons.mp hp with rfl | hp
    · exact ⟨gD, by show ¬ @Eq Nat s₂.heap.objs.size L; omega, fresh₀ _ (by omega)⟩
    · exact N.grown old p hp
  have loop : ∀ s₃ : Shared, s₃ = { s₂ with heap := H3 } →
      codeAny (model prog w) A (.compLoop (.ListComp elt (⟨target, iter, ifs, 0⟩ :: gs) scope pos) 0 (.ref I) (.ref s₂.heap.objs.size) (compEnvC scope ((x, H2.objs.size) :: cl) H1.objs.size env))
        (RR (.ref s₂.heap.objs.size) H1.objs.size) s₃ := by
    rintro s₃ rfl
    refine codeAny_mono (run H1.objs.size s₂.heap.objs.size H2.objs.size oC H3 _ (fun b o e => ?_) hDC hCP hDP hoC old (F.keeps old) N₁) fun r s' hr => ?_
    · have : @LT.lt Nat _ b s₂.heap.objs.size := Heap.lt_size e
      exact ⟨by show @LT.lt Nat _ b H1.objs.size; omega, by show @LT.lt Nat _ b s₂.heap.objs.size; omega, by show @LT.lt Nat _ b H2.objs.size; omega⟩
    · obtain ⟨rfl, h', tk, ys, oC', m₂, nx, rfl, F', N', hoC', off, fin⟩ := hr
      exact hRR _ _ _ _ _ _ _ _ _ F' N' hoC' hDC off fin
  exact codeAny_compStart_list (loop _ rfl) (self _ _ _ old (loop _ rfl))
theorem ListComp_P {elt target iter : PySem.Expr} {ifs : List PySem.Expr} {gs : List Comprehension} {scope : Scope} {cl : List (Str × Addr)} {pos : Pos} {x : Str} {Q : Value → Shared → Prop}
    (hclos : closureFor scope env = pure cl) (hcf : ∀ n acc, cellsFrom n scope.names acc = (x, n) :: acc) (hpc : ∀ h, pushCells h scope.names = h.push (cellO none)) (hkind : scope.kind = .function)
    (hnames : ∀ y ∈ scope.names, y.2 = .local → scope.names.lookup y.1 = some .local)
    (h : wpAny (model prog w) A (eval iter env) (fun xv s₁ => wpAny (model prog w) A (pyIter xv) (CStartP prog w A h₀ L elt (⟨target, iter, ifs, 0⟩ :: gs) scope pos cl env x (FinX h₀ L Q)) E s₁) E s)
    (hs : ∀ x, foldedSetIterable iter env x = pure x := by intro _; rfl) :
    wpAny (model prog w) A (eval (.ListComp elt (⟨target, iter, ifs, 0⟩ :: gs) scope pos) env) Q E s := by
  rw [eval_ListComp]
  refine wpAny_comprehension_free (use := none) rfl hs hclos hkind hnames (wpAny_mono h (fun xv s₁ h₁ => wpAny_mono h₁ (fun it s₂ h₂ => ?_) fun _ _ e => e) fun _ _ e => e)
  refine comp_blockP hcf hpc h₂ fun D C oC m m₂ h' tk ys nx F' N' hoC hCD off fin => ?_
  refine ⟨m₂, hoC.ns (N' _ (.head _)).1, fun h'' hs'' => fin h'' tk (F'.change hs'' (N' _ (.head _)).2.1 (N' _ (.head _)).2.2) (fun p hp => ?_) fun q hq => (off q hq).2⟩
  have z := N' p (.tail _ hp)
  refine ⟨hs''.extBut _ _ ?_ z.1, z.2⟩
  rcases List.mem_cons.mp hp with rfl | hp
  · exact Ne.symm hCD
  · exact (off p hp).1
theorem Assign_ListComp_P {elt target iter : PySem.Expr} {ifs : List PySem.Expr} {gs : List Comprehension} {x y : Str} {py : Pos} {scope : Scope} {cl : List (Str × Addr)} {pos spos : Pos} {Q : Flow → Shared → Prop} (hLe : env.locals = L)
    (hsw : swapsWith (.ListComp elt (⟨target, iter, ifs, 0⟩ :: gs) scope pos) (some (.Name y py)) spos.line env = pure true)
    (hclos : closureFor scope env = pure cl) (hcf : ∀ n acc, cellsFrom n scope.names acc = (x, n) :: acc) (hpc : ∀ h, pushCells h scope.names = h.push (cellO none)) (hkind : scope.kind = .function)
    (hnames : ∀ z ∈ scope.names, z.2 = .local → scope.names.lookup z.1 = some .local)
    (hy : env.kindOf y = some .local) (hp : (env.scope.kind == .class || (env.scope.kind == .module && env.locals != env.globals)) = false)
    (h : wpAny (model prog w) A (eval iter env) (fun xv s₁ => wpAny (model prog w) A (pyIter xv) (CStartP prog w A h₀ L elt (⟨target, iter, ifs, 0⟩ :: gs) scope pos cl env x (FinS h₀ L y Q)) E s₁) E s)
    (hs : ∀ x, foldedSetIterable iter env x = pure x := by intro _; rfl) :
    wpAny (model prog w) A (exec (.Assign [.Name y py] (.ListComp elt (⟨target, iter, ifs, 0⟩ :: gs) scope pos) spos) env) Q E s := by
  subst hLe
  rw [exec_Assign_Name_used _ _ _ _ hsw]
  refine wpAny_bind (wpAny_standAt (wpAny_bind ?_))
  show wpAny _ A (do let _ ← comprehension (.ListComp elt (⟨target, iter, ifs, 0⟩ :: gs) scope pos) scope env _ (newList []) false (eval iter env) (some (assign (.Name y py) env))) _ _ s
  refine wpAny_bind (wpAny_mono (wpAny_comprehension_free (use := some (assign (.Name y py) env)) (Q := fun _ s' => Q .next s') rfl hs hclos hkind hnames
    (wpAny_mono h (fun xv s₁ h₁ => wpAny_mono h₁ (fun it s₂ h₂ => ?_) fun _ _ e => e) fun _ _ e => e)) (fun _ s' hq => wpAny_pure (wpAny_pure hq)) fun _ _ e => e)
  refine comp_blockP hcf hpc h₂ fun D C oC m m₂ h' tk ys nx F' N' hoC hCD off fin => ?_
  have zC := N' _ (.head _)
  show wpAny _ A (assign (.Name y py) env (.ref D)) _ _ _
  refine wpAny_assign_Name (wpAny_storeName_local hy F'.ns (fun h₂ hn₂ hs₂ => ?_) hp)
  have hL₀ : h₀.get? env.locals = none := Heap.get?_none_of_le F'.above
  have F₂ : Fr h₀ env.locals h₂ (fun z => if z = y then some (.ref D) else m z) := ⟨hn₂, fun b o e => hs₂.extBut b o (fun q => by rw [q, hL₀] at e; cases e) (F'.keep b o e), F'.above⟩
  refine ⟨m₂, (hoC.ns zC.1).sameBut hs₂ zC.2.1, fun h'' hs'' => fin h'' _ (F₂.change hs'' zC.2.1 zC.2.2) (fun p hp => ?_) fun q hq => (off q hq).2⟩
  have z := N' p (.tail _ hp)
  have z₂ : h₂.get? p.1 = some p.2 := hs₂.extBut _ _ z.2.1 z.1
  refine ⟨hs''.extBut _ _ ?_ z₂, z.2⟩
  rcases List.mem_cons.mp hp with rfl | hp
  · exact Ne.symm hCD
  · exact (off p hp).1
/-- a range, with a cell for the name -/
theorem start_rangeP {elt iter : PySem.Expr} {x : Str} {px : Pos} {scope : Scope} {cl : List (Str × Addr)} {pos : Pos} {r : Addr} {a b : Int} {t u v : Tok} {n : Nat} {news : List (Addr × Obj)}
    {Fin : Shared → Addr → (Str → Option Value) → List Value → List (Addr × Obj) → Prop} (J : Nat → List Value → List (Addr × Obj) → Prop) (hh : A.handled = none) (hx : (relabel scope env).names.lookup x = some .cell) (hkr : (relabel scope env).kind = .function)
    (F : Fr h₀ L s.heap m) (N : News h₀ L s.heap news) (hr : IsRange s.heap r a b 1 t u v) (hsm : Builtin.Range.small a b 1 = true) (hn : Builtin.Range.rangeSize a b 1 = ((n : Nat) : Int)) (hJ : J 0 [] news) (hlen : ∀ i ys nx, i < n → J i ys nx → ys.length ≤ sizeLine)
    (turn : ∀ C D P i t' ys m₂ oC I oP nx h tk own E', i < n → J i ys nx → oP.data = .cell (some (.int (a + (i : Nat)) t')) → NsObj oC m₂ → (P, oP) ∈ own → Apart C D [I, P] nx → (∀ q ∈ [I, P], ∃ o, (q, o) ∈ own) → Fr h₀ L h m → News h₀ L h (own ++ (C, oC) :: (D, lst ys) :: nx) →
      wpAny (model prog w) A (eval elt (compEnvC scope ((x, P) :: cl) C env)) (CEndY (fun _ => True) h₀ L m { s with heap := h, toks := tk } own C D [I, P] ys (J (i + 1))) E' { s with heap := h, toks := tk })
    (done : ∀ s₂ D ys nx, (∃ h, s₂ = { s with heap := h }) → (∀ b o, s.heap.get? b = some o → b < D) → J n ys nx → Fin s₂ D m ys nx) :
    wpAny (model prog w) A (pyIter (.ref r)) (CStartP prog w A h₀ L elt [⟨.Name x px, iter, [], 0⟩] scope pos cl env x Fin) E s := by
  refine wpAny_pyIter_range hr hsm ?_
  have up : ∀ (o₁ : Obj) b o, s.heap.get? b = some o → (s.heap.push o₁).get? b = some o := fun o₁ b o e => Heap.get?_push_of_some _ e
  have W := range_walks (prog := prog) (w := w) (I := s.heap.objs.size) hh a n
  have st0 : IsRangeIter (s.heap.push { cls := .type "range_iterator", data := .fields #[.int a 0, .int (Builtin.Range.rangeSize a b 1) 0, .int 1 0] }) s.heap.objs.size (a + (0 : Nat) * 1) ((n : Int) - (0 : Nat)) 1 := by
    rw [hn]
    have q : IsRangeIter (s.heap.push { cls := .type "range_iterator", data := .fields #[.int a 0, .int (n : Int) 0, .int 1 0] }) s.heap.objs.size a n 1 := Heap.get?_push_size _ rfl
    simpa using q
  generalize hI : s.heap.objs.size = I at W st0
  refine ⟨I, m, news, by rw [← hI], F.keeps (up _), N.grown (up _), ?_, ?_⟩
  · intro s' Q E hk hQ
    exact W.self 0 _ _ _ (W.frame _ _ _ st0 fun b _ o e => hk b o e) hQ
  · intro C D P oC h tk hlt hCD hCP hDP hoC old F' N'
    have hIlt := hlt I _ st0
    have hIP : I ≠ P := Nat.ne_of_lt hIlt.2.2
    have hIC : I ≠ C := Nat.ne_of_lt hIlt.1
    have hID : I ≠ D := Nat.ne_of_lt hIlt.2.1
    have hP := N' _ (.head _)
    have S : Src prog w A (.Name x px) scope ((x, P) :: cl) env I [I, P] [I, P] n (fun i m₁ m₂ h => m₂ = m₁ ∧ ∃ t, h.IsCell P (some (.int (a + (i : Nat)) t))) (fun i h => IsRangeIter h I (a + (i : Nat) * 1) ((n : Int) - (i : Nat)) 1 ∧ ∃ v0, h.IsCell P v0) :=
      { sub := fun b hb => hb
        frame := fun i h h' st hk => ⟨W.frame i h h' st.1 fun b hb o e => hk b (by rw [List.mem_singleton.mp hb]; exact .head _) o e, by
          obtain ⟨v0, o, ho, hd⟩ := st.2
          exact ⟨v0, o, hk P (.tail _ (.head _)) o ho, hd⟩⟩
        has := fun i h st b hb => by
          rcases List.mem_cons.mp hb with rfl | hb
          · exact ⟨_, st.1⟩
          · rw [List.mem_singleton.mp hb]; obtain ⟨v0, o, ho, _⟩ := st.2; exact ⟨o, ho⟩
        item := fun i s' C' m₁ Q E hi hst hn' hC hQ => by
          have hC1 : C' ≠ I := fun e => hC (e ▸ .head _)
          have hC2 : C' ≠ P := fun e => hC (e ▸ .tail _ (.head _))
          refine W.item i s' _ _ hi hst.1 fun v h₂ tk₂ hPv hst₂ hk₂ => ⟨v, rfl, ?_⟩
          obtain ⟨t, rfl⟩ := hPv
          show wpAny _ A (pure ()) _ _ _
          refine wpAny_pure ?_
          obtain ⟨v0, o, ho, hd⟩ := hst.2
          refine wpAny_assign_Name (wpAny_storeName_cell hkr hx (by simp [compEnvC]) ⟨o, hk₂ P o (by simpa using hIP.symm) ho, hd⟩ fun h₃ hc₃ hs₃ => ?_)
          replace hs₃ : Heap.SameBut P h₂ h₃ := hs₃
          exact hQ h₃ _ m₁ ⟨rfl, t, hc₃⟩ ((hn'.at' fun o e => hk₂ _ o (by simpa using hC1) e).sameBut hs₃ hC2) ⟨W.frame _ h₂ _ hst₂ fun b hb o e => hs₃.extBut b o (by rw [List.mem_singleton.mp hb]; exact hIP) e, _, hc₃⟩ fun b o hb hbC e => hs₃.extBut b o (fun q => hb (q ▸ .tail _ (.head _))) (hk₂ b o (fun q => hb (by rw [List.mem_singleton.mp q]; exact .head _)) e)
        done := fun s Q E st hQ => W.done s Q E st.1 fun h' tk hk => hQ h' tk fun b o hb e => hk b o (fun q => hb (by rw [List.mem_singleton.mp q]; exact .head _)) e
        self := fun i s Q E st hQ => W.self i s Q E st.1 hQ }
    have hnew : ∀ q ∈ news, q.1 ≠ I := fun q hq e => by
      have : @LT.lt Nat _ q.1 s.heap.objs.size := Heap.lt_size (N q hq).1
      have e' : @Eq Nat q.1 I := e
      have hI' : @Eq Nat s.heap.objs.size I := hI
      omega
    refine comp_core (K := fun _ => True) (nx₀ := news) J loop_one mono_BodyE S F' (fun p hp => N' p (.tail _ hp)) hoC trivial hCD (fun q hq => ⟨Nat.ne_of_lt (hlt _ _ (up _ _ _ (N q hq).1)).1, Nat.ne_of_lt (hlt _ _ (up _ _ _ (N q hq).1)).2.1, fun hm => ?_⟩) ?_ ?_ ?_ ?_ ⟨W.frame _ _ _ st0 fun b _ o e => old b o e, none, _, hP.1, rfl⟩ hJ ?_ ?_
    · rcases List.mem_cons.mp hm with e | hm
      · exact hnew q hq e
      · exact Nat.ne_of_lt (hlt _ _ (up _ _ _ (N q hq).1)).2.2 (List.mem_singleton.mp hm)
    · intro hm
      rcases List.mem_cons.mp hm with e | hm
      · have h1 : @LT.lt Nat _ L s.heap.objs.size := F.ns.lt
        have e' : @Eq Nat L I := e
        have hI' : @Eq Nat s.heap.objs.size I := hI
        omega
      · exact hP.2.1 (List.mem_singleton.mp hm).symm
    · intro b hb
      rcases List.mem_cons.mp hb with rfl | hb
      · rw [← hI]; exact next_is_new F
      · rw [List.mem_singleton.mp hb]; exact hP.2.2
    · intro hm
      rcases List.mem_cons.mp hm with e | hm
      · exact hIC e.symm
      · exact hCP (List.mem_singleton.mp hm)
    · intro hm
      rcases List.mem_cons.mp hm with e | hm
      · exact hID e.symm
      · exact hDP (List.mem_singleton.mp hm)
    · intro i ys m₁ m₂ oC nx h9 tk9 own E' hi hJ' _ hT hoC' hown hwo hfo ha F9 N9
      obtain ⟨rfl, t', oP, hoP, hdP⟩ := hT
      have hPo : (P, oP) ∈ own := hown P (.tail _ (.head _)) oP hoP hP.2.2
      refine emit_0 (hlen i ys nx hi hJ') (fun p hp e => ?_) hCD ?_
      · have := hfo p hp
        rcases List.mem_cons.mp this with e2 | hm
        · exact hID (e2 ▸ e)
        · exact hDP ((List.mem_singleton.mp hm) ▸ e.symm)
      · exact turn C D P i t' ys _ oC I oP nx h9 tk9 own E' hi hJ' hdP hoC' hPo ha hwo F9 N9
    · intro ys oC m₂ nx h9 tk9 hJ' ha hoC' _ F9 N9
      exact CPost.intro F9 N9 hoC' (fun q hq => ⟨(ha q hq).1, (ha q hq).2.1⟩) (done _ D ys nx ⟨_, rfl⟩ (fun b o e => (hlt b o (up _ b o e)).2.1) hJ')
end
end
section
open PySem PySem.Spec PySem.Calls PyProof.Rows PyProof.Rows.LCg
section
variable {prog : Program} {w : World} {A : Around} {s : Shared} {h₀ : Heap} {L : Addr} {m : Str → Option Value} {env : Env}
theorem start_srcO {elt tgt iter : PySem.Expr} {ifs : List PySem.Expr} {scope : Scope} {cl : List (Str × Addr)} {pos : Pos} {I : Addr} {fp wr : List Addr} {n : Nat} {T : Nat → (Str → Option Value) → (Str → Option Value) → Heap → Prop} {St : Nat → Heap → Prop} {news : List (Addr × Obj)}
    {Fin : Shared → Addr → (Str → Option Value) → List Value → List (Addr × Obj) → Prop} (J : Nat → List Value → List (Addr × Obj) → Prop) (S : Src prog w A tgt scope cl env I fp wr n T St)
    (F : Fr h₀ L s.heap m) (N : News h₀ L s.heap news) (hLf : L ∉ fp) (hwr : ∀ b ∈ wr, h₀.get? b = none) (off : ∀ p ∈ news, p.1 ∉ wr) (hfp : ∀ b ∈ fp, ∃ o, s.heap.get? b = some o) (hst : St 0 s.heap) (hJ : J 0 [] news)
    (turn : ∀ C D i ys m₁ m₂ oC nx h tk own E', i < n → J i ys nx → T i m₁ m₂ h → NsObj oC m₂ → C ≠ D → (∀ p ∈ own, p.1 ≠ D) → (∀ p ∈ own, p.1 ∈ fp) → (∀ b ∈ fp, ∀ o, h.get? b = some o → h₀.get? b = none → (b, o) ∈ own) → (∀ b ∈ wr, ∃ o, (b, o) ∈ own) → Apart C D wr nx → Fr h₀ L h m → News h₀ L h (own ++ (C, oC) :: (D, lst ys) :: nx) →
      BodyE prog w A ifs elt (.ref D) (compEnvC scope cl C env) (CEnd (fun _ => True) h₀ L m { s with heap := h, toks := tk } own C D wr (J (i + 1))) E' { s with heap := h, toks := tk })
    (done : ∀ D ys nx, (∀ b o, s.heap.get? b = some o → b < D) → J n ys nx → Fin s D m ys nx) :
    CStart prog w A h₀ L elt [⟨tgt, iter, ifs, 0⟩] scope pos cl env Fin (.ref I) s := by
  refine ⟨I, m, news, rfl, F, N, fun s' Q E hk hQ => S.self 0 _ _ _ (S.frame _ _ _ hst fun b _ o e => hk b o e) hQ, fun C D oC h tk hlt hCD hoC old F' N' => ?_⟩
  have hCf : C ∉ fp := fun hb => by obtain ⟨o, e⟩ := hfp _ hb; exact Nat.lt_irrefl _ (hlt _ _ e).1
  have hDf : D ∉ fp := fun hb => by obtain ⟨o, e⟩ := hfp _ hb; exact Nat.lt_irrefl _ (hlt _ _ e).2
  refine comp_core (K := fun _ => True) J loop_one mono_BodyE S F' N' hoC trivial hCD (fun q hq => ⟨Nat.ne_of_lt (hlt _ _ (N q hq).1).1, Nat.ne_of_lt (hlt _ _ (N q hq).1).2, off q hq⟩) hLf hwr hCf hDf (S.frame _ _ _ hst fun b _ o e => old b o e) hJ ?_ ?_
  · intro i ys m₁ m₂ oC nx h tk own E' hi hJ _ hT hoC hown hwo hfo ha F N
    exact turn C D i ys m₁ m₂ oC nx h tk own E' hi hJ hT hoC hCD (fun p hp => fun e => hDf (e ▸ hfo p hp)) hfo hown hwo ha F N
  · intro ys oC m₂ nx h tk hJ ha hoC _ F N
    exact CPost.intro F N hoC (fun q hq => ⟨(ha q hq).1, (ha q hq).2.1⟩) (done D ys nx (fun b o e => (hlt b o e).2) hJ)
/-- a tuple of the ledger, a plain name, no test -/
theorem start_tup {elt iter : PySem.Expr} {x : Str} {px : Pos} {scope : Scope} {cl : List (Str × Addr)} {pos : Pos} {ax : Addr} {vs : List Value} {k : Nat} {news : List (Addr × Obj)} {E : Value → Shared → Prop}
    {Fin : Shared → Addr → (Str → Option Value) → List Value → List (Addr × Obj) → Prop} (J : Nat → List Value → List (Addr × Obj) → Prop) (hh : A.handled = none) (hx : scope.names.lookup x = some .local) (hkind : scope.kind = .function)
    (F : Fr h₀ L s.heap m) (N : News h₀ L s.heap news) (hm : (ax, ({ cls := .type "tuple", data := .seq vs.toArray k } : Obj)) ∈ news) (hJ : J 0 [] news) (hlen : ∀ i ys nx, i < vs.length → J i ys nx → ys.length ≤ sizeLine)
    (turn : ∀ C D i v ys m₂ oC I nx h tk own E', vs[i]? = some v → J i ys nx → m₂ x = some v → NsObj oC m₂ → (∃ o, (I, o) ∈ own) → (∀ p ∈ own, p.1 = I ∨ p.1 = ax) → Apart C D [I] nx → Fr h₀ L h m → News h₀ L h (own ++ (C, oC) :: (D, lst ys) :: nx) →
      wpAny (model prog w) A (eval elt (compEnvC scope cl C env)) (CEndY (fun _ => True) h₀ L m { s with heap := h, toks := tk } own C D [I] ys (J (i + 1))) E' { s with heap := h, toks := tk })
    (done : ∀ s₂ D ys nx, (∃ h, s₂ = { s with heap := h }) → (∀ b o, s.heap.get? b = some o → b < D) → J vs.length ys nx → Fin s₂ D m ys nx) :
    wpAny (model prog w) A (pyIter (.ref ax)) (CStart prog w A h₀ L elt [⟨.Name x px, iter, [], 0⟩] scope pos cl env Fin) E s := by
  have hol : s.heap.get? ax = some ({ cls := .type "tuple", data := .seq vs.toArray k } : Obj) := (N _ hm).1
  have hls : s.heap.IsTuple ax vs.toArray := ⟨_, hol, rfl, k, rfl⟩
  have hlt : ax < s.heap.objs.size := Heap.lt_size hol
  refine wpAny_pyIter_tuple hls ?_
  have up : ∀ b o, s.heap.get? b = some o → (s.heap.push { cls := .type "tuple_iterator", data := .fields #[.ref ax, .int 0 0] }).get? b = some o := fun b o e => Heap.get?_push_of_some _ e
  have W := Walks.tuple (prog := prog) (w := w) hh s.heap.objs.size ax (Nat.ne_of_lt hlt) vs.toArray
  have S : Src prog w A (.Name x px) scope cl env _ _ _ _ _ _ := src_name (px := px) (cl := cl) (env := env) W hx hkind (fun i h st b hb => by obtain ⟨o, e, _⟩ := st.1; rw [List.mem_singleton.mp hb]; exact ⟨o, e⟩)
  refine start_srcO (s := { s with heap := s.heap.push _ }) J S (F.keeps up) (N.grown up) ?_ ?_ ?_ ?_ ⟨⟨_, Heap.get?_push_size _ rfl, rfl, rfl⟩, hls.push _⟩ hJ ?_ ?_
  · intro hb
    rcases List.mem_cons.mp hb with e | hb
    · exact Nat.ne_of_lt F.ns.lt e
    · exact (N _ hm).2.1 (List.mem_singleton.mp hb).symm
  · intro b hb; rw [List.mem_singleton.mp hb]; exact next_is_new F
  · intro p hp hb; exact Nat.ne_of_lt (Heap.lt_size (N p hp).1) (List.mem_singleton.mp hb)
  · intro b hb
    rcases List.mem_cons.mp hb with e | hb
    · rw [e]; exact ⟨_, Heap.get?_push_size _ rfl⟩
    · rw [List.mem_singleton.mp hb]; exact ⟨_, up _ _ hol⟩
  · rintro C D i ys m₁ m₂ oC nx h tk own E' hi hJ' ⟨v, hv, hm₂⟩ hoC hCD hD hfo hown hwo ha F' N'
    have hi' : i < vs.length := by simpa using hi
    refine emit_0 (hlen i ys nx hi' hJ') hD hCD ?_
    have hv' : vs[i]? = some v := by simpa using hv
    exact turn C D i v ys m₂ oC _ nx h tk own E' hv' hJ' (by rw [hm₂]; simp) hoC (hwo _ (.head _)) (fun p hp => by have := hfo p hp; simpa using this) ha F' N'
  · intro D ys nx hD hJ'
    exact done _ D ys nx ⟨_, rfl⟩ (fun b o e => hD b o (up b o e)) (by simpa using hJ')
end
end
section
local macro_rules | `(tactic| k_mem) => `(tactic| first | (with_reducible assumption) | (refine List.mem_append_left _ ?_; k_mem) | (refine List.mem_append_right _ ?_; k_mem))
local macro_rules | `(tactic| news_mem) => `(tactic| k_mem)
local macro_rules | `(tactic| k_all) => `(tactic| (intro p9 hp9; exact Nat.ne_of_lt ((by assumption : ∀ (p : Addr × Obj), p ∈ _ → p.1 < _) p9 hp9)))
local macro_rules | `(tactic| walk_at "getMethod ref") => `(tactic| ((with_reducible show wpAny _ _ (getMethod (Value.ref _) (Str.ofString "count") _) _ _ _); k_dflt (refine' kf_method ?N ?m PySem.F.slot_list_count PySem.F.type_list_count ?_; (case N => k_asm); (case m => k_mem))))
local macro_rules | `(tactic| walk_at "getMethod ref") => `(tactic| ((with_reducible show wpAny _ _ (getMethod (Value.ref _) (Str.ofString "append") _) _ _ _); k_dflt (refine' kf_method ?N ?m PySem.F.slot_list_append PySem.F.type_list_append ?_; (case N => k_asm); (case m => k_mem))))
local macro_rules | `(tactic| k_all) => `(tactic| (with_reducible assumption))
local macro_rules | `(tactic| size_fits) => `(tactic| ((simp only [List.size_toArray, PySem.sizeLine_eq]); omega))
local macro_rules | `(tactic| walk_at "getMethod ref") => `(tactic| ((with_reducible show wpAny _ _ (getMethod (Value.ref _) (Str.ofString "pop") _) _ _ _); k_dflt (refine' kf_method ?N ?m PySem.F.slot_list_pop PySem.F.type_list_pop ?_; (case N => k_asm); (case m => k_mem))))
local macro_rules | `(tactic| walk_at "getMethod ref") => `(tactic| ((with_reducible show wpAny _ _ (getMethod (Value.ref _) (Str.ofString "remove") _) _ _ _); k_dflt (refine' kf_method ?N ?m PySem.F.slot_list_remove PySem.F.type_list_remove ?_; (case N => k_asm); (case m => k_mem))))
local macro_rules | `(tactic| k_mem) => `(tactic| (refine ((by with_reducible assumption : ∀ p ∈ (_ : List (Addr × Obj)), p ∈ (_ : List (Addr × Obj))) _ ?_); k_mem))
noncomputable abbrev PR : Program := Challenge.rw_tx0014_01.row.prog
noncomputable abbrev LO : List Str := looseW vw [Str.ofString "_tuplegetter", Str.ofString "Mismatch", Str.ofString "_Mismatch"] ++
          List.map (fun x => x.name) (recsOf vw) ++
        List.map (fun x => x.fst) (litsOf vw) ++
      List.map (fun x => x.name)
        (clssOf vw
          (looseW vw [Str.ofString "_tuplegetter", Str.ofString "Mismatch", Str.ofString "_Mismatch"]))
theorem allLt_mem {d : Addr} {l : List (Addr × Obj)} (h : AllLt d l) : ∀ p ∈ l, p.1 < d := by
  induction l with
  | nil => intro p hp; exact nomatch hp
  | cons x r ih =>
    intro p hp
    obtain ⟨h1, h2⟩ := h
    rcases List.mem_cons.mp hp with hp | hp
    · rw [hp]; exact h1
    · exact ih h2 p hp
theorem take_snoc {l : List Int} {i : Nat} {x : Int} (h : l[i]? = some x) : l.take (i + 1) = l.take i ++ [x] := by rw [List.take_add_one, h]; rfl
theorem ints_kf {us : List Value} {ns : List Int} (h : IntsAre us ns) : kf_ints us = true := by
  induction h with
  | nil => rfl
  | cons n t h ih => exact ih
theorem remove_spec {us : List Value} {ns : List Int} (h : IntsAre us ns) {x : Int} (hx : x ∈ ns) : ∃ j q, kf_at x us = some j ∧ ki_delL us j = some q ∧ IntsAre q (ns.erase x) := by
  induction h with
  | nil => exact nomatch hx
  | @cons k t us ns h ih =>
    by_cases hk : k = x
    · subst hk
      refine ⟨0, us, ?_, rfl, ?_⟩
      · unfold kf_at; simp [isInt]
      · rw [List.erase_cons_head]; exact h
    · have hx' : x ∈ ns := by
        rcases List.mem_cons.mp hx with h1 | h1
        · exact absurd h1.symm hk
        · exact h1
      obtain ⟨j, q, h1, h2, h3⟩ := ih hx'
      refine ⟨j + 1, .int k t :: q, ?_, ?_, ?_⟩
      · unfold kf_at; have hk' : (k == x) = false := by simpa using hk
        simp [isInt, hk', h1]
      · unfold ki_delL; rw [h2]
      · rw [List.erase_cons_tail (by simpa using hk)]; exact .cons k t h3
theorem remove_none {prog : Program} {w : World} {A : Around} {E : Value → Shared → Prop} {s : Shared} {h₀ : Heap} {L l : Addr} {news : List (Addr × Obj)} {us : List Value} {ns : List Int} {n : Nat} {x : Int} {t : Tok} {Q : Value → Shared → Prop}
    (N : News h₀ L s.heap news) (hm : (l, listOf us.toArray n) ∈ news) (hi : IntsAre us ns) (hx : x ∉ ns) (hA : A.handled = none)
    (h : ∀ h' tk e, Heap.NewExc s.heap h' e "ValueError" → E (.ref e) { s with heap := h', toks := tk }) :
    wpAny (model prog w) A (call (.builtin "list.remove") [.ref l, .int x t]) Q E s := by
  refine call_meets PySem.F.slot_list_remove ⟨_, (N _ hm).1, rfl⟩ PySem.F.entry_list_remove (PySem.F.args_list_remove_2 _ _)
    (MeetsSeq.list_remove_none l us.toArray n (.int x t) (isInt x) (fun y hy => kf_eq (ints_kf hi) y (by simpa using hy)) (fun m hm' => ?_)) ⟨(N _ hm).1, hA, h⟩
  obtain ⟨k, u, h1⟩ := IntsAre.all hi us.toArray[m] (by simp)
  obtain ⟨k', u', h2, h3⟩ := IntsAre.at hi m us.toArray[m] (by simp at hm' ⊢)
  rw [h2]
  have : k' ∈ ns := List.mem_of_getElem? h3
  simp only [isInt, beq_eq_false_iff_ne]
  intro e
  exact hx (e ▸ this)
theorem remove_in {prog : Program} {w : World} {A : Around} {E : Value → Shared → Prop} {s : Shared} {h₀ : Heap} {L l : Addr} {m : Str → Option Value} {news : List (Addr × Obj)} {us : List Value} {ns : List Int} {n : Nat} {x : Int} {t : Tok} {Q : Value → Shared → Prop} {pre post : List (Addr × Obj)}
    (F : Fr h₀ L s.heap m) (N : News h₀ L s.heap news) (hn : news = pre ++ (l, listOf us.toArray n) :: post) (h1 : ∀ p ∈ pre, p.1 ≠ l) (h2 : ∀ p ∈ post, p.1 ≠ l) (hi : IntsAre us ns) (hx : x ∈ ns) (hz : us.length ≤ sizeLine)
    (h : ∀ h' vs', Fr h₀ L h' m → News h₀ L h' (pre ++ (l, listOf vs'.toArray (n + 1)) :: post) → IntsAre vs' (ns.erase x) → Q .none { s with heap := h' }) :
    wpAny (model prog w) A (call (.builtin "list.remove") [.ref l, .int x t]) Q E s := by
  obtain ⟨j, q, e1, e2, e3⟩ := remove_spec hi hx
  subst hn
  have U : ∀ {pre : List (Addr × Obj)}, (∀ p ∈ pre, p.1 ≠ l) → Upd l (listOf us.toArray n) (listOf q.toArray (n + 1)) (pre ++ (l, listOf us.toArray n) :: post) (pre ++ (l, listOf q.toArray (n + 1)) :: post) := by
    intro pre h1
    induction pre with
    | nil => exact .head h2
    | cons y r ih => exact .tail (h1 _ (.head _)) (ih fun p hp => h1 p (.tail _ hp))
  exact kf_remove F N (ints_kf hi) (by simpa using e1) (by simpa using e2) (U h1) (by simpa using hz) fun h' F' N' => h h' q F' N' e3
def beyondF (these those : List Int) (l : List Int) : List Int :=
  l.foldl (fun more item => if (more.count item : Int) < (these.count item : Int) - (those.count item : Int) then more ++ [item] else more) []
theorem beyondF_snoc (a b l : List Int) (x : Int) : beyondF a b (l ++ [x]) = if ((beyondF a b l).count x : Int) < (a.count x : Int) - (b.count x : Int) then beyondF a b l ++ [x] else beyondF a b l := by
  unfold beyondF; rw [List.foldl_append]; rfl
set_option maxRecDepth 100000 in
set_option maxHeartbeats 8000000 in
theorem c_beyond {w : World} {mean : ExcName → Option Value} {mg mb : Str → Option Value} {dp un : Nat} {gd : Option (List Code)} {cn : Str} {cs : Scope} {a : Addr} {ccd : Value} {cl : List (Str × Addr)} {outer : List Env} {A₀ : Around} {base h₀ : Heap} {L : Addr} {m : Str → Option Value} {news : List (Addr × Obj)} {s : Shared} {Q E : Value → Shared → Prop}
  {l1 l2 : Addr} {vs1 vs2 : List Value} {ns1 ns2 : List Int} {n1 n2 : Nat}
  (B : Below A₀ base outer h₀) (F : Fr h₀ L s.heap m) (X : (hd.heap_1 w.params).In h₀) (N : News h₀ L s.heap news) (T : Top topProg LO mean mg mb h₀) (hk : cs.kind = .function)
  (hl1 : (l1, listOf vs1.toArray n1) ∈ news) (hl2 : (l2, listOf vs2.toArray n2) ∈ news) (hi1 : IntsAre vs1 ns1) (hi2 : IntsAre vs2 ns2) (hs1 : ns1.length ≤ 100) (hs2 : ns2.length ≤ 100)
  (hd : dp + 1 < recursionLimit) (hu : un + 8 < cLine)
  (hret : ∀ r us n (h' : Heap) (tk' : Nat), Fr h₀ L h' m → News h₀ L h' ((r, listOf us.toArray n) :: news) → (∀ p ∈ news, p.1 < r) → IntsAre us (beyondF ns1 ns2 ns1) → Q (.ref r) { s with heap := h', toks := tk' }) :
  wpAny (model PR w) (ktrTop dp un gd cn cs L a ccd cl outer) (call (.ref 173) [.ref l1, .ref l2]) Q E s := by
    refine wpAny_call ?_
    k_dflt ktr_enter
    iterate 10 (first | (k_unfold; (try dsimp only)) | (k_end; wrow_close) | walk1 | (dsimp only; walk1) | (leave1; walk_say "STEP leave1"; try dsimp only) | fail "no step")
    rename Fr _ _ _ _ => F1
    change Fr _ _ _ (fun y => if y = Str.ofString "more" then some (Value.ref _) else List.lookup y [(Str.ofString "those", Value.ref l2), (Str.ofString "these", Value.ref l1)]) at F1
    rename News _ _ _ _ => N1
    rename ∀ (p : Addr × Obj), p ∈ news → p.1 < _ => hlt
    refine iter_invNL (fun i m₁ nx => (∃ us n, nx = (_, listOf us.toArray n) :: news ∧ IntsAre us (beyondF ns1 ns2 (ns1.take i)) ∧ us.length ≤ i) ∧ ∀ z, z ≠ Str.ofString "item" → m₁ z = (fun y => if y = Str.ofString "more" then some (Value.ref _) else List.lookup y [(Str.ofString "those", Value.ref l2), (Str.ofString "these", Value.ref l1)]) z) (by rfl) (List.Mem.tail _ hl1) hi1 F1 N1 ⟨⟨[], 0, rfl, .nil, Nat.le_refl _⟩, fun _ _ => rfl⟩ ?_ ?_
    · rintro i n t m₁ nx h tk own hn - hoff hl ⟨⟨us, n', rfl, hi, hb⟩, hm⟩ F2 N2
      rw [map_none hm] at F2
      have hib : i < ns1.length := by
        rcases Nat.lt_or_ge i ns1.length with h | h
        · exact h
        · rw [List.getElem?_eq_none h] at hn; cases hn
      have hsz : us.length ≤ 100 := by omega
      have hne : ∀ p ∈ news ++ own, p.1 ≠ _ := fun p hp => (List.mem_append.mp hp).elim (fun h => Nat.ne_of_lt (hlt p h)) fun h => hoff p h _ (.head _)
      rw [List.cons_append] at N2
      clear F1 N1 hm
      with_reducible show wpAny _ _ _ _ _ _
      k_fold
      iterate 48 (first | (k_unfold; (try dsimp only)) | (k_end; wrow_close) | walk1 | (dsimp only; walk1) | (leave1; walk_say "STEP leave1"; try dsimp only) | fail "no step")
      · rename Fr _ _ _ _ => F3
        rename News _ _ _ _ => N3
        rw [take_snoc hn, beyondF_snoc, if_pos (by assumption)]
        simp only [List.push_toArray] at N3
        exact InvEndN.intro F3 N3 ⟨List.Mem.tail _ hl1, ⟨_, _, rfl, hi.append (.cons _ _ .nil), by simp only [List.length_append, List.length_cons, List.length_nil]; omega⟩, fun z hz => by simp [hz]⟩ rfl
          (fun p hp => by rcases List.mem_cons.mp hp with rfl | hp; exact .head _; exact .tail _ (List.mem_append_left _ hp)) (fun p hp => .tail _ (List.mem_append_right _ hp))
      · iterate 5 (first | (k_unfold; (try dsimp only)) | (k_end; wrow_close) | walk1 | (dsimp only; walk1) | (leave1; walk_say "STEP leave1"; try dsimp only) | fail "no step")
        rename Fr _ _ _ _ => F3
        rename News _ _ _ _ => N3
        rw [take_snoc hn, beyondF_snoc, if_neg (by assumption)]
        exact InvEndN.intro F3 N3 ⟨List.Mem.tail _ hl1, ⟨_, _, rfl, hi, by omega⟩, fun z hz => by simp [hz]⟩ rfl
          (fun p hp => by rcases List.mem_cons.mp hp with rfl | hp; exact .head _; exact .tail _ (List.mem_append_left _ hp)) (fun p hp => .tail _ (List.mem_append_right _ hp))
    · rintro m₁ nx h tk hl ⟨⟨us, n', rfl, hi, hb⟩, hm⟩ F2 N2
      rw [← done_none hm] at F2
      rw [List.take_length] at hi
      clear F1 N1
      dsimp only
      with_reducible show wpAny _ _ _ _ _ _
      iterate 4 (first | (k_unfold; (try dsimp only)) | (k_end; wrow_close) | walk1 | (dsimp only; walk1) | (leave1; walk_say "STEP leave1"; try dsimp only) | fail "no step")

      exact hret _ _ _ _ _ (by assumption) (by assumption) hlt hi
def uldStep (st : List Int × List Int) (x : Int) : List Int × List Int := if x ∈ st.2 then (st.1, st.2.erase x) else (st.1 ++ [x], st.2)
def uldF (es as : List Int) : List Int × List Int := es.reverse.foldl uldStep ([], as)
theorem uld_len : ∀ (l : List Int) (a b : List Int), (l.foldl uldStep (a, b)).1.length ≤ a.length + l.length ∧ (l.foldl uldStep (a, b)).2.length ≤ b.length := by
  intro l
  induction l with
  | nil => intro a b; exact ⟨Nat.le_refl _, Nat.le_refl _⟩
  | cons x r ih =>
    intro a b
    rw [List.foldl_cons, List.length_cons]
    rw [show uldStep (a, b) x = if x ∈ b then (a, b.erase x) else (a ++ [x], b) from rfl]
    split
    · have h := ih a (b.erase x)
      have h2 := List.length_erase_le (a := x) (l := b)
      exact ⟨by omega, by omega⟩
    · have h := ih (a ++ [x]) b
      rw [List.length_append, List.length_singleton] at h
      exact ⟨by omega, by omega⟩
open PySem.Calls in
theorem code_try {prog : Program} {w : World} {A : Around} {s : Shared} {h₀ : Heap} {L a : Addr} {m : Str → Option Value} {cn : Str} {cs : Scope} {ccd : Value} {cl : List (Str × Addr)} {news : List (Addr × Obj)} {K : Frag} {p : Program} {loose : List Str} {mean : ExcName → Option Value} {mg mb : Str → Option Value}
    {R : Result → Shared → Prop} {name qual : Str} {params : Arguments} {body : List Stmt} {scope : Scope} {dV kV doc pm cdv ct oc : Value} {an od : Option Addr} {osl : Array (Option Value)} {f : Addr} {args : Args} {binds : List (Str × Value)}
    (F : Fr h₀ L s.heap m) (X₀ : K.In h₀) (N : News h₀ L s.heap news) (T : Top p loose mean mg mb h₀) (_hA : A.frames = some [envX cn cs L a ccd cl])
    (ho : K.lookup f = some ⟨oc, od, .func (fnOf name qual params body scope dV kV doc pm an cdv ct), osl⟩) (hcd : codeIn K cdv qual = true) (hroom : A.depth < recursionLimit)
    (hbind : BindsTo s (fnOf name qual params body scope dV kV doc pm an cdv ct) args binds) (hloc : ∀ y ∈ binds, scope.names.lookup y.1 = some .local)
    (h : ∀ oL L' h₁, TI.Caller h₀ L m oL → TI.Frs [envX cn cs L a ccd cl] [(L, oL)] → (∀ p ∈ news, p.1 < L') → L < L' → (∀ p ∈ news, p.1 ≠ L) → Fr h₀ L' h₁ (fun y => binds.reverse.lookup y) → News h₀ L' h₁ (news ++ [(L, oL)]) →
      wpAny (model prog w) (A.deeper (envOf qual scope L' f cdv)) (execs body (envOf qual scope L' f cdv))
        (fun fl s' => R (.ok (.ret (match fl with | .ret v => v | _ => .none))) s')
        (fun e s' => wpAny (model prog w) (A.deeper (envOf qual scope L' f cdv)) (leaving (envOf qual scope L' f cdv) e) (fun _ s'' => R (.error e) s'') (fun e' s'' => R (.error e') s'') s')
        { s with heap := h₁, toks := s.toks + binds.length })
    (hck : cs.kind = .function) (hco : scope.isCoroutine = false) (hgen : scope.isGenerator = false) (hk : scope.kind = .function)
    (hcell : ∀ x ∈ scope.names, x.2 ≠ .cell) : codeAny (model prog w) A (.call (.ref f) args) R s := by
  have X := X₀.keeps F.keep
  obtain ⟨oL, es, ep, hL, hLd, hLk, hLf⟩ := F.ns
  have hLt := Heap.lt_size hL
  have hkind : (envX cn cs L a ccd cl).scope.kind ≠ .module := by
    show cs.kind ≠ .module
    rw [hck]; decide
  refine codeAny_call_def (fd := fnOf name qual params body scope dV kV doc pm an cdv ct) (body := body) (binds := binds) hroom (X _ _ ho) rfl (T.nolimit.keeps F.keep) (codeRec_of X hcd) rfl hbind hcell hloc (fun h₁ hns hk₁ => ?_) hco hgen hk
  refine h oL s.heap.objs.size h₁ ⟨fun h' sl e => ⟨_, es, ep, e, hLd, hLk, hLf⟩, ⟨es, ep, hLd⟩, F.above⟩ ⟨hkind, rfl, ⟨es, ep, hLd⟩, trivial⟩ (fun p hp => Heap.lt_size (N p hp).1) hLt (fun p hp => (N p hp).2.1)
    ⟨hns, fun b o e => hk₁ b o (F.keep b o e), Nat.le_trans F.above (Nat.le_of_lt hLt)⟩ (fun p hp => ?_)
  rcases List.mem_append.mp hp with hp | hp
  · obtain ⟨h1, h2, h3⟩ := N p hp
    exact ⟨hk₁ _ _ h1, Nat.ne_of_lt (Heap.lt_size h1), h3⟩
  · rcases List.mem_cons.mp hp with rfl | hp
    · exact ⟨hk₁ _ _ hL, Nat.ne_of_lt hLt, Heap.get?_none_of_le F.above⟩
    · exact nomatch hp
set_option maxRecDepth 100000 in
set_option maxHeartbeats 8000000 in
theorem c_uld {w : World} {mean : ExcName → Option Value} {mg mb : Str → Option Value} {dp un : Nat} {gd : Option (List Code)} {cn : Str} {cs : Scope} {a : Addr} {ccd : Value} {cl : List (Str × Addr)} {h₀ : Heap} {L : Addr} {m : Str → Option Value} {news : List (Addr × Obj)} {s : Shared} {Q E : Value → Shared → Prop}
  {l1 l2 : Addr} {vs1 vs2 : List Value} {ns1 ns2 : List Int} {n1 n2 : Nat}
  (F : Fr h₀ L s.heap m) (X : (hd.heap_1 w.params).In h₀) (N : News h₀ L s.heap ((l1, listOf vs1.toArray n1) :: (l2, listOf vs2.toArray n2) :: news)) (T : Top topProg LO mean mg mb h₀) (hk : cs.kind = .function)
  (h12 : l1 ≠ l2) (hn1 : ∀ p ∈ news, p.1 ≠ l1) (hn2 : ∀ p ∈ news, p.1 ≠ l2) (hi1 : IntsAre vs1 ns1) (hi2 : IntsAre vs2 ns2) (hs1 : ns1.length ≤ 100) (hs2 : ns2.length ≤ 100)
  (hd : dp + 1 < recursionLimit) (hu : un + 8 < cLine)
  (hret : ∀ r lm us1 us2 n1' n2' k (h' : Heap) (tk' : Nat), Fr h₀ L h' m → News h₀ L h' ((r, { cls := .type "tuple", data := .seq #[.ref lm, .ref l2] k }) :: (lm, listOf us1.toArray n1') :: (l2, listOf us2.toArray n2') :: news) → l2 < lm → lm < r → (∀ p ∈ news, p.1 < lm) →
    IntsAre us1 (uldF ns1 ns2).1 → IntsAre us2 (uldF ns1 ns2).2 → Q (.ref r) { s with heap := h', toks := tk' }) :
  wpAny (model PR w) (ktrTop dp un gd cn cs L a ccd cl []) (call (.ref 71) [.ref l1, .ref l2]) Q E s := by
    refine wpAny_call ?_
    k_dflt (refine' code_try F X N T rfl ?k6 ?k7 ?k8 ?k9 ?kB ?_ hk ?c2 ?c3 ?c4 ?c5; (case k6 => k_is); (case k7 => k_is); (case k8 => ktr_room); (case k9 => exact BindsTo.of_eq rfl); (case c5 => decide); (case kB => exact locs rfl); (case c2 => exact rfl); (case c3 => exact rfl); (case c4 => exact rfl); k_whole; intro oL L' h₁ C FS hn0 hnL hneL F' N'; (try dsimp only); (try k_fold))
    iterate 12 (first | (k_unfold; (try dsimp only)) | (k_end; wrow_close) | walk1 | (dsimp only; walk1) | (leave1; walk_say "STEP leave1"; try dsimp only) | fail "no step")
    rename Fr _ _ _ _ => F1
    rename News _ _ _ _ => N1
    rename ∀ (p : Addr × Obj), p ∈ _ ++ _ → p.1 < _ => hlt
    change Fr _ _ _ (fun y => if y = Str.ofString "missing" then some (Value.ref _) else List.lookup y [(Str.ofString "actual", Value.ref l2), (Str.ofString "expected", Value.ref l1)]) at F1
    rename_i lm _ _
    have hlt1 : l1 < lm := hlt (l1, listOf vs1.toArray n1) (by simp)
    have hlt2 : l2 < lm := hlt (l2, listOf vs2.toArray n2) (by simp)
    have hlt3 : ∀ p ∈ news, p.1 < lm := fun p hp => hlt p (by simp [hp])
    have hltL : L < lm := hlt (L, oL) (by simp)
    have hneL' : ∀ p ∈ news, p.1 ≠ L := fun p hp => hneL p (by simp [hp])
    have hL1 : L ≠ l1 := (hneL (l1, listOf vs1.toArray n1) (by simp)).symm
    have hL2 : L ≠ l2 := (hneL (l2, listOf vs2.toArray n2) (by simp)).symm
    have hq1 : ∀ sl, ∀ p ∈ news ++ [(L, ({ oL with slots := sl } : Obj))], p.1 ≠ l1 := by
      intro sl p hp; rcases List.mem_append.mp hp with hp | hp; exact hn1 p hp; rw [List.mem_singleton.mp hp]; exact hL1
    have hq2 : ∀ sl, ∀ p ∈ news ++ [(L, ({ oL with slots := sl } : Obj))], p.1 ≠ l2 := by
      intro sl p hp; rcases List.mem_append.mp hp with hp | hp; exact hn2 p hp; rw [List.mem_singleton.mp hp]; exact hL2
    have hq3 : ∀ sl, ∀ p ∈ news ++ [(L, ({ oL with slots := sl } : Obj))], p.1 ≠ lm := by
      intro sl p hp; rcases List.mem_append.mp hp with hp | hp; exact Nat.ne_of_lt (hlt3 p hp); rw [List.mem_singleton.mp hp]; exact Nat.ne_of_lt hltL
    refine While_inv2 (fun k m₁ nx => k ≤ ns1.length ∧ (∃ us1 us2 us3 c1 c2 c3 sl, nx = (lm, listOf us3.toArray c3) :: (l1, listOf us1.toArray c1) :: (l2, listOf us2.toArray c2) :: (news ++ [(L, ({ oL with slots := sl } : Obj))]) ∧ TI.Frs [envX cn cs L a ccd cl] [(L, ({ oL with slots := sl } : Obj))] ∧ IntsAre us1 (ns1.take k) ∧ IntsAre us2 ((ns1.drop k).reverse.foldl uldStep ([], ns2)).2 ∧ IntsAre us3 ((ns1.drop k).reverse.foldl uldStep ([], ns2)).1) ∧ ∀ z, z ≠ Str.ofString "item" → m₁ z = (fun y => if y = Str.ofString "missing" then some (Value.ref lm) else List.lookup y [(Str.ofString "actual", Value.ref l2), (Str.ofString "expected", Value.ref l1)]) z) (n₀ := ns1.length) F1 N1 ⟨Nat.le_refl _, ⟨vs1, vs2, [], n1, n2, 0, oL.slots, rfl, FS, by rw [List.take_length]; exact hi1, by rw [List.drop_length]; exact hi2, by rw [List.drop_length]; exact .nil⟩, fun _ _ => rfl⟩ ?_
    rintro k m₁ nx h tk F2 N2 ⟨hkl, ⟨us1, us2, us3, c1, c2, c3, sl, rfl, FS1, hu1, hu2, hu3⟩, hm⟩
    rw [← done_none hm] at F2
    clear F1 N1 FS
    have hq1s := hq1 sl
    have hq2s := hq2 sl
    have hq3s := hq3 sl
    have hb1 : us1.length ≤ 100 := by rw [hu1.length, List.length_take]; omega
    have hbl := uld_len (ns1.drop k).reverse [] ns2
    rw [List.length_reverse, List.length_drop, List.length_nil] at hbl
    have hb2 : us2.length ≤ 100 := by rw [hu2.length]; omega
    have hb3 : us3.length ≤ 100 := by rw [hu3.length]; omega
    with_reducible show wpAny _ _ _ _ _ _
    k_fold
    iterate 3 (first | (k_unfold; (try dsimp only)) | (k_end; wrow_close) | walk1 | (dsimp only; walk1) | (leave1; walk_say "STEP leave1"; try dsimp only) | fail "no step")
    cases k with
    | zero =>
      rw [List.take_zero] at hu1
      cases hu1
      simp only [List.isEmpty_nil, Bool.not_true]
      iterate 12 (first | (k_unfold; (try dsimp only)) | (k_end; wrow_close) | walk1 | (dsimp only; walk1) | (leave1; walk_say "STEP leave1"; try dsimp only) | fail "no step")
      rename News _ _ _ _ => N7
      rename Fr _ _ _ _ => F7
      rename _ ∧ _ ∧ _ ∧ AllLt _ _ => hD8
      have hLD := allLt_mem hD8.2.2.2 (L, _) (List.mem_append_right _ (.head _))
      have back := TLg.leave_back (s' := { s with heap := _ }) (new := (_, ({ cls := .type "tuple", data := .seq #[.ref lm, .ref l2] } : Obj)) :: (lm, listOf us3.toArray c3) :: (l1, listOf [].toArray c1) :: (l2, listOf us2.toArray c2) :: news) (sl := sl) C F7 N7 (TLgL.allNe_of (by simp only [List.forall_mem_cons]; exact ⟨Nat.ne_of_gt hLD, Nat.ne_of_gt hltL, hL1.symm, hL2.symm, hneL'⟩)) And.intro
      obtain ⟨F9, N9⟩ := back
      refine hret _ lm us3 us2 c3 c2 0 _ _ F9 (fun p hp => N9 p ?_) hlt2 hD8.1 hlt3 hu3 hu2
      simp only [List.mem_cons] at hp ⊢
      rcases hp with hp | hp | hp | hp <;> simp [hp]
    | succ k =>
      have hkl' : k < ns1.length := hkl
      rw [take_snoc (List.getElem?_eq_getElem hkl')] at hu1
      have hu1l := hu1.length
      rw [List.length_append, List.length_take] at hu1l
      have hpos : 0 < us1.length := by rw [hu1l]; simp
      have e2 : (!us1.isEmpty) = true := by cases us1 with | nil => simp at hpos | cons => rfl
      rw [e2]
      iterate 8 (first | (k_unfold; (try dsimp only)) | (k_end; wrow_close) | walk1 | (dsimp only; walk1) | (leave1; walk_say "STEP leave1"; try dsimp only) | fail "no step")
      dsimp only
      rename Fr _ _ _ _ => F3
      rename News _ _ _ _ => N3
      refine kpa_pop F3 N3 (.tail (Nat.ne_of_gt hlt1) (.head (List.forall_mem_cons.mpr ⟨Ne.symm h12, hq1s⟩))) hu1 hpos (by rw [sizeLine_eq]; omega) ?_
      intro h4 t F4 N4 hu1'
      rw [List.dropLast_concat] at hu1'
      rw [List.getLastD_concat]
      clear F3 N3
      have hdr : ns1.drop k = ns1[k] :: ns1.drop (k + 1) := List.drop_eq_getElem_cons hkl'
      generalize ns1[k] = x at hdr hu1
      have hfold : (ns1.drop k).reverse.foldl uldStep ([], ns2) = uldStep ((ns1.drop (k + 1)).reverse.foldl uldStep ([], ns2)) x := by
        rw [hdr, List.reverse_cons, List.foldl_append]; rfl
      generalize (ns1.drop (k + 1)).reverse.foldl uldStep ([], ns2) = st at hfold hu2 hu3 hbl
      iterate 13 (first | (k_unfold; (try dsimp only)) | (k_end; wrow_close) | walk1 | (dsimp only; walk1) | (leave1; walk_say "STEP leave1"; try dsimp only) | fail "no step")
      rename Fr _ _ _ _ => F5
      rename News _ _ _ _ => N5
      by_cases hx : x ∈ st.2
      · refine remove_in F5 N5 (pre := [(lm, _), (l1, _)]) rfl (by intro p hp; rcases List.mem_cons.mp hp with rfl | hp; exact Nat.ne_of_gt hlt2; rw [List.mem_singleton.mp hp]; exact h12) hq2s hu2 hx (by rw [sizeLine_eq]; omega) ?_
        intro h6 us2' F6 N6 hu2'
        clear F5 N5
        iterate 4 (first | (k_unfold; (try dsimp only)) | (k_end; wrow_close) | walk1 | (dsimp only; walk1) | (leave1; walk_say "STEP leave1"; try dsimp only) | fail "no step")
        rw [uldStep, if_pos hx] at hfold
        refine ⟨_, _, _, _, k, rfl, F6, N6, Nat.lt_succ_self _, Nat.le_of_lt hkl', ⟨_, us2', us3, _, _, _, sl, rfl, FS1, hu1', by rw [hfold]; exact hu2', by rw [hfold]; exact hu3⟩, fun z hz => by simp [hz]⟩
      · refine remove_none N5 (by k_mem) hu2 hx (by rfl) ?_
        intro h6 tk6 e hexc
        refine TLg.noted_new1 (new := [(lm, _), (l1, _), (l2, _)] ++ news) rfl FS1 hexc F5 N5 (TLgL.allNe_of ?_) ?_
        · intro p hp
          rcases List.mem_append.mp hp with hp | hp
          · simp only [List.mem_cons, List.not_mem_nil, or_false] at hp
            rcases hp with rfl | rfl | rfl
            · exact Nat.ne_of_gt hltL
            · exact hL1.symm
            · exact hL2.symm
          · exact hneL' p hp
        intro h7 sl' FS2 H
        refine TT.HeldNA.land H ?_
        intro h8 H2
        refine TT.clause_hitTN H2 T (k := ?_) (hv := by boot_by_name)
        intro h9 F9 N9
        replace N9 : News _ _ _ ((lm, listOf us3.toArray c3) :: (l1, listOf us1.dropLast.toArray (c1 + 1)) :: (l2, listOf us2.toArray c2) :: (news ++ [(L, ({ oL with slots := sl' } : Obj))])) := N9
        have hq3t := hq3 sl'
        clear N5 F5 H H2
        iterate 9 (first | (k_unfold; (try dsimp only)) | (k_end; wrow_close) | walk1 | (dsimp only; walk1) | (leave1; walk_say "STEP leave1"; try dsimp only) | fail "no step")

        refine append_K F9 N9 (.head (List.forall_mem_cons.mpr ⟨Nat.ne_of_lt hlt1, List.forall_mem_cons.mpr ⟨Nat.ne_of_lt hlt2, hq3t⟩⟩)) ?_ (by rw [List.size_toArray, sizeLine_eq]; omega)
        intro h10 F10 N10
        iterate 3 (first | (k_unfold; (try dsimp only)) | (k_end; wrow_close) | walk1 | (dsimp only; walk1) | (leave1; walk_say "STEP leave1"; try dsimp only) | fail "no step")
        simp only [List.push_toArray] at N10
        rw [uldStep, if_neg hx] at hfold
        refine ⟨_, _, _, _, k, rfl, F10, N10, Nat.lt_succ_self _, Nat.le_of_lt hkl', ⟨_, us2, us3 ++ [.int x t], _, _, _, sl', rfl, FS2, hu1', by rw [hfold]; exact hu2, by rw [hfold]; exact hu3.append (.cons _ _ .nil)⟩, fun z hz => by simp [hz]⟩
/-- the table of a def's inner code: fresh, or with the one inner code made -/
inductive TabSt (P : Addr) (qual : Str) (line col : Int) : List (Addr × Obj) → Prop
  | fresh : TabSt P qual line col [(P, tabObj #[])]
  | made {c : Addr} {oc : Obj} {vs : Array Value} {t : Tok} : c ≠ P → oc.data = .fields vs → vs[1]? = some (.str qual t) → TabSt P qual line col [(c, oc), (P, tabObj #[rawInt line, rawInt col, .ref c])]
section
variable {M : Model} {A : Around} {E : Value → Shared → Prop} {s : Shared} {h₀ : Heap} {L a : Addr} {m mg mb : Str → Option Value} {cn : Str} {cs : Scope} {ccd : Value} {cl clos : List (Str × Addr)} {p : Program} {loose : List Str} {mean : ExcName → Option Value}
  {cells es news : List (Addr × Obj)} {c P : Addr} {name qual : Str} {params : Arguments} {body : List Stmt} {scope : Scope} {pos : Pos} {firstLine : Nat} {Q : Value → Shared → Prop}
theorem nest_both (F : Fr h₀ L s.heap m) (N : News h₀ L s.heap (cells ++ (es ++ news))) (T : Top p loose mean mg mb h₀) (C : CodeHd h₀ c P) (hcd : ccd = .ref c) (hes : TabSt P qual pos.line pos.col es)
    (hne : ∀ e ∈ es, ∀ q ∈ cells ++ news, q.1 ≠ e.1) (hcl : closureFor scope (envX cn cs L a ccd cl) = pure clos)
    (h : ∀ f c' oc vs t ctv doc h' tk, Fr h₀ L h' m →
      News h₀ L h' ((f, fnMade name qual params body scope clos doc ((mg "__name__").getD .none) c' ctv) :: (c', oc) :: (P, tabObj #[rawInt pos.line, rawInt pos.col, .ref c']) :: (cells ++ news)) →
      oc.data = .fields vs → vs[1]? = some (.str qual t) → c' ≠ P → f ≠ c' → f ≠ P → (∀ q ∈ cells ++ news, q.1 ≠ f ∧ q.1 ≠ c' ∧ q.1 ≠ P) → Q (.ref f) { s with heap := h', toks := tk }) :
    wpAny M A (makeFunction name qual params (.stmts body) scope (envX cn cs L a ccd cl) [] [] [] pos firstLine) Q E s := by
  cases hes with
  | fresh =>
    have U : UpdF P (tabObj #[]) (cells ++ ([(P, tabObj #[])] ++ news)) (fun o => cells ++ ((P, o) :: news)) := by
      have hc : ∀ q ∈ cells, q.1 ≠ P := fun q hq => hne _ (.head _) q (List.mem_append_left _ hq)
      have hn : ∀ q ∈ news, q.1 ≠ P := fun q hq => hne _ (.head _) q (List.mem_append_right _ hq)
      clear N hne h
      induction cells with
      | nil => exact .head hn
      | cons x r ih => exact .tail (hc _ (.head _)) (ih fun q hq => hc q (.tail _ hq))
    refine nest_K F N T C hcd U trivial rfl hcl fun f c' oc vs t ctv doc h' tk F' N' e1 e2 l1 l2 => ?_
    have lP : P < c' := l1 (P, tabObj #[]) (List.mem_append_right _ (.head _))
    refine h f c' oc vs t ctv doc h' tk F' (fun q hq => N' q ?_) e1 e2 (Nat.ne_of_gt lP) (Nat.ne_of_gt l2) (Nat.ne_of_gt (Nat.lt_trans lP l2)) fun q hq => ?_
    · simp only [List.mem_cons, List.mem_append] at hq ⊢
      rcases hq with hq | hq | hq | hq | hq <;> simp [hq]
    · have lq : q.1 < c' := l1 q (by simp only [List.mem_append, List.mem_cons] at hq ⊢; rcases hq with hq | hq <;> simp [hq])
      exact ⟨Nat.ne_of_lt (Nat.lt_trans lq l2), Nat.ne_of_lt lq, hne _ (.head _) q hq⟩
  | @made c' oc vs t hcP e1 e2 =>
    refine nestHit_K (c' := c') (ps := #[rawInt pos.line, rawInt pos.col, .ref c']) F N T C hcd (List.mem_append_right _ (by simp)) trivial (by simp [codeAmong, rawInt]) hcl fun f ctv doc h' tk F' N' l1 => ?_
    have lc : c' < f := l1 (c', oc) (List.mem_append_right _ (by simp))
    have lP : P < f := l1 (P, tabObj #[rawInt pos.line, rawInt pos.col, .ref c']) (List.mem_append_right _ (by simp))
    refine h f c' oc vs t ctv doc h' tk F' (fun q hq => N' q ?_) e1 e2 hcP (Nat.ne_of_gt lc) (Nat.ne_of_gt lP) fun q hq => ?_
    · simp only [List.mem_cons, List.mem_append, List.not_mem_nil, or_false] at hq ⊢
      rcases hq with hq | hq | hq | hq | hq <;> simp [hq]
    · have lq : q.1 < f := l1 q (by simp only [List.mem_append, List.mem_cons] at hq ⊢; rcases hq with hq | hq <;> simp [hq])
      exact ⟨Nat.ne_of_lt lq, hne _ (.head _) q hq, hne _ (.tail _ (.head _)) q hq⟩
end
noncomputable def d2iF (n : Nat) : List Int → Int
  | [] => 0
  | d :: r => d + d2iF n r * 2 ^ n
theorem d2iF_append (n : Nat) (xs ys : List Int) : d2iF n (xs ++ ys) = d2iF n xs + d2iF n ys * 2 ^ (n * xs.length) := by
  induction xs with
  | nil => simp [d2iF]
  | cons x r ih =>
    simp only [List.cons_append, d2iF, ih, List.length_cons]
    rw [Int.add_mul, Int.mul_assoc, ← Int.pow_add, Int.add_assoc, Nat.mul_succ]
theorem bits_le {x : Int} {b : Nat} (h : x.natAbs < 2 ^ b) : Builtin.Int.intBits x ≤ b := by
  unfold Builtin.Int.intBits
  split
  · exact Nat.zero_le _
  · rename_i hx
    have h0 : x.natAbs ≠ 0 := by
      intro e
      apply hx
      simp [Int.natAbs_eq_zero.mp e]
    exact (Nat.log2_lt h0).mpr h
theorem d2iF_bound (n B : Nat) (xs : List Int) (h : ∀ x ∈ xs, x.natAbs < 2 ^ B) : (d2iF n xs).natAbs < 2 ^ (B + (n + 1) * xs.length) := by
  induction xs with
  | nil => simp [d2iF]; exact Nat.pow_pos (by decide)
  | cons x r ih =>
    have h1 := h x (.head _)
    have h2 := ih fun y hy => h y (.tail _ hy)
    simp only [d2iF, List.length_cons]
    have h3 : (x + d2iF n r * 2 ^ n).natAbs ≤ x.natAbs + (d2iF n r).natAbs * 2 ^ n := by
      refine Nat.le_trans (Int.natAbs_add_le _ _) ?_
      rw [Int.natAbs_mul, Int.natAbs_pow]
      exact Nat.le_refl _
    have h4 : (d2iF n r).natAbs * 2 ^ n ≤ (2 ^ (B + (n + 1) * r.length) - 1) * 2 ^ n := Nat.mul_le_mul_right _ (by omega)
    have h5 : 2 ^ (B + (n + 1) * (r.length + 1)) = 2 * (2 ^ (B + (n + 1) * r.length) * 2 ^ n) := by
      rw [← Nat.pow_add, ← Nat.pow_succ']; congr 1; rw [Nat.mul_succ]; omega
    have h6 : 2 ^ B ≤ 2 ^ (B + (n + 1) * r.length) := Nat.pow_le_pow_right (by decide) (by omega)
    have h7 : 2 ^ (B + (n + 1) * r.length) ≤ 2 ^ (B + (n + 1) * r.length) * 2 ^ n := Nat.le_mul_of_pos_right _ (Nat.pow_pos (by decide))
    have h8 : (2 ^ (B + (n + 1) * r.length) - 1) * 2 ^ n ≤ 2 ^ (B + (n + 1) * r.length) * 2 ^ n := Nat.mul_le_mul_right _ (by omega)
    omega
theorem news_sub {h₀ h : Heap} {L : Addr} {l l' : List (Addr × Obj)} (N : News h₀ L h l) (hs : ∀ p ∈ l', p ∈ l) : News h₀ L h l' := fun p hp => N p (hs p hp)
theorem mem_sub5 {x y z a b c p : Addr × Obj} {l : List (Addr × Obj)} (h : p ∈ [y, z] ++ l) : p ∈ x :: y :: z :: a :: b :: c :: l := by
  simp only [List.mem_append, List.mem_cons, List.not_mem_nil, or_false] at h ⊢
  rcases h with (h | h) | h <;> simp [h]
def D2iSpec (w : World) (mean : ExcName → Option Value) (mg mb : Str → Option Value) (base : Heap) (f : Addr) (ns : List Int) (n : Nat) (led : List (Addr × Obj)) (k : Nat) : Prop :=
  ∀ (dp un : Nat) (gd : Option (List Code)) (cn : Str) (cs : Scope) (a : Addr) (ccd : Value) (cl : List (Str × Addr)) (outer : List Env) (A₀ : Around) (h₀ : Heap) (L : Addr) (m : Str → Option Value) (news : List (Addr × Obj)) (s : Shared) (Q E : Value → Shared → Prop) (lo hi : Int) (t1 t2 : Tok),
    Below A₀ base outer h₀ → Fr h₀ L s.heap m → (hd.heap_1 w.params).In h₀ → News h₀ L s.heap news → Top topProg LO mean mg mb h₀ → cs.kind = .function → (∀ p ∈ led, p ∈ news) →
    0 ≤ lo → hi = lo + k → 1 ≤ k → hi ≤ ns.length → dp + k < recursionLimit → un + 8 * k < cLine →
    (∀ t h' tk', Fr h₀ L h' m → News h₀ L h' news → Q (.int (d2iF n ((ns.drop lo.toNat).take k)) t) { s with heap := h', toks := tk' }) →
    wpAny (model PR w) (ktrTop dp un gd cn cs L a ccd cl outer) (call (.ref f) [.int lo t1, .int hi t2]) Q E s
theorem d2i_finish {w : World} {mean : ExcName → Option Value} {mg mb : Str → Option Value} {base g h : Heap} {L f : Addr} {ns : List Int} {n : Nat} {led : List (Addr × Obj)} {P : Prop} (_N : News g L h led)
    (key : ∀ k, D2iSpec w mean mg mb base f ns n led k) (rest : (∀ k, D2iSpec w mean mg mb base f ns n led k) → P) : P := rest key
theorem d2iF_split {n : Nat} {xs : List Int} {lo k : Nat} (h : lo + k ≤ xs.length) :
    d2iF n ((xs.drop lo).take k) = d2iF n ((xs.drop (lo + k / 2)).take (k - k / 2)) * 2 ^ (k / 2 * n) + d2iF n ((xs.drop lo).take (k / 2)) := by
  have e : (xs.drop lo).take k = (xs.drop lo).take (k / 2) ++ (xs.drop (lo + k / 2)).take (k - k / 2) := by
    have h1 : k = k / 2 + (k - k / 2) := by omega
    conv => lhs; rw [h1]
    rw [List.take_add, List.drop_drop]
  rw [e, d2iF_append, List.length_take, List.length_drop, Int.add_comm, show n * min (k / 2) (xs.length - lo) = k / 2 * n by rw [Nat.min_eq_left (by omega), Nat.mul_comm]]
theorem getD_one {n : Nat} {ns : List Int} {i : Nat} (h : i < ns.length) : ns.getD i 0 = d2iF n ((ns.drop i).take 1) := by
  rw [List.drop_eq_getElem_cons h, List.take_succ_cons, List.take_zero]
  simp [d2iF, List.getD, h]
set_option maxRecDepth 100000 in
set_option maxHeartbeats 8000000 in
theorem c_d2i {w : World} {mean : ExcName → Option Value} {mg mb : Str → Option Value} {dp un : Nat} {gd : Option (List Code)} {cn : Str} {cs : Scope} {a : Addr} {ccd : Value} {cl : List (Str × Addr)} {outer : List Env} {A₀ : Around} {base h₀ : Heap} {L : Addr} {m : Str → Option Value} {news es : List (Addr × Obj)} {s : Shared} {Q E : Value → Shared → Prop}
  {ld : Addr} {vs1 : List Value} {ns1 : List Int} {n1 n B : Nat} {tw : Tok}
  (B' : Below A₀ base outer h₀) (F : Fr h₀ L s.heap m) (X : (hd.heap_1 w.params).In h₀) (N : News h₀ L s.heap (es ++ news)) (T : Top topProg LO mean mg mb h₀) (hk : cs.kind = .function)
  (CH : CodeHd base 165 161) (hes : TabSt 161 (Str.ofString "_digits2int.<locals>.inner") 147 4 es) (hne : ∀ e ∈ es, ∀ q ∈ news, q.1 ≠ e.1)
  (hld : (ld, listOf vs1.toArray n1) ∈ news) (hi1 : IntsAre vs1 ns1) (hs1 : ns1.length ≤ 100) (hB : ∀ x ∈ ns1, x.natAbs < 2 ^ B) (hBl : B ≤ 10000) (hnl : n ≤ 10000)
  (hd : dp + 101 < recursionLimit) (hu : un + 1000 < cLine)
  (hret : ∀ es' t h' tk', TabSt 161 (Str.ofString "_digits2int.<locals>.inner") 147 4 es' → (∀ e ∈ es', ∀ q ∈ news, q.1 ≠ e.1) → Fr h₀ L h' m → News h₀ L h' (es' ++ news) → Q (.int (d2iF n ns1) t) { s with heap := h', toks := tk' }) :
  wpAny (model PR w) (ktrTop dp un gd cn cs L a ccd cl outer) (call (.ref 166) [.ref ld, .int n tw]) Q E s := by
    refine wpAny_call ?_
    k_dflt (refine' code_defC ?k1 ?k2 ?k3 ?k4 ?k5 ?kA ?kF ?kK ?k6 ?k7 ?k8 ?k9 ?kB ?kD ?_ ?c2 ?c3 ?c4; (case kA => exact rfl); (case kF => exact rfl); (case kK => assumption); (case k1 => k_asm); (case k2 => k_asm); (case k3 => k_asm); (case k4 => k_asm); (case k5 => k_asm); (case k6 => k_is); (case k7 => k_is); (case k8 => ktr_room); (case k9 => exact BindsTo.of_eq rfl); (case kB => exact rfl); (case kD => decide +kernel); (case c2 => exact rfl); (case c3 => exact rfl); (case c4 => exact rfl); k_whole; intro g' L' h' tk' cells' FG' F' N' Y' Bg Xg Tg hlt; k_cells Y'; (simp only [List.cons_append, List.nil_append] at N'); (try dsimp only); (try k_fold))
    rename Fr g' L' _ _ => F1
    rename_i o1 o2 o3 d1 d2 d3
    replace d1 : _ = Data.cell none := d1
    replace d2 : _ = Data.cell (some (.int n tw)) := d2
    replace d3 : _ = Data.cell (some (.ref ld)) := d3
    iterate 4 (first | (k_unfold; (try dsimp only)) | (k_end; wrow_close) | walk1 | (dsimp only; walk1) | (leave1; walk_say "STEP leave1"; try dsimp only) | fail "no step")
    k_dflt (refine' nestDef_K ?d0 ?k0 ?a0 ?_; (case d0 => exact rfl); (case k0 => exact rfl); (case a0 => exact rfl))
    have hcne : ∀ e ∈ es, ∀ q ∈ [(L' + 1 + 1 + 1, o1), (L' + 1 + 1, o2), (L' + 1, o3)] ++ news, q.1 ≠ e.1 := by
      intro e he q hq
      have := hlt e (List.mem_append_left _ he)
      rcases List.mem_append.mp hq with hq | hq
      · simp only [List.mem_cons, List.not_mem_nil, or_false] at hq
        have h1 : L' < q.1 := by
          rcases hq with rfl | rfl | rfl
          · exact Nat.lt_add_of_pos_right (k := 3) (by decide)
          · exact Nat.lt_add_of_pos_right (k := 2) (by decide)
          · exact Nat.lt_succ_self _
        exact Nat.ne_of_gt (Nat.lt_trans this h1)
      · exact hne e he q hq
    refine nest_both (cells := [(L' + 1 + 1 + 1, o1), (L' + 1 + 1, o2), (L' + 1, o3)]) (es := es) (news := news) F1 N' Tg (CH.keeps (Below.stays Bg)) rfl hes hcne rfl ?_
    intro f c' oc vs t ctv doc h2 tk2 F2 N2 e1 e2 hcP hfc hfP hall
    clear F1 N'
    have hA := hall (L' + 1 + 1 + 1, o1) (by simp)
    have hln : ∀ p ∈ news, p.1 ≠ L' + 1 + 1 + 1 := fun p hp => Nat.ne_of_lt (Nat.lt_trans (hlt p (List.mem_append_right _ hp)) (Nat.lt_add_of_pos_right (k := 3) (by decide)))
    refine storeX_C F2 N2 (c := L' + 1 + 1 + 1) rfl (.tail (Ne.symm hA.1) (.tail (Ne.symm hA.2.1) (.tail (Ne.symm hA.2.2) (.head (List.forall_mem_cons.mpr ⟨Nat.ne_of_lt (Nat.lt_succ_self _), List.forall_mem_cons.mpr ⟨Nat.ne_of_lt (Nat.lt_add_of_pos_right (k := 2) (by decide)), hln⟩⟩))))) d1 ?_ rfl rfl
    intro h3 o1' F3 N3 d1'
    clear F2 N2 hA d1
    dsimp only at N3 ⊢
    refine d2i_finish (f := f) (ns := ns1) (n := n) (w := w) (mean := mean) (mg := mg) (mb := mb) (base := base) N3 ?_ ?_
    · intro k
      induction k using Nat.strongRecOn with
      | _ k ih =>
        clear F3 N3 hret
        intro dp un gd cn cs a ccd cl outer A₀ h₀ L m news' s Q E lo hi t1 t2 B' F X N T hk hsub hlo hhi hk1 hhl hd hu hret
        refine wpAny_call ?_
        k_dflt (refine' code_nest ?k1 ?k2 ?k3 ?k4 ?k5 ?kA ?kF ?kK ?k6 ?k7 ?k8 ?k9 ?kB ?_ ?c2 ?c3 ?c4 ?c5; (case kA => exact rfl); (case kF => exact rfl); (case kK => assumption); (case k1 => k_asm); (case k2 => k_asm); (case k3 => k_asm); (case k4 => k_asm); (case k5 => k_asm); (case k6 => exact hsub _ (.head _)); (case k7 => exact codeRec_news N (hsub _ (.tail _ (.head _))) e1 e2); (case k8 => ktr_room); (case k9 => exact BindsTo.of_eq rfl); (case c5 => decide); (case kB => exact locs rfl); (case c2 => exact rfl); (case c3 => exact rfl); (case c4 => exact rfl); k_whole; intro g5 L5 h5 FG5 F5 N5 B5 X5 T5; (try dsimp only); (try k_fold))
        rcases Nat.lt_or_ge 1 k with hk2 | hk2
        · iterate 12 (first | (k_unfold; (try dsimp only)) | (k_end; wrow_close) | walk1 | (dsimp only; walk1) | (leave1; walk_say "STEP leave1"; try dsimp only) | fail "no step")
          · exfalso; omega
          · iterate 35 (first | (k_unfold; (try dsimp only)) | (k_end; wrow_close) | walk1 | (dsimp only; walk1) | (leave1; walk_say "STEP leave1"; try dsimp only) | fail "no step")
            · exact FnAt.of (by assumption) (hsub _ (.head _))
            rename Fr _ _ _ _ => F6
            rename News g5 _ _ _ => N6
            have hmid : (lo + hi).fdiv (2 ^ Int.toNat 1) = lo + ((k / 2 : Nat) : Int) := by
              rw [show (2 : Int) ^ Int.toNat 1 = 2 from rfl, Int.fdiv_eq_ediv_of_nonneg _ (by decide), hhi]; omega
            have hsh : (lo + ((k / 2 : Nat) : Int) - lo) * (n : Int) = ((k / 2 * n : Nat) : Int) := by
              rw [show lo + ((k / 2 : Nat) : Int) - lo = ((k / 2 : Nat) : Int) by omega]; exact (Int.natCast_mul _ _).symm
            rw [hmid]
            refine ih (k - k / 2) (by omega) _ _ _ _ _ _ _ _ _ _ _ _ _ _ _ _ _ _ _ _ _ B5 F6 X5 N6 T5 (by exact rfl) hsub (by omega) (by omega) (by omega) hhl (by ktr_room) (by ktr_units) ?_
            intro t7 h7 tk7 F7 N7
            clear F6 N6
            iterate 1 (first | (k_unfold; (try dsimp only)) | (k_end; wrow_close) | walk1 | (dsimp only; walk1) | (leave1; walk_say "STEP leave1"; try dsimp only) | fail "no step")
            rw [hmid, hsh]
            refine lshift_int (by omega) ?_ ?_
            · have hb := bits_le (d2iF_bound n B ((ns1.drop (lo + ((k / 2 : Nat) : Int)).toNat).take (k - k / 2)) fun x hx => hB x (List.mem_of_mem_drop (List.mem_of_mem_take hx)))
              have hl : ((ns1.drop (lo + ((k / 2 : Nat) : Int)).toNat).take (k - k / 2)).length ≤ 100 := by rw [List.length_take]; omega
              have h1 : (n + 1) * ((ns1.drop (lo + ((k / 2 : Nat) : Int)).toNat).take (k - k / 2)).length ≤ 10001 * 100 := Nat.mul_le_mul (by omega) hl
              have h2 : k / 2 * n ≤ 100 * 10000 := Nat.mul_le_mul (by omega) hnl
              omega
            rw [Int.toNat_natCast]
            iterate 9 (first | (k_unfold; (try dsimp only)) | (k_end; wrow_close) | walk1 | (dsimp only; walk1) | (leave1; walk_say "STEP leave1"; try dsimp only) | fail "no step")
            · exact FnAt.of N7 (hsub _ (.head _))
            rw [hmid]
            refine ih (k / 2) (by omega) _ _ _ _ _ _ _ _ _ _ _ _ _ _ _ _ _ _ _ _ _ B5 F7 X5 N7 T5 (by exact rfl) hsub hlo rfl (by omega) (by omega) (by ktr_room) (by ktr_units) ?_
            intro t8 h8 tk8 F8 N8
            clear F7 N7
            iterate 2 (first | (k_unfold; (try dsimp only)) | (k_end; wrow_close) | walk1 | (dsimp only; walk1) | (leave1; walk_say "STEP leave1"; try dsimp only) | fail "no step")
            iterate 1 (first | (k_unfold; (try dsimp only)) | (k_end; wrow_close) | walk1 | (dsimp only; walk1) | (leave1; walk_say "STEP leave1"; try dsimp only) | fail "no step")
            rw [show (lo + ((k / 2 : Nat) : Int)).toNat = lo.toNat + k / 2 by omega, ← d2iF_split (by omega)]
            exact hret _ _ _ (by assumption) (by assumption)
        · have hk1' : k = 1 := by omega
          subst hk1'
          iterate 12 (first | (k_unfold; (try dsimp only)) | (k_end; wrow_close) | walk1 | (dsimp only; walk1) | (leave1; walk_say "STEP leave1"; try dsimp only) | fail "no step")
          · iterate 7 (first | (k_unfold; (try dsimp only)) | (k_end; wrow_close) | walk1 | (dsimp only; walk1) | (leave1; walk_say "STEP leave1"; try dsimp only) | fail "no step")
            rw [getD_one (by omega)]
            exact hret _ _ _ (by assumption) (by assumption)
          · exfalso; omega
    · intro key
      have hdis : ∀ e ∈ [(c', oc), (161, tabObj #[rawInt 147, rawInt 4, .ref c'])], ∀ q ∈ news, q.1 ≠ e.1 := by
        intro e he q hq
        have h1 := hall q (List.mem_append_right _ hq)
        simp only [List.mem_cons, List.not_mem_nil, or_false] at he
        rcases he with rfl | rfl
        · exact h1.2.1
        · exact h1.2.2
      iterate 7 (first | (k_unfold; (try dsimp only)) | (k_end; wrow_close) | walk1 | (dsimp only; walk1) | (leave1; walk_say "STEP leave1"; try dsimp only) | fail "no step")
      · iterate 16 (first | (k_unfold; (try dsimp only)) | (k_end; wrow_close) | walk1 | (dsimp only; walk1) | (leave1; walk_say "STEP leave1"; try dsimp only) | fail "no step")
        refine key ns1.length _ _ _ _ _ _ _ _ _ _ _ _ _ _ _ _ _ _ _ _ _ Bg F3 Xg N3 Tg (by exact rfl) (fun p hp => hp) (by decide) (by omega) (by omega) (by omega) (by ktr_room) (by ktr_units) ?_
        intro t9 h9 tk9 F9 N9
        rw [show (0 : Int).toNat = 0 from rfl, List.drop_zero, List.take_length]
        iterate 1 (first | (k_unfold; (try dsimp only)) | (k_end; wrow_close) | walk1 | (dsimp only; walk1) | (leave1; walk_say "STEP leave1"; try dsimp only) | fail "no step")
        rename News h₀ _ _ _ => kN
        exact hret [(c', oc), (161, tabObj #[rawInt 147, rawInt 4, .ref c'])] _ _ _ (.made hcP e1 e2) hdis (by assumption) (news_sub kN fun p hp => mem_sub5 hp)
      · have hn0 : ns1 = [] := List.length_eq_zero_iff.mp (by omega)
        iterate 2 (first | (k_unfold; (try dsimp only)) | (k_end; wrow_close) | walk1 | (dsimp only; walk1) | (leave1; walk_say "STEP leave1"; try dsimp only) | fail "no step")
        rename News h₀ _ _ _ => kN
        rw [show (0 : Int) = d2iF n ns1 by rw [hn0]; rfl]
        exact hret [(c', oc), (161, tabObj #[rawInt 147, rawInt 4, .ref c'])] _ _ _ (.made hcP e1 e2) hdis (by assumption) (news_sub kN fun p hp => mem_sub5 hp)
noncomputable def digF (n : Nat) : Nat → Int → List Int
  | 0, _ => []
  | 1, x => [x]
  | k + 2, x => (x % 2 ^ n) :: digF n (k + 1) (x / 2 ^ n)
theorem digF_succ (n k : Nat) (h : 1 ≤ k) (x : Int) : digF n (k + 1) x = (x % 2 ^ n) :: digF n k (x / 2 ^ n) := by
  cases k with
  | zero => omega
  | succ k => rfl
theorem digF_len (n : Nat) : ∀ (k : Nat) (x : Int), (digF n k x).length = k
  | 0, _ => rfl
  | 1, _ => rfl
  | k + 2, x => by simp only [digF, List.length_cons, digF_len n (k + 1)]
theorem ediv_ediv' {a b c : Int} (hb : 0 < b) : a / b / c = a / (b * c) := by
  rw [Int.ediv_ediv, if_neg (fun h => absurd h.1 (Int.not_lt.mpr (Int.le_of_lt hb))), Int.sub_zero]
theorem digF_split (n : Nat) : ∀ (j i : Nat) (x : Int), 1 ≤ j → 1 ≤ i → digF n (j + i) x = digF n j (x % 2 ^ (j * n)) ++ digF n i (x / 2 ^ (j * n)) := by
  intro j
  induction j with
  | zero => intro i x h; omega
  | succ j ih =>
    intro i x _ hi
    have hp : (0 : Int) < 2 ^ n := Int.pow_pos (by decide)
    rw [show j + 1 + i = (j + i) + 1 by omega, digF_succ n (j + i) (by omega)]
    by_cases hj : j = 0
    · subst hj
      simp only [Nat.zero_add, Nat.one_mul, digF, List.cons_append, List.nil_append]
    · rw [ih i _ (by omega) hi, digF_succ n j (by omega), List.cons_append]
      have e1 : (2 : Int) ^ ((j + 1) * n) = 2 ^ n * 2 ^ (j * n) := by rw [← Int.pow_add]; congr 1; rw [Nat.succ_mul]; omega
      have e2 : x % 2 ^ ((j + 1) * n) % 2 ^ n = x % 2 ^ n := Int.emod_emod_of_dvd _ (e1 ▸ Int.dvd_mul_right _ _)
      have e3 : x % 2 ^ ((j + 1) * n) / 2 ^ n = x / 2 ^ n % 2 ^ (j * n) := by
        rw [e1]
        rw [Int.emod_def x, Int.mul_assoc, Int.sub_eq_add_neg, ← Int.mul_neg, Int.add_mul_ediv_left _ _ (Int.ne_of_gt hp), ← ediv_ediv' hp, Int.emod_def, Int.sub_eq_add_neg]
      have e4 : x / 2 ^ n / 2 ^ (j * n) = x / 2 ^ ((j + 1) * n) := by rw [e1, ediv_ediv' hp]
      rw [e2, e3, e4]
theorem and_mask (X s : Nat) : X &&& (X / 2 ^ s * 2 ^ s) = X / 2 ^ s * 2 ^ s := by
  apply Nat.eq_of_testBit_eq
  intro j
  rw [Nat.testBit_and, Nat.testBit_mul_two_pow, Nat.testBit_div_two_pow]
  by_cases h : s ≤ j
  · rw [show j - s + s = j by omega]; simp [h]
  · simp [h]
theorem xor_low {x : Int} (h : 0 ≤ x) (s : Nat) : Builtin.bitXor x (x.fdiv (2 ^ s) * 2 ^ s) = x % 2 ^ s := by
  obtain ⟨X, rfl⟩ := Int.eq_ofNat_of_zero_le h
  have hp : (0 : Int) ≤ 2 ^ s := Int.le_of_lt (Int.pow_pos (by decide))
  rw [Int.fdiv_eq_ediv_of_nonneg _ hp, bitXor_and]
  have e1 : ((X : Int) / 2 ^ s * 2 ^ s) = ((X / 2 ^ s * 2 ^ s : Nat) : Int) := by push_cast; rfl
  have e2 : Builtin.bitAnd (X : Int) ((X / 2 ^ s * 2 ^ s : Nat) : Int) = ((X / 2 ^ s * 2 ^ s : Nat) : Int) := by
    unfold Builtin.bitAnd
    rw [decide_eq_true (Int.natCast_nonneg _), decide_eq_true (Int.natCast_nonneg _)]
    simp only [Int.toNat_natCast, and_mask]
  rw [e1, e2]
  have e3 : ((X : Int) % 2 ^ s) = ((X % 2 ^ s : Nat) : Int) := by push_cast; rfl
  rw [e3]
  have := Nat.div_add_mod X (2 ^ s)
  rw [Nat.mul_comm] at this
  omega
def I2dSpec (w : World) (mean : ExcName → Option Value) (mg mb : Str → Option Value) (base : Heap) (f D : Addr) (K n B : Nat) (led : List (Addr × Obj)) (k : Nat) : Prop :=
  ∀ (dp un : Nat) (gd : Option (List Code)) (cn : Str) (cs : Scope) (a : Addr) (ccd : Value) (cl : List (Str × Addr)) (outer : List Env) (A₀ : Around) (h₀ : Heap) (L : Addr) (m : Str → Option Value) (news : List (Addr × Obj)) (s : Shared) (Q E : Value → Shared → Prop) (x lo hi : Int) (t0 t1 t2 : Tok)
    (vs : List Value) (ds : List Int) (nn : Nat),
    Below A₀ base outer h₀ → Fr h₀ L s.heap m → (hd.heap_1 w.params).In h₀ → News h₀ L s.heap ((D, listOf vs.toArray nn) :: news) → Top topProg LO mean mg mb h₀ → cs.kind = .function → (∀ p ∈ led, p ∈ news) → (∀ p ∈ news, p.1 ≠ D) → IntsAre vs ds →
    0 ≤ x → x.natAbs < 2 ^ B → 0 ≤ lo → hi = lo + k → 1 ≤ k → ds.length = K → hi ≤ K → dp + k < recursionLimit → un + 8 * k < cLine →
    (∀ vs' nn' h' tk', Fr h₀ L h' m → News h₀ L h' ((D, listOf vs'.toArray nn') :: news) → IntsAre vs' (ds.take lo.toNat ++ digF n k x ++ ds.drop hi.toNat) → Q .none { s with heap := h', toks := tk' }) →
    wpAny (model PR w) (ktrTop dp un gd cn cs L a ccd cl outer) (call (.ref f) [.int x t0, .int lo t1, .int hi t2]) Q E s
theorem digF_join {n k lo hi : Nat} {x : Int} {ds : List Int} (hk : 1 < k) (hh : hi = lo + k) (hl : hi ≤ ds.length) :
    (ds.take lo ++ digF n (k / 2) (x % 2 ^ (k / 2 * n)) ++ ds.drop (lo + k / 2)).take (lo + k / 2) ++ digF n (k - k / 2) (x / 2 ^ (k / 2 * n)) ++ (ds.take lo ++ digF n (k / 2) (x % 2 ^ (k / 2 * n)) ++ ds.drop (lo + k / 2)).drop hi =
      ds.take lo ++ digF n k x ++ ds.drop hi := by
  have hA : (ds.take lo ++ digF n (k / 2) (x % 2 ^ (k / 2 * n))).length = lo + k / 2 := by rw [List.length_append, digF_len, List.length_take]; omega
  have e1 := digF_split n (k / 2) (k - k / 2) x (by omega) (by omega)
  rw [show k / 2 + (k - k / 2) = k by omega] at e1
  rw [List.take_left' hA, List.drop_append, hA, List.drop_eq_nil_of_le (by rw [hA]; omega), List.nil_append, List.drop_drop, show lo + k / 2 + (hi - (lo + k / 2)) = hi by omega, e1]
  simp only [List.append_assoc]
theorem i2d_perm1 {p x y z o1 o2 o3 d : Addr × Obj} {l : List (Addr × Obj)} (hp : p ∈ o1 :: d :: x :: y :: z :: o2 :: o3 :: l) : p ∈ x :: y :: z :: ([o2, d, o1, o3] ++ l) := by
  simp only [List.mem_cons, List.mem_append, List.not_mem_nil, or_false] at hp ⊢
  rcases hp with hp | hp | hp | hp | hp | hp | hp | hp <;> simp [hp]
theorem i2d_perm2 {p x y z o1 o2 o3 d : Addr × Obj} {l : List (Addr × Obj)} (hp : p ∈ d :: x :: y :: z :: o1 :: o2 :: o3 :: l) : p ∈ o1 :: d :: x :: y :: z :: o2 :: o3 :: l := by
  simp only [List.mem_cons] at hp ⊢
  rcases hp with hp | hp | hp | hp | hp | hp | hp | hp <;> simp [hp]
theorem i2d_perm3 {p d x y z a b c : Addr × Obj} {l : List (Addr × Obj)} (hp : p ∈ [y, z] ++ d :: l) : p ∈ d :: x :: y :: z :: a :: b :: c :: l := by
  simp only [List.mem_cons, List.mem_append, List.not_mem_nil, or_false] at hp ⊢
  rcases hp with (hp | hp) | hp | hp <;> simp [hp]
theorem i2d_finish {w : World} {mean : ExcName → Option Value} {mg mb : Str → Option Value} {base g h : Heap} {L f D : Addr} {K n B : Nat} {dd : Addr × Obj} {led : List (Addr × Obj)} {P : Prop} (_N : News g L h (dd :: led))
    (key : ∀ k, I2dSpec w mean mg mb base f D K n B led k) (rest : (∀ k, I2dSpec w mean mg mb base f D K n B led k) → P) : P := rest key
set_option maxRecDepth 100000 in
set_option maxHeartbeats 8000000 in
theorem c_i2d {w : World} {mean : ExcName → Option Value} {mg mb : Str → Option Value} {dp un : Nat} {gd : Option (List Code)} {cn : Str} {cs : Scope} {a : Addr} {ccd : Value} {cl : List (Str × Addr)} {outer : List Env} {A₀ : Around} {base h₀ : Heap} {L : Addr} {m : Str → Option Value} {news es : List (Addr × Obj)} {s : Shared} {Q E : Value → Shared → Prop}
  {x : Int} {n B : Nat} {tx tw : Tok}
  (B' : Below A₀ base outer h₀) (F : Fr h₀ L s.heap m) (X : (hd.heap_1 w.params).In h₀) (N : News h₀ L s.heap (es ++ news)) (T : Top topProg LO mean mg mb h₀) (hk : cs.kind = .function)
  (CH : CodeHd base 158 154) (hes : TabSt 154 (Str.ofString "_int2digits.<locals>.inner") 129 4 es) (hne : ∀ e ∈ es, ∀ q ∈ news, q.1 ≠ e.1)
  (hx0 : 0 ≤ x) (hB : x.natAbs < 2 ^ B) (hBl : B ≤ 1000000) (hn1 : 1 ≤ n) (hnl : n ≤ 1000000) (hK : B ≤ 100 * n)
  (hd : dp + 110 < recursionLimit) (hu : un + 1000 < cLine)
  (hret : ∀ es' r vs c t h' tk', TabSt 154 (Str.ofString "_int2digits.<locals>.inner") 129 4 es' → (∀ e ∈ es', ∀ q ∈ (r, listOf vs.toArray c) :: news, q.1 ≠ e.1) → (∀ p ∈ es ++ news, p.1 < r) → IntsAre vs (digF n ((Builtin.Int.intBits x + n - 1) / n) x) → t = (0 : Nat) →
    Fr h₀ L h' m → News h₀ L h' (es' ++ (r, listOf vs.toArray c) :: news) → Q (.ref r) { s with heap := h', toks := tk' }) :
  wpAny (model PR w) (ktrTop dp un gd cn cs L a ccd cl outer) (call (.ref 159) [.int x tx, .int n tw]) Q E s := by
    refine wpAny_call ?_
    k_dflt (refine' code_defC ?k1 ?k2 ?k3 ?k4 ?k5 ?kA ?kF ?kK ?k6 ?k7 ?k8 ?k9 ?kB ?kD ?_ ?c2 ?c3 ?c4; (case kA => exact rfl); (case kF => exact rfl); (case kK => assumption); (case k1 => k_asm); (case k2 => k_asm); (case k3 => k_asm); (case k4 => k_asm); (case k5 => k_asm); (case k6 => k_is); (case k7 => k_is); (case k8 => ktr_room); (case k9 => exact BindsTo.of_eq rfl); (case kB => exact rfl); (case kD => decide +kernel); (case c2 => exact rfl); (case c3 => exact rfl); (case c4 => exact rfl); k_whole; intro g' L' h' tk' cells' FG' F' N' Y' Bg Xg Tg hlt; k_cells Y'; (simp only [List.cons_append, List.nil_append] at N'); (try dsimp only); (try k_fold))
    rename Fr g' L' _ _ => F1
    rename_i o1 o2 o3 d1 d2 d3
    replace d1 : _ = Data.cell none := d1
    replace d2 : _ = Data.cell none := d2
    replace d3 : _ = Data.cell (some (.int n tw)) := d3
    iterate 25 (first | (k_unfold; (try dsimp only)) | (k_end; wrow_close) | walk1 | (dsimp only; walk1) | (leave1; walk_say "STEP leave1"; try dsimp only) | fail "no step")
    have hKe : ((Builtin.Int.intBits x : Int) + (n : Int) - 1).fdiv (n : Int) = (((Builtin.Int.intBits x + n - 1) / n : Nat) : Int) := by
      rw [Int.fdiv_eq_ediv_of_nonneg _ (by omega), show (Builtin.Int.intBits x : Int) + (n : Int) - 1 = ((Builtin.Int.intBits x + n - 1 : Nat) : Int) by omega]; rfl
    have hbx : Builtin.Int.intBits x ≤ B := bits_le hB
    have hKle : (Builtin.Int.intBits x + n - 1) / n ≤ 101 := by
      have h1 : Builtin.Int.intBits x + n - 1 ≤ 101 * n := by omega
      exact Nat.le_trans (Nat.div_le_div_right h1) (by rw [Nat.mul_div_cancel _ (by omega)]; exact Nat.le_refl _)
    rw [hKe]
    generalize hKd : (Builtin.Int.intBits x + n - 1) / n = K at hKle
    rename Fr g' L' _ _ => F2
    rename News g' L' _ _ => N2
    rename _ ∧ _ ∧ _ ∧ AllLt _ _ => hl2
    refine KM.mul (ns := [0]) F2 N2 (News.isList N2 (.head _)) (.cons _ _ .nil) (by omega) (by omega) (by rw [List.length_singleton]; omega) ?_
    intro D h3 F3 N3 hD i3 _ _ _ _ _
    rw [Int.toNat_natCast] at N3 i3
    rw [krep_flat] at i3
    clear F2 N2
    have hD2 : L' + 1 + 1 < D := hD (L' + 1 + 1, o2) (by simp)
    have hD1 : L' + 1 < D := hD (L' + 1, o3) (by simp)
    have hD3 : L' + 1 + 1 + 1 < D := hD (L' + 1 + 1 + 1, o1) (by simp)
    have hDn : ∀ p ∈ es ++ news, p.1 < D := fun p hp => hD p (by simp [hp])
    have hLe : ∀ (j : Nat), ∀ p ∈ es ++ news, p.1 ≠ L' + j := fun j p hp => Nat.ne_of_lt (Nat.lt_of_lt_of_le (hlt p hp) (Nat.le_add_right _ _))
    clear hD hl2
    generalize hvz : (List.replicate K [Value.int 0 (tk' + 1)]).flatten = vz at N3 i3
    have N4 : News g' L' h3 ((L' + 1 + 1, o2) :: (D, listOf vz.toArray 0) :: (L' + 1 + 1 + 1, o1) :: (L' + 1, o3) :: (es ++ news)) := news_sub N3 fun p hp => by
      simp only [List.mem_cons] at hp ⊢
      rcases hp with hp | hp | hp | hp | hp <;> simp [hp]
    refine storeX_C F3 N4 (c := L' + 1 + 1) rfl (.head (List.forall_mem_cons.mpr ⟨Nat.ne_of_gt hD2, List.forall_mem_cons.mpr ⟨Nat.ne_of_gt (Nat.lt_succ_self _), List.forall_mem_cons.mpr ⟨Nat.ne_of_lt (Nat.lt_succ_self _), hLe 2⟩⟩⟩)) d2 ?_ rfl rfl
    intro h5 o2' F5 N5 d2'
    clear F3 N3 N4 d2
    dsimp only at N5 ⊢
    iterate 2 (first | (k_unfold; (try dsimp only)) | (k_end; wrow_close) | walk1 | (dsimp only; walk1) | (leave1; walk_say "STEP leave1"; try dsimp only) | fail "no step")
    k_dflt (refine' nestDef_K ?d0 ?k0 ?a0 ?_; (case d0 => exact rfl); (case k0 => exact rfl); (case a0 => exact rfl))
    have hcne : ∀ e ∈ es, ∀ q ∈ [(L' + 1 + 1, o2'), (D, listOf vz.toArray 0), (L' + 1 + 1 + 1, o1), (L' + 1, o3)] ++ news, q.1 ≠ e.1 := by
      intro e he q hq
      have h0 := hlt e (List.mem_append_left _ he)
      rcases List.mem_append.mp hq with hq | hq
      · simp only [List.mem_cons, List.not_mem_nil, or_false] at hq
        have h1 : L' < q.1 := by
          rcases hq with rfl | rfl | rfl | rfl
          · exact Nat.lt_add_of_pos_right (k := 2) (by decide)
          · exact Nat.lt_trans (Nat.lt_succ_self _) hD1
          · exact Nat.lt_add_of_pos_right (k := 3) (by decide)
          · exact Nat.lt_succ_self _
        exact Nat.ne_of_gt (Nat.lt_trans h0 h1)
      · exact hne e he q hq
    refine nest_both (cells := [(L' + 1 + 1, o2'), (D, listOf vz.toArray 0), (L' + 1 + 1 + 1, o1), (L' + 1, o3)]) (es := es) (news := news) F5 N5 Tg (CH.keeps (Below.stays Bg)) rfl hes hcne rfl ?_
    intro f c' oc vs t ctv doc h6 tk6 F6 N6 e1 e2 hcP hfc hfP hall
    clear F5 N5
    have hA := hall (L' + 1 + 1 + 1, o1) (by simp)
    have hAD := hall (D, listOf vz.toArray 0) (by simp)
    have N7 := news_sub N6 fun p hp => i2d_perm1 hp
    refine storeX_C F6 N7 (c := L' + 1 + 1 + 1) rfl (.head (List.forall_mem_cons.mpr ⟨Nat.ne_of_gt hD3, List.forall_mem_cons.mpr ⟨Ne.symm hA.1, List.forall_mem_cons.mpr ⟨Ne.symm hA.2.1, List.forall_mem_cons.mpr ⟨Ne.symm hA.2.2, List.forall_mem_cons.mpr ⟨Nat.ne_of_lt (Nat.lt_succ_self _), List.forall_mem_cons.mpr ⟨Nat.ne_of_lt (Nat.lt_add_of_pos_right (k := 2) (by decide)), fun p hp => hLe 3 p (List.mem_append_right _ hp)⟩⟩⟩⟩⟩⟩)) d1 ?_ rfl rfl
    intro h8 o1' F8 N8 d1'
    clear F6 N6 N7 d1
    dsimp only at N8 ⊢
    have N9 := news_sub N8 fun p hp => i2d_perm2 hp
    clear N8
    refine i2d_finish (f := f) (D := D) (K := K) (n := n) (B := B) (w := w) (mean := mean) (mg := mg) (mb := mb) (base := base) N9 ?_ ?_
    · intro k
      induction k using Nat.strongRecOn with
      | _ k ih =>
        clear F8 N9
        intro dp un gd cn cs a ccd cl outer A₀ h₀ L m news' s Q E x lo hi t0 t1 t2 us ds nn B' F X N T hk hsub hnD hi4 hx0 hxB hlo hhi hk1 hds hhl hd hu hret
        refine wpAny_call ?_
        have NN : (f, _) ∈ (D, listOf us.toArray nn) :: news' := .tail _ (hsub _ (.head _))
        have NC : (c', oc) ∈ (D, listOf us.toArray nn) :: news' := .tail _ (hsub _ (.tail _ (.head _)))
        k_dflt (refine' code_nest ?k1 ?k2 ?k3 ?k4 ?k5 ?kA ?kF ?kK ?k6 ?k7 ?k8 ?k9 ?kB ?_ ?c2 ?c3 ?c4 ?c5; (case kA => exact rfl); (case kF => exact rfl); (case kK => assumption); (case k1 => k_asm); (case k2 => k_asm); (case k3 => k_asm); (case k4 => k_asm); (case k5 => k_asm); (case k6 => exact NN); (case k7 => exact codeRec_news N NC e1 e2); (case k8 => ktr_room); (case k9 => exact BindsTo.of_eq rfl); (case c5 => decide); (case kB => exact locs rfl); (case c2 => exact rfl); (case c3 => exact rfl); (case c4 => exact rfl); k_whole; intro g5 L5 h5 FG5 F5 N5 B5 X5 T5; (try dsimp only); (try k_fold))
        rcases Nat.lt_or_ge 1 k with hk2 | hk2
        · iterate 12 (first | (k_unfold; (try dsimp only)) | (k_end; wrow_close) | walk1 | (dsimp only; walk1) | (leave1; walk_say "STEP leave1"; try dsimp only) | fail "no step")
          · exfalso; omega
          · iterate 27 (first | (k_unfold; (try dsimp only)) | (k_end; wrow_close) | walk1 | (dsimp only; walk1) | (leave1; walk_say "STEP leave1"; try dsimp only) | fail "no step")
            have hmid : (lo + hi).fdiv (2 ^ Int.toNat 1) = lo + ((k / 2 : Nat) : Int) := by
              rw [show (2 : Int) ^ Int.toNat 1 = 2 from rfl, Int.fdiv_eq_ediv_of_nonneg _ (by decide), hhi]; omega
            have hsh : (lo + ((k / 2 : Nat) : Int) - lo) * (n : Int) = ((k / 2 * n : Nat) : Int) := by
              rw [show lo + ((k / 2 : Nat) : Int) - lo = ((k / 2 : Nat) : Int) by omega]; exact (Int.natCast_mul _ _).symm
            rw [hmid, hsh]
            refine rshift_int (Int.natCast_nonneg _) ?_
            rw [Int.toNat_natCast]
            iterate 8 (first | (k_unfold; (try dsimp only)) | (k_end; wrow_close) | walk1 | (dsimp only; walk1) | (leave1; walk_say "STEP leave1"; try dsimp only) | fail "no step")
            rw [hmid, hsh]
            have hfl : x.fdiv (2 ^ (k / 2 * n)) = x / 2 ^ (k / 2 * n) := Int.fdiv_eq_ediv_of_nonneg _ (Int.le_of_lt (Int.pow_pos (by decide)))
            have hup0 : 0 ≤ x / 2 ^ (k / 2 * n) := Int.ediv_nonneg hx0 (Int.le_of_lt (Int.pow_pos (by decide)))
            have hlow0 : 0 ≤ x % 2 ^ (k / 2 * n) := Int.emod_nonneg _ (Int.ne_of_gt (Int.pow_pos (by decide)))
            have hupB : (x / 2 ^ (k / 2 * n)).natAbs < 2 ^ B := by
              have h1 : x / 2 ^ (k / 2 * n) ≤ x := Int.ediv_le_self _ hx0
              omega
            have hlowB : (x % 2 ^ (k / 2 * n)).natAbs < 2 ^ B := by
              have h1 : x % 2 ^ (k / 2 * n) ≤ x := by
                have h2 := Int.emod_def x (2 ^ (k / 2 * n))
                have h3 : 0 ≤ 2 ^ (k / 2 * n) * (x / 2 ^ (k / 2 * n)) := Int.mul_nonneg (Int.le_of_lt (Int.pow_pos (by decide))) hup0
                omega
              omega
            refine lshift_int (Int.natCast_nonneg _) ?_ ?_
            · rw [hfl]
              have hb := bits_le hupB
              have h2 : k / 2 * n ≤ 101 * 1000000 := Nat.mul_le_mul (by omega) hnl
              omega
            rw [Int.toNat_natCast]
            iterate 1 (first | (k_unfold; (try dsimp only)) | (k_end; wrow_close) | walk1 | (dsimp only; walk1) | (leave1; walk_say "STEP leave1"; try dsimp only) | fail "no step")
            rw [xor_low hx0]
            iterate 14 (first | (k_unfold; (try dsimp only)) | (k_end; wrow_close) | walk1 | (dsimp only; walk1) | (leave1; walk_say "STEP leave1"; try dsimp only) | fail "no step")
            · exact FnAt.of (by assumption) NN
            rename Fr _ _ _ _ => F6
            rename News g5 _ _ _ => N6
            rw [hmid]
            refine ih (k / 2) (by omega) _ _ _ _ _ _ _ _ _ _ _ _ _ _ _ _ _ _ _ _ _ _ _ us ds nn B5 F6 X5 N6 T5 (by exact rfl) hsub hnD hi4 hlow0 hlowB hlo rfl (by omega) hds (by omega) (by ktr_room) (by ktr_units) ?_
            intro us7 nn7 h7 tk7 F7 N7 i7
            clear F6 N6
            have hmn : (lo + ((k / 2 : Nat) : Int)).toNat = lo.toNat + k / 2 := by omega
            rw [hmn] at i7
            have hds7 : (ds.take lo.toNat ++ digF n (k / 2) (x % 2 ^ (k / 2 * n)) ++ ds.drop (lo.toNat + k / 2)).length = K := by
              rw [List.length_append, List.length_append, digF_len, List.length_take, List.length_drop]; omega
            iterate 14 (first | (k_unfold; (try dsimp only)) | (k_end; wrow_close) | walk1 | (dsimp only; walk1) | (leave1; walk_say "STEP leave1"; try dsimp only) | fail "no step")
            rw [hmid, hfl]
            refine ih (k - k / 2) (by omega) _ _ _ _ _ _ _ _ _ _ _ _ _ _ _ _ _ _ _ _ _ _ _ us7 _ nn7 B5 F7 X5 N7 T5 (by exact rfl) hsub hnD i7 hup0 hupB (by omega) (by omega) (by omega) hds7 hhl (by ktr_room) (by ktr_units) ?_
            intro us8 nn8 h8 tk8 F8 N8 i8
            clear F7 N7
            iterate 3 (first | (k_unfold; (try dsimp only)) | (k_end; wrow_close) | walk1 | (dsimp only; walk1) | (leave1; walk_say "STEP leave1"; try dsimp only) | fail "no step")
            refine hret _ _ _ _ (by assumption) (by assumption) ?_
            rw [hmn, digF_join (by omega) (by omega) (by omega)] at i8
            exact i8
        · have hk1' : k = 1 := by omega
          subst hk1'
          iterate 12 (first | (k_unfold; (try dsimp only)) | (k_end; wrow_close) | walk1 | (dsimp only; walk1) | (leave1; walk_say "STEP leave1"; try dsimp only) | fail "no step")
          · iterate 9 (first | (k_unfold; (try dsimp only)) | (k_end; wrow_close) | walk1 | (dsimp only; walk1) | (leave1; walk_say "STEP leave1"; try dsimp only) | fail "no step")
            refine hret _ _ _ _ (by assumption) (by assumption) ?_
            have hl1 : lo.toNat < ds.length := by omega
            have e : ds.set lo.toNat x = _ := List.set_eq_take_append_cons_drop
            rw [if_pos hl1] at e
            rw [show hi.toNat = lo.toNat + 1 by omega, digF, List.append_assoc, List.singleton_append, ← e]
            exact ints_set hi4 _
          · exfalso; omega
    · intro key
      have hdis : ∀ vv cc, ∀ e ∈ [(c', oc), (154, tabObj #[rawInt 129, rawInt 4, .ref c'])], ∀ q ∈ (D, listOf vv cc) :: news, q.1 ≠ e.1 := by
        intro vv cc e he q hq
        have h1 : q.1 ≠ f ∧ q.1 ≠ c' ∧ q.1 ≠ 154 := by
          rcases List.mem_cons.mp hq with rfl | hq
          · exact hAD
          · exact hall q (List.mem_append_right _ hq)
        simp only [List.mem_cons, List.not_mem_nil, or_false] at he
        rcases he with rfl | rfl
        · exact h1.2.1
        · exact h1.2.2
      iterate 8 (first | (k_unfold; (try dsimp only)) | (k_end; wrow_close) | walk1 | (dsimp only; walk1) | (leave1; walk_say "STEP leave1"; try dsimp only) | fail "no step")
      · iterate 14 (first | (k_unfold; (try dsimp only)) | (k_end; wrow_close) | walk1 | (dsimp only; walk1) | (leave1; walk_say "STEP leave1"; try dsimp only) | fail "no step")
        refine len_ints_fit (News.isList N9 (.head _)) i3 (by rw [List.length_replicate]; omega) ?_
        rw [List.length_replicate]
        iterate 3 (first | (k_unfold; (try dsimp only)) | (k_end; wrow_close) | walk1 | (dsimp only; walk1) | (leave1; walk_say "STEP leave1"; try dsimp only) | fail "no step")
        have hK1 : 1 ≤ K := by
          have h1 : 1 ≤ Builtin.Int.intBits x := by
            unfold Builtin.Int.intBits
            rw [if_neg (by simpa using by assumption)]
            omega
          rw [← hKd]
          exact (Nat.le_div_iff_mul_le (by omega)).mpr (by omega)
        refine key K _ _ _ _ _ _ _ _ _ _ _ _ _ _ _ _ _ _ _ _ _ _ _ vz (List.replicate K 0) 0 Bg F8 Xg N9 Tg (by exact rfl) (fun p hp => hp) ?_ i3 hx0 hB (by decide) (by omega) hK1 List.length_replicate (by omega) (by ktr_room) (by ktr_units) ?_
        · simp only [List.forall_mem_cons]
          exact ⟨Ne.symm hAD.1, Ne.symm hAD.2.1, Ne.symm hAD.2.2, Nat.ne_of_lt hD3, Nat.ne_of_lt hD2, Nat.ne_of_lt hD1, fun p hp => Nat.ne_of_lt (hDn p (List.mem_append_right _ hp))⟩
        intro us9 nn9 h9 tk9 F9 N10 i9
        rw [show (0 : Int).toNat = 0 from rfl, List.take_zero, List.nil_append, Int.toNat_natCast, List.drop_eq_nil_of_le (by rw [List.length_replicate]; exact Nat.le_refl _), List.append_nil, ← hKd] at i9
        iterate 5 (first | (k_unfold; (try dsimp only)) | (k_end; wrow_close) | walk1 | (dsimp only; walk1) | (leave1; walk_say "STEP leave1"; try dsimp only) | fail "no step")
        rename News h₀ _ _ _ => kN
        exact hret [(c', oc), (154, tabObj #[rawInt 129, rawInt 4, .ref c'])] D us9 nn9 0 _ _ (.made hcP e1 e2) (hdis _ _) hDn i9 rfl (by assumption) (news_sub kN fun p hp => i2d_perm3 hp)
      · iterate 5 (first | (k_unfold; (try dsimp only)) | (k_end; wrow_close) | walk1 | (dsimp only; walk1) | (leave1; walk_say "STEP leave1"; try dsimp only) | fail "no step")
        rename News h₀ _ _ _ => kN
        have hx00 : x = 0 := by omega
        have hK0 : K = 0 := by
          rw [← hKd, hx00]
          exact Nat.div_eq_of_lt (by rw [show Builtin.Int.intBits 0 = 0 from rfl]; omega)
        rw [hK0, List.replicate_zero] at i3
        exact hret [(c', oc), (154, tabObj #[rawInt 129, rawInt 4, .ref c'])] D vz 0 0 _ _ (.made hcP e1 e2) (hdis _ _) hDn (by rw [hKd, hK0]; exact i3) rfl (by assumption) (news_sub kN fun p hp => i2d_perm3 hp)
def prodF (n : Nat) (ns : List Int) : Int := ns.foldl (fun p x => p * (2 ^ n + x)) 1
theorem map_two {x y : Str} {m₁ m₀ : Str → Option Value} {v u : Value} (hy : m₁ y = some u) (hm : ∀ z, z ≠ x → z ≠ y → m₁ z = m₀ z) :
    (fun z => if z = x then some v else m₁ z) = fun z => if z = x then some v else if z = y then some u else m₀ z := by
  funext z
  by_cases h1 : z = x
  · simp [h1]
  · simp only [if_neg h1]
    by_cases h2 : z = y
    · rw [h2, if_pos rfl]; exact hy
    · rw [if_neg h2]; exact hm z h1 h2
theorem map_out {x y : Str} {m₁ m₀ : Str → Option Value} {u : Value} (hy : m₁ y = some u) (hm : ∀ z, z ≠ x → z ≠ y → m₁ z = m₀ z) :
    (fun z => if z = x then m₁ z else if z = y then some u else m₀ z) = m₁ := by
  funext z
  by_cases h1 : z = x
  · simp [h1]
  · simp only [if_neg h1]
    by_cases h2 : z = y
    · rw [h2, if_pos rfl]; exact hy.symm
    · rw [if_neg h2]; exact (hm z h1 h2).symm
theorem prodF_snoc (n : Nat) (l : List Int) (x : Int) : prodF n (l ++ [x]) = prodF n l * (2 ^ n + x) := by
  unfold prodF; rw [List.foldl_append]; rfl
theorem factor_lt {n : Nat} {x : Int} (h0 : 0 ≤ x) (hB : x < 2 ^ n) : 0 < 2 ^ n + x ∧ 2 ^ n + x < 2 ^ (n + 1) := by
  have h1 : (0 : Int) < 2 ^ n := Int.pow_pos (by decide)
  have h2 : (2 : Int) ^ (n + 1) = 2 ^ n * 2 := Int.pow_succ 2 n
  omega
theorem prodF_bound (n : Nat) (l : List Int) (h0 : ∀ x ∈ l, 0 ≤ x) (hB : ∀ x ∈ l, x < 2 ^ n) : 0 < prodF n l ∧ prodF n l ≤ 2 ^ ((n + 1) * l.length) := by
  have all : ∀ k, ∀ l : List Int, l.length = k → (∀ x ∈ l, 0 ≤ x) → (∀ x ∈ l, x < 2 ^ n) → 0 < prodF n l ∧ prodF n l ≤ 2 ^ ((n + 1) * l.length) := by
    intro k
    induction k with
    | zero => intro l hl _ _; rw [List.length_eq_zero_iff.mp hl]; exact ⟨(by decide : (0 : Int) < 1), (by show (1 : Int) ≤ 2 ^ ((n + 1) * 0); rw [Nat.mul_zero]; decide)⟩
    | succ k ih =>
      intro l hl h0 hB
      have hne : l ≠ [] := by intro e; rw [e] at hl; cases hl
      obtain ⟨r, x, rfl⟩ : ∃ r x, l = r ++ [x] := ⟨l.dropLast, l.getLast hne, (List.dropLast_concat_getLast hne).symm⟩
      rw [List.length_append, List.length_singleton] at hl ⊢
      have h1 := ih r (by omega) (fun y hy => h0 y (List.mem_append_left _ hy)) (fun y hy => hB y (List.mem_append_left _ hy))
      have h2 := factor_lt (h0 x (List.mem_append_right _ (.head _))) (hB x (List.mem_append_right _ (.head _)))
      rw [prodF_snoc]
      refine ⟨Int.mul_pos h1.1 h2.1, ?_⟩
      rw [Nat.mul_add, Nat.mul_one, Int.pow_add]
      exact Int.mul_le_mul h1.2 (Int.le_of_lt h2.2) (Int.le_of_lt h2.1) (Int.le_of_lt (Int.pow_pos (by decide)))
  exact all _ l rfl h0 hB
theorem pos_bits {x : Int} {b : Nat} (h0 : 0 < x) (h : x ≤ 2 ^ b) : Builtin.Int.intBits x ≤ b + 1 := by
  refine bits_le ?_
  have e : (2 : Int) ^ b = ((2 ^ b : Nat) : Int) := by push_cast; rfl
  rw [e] at h
  have h1 : 2 ^ b < 2 ^ (b + 1) := Nat.pow_lt_pow_right (by decide) (Nat.lt_succ_self _)
  omega
theorem factor_bits {n : Nat} {x : Int} (h0 : 0 ≤ x) (hB : x < 2 ^ n) : Builtin.Int.intBits (2 ^ n + x) ≤ n + 2 := by
  have h := factor_lt h0 hB
  exact pos_bits h.1 (Int.le_of_lt h.2)
theorem mul_ok {a b : Int} {p q : Nat} (h1 : Builtin.Int.intBits a ≤ p) (h2 : Builtin.Int.intBits b ≤ q) (h : p + q ≤ 2 ^ 26) : IntMulOk a b := by
  unfold IntMulOk Builtin.Int.intTooBig bitsLine
  simp only [Bool.and_eq_true, decide_eq_true_eq, not_and]
  intro _
  omega
set_option maxRecDepth 100000 in
set_option maxHeartbeats 8000000 in
theorem c_top {w : World} {mean : ExcName → Option Value} {mg mb : Str → Option Value} {dp un : Nat} {gd : Option (List Code)} {cn : Str} {cs : Scope} {a : Addr} {ccd : Value} {cl : List (Str × Addr)} {outer : List Env} {A₀ : Around} {base h₀ : Heap} {L : Addr} {m : Str → Option Value} {news es : List (Addr × Obj)} {s : Shared} {Q E : Value → Shared → Prop}
  {li : Addr} {vs : List Value} {ns : List Int} {n1 n B : Nat} {tw : Tok}
  (Bl : Below A₀ base outer h₀) (F : Fr h₀ L s.heap m) (X : (hd.heap_1 w.params).In h₀) (N : News h₀ L s.heap (es ++ news)) (T : Top topProg LO mean mg mb h₀) (hk : cs.kind = .function)
  (CH : CodeHd base 158 154) (hes : TabSt 154 (Str.ofString "_int2digits.<locals>.inner") 129 4 es) (hne : ∀ e ∈ es, ∀ q ∈ news, q.1 ≠ e.1)
  (hli : (li, listOf vs.toArray n1) ∈ news) (hi : IntsAre vs ns) (hl : ns.length ≤ 8) (hn1 : 1 ≤ n) (hnl : n ≤ 100000) (h0 : ∀ x ∈ ns, 0 ≤ x) (hB : ∀ x ∈ ns, x < 2 ^ n)
  (hd : dp + 120 < recursionLimit) (hu : un + 1010 < cLine)
  (hret : ∀ es' r vs' c h' tk', TabSt 154 (Str.ofString "_int2digits.<locals>.inner") 129 4 es' → (∀ e ∈ es', ∀ q ∈ (r, listOf vs'.toArray c) :: news, q.1 ≠ e.1) → (∀ p ∈ es ++ news, p.1 < r) →
    IntsAre vs' ((digF n ((Builtin.Int.intBits (prodF n ns) + n - 1) / n) (prodF n ns)).reverse ++ [0, 0, 0, 0]) →
    Fr h₀ L h' m → News h₀ L h' (es' ++ (r, listOf vs'.toArray c) :: news) → Q (.ref r) { s with heap := h', toks := tk' }) :
  wpAny (model PR w) (ktrTop dp un gd cn cs L a ccd cl outer) (call (.ref 185) [.ref li, .int n tw]) Q E s := by
    refine wpAny_call ?_
    k_dflt ktr_enter
    iterate 6 (first | (k_unfold; (try dsimp only)) | (k_end; wrow_close) | walk1 | (dsimp only; walk1) | (leave1; walk_say "STEP leave1"; try dsimp only) | fail "no step")
    rename Fr _ _ _ _ => F1
    rename News _ _ _ _ => N1
    change Fr _ _ _ (fun y => if y = Str.ofString "product" then some (Value.int 1 _) else List.lookup y [(Str.ofString "width", Value.int n tw), (Str.ofString "items", Value.ref li)]) at F1
    with_unfolding_all refine' For_invVF F1 ?k1 ?k2 ?_
    case k1 => exact rfl
    case k2 => exact rfl
    iterate 1 (first | (k_unfold; (try dsimp only)) | (k_end; wrow_close) | walk1 | (dsimp only; walk1) | (leave1; walk_say "STEP leave1"; try dsimp only) | fail "no step")
    refine iter_invNL (fun i m₁ nx => nx = es ++ news ∧ (∃ t, m₁ (Str.ofString "product") = some (.int (prodF n (ns.take i)) t)) ∧ ∀ z, z ≠ Str.ofString "item" → z ≠ Str.ofString "product" → m₁ z = (fun y => List.lookup y [(Str.ofString "width", Value.int n tw), (Str.ofString "items", Value.ref li)]) z) (by rfl) (List.mem_append_right _ hli) hi F1 N1 ⟨rfl, ⟨_, rfl⟩, fun z h1 h2 => by simp only [if_neg h2]⟩ ?_ ?_
    · rintro i x t m₁ nx h tk own hn - hoff hl' ⟨rfl, ⟨tp, hp⟩, hm⟩ F2 N2
      rw [map_two hp hm] at F2
      clear F1 N1
      with_reducible show wpAny _ _ _ _ _ _
      k_fold
      iterate 10 (first | (k_unfold; (try dsimp only)) | (k_end; wrow_close) | walk1 | (dsimp only; walk1) | (leave1; walk_say "STEP leave1"; try dsimp only) | fail "no step")
      have hx := List.mem_of_getElem? hn
      have hpb := prodF_bound n (ns.take i) (fun y hy => h0 y (List.mem_of_mem_take hy)) (fun y hy => hB y (List.mem_of_mem_take hy))
      rw [Int.toNat_natCast, Int.one_mul]
      refine imul_int ?_ ?hm
      case hm => exact mul_ok (pos_bits hpb.1 hpb.2) (factor_bits (h0 x hx) (hB x hx)) (by rw [List.length_take]; have := Nat.mul_le_mul_left (n + 1) (show min i ns.length ≤ 8 by omega); omega)
      iterate 4 (first | (k_unfold; (try dsimp only)) | (k_end; wrow_close) | walk1 | (dsimp only; walk1) | (leave1; walk_say "STEP leave1"; try dsimp only) | fail "no step")
      rename Fr _ _ _ _ => F3
      rename News _ _ _ _ => N3
      rw [take_snoc hn, prodF_snoc]
      exact InvEndN.intro F3 N3 ⟨hl', rfl, ⟨_, rfl⟩, fun z h1 h2 => by simp [h1, h2]⟩ rfl (fun p hp => List.mem_append_left _ hp) (fun p hp => List.mem_append_right _ hp)
    · rintro m₁ nx h tk hl' ⟨rfl, ⟨tp, hp⟩, hm⟩ F2 N2
      rw [show m₁ = _ from (map_out hp hm).symm] at F2
      rw [List.take_length] at F2
      clear F1 N1
      dsimp only
      with_reducible show wpAny _ _ _ _ _ _
      iterate 13 (first | (k_unfold; (try dsimp only)) | (k_end; wrow_close) | walk1 | (dsimp only; walk1) | (leave1; walk_say "STEP leave1"; try dsimp only) | fail "no step")
      have hpb := prodF_bound n ns h0 hB
      have hpl : (n + 1) * ns.length ≤ (n + 1) * 8 := Nat.mul_le_mul_left _ hl
      have hpB : (prodF n ns).natAbs < 2 ^ ((n + 1) * 8 + 1) := by
        have h0' : (2 : Int) ^ ((n + 1) * ns.length) = ((2 ^ ((n + 1) * ns.length) : Nat) : Int) := by push_cast; rfl
        have h1 : 2 ^ ((n + 1) * ns.length) ≤ 2 ^ ((n + 1) * 8) := Nat.pow_le_pow_right (by decide) hpl
        have h3 : 2 ^ ((n + 1) * 8) < 2 ^ ((n + 1) * 8 + 1) := Nat.pow_lt_pow_right (by decide) (Nat.lt_succ_self _)
        omega
      refine c_i2d (B := (n + 1) * 8 + 1) (by k_asm) F2 (by k_asm) N2 (by k_asm) (by exact rfl) CH hes hne (by omega) hpB (by omega) hn1 (by omega) (by omega) (by ktr_room) (by ktr_units) ?_
      intro es' r vs' c t0 h3 tk3 hes' hne' hlt' i3 _ F3 N3
      clear F2 N2
      iterate 8 (first | (k_unfold; (try dsimp only)) | (k_end; wrow_close) | walk1 | (dsimp only; walk1) | (leave1; walk_say "STEP leave1"; try dsimp only) | fail "no step")
      have hK : vs'.length ≤ 101 := by
        rw [i3.length, digF_len]
        have h1 := pos_bits hpb.1 hpb.2
        have h2 : Builtin.Int.intBits (prodF n ns) + n - 1 ≤ 101 * n := by omega
        exact Nat.le_trans (Nat.div_le_div_right h2) (by rw [Nat.mul_div_cancel _ (by omega)]; exact Nat.le_refl _)
      refine krv_ints F3 N3 (News.isList N3 (List.mem_append_right _ (.head _))) (IsPart.int _ _) i3 ?_ (by with_unfolding_all rfl) (by kmk_pure) (by rw [List.size_toArray, sizeLine_eq]; omega)
      intro D4 ws4 h4 F4 N4 l4 i4 hlen4
      clear F3 N3
      iterate 11 (first | (k_unfold; (try dsimp only)) | (k_end; wrow_close) | walk1 | (dsimp only; walk1) | (leave1; walk_say "STEP leave1"; try dsimp only) | fail "no step")
      rename Fr _ _ _ _ => F5
      rename News _ _ _ _ => N5
      rename _ ∧ AllLt _ _ => l5
      refine kmk_add_ints F5 N5 (News.isList N5 (.tail _ (.head _))) (News.isList N5 (.head _)) i4 (.cons _ _ (.cons _ _ (.cons _ _ (.cons _ _ .nil)))) ?_ (by rw [List.length_reverse, digF_len, sizeLine_eq]; have := i3.length; rw [digF_len] at this; simp only [List.length_cons, List.length_nil]; omega)
      intro D6 ws6 h6 F6 N6 l6 i6
      clear F5 N5
      iterate 2 (first | (k_unfold; (try dsimp only)) | (k_end; wrow_close) | walk1 | (dsimp only; walk1) | (leave1; walk_say "STEP leave1"; try dsimp only) | fail "no step")
      rename News h₀ _ _ _ => kN
      have hD6 : ∀ p ∈ es' ++ (r, listOf vs'.toArray c) :: news, p.1 < D6 := fun p hp => l6 p (.tail _ (.tail _ hp))
      refine hret es' D6 ws6 0 _ _ hes' ?_ ?_ i6 (by assumption) (news_sub kN ?_)
      · intro e he q hq
        rcases List.mem_cons.mp hq with rfl | hq
        · exact Nat.ne_of_gt (hD6 e (List.mem_append_left _ he))
        · exact hne' e he q (.tail _ hq)
      · exact fun p hp => Nat.lt_trans (hlt' p hp) (hD6 (r, listOf vs'.toArray c) (List.mem_append_right _ (.head _)))
      · (repeat' (first | exact sub_nil | exact sub_self | refine sub_cons ?_ ?_ | refine sub_app ?_ ?_ | exact List.Mem.head _ | refine List.Mem.tail _ ?_ | refine sub_tail ?_ | (refine sub_left ?_; (repeat (first | exact sub_self | refine sub_tail ?_)); done) | (refine sub_left ?_; refine sub_left ?_; exact sub_self) | (refine sub_left ?_; refine sub_right ?_; (repeat (first | exact sub_self | refine sub_tail ?_)); done) | (refine List.mem_append_left _ ?_; (repeat (first | exact List.Mem.head _ | refine List.Mem.tail _ ?_)); done) | (refine List.mem_append_left _ ?_; refine List.mem_append_right _ ?_; (repeat (first | exact List.Mem.head _ | refine List.Mem.tail _ ?_)); done) | refine sub_right ?_ | refine List.mem_append_right _ ?_))
def sumsK (ns : List Int) (k : Nat) : List Int := (List.range k).map fun i => ns.getD i 0 + ns.getD k 0
def sumsF (ns : List Int) : List Int := (List.range ns.length).flatMap (sumsK ns)
set_option maxRecDepth 100000 in
set_option maxHeartbeats 8000000 in
theorem c_sums {w : World} {mean : ExcName → Option Value} {mg mb : Str → Option Value} {dp un : Nat} {gd : Option (List Code)} {cn : Str} {cs : Scope} {a : Addr} {ccd : Value} {cl : List (Str × Addr)} {outer : List Env} {A₀ : Around} {base h₀ : Heap} {L : Addr} {m : Str → Option Value} {news : List (Addr × Obj)} {s : Shared} {Q E : Value → Shared → Prop}
  {li : Addr} {vs : List Value} {ns : List Int} {n1 : Nat}
  (Bl : Below A₀ base outer h₀) (F : Fr h₀ L s.heap m) (X : (hd.heap_1 w.params).In h₀) (N : News h₀ L s.heap news) (T : Top topProg LO mean mg mb h₀) (hk : cs.kind = .function)
  (hli : (li, listOf vs.toArray n1) ∈ news) (hi : IntsAre vs ns) (hl : ns.length ≤ 100)
  (hd : dp + 10 < recursionLimit) (hu : un + 100 < cLine)
  (hret : ∀ r vs' c h' tk', (∀ p ∈ news, p.1 < r) → IntsAre vs' (sumsF ns) → Fr h₀ L h' m → News h₀ L h' ((r, listOf vs'.toArray c) :: news) → Q (.ref r) { s with heap := h', toks := tk' }) :
  wpAny (model PR w) (ktrTop dp un gd cn cs L a ccd cl outer) (call (.ref 190) [.ref li]) Q E s := by
    refine wpAny_call ?_
    k_dflt (refine' code_defC ?k1 ?k2 ?k3 ?k4 ?k5 ?kA ?kF ?kK ?k6 ?k7 ?k8 ?k9 ?kB ?kD ?_ ?c2 ?c3 ?c4; (case kA => exact rfl); (case kF => exact rfl); (case kK => assumption); (case k1 => k_asm); (case k2 => k_asm); (case k3 => k_asm); (case k4 => k_asm); (case k5 => k_asm); (case k6 => k_is); (case k7 => k_is); (case k8 => ktr_room); (case k9 => exact BindsTo.of_eq rfl); (case kB => exact rfl); (case kD => decide +kernel); (case c2 => exact rfl); (case c3 => exact rfl); (case c4 => exact rfl); k_whole; intro g' L' h' tk' cells' FG' F' N' Y' Bg Xg Tg hlt; k_cells Y'; (simp only [List.cons_append, List.nil_append] at N'); (try dsimp only); (try k_fold))
    rename_i o1 d1
    replace d1 : _ = Data.cell (some (.ref li)) := d1
    iterate 2 (first | (k_unfold; (try dsimp only)) | (k_end; wrow_close) | walk1 | (dsimp only; walk1) | (leave1; walk_say "STEP leave1"; try dsimp only) | fail "no step")
    rename Fr _ _ _ _ => F1
    rename News _ _ _ _ => N1
    refine ListComp_G (h₀ := g') (L := L') (by with_unfolding_all rfl) (by decide) (by rfl) (by decide) ?_
    iterate 10 (first | (k_unfold; (try dsimp only)) | (k_end; wrow_close) | walk1 | (dsimp only; walk1) | (leave1; walk_say "STEP leave1"; try dsimp only) | fail "no step")
    refine len_ints_fit (News.isList N1 (.tail _ hli)) hi (by omega) ?_
    iterate 2 (first | (k_unfold; (try dsimp only)) | (k_end; wrow_close) | walk1 | (dsimp only; walk1) | (leave1; walk_say "STEP leave1"; try dsimp only) | fail "no step")
    rename IsRange _ _ _ _ _ _ _ _ => hr
    rename Fr _ _ _ _ => F2
    rename News _ _ _ _ => N2
    refine start_two (fun i ys nx => nx = (L' + 1, o1) :: news ∧ IntsAre ys ((List.range i).flatMap (sumsK ns)) ∧ ys.length ≤ i * 100) (by rfl) (by rfl) (by rfl) (by rfl) F2 N2 hr (small_one (by omega) (by omega) (by omega) (by omega)) (n := ns.length) (by rw [rangeSize_nat]; omega) ⟨rfl, .nil, Nat.zero_le _⟩ ?_ ?_
    · rintro C D k tk0 ys m₂ oC I nx h tk own E' hk ⟨rfl, hys, hyl⟩ hm2 hoC ⟨oI, hoI⟩ hap F3 N3
      clear F2 N2
      dsimp only
      iterate 7 (first | (k_unfold; (try dsimp only)) | (k_end; wrow_close) | walk1 | (dsimp only; walk1) | (leave1; walk_say "STEP leave1"; try dsimp only) | fail "no step")
      rename IsRange _ _ _ _ _ _ _ _ => hr3
      rename Fr _ _ _ _ => F4
      rename News _ _ _ _ => N4
      have hk63 : ((k : Nat) : Int) < 2 ^ 62 := by omega
      refine ⟨_, _, _, _, _, _, k, _, _, oC, m₂, (L' + 1, o1) :: news, fun j ys nx => nx = (L' + 1, o1) :: news ∧ IntsAre ys ((List.range k).flatMap (sumsK ns) ++ (List.range j).map fun i => ns.getD i 0 + ns.getD k 0) ∧ ys.length ≤ k * 100 + j, rfl, rfl, hr3, small_one (by omega) (by omega) (by omega) (by omega), (by rw [rangeSize_nat]; omega), F4, N4, hoC, hap, ⟨rfl, (by simpa using hys), hyl⟩, ?_, ?_, ?_⟩
      · rintro j ys nx hj ⟨-, -, h3⟩
        rw [sizeLine_eq]; omega
      · rintro ys nx ⟨e, h2, h3⟩
        refine ⟨e, ?_, by omega⟩
        rw [List.range_succ, List.flatMap_append, List.flatMap_singleton]; exact h2
      · rintro j t' ys m₃ oC nx h tk own' I2 E' hj ⟨rfl, hys, hyl⟩ hm3 hz hoC ⟨oI2, hoI2⟩ hown hap F5 N5
        have hmk : m₃ (Str.ofString "k") = some (Value.int (0 + ↑k) tk0) := (hz _ (by decide)).trans hm2
        clear F4 N4 hr3
        dsimp only
        iterate 4 (first | (k_unfold; (try dsimp only)) | (k_end; wrow_close) | walk1 | (dsimp only; walk1) | (leave1; walk_say "STEP leave1"; try dsimp only) | fail "no step")
        have hli5 : (li, listOf vs.toArray n1) ∈ own' ++ (C, oC) :: (D, LCg.lst ys) :: (L' + 1, o1) :: news := List.mem_append_right _ (.tail _ (.tail _ (.tail _ hli)))
        refine item_anyK (News.isList N5 hli5) hi (by omega) (by omega) (by omega) ?_
        intro t5
        iterate 5 (first | (k_unfold; (try dsimp only)) | (k_end; wrow_close) | walk1 | (dsimp only; walk1) | (leave1; walk_say "STEP leave1"; try dsimp only) | fail "no step")
        rw [show ((0 : Int) + (j : Int)).toNat = j by omega, show ((0 : Int) + (k : Int)).toNat = k by omega]
        refine ⟨_, _, _, rfl, F5, N5, hap, rfl, ?_, by rw [List.length_append, List.length_singleton]; omega⟩
        rw [List.range_succ, List.map_append, ← List.append_assoc]
        exact IntsAre.append hys (.cons _ _ .nil)
    · rintro s₂ D ys nx ⟨hh2, rfl⟩ hD ⟨rfl, hys, hyl⟩ h tk F3 N3 hnx
      dsimp only
      iterate 1 (first | (k_unfold; (try dsimp only)) | (k_end; wrow_close) | walk1 | (dsimp only; walk1) | (leave1; walk_say "STEP leave1"; try dsimp only) | fail "no step")
      rename News h₀ _ _ _ => kN
      rename Fr h₀ _ _ m => kF
      exact hret D ys ys.length h tk (fun p hp => hD _ _ (N2 p (.tail _ hp)).1) hys kF (news_sub kN (by simp only [List.mem_cons]; intro p hp; rcases hp with hp | hp <;> simp [hp]))
def firstsF (l : List Int) : List Int := l.foldl (fun acc x => if x ∈ acc then acc else acc ++ [x]) []
theorem firstsF_snoc (l : List Int) (x : Int) : firstsF (l ++ [x]) = if x ∈ firstsF l then firstsF l else firstsF l ++ [x] := by
  unfold firstsF; rw [List.foldl_append]; rfl
theorem firstsF_len (l : List Int) : (firstsF l).length ≤ l.length := by
  have all : ∀ k, ∀ l : List Int, l.length = k → (firstsF l).length ≤ l.length := by
    intro k
    induction k with
    | zero => intro l hl; rw [List.length_eq_zero_iff.mp hl]; exact Nat.le_refl _
    | succ k ih =>
      intro l hl
      have hne : l ≠ [] := by intro e; rw [e] at hl; cases hl
      obtain ⟨r, x, rfl⟩ : ∃ r x, l = r ++ [x] := ⟨l.dropLast, l.getLast hne, (List.dropLast_concat_getLast hne).symm⟩
      rw [List.length_append, List.length_singleton] at hl
      have h1 := ih r (by omega)
      rw [firstsF_snoc, List.length_append, List.length_singleton]
      split
      · omega
      · rw [List.length_append, List.length_singleton]; omega
  exact all _ l rfl
/-- the rows of what counts differ -/
def unlikeF (ns1 ns2 l : List Int) : List (Int × Int × Int) := (l.filter fun x => decide (ns1.count x ≠ ns2.count x)).map fun x => ((ns1.count x : Int), (ns2.count x : Int), x)
theorem unlikeF_take {a b l : List Int} {i : Nat} {x : Int} (h : l[i]? = some x) : unlikeF a b (l.take (i + 1)) = unlikeF a b (l.take i) ++ (if a.count x ≠ b.count x then [((a.count x : Int), (b.count x : Int), x)] else []) := by
  rw [take_snoc h]
  unfold unlikeF
  rw [List.filter_append, List.map_append]
  by_cases hc : a.count x ≠ b.count x
  · rw [if_pos hc, List.filter_cons_of_pos (by simpa using hc)]; rfl
  · rw [if_neg hc, List.filter_cons_of_neg (by simpa using hc)]; rfl
theorem unlikeF_len (a b l : List Int) : (unlikeF a b l).length ≤ l.length := by
  unfold unlikeF; rw [List.length_map]; exact List.length_filter_le _ _
def d3 (p : Int × Int × Int) : Dat := .tuple [.int p.1, .int p.2.1, .int p.2.2]
theorem news_has {h₀ : Heap} {L : Addr} {h : Heap} {l : List (Addr × Obj)} (_ : News h₀ L h l) {p : Addr × Obj} (hp : p ∈ l) : p ∈ l := hp
theorem off_two {x a b : Addr} {oa ob : Obj} {news own : List (Addr × Obj)} (h : a < x ∧ b < x ∧ AllLt x news) (ho : ∀ p ∈ own, p.1 ≠ x) : ∀ p ∈ (a, oa) :: (b, ob) :: (news ++ own), p.1 ≠ x := fun p hp => by
  rcases List.mem_cons.mp hp with rfl | hp; exact Nat.ne_of_lt h.1
  rcases List.mem_cons.mp hp with rfl | hp; exact Nat.ne_of_lt h.2.1
  rcases List.mem_append.mp hp with hp | hp
  · exact Nat.ne_of_lt (allLt_mem h.2.2 p hp)
  · exact ho p hp
set_option maxRecDepth 100000 in
set_option maxHeartbeats 8000000 in
theorem c_unlike {w : World} {mean : ExcName → Option Value} {mg mb : Str → Option Value} {dp un : Nat} {gd : Option (List Code)} {cn : Str} {cs : Scope} {a : Addr} {ccd : Value} {cl : List (Str × Addr)} {outer : List Env} {A₀ : Around} {base h₀ : Heap} {L : Addr} {m : Str → Option Value} {news : List (Addr × Obj)} {s : Shared} {Q E : Value → Shared → Prop}
  {l1 l2 : Addr} {vs1 vs2 : List Value} {ns1 ns2 : List Int} {n1 n2 : Nat}
  (Bl : Below A₀ base outer h₀) (F : Fr h₀ L s.heap m) (X : (hd.heap_1 w.params).In h₀) (N : News h₀ L s.heap news) (T : Top topProg LO mean mg mb h₀) (hk : cs.kind = .function)
  (hl1 : (l1, listOf vs1.toArray n1) ∈ news) (hl2 : (l2, listOf vs2.toArray n2) ∈ news) (hi1 : IntsAre vs1 ns1) (hi2 : IntsAre vs2 ns2) (hs1 : ns1.length ≤ 100) (hs2 : ns2.length ≤ 100)
  (hd : dp + 10 < recursionLimit) (hu : un + 100 < cLine)
  (hret : ∀ r us n es (h' : Heap) (tk' : Nat), Fr h₀ L h' m → News h₀ L h' (es ++ (r, listOf us.toArray n) :: news) → (∀ p ∈ news, p.1 < r ∧ ∀ e ∈ es, p.1 < e.1) → DatAll es us ((unlikeF ns1 ns2 (firstsF (ns1 ++ ns2))).map d3) → Q (.ref r) { s with heap := h', toks := tk' }) :
  wpAny (model PR w) (ktrTop dp un gd cn cs L a ccd cl outer) (call (.ref 178) [.ref l1, .ref l2]) Q E s := by
    refine wpAny_call ?_
    k_dflt (refine' code_defC ?k1 ?k2 ?k3 ?k4 ?k5 ?kA ?kF ?kK ?k6 ?k7 ?k8 ?k9 ?kB ?kD ?_ ?c2 ?c3 ?c4; (case kA => exact rfl); (case kF => exact rfl); (case kK => assumption); (case k1 => k_asm); (case k2 => k_asm); (case k3 => k_asm); (case k4 => k_asm); (case k5 => k_asm); (case k6 => k_is); (case k7 => k_is); (case k8 => ktr_room); (case k9 => exact BindsTo.of_eq rfl); (case kB => exact rfl); (case kD => decide +kernel); (case c2 => exact rfl); (case c3 => exact rfl); (case c4 => exact rfl); k_whole; intro g' L' h' tk' cells' FG' F' N' Y' Bg Xg Tg hlt; k_cells Y'; (simp only [List.cons_append, List.nil_append] at N'); (try dsimp only); (try k_fold))
    rename_i o1 o2 d1 d2
    replace d1 : _ = Data.cell (some (.ref l2)) := d1
    replace d2 : _ = Data.cell (some (.ref l1)) := d2
    iterate 8 (first | (k_unfold; (try dsimp only)) | (k_end; wrow_close) | walk1 | (dsimp only; walk1) | (leave1; walk_say "STEP leave1"; try dsimp only) | fail "no step")
    rename _ ∧ _ ∧ AllLt _ _ => hLF
    rename Fr _ _ _ _ => F1
    rename News _ _ _ _ => N1
    change Fr _ _ _ (fun y => if y = Str.ofString "firsts" then some (Value.ref _) else none) at F1
    with_unfolding_all refine' For_invVF F1 ?k1 ?k2 ?_
    case k1 => exact rfl
    case k2 => exact rfl
    iterate 3 (first | (k_unfold; (try dsimp only)) | (k_end; wrow_close) | walk1 | (dsimp only; walk1) | (leave1; walk_say "STEP leave1"; try dsimp only) | fail "no step")
    refine kmk_add_ints F1 N1 (News.isList N1 (.tail _ (.tail _ (.tail _ hl1)))) (News.isList N1 (.tail _ (.tail _ (.tail _ hl2)))) hi1 hi2 ?_ (by rw [sizeLine_eq]; omega)
    intro D6 ws6 h6 F6 N6 l6 i6
    clear F1 N1
    have hD6 := l6 _ (.head _)
    dsimp only at hD6
    refine iter_invNL (fun i m₁ nx => (∃ us n, nx = (D6, listOf ws6.toArray _) :: (_, listOf us.toArray n) :: (L' + 1 + 1, o1) :: (L' + 1, o2) :: news ∧ IntsAre us (firstsF ((ns1 ++ ns2).take i)) ∧ us.length ≤ i) ∧ ∀ z, z ≠ Str.ofString "item" → m₁ z = (fun y => if y = Str.ofString "firsts" then some (Value.ref _) else none) z) (by rfl) (.head _) i6 F6 N6 ⟨⟨[], 0, rfl, .nil, Nat.le_refl _⟩, fun _ _ => rfl⟩ ?_ ?_
    · rintro i n t m₁ nx h tk own hn - hoff hl ⟨⟨us, n', rfl, hi, hb⟩, hm⟩ F2 N2
      rw [map_none hm] at F2
      have hib : i < (ns1 ++ ns2).length := by
        rcases Nat.lt_or_ge i (ns1 ++ ns2).length with h | h
        · exact h
        · rw [List.getElem?_eq_none h] at hn; cases hn
      rw [List.length_append] at hib
      have hsz : us.length ≤ 200 := by omega
      rw [List.cons_append, List.cons_append, List.cons_append, List.cons_append] at N2
      have hne := off_two (oa := o1) (ob := o2) hLF (own := own) fun p hp => hoff p hp _ (.tail _ (.head _))
      clear F6 N6 hm
      with_reducible show wpAny _ _ _ _ _ _
      k_fold
      iterate 14 (first | (k_unfold; (try dsimp only)) | (k_end; wrow_close) | walk1 | (dsimp only; walk1) | (leave1; walk_say "STEP leave1"; try dsimp only) | fail "no step")
      · rename Fr _ _ _ _ => F3
        rename News _ _ _ _ => N3
        rename List.any _ _ = true => hany
        rw [take_snoc hn, firstsF_snoc, if_pos (by simpa using hany)]
        exact InvEndN.intro F3 N3 ⟨.head _, ⟨_, _, rfl, hi, by omega⟩, fun z hz => by simp [hz]⟩ rfl
          (fun p hp => by
            rcases List.mem_cons.mp hp with rfl | hp; exact .head _
            rcases List.mem_cons.mp hp with rfl | hp; exact .tail _ (.head _)
            rcases List.mem_cons.mp hp with rfl | hp; exact .tail _ (.tail _ (.head _))
            rcases List.mem_cons.mp hp with rfl | hp; exact .tail _ (.tail _ (.tail _ (.head _)))
            exact .tail _ (.tail _ (.tail _ (.tail _ (List.mem_append_left _ hp))))) (fun p hp => .tail _ (.tail _ (.tail _ (.tail _ (List.mem_append_right _ hp)))))
      · iterate 9 (first | (k_unfold; (try dsimp only)) | (k_end; wrow_close) | walk1 | (dsimp only; walk1) | (leave1; walk_say "STEP leave1"; try dsimp only) | fail "no step")
        rename List.any _ _ = false => hany
        refine append_K F2 N2 (.tail (Nat.ne_of_gt hD6) (.head hne)) ?_ (by rw [List.size_toArray, sizeLine_eq]; omega)
        intro h3 F3 N3
        iterate 5 (first | (k_unfold; (try dsimp only)) | (k_end; wrow_close) | walk1 | (dsimp only; walk1) | (leave1; walk_say "STEP leave1"; try dsimp only) | fail "no step")
        simp only [List.push_toArray] at N3
        rw [take_snoc hn, firstsF_snoc, if_neg (by intro hmem; simp only [List.any_eq_false, beq_iff_eq] at hany; exact hany n hmem rfl)]
        exact InvEndN.intro F3 N3 ⟨.head _, ⟨_, _, rfl, hi.append (.cons _ _ .nil), by simp only [List.length_append, List.length_cons, List.length_nil]; omega⟩, fun z hz => by simp [hz]⟩ rfl
          (fun p hp => by
            rcases List.mem_cons.mp hp with rfl | hp; exact .head _
            rcases List.mem_cons.mp hp with rfl | hp; exact .tail _ (.head _)
            rcases List.mem_cons.mp hp with rfl | hp; exact .tail _ (.tail _ (.head _))
            rcases List.mem_cons.mp hp with rfl | hp; exact .tail _ (.tail _ (.tail _ (.head _)))
            exact .tail _ (.tail _ (.tail _ (.tail _ (List.mem_append_left _ hp))))) (fun p hp => .tail _ (.tail _ (.tail _ (.tail _ (List.mem_append_right _ hp)))))
    · rintro m₁ nx h tk hl ⟨⟨us, n', rfl, hi, hb⟩, hm⟩ F2 N2
      rw [← done_none hm] at F2
      rw [List.take_length] at hi
      clear F6 N6
      dsimp only
      with_reducible show wpAny _ _ _ _ _ _
      iterate 2 (first | (k_unfold; (try dsimp only)) | (k_end; wrow_close) | walk1 | (dsimp only; walk1) | (leave1; walk_say "STEP leave1"; try dsimp only) | fail "no step")
      refine ListComp_G (h₀ := g') (L := L') (by with_unfolding_all rfl) (by decide) (by rfl) (by decide) ?_
      iterate 1 (first | (k_unfold; (try dsimp only)) | (k_end; wrow_close) | walk1 | (dsimp only; walk1) | (leave1; walk_say "STEP leave1"; try dsimp only) | fail "no step")
      refine start_listT (vs := us) (fun i ys nx => ∃ es, nx = es ++ ((D6, listOf ws6.toArray _) :: (_, listOf us.toArray n') :: (L' + 1 + 1, o1) :: (L' + 1, o2) :: news) ∧ DatAll es ys ((unlikeF ns1 ns2 ((firstsF (ns1 ++ ns2)).take i)).map d3) ∧ ∀ p ∈ news, ∀ e ∈ es, p.1 < e.1) (by rfl) (by rfl) (by rfl) F2 N2 (.tail _ (.head _)) ⟨[], rfl, .nil, fun _ _ _ h => nomatch h⟩ ?_ ?_ ?_ ?_
      · rintro i ys nx ⟨es, rfl, -⟩
        exact List.mem_append_right _ (.tail _ (.head _))
      · rintro i ys nx hi2 ⟨es, -, hD, -⟩
        rw [hD.length, List.length_map, sizeLine_eq]
        have h1 := unlikeF_len ns1 ns2 ((firstsF (ns1 ++ ns2)).take i)
        rw [List.length_take] at h1
        rw [List.length_append] at hb
        have := hi.length
        omega
      · rintro C D i v ys m₂ oC I nx h tk own E' hv ⟨es, rfl, hD, hes⟩ hm2 hoC ⟨oI, hoI⟩ hap F3 N3
        obtain ⟨x, t, rfl, hx⟩ := hi.at i v hv
        clear F2 N2
        dsimp only
        have M1 := news_has N3 (p := (l1, listOf vs1.toArray n1)) (List.mem_append_right _ (.tail _ (.tail _ (List.mem_append_right _ (.tail _ (.tail _ (.tail _ (.tail _ hl1))))))))
        have M2 := news_has N3 (p := (l2, listOf vs2.toArray n2)) (List.mem_append_right _ (.tail _ (.tail _ (List.mem_append_right _ (.tail _ (.tail _ (.tail _ (.tail _ hl2))))))))
        iterate 45 (first | (k_unfold; (try dsimp only)) | (k_end; wrow_close) | walk1 | (dsimp only; walk1) | (leave1; walk_say "STEP leave1"; try dsimp only) | fail "no step")
        · rename Fr _ _ _ _ => F4
          rename News _ _ _ _ => N4
          rename (List.count x ns1 : Int) ≠ _ => hc
          rename ∀ (p : Addr × Obj), p ∈ own ++ _ → p.1 < _ => hl4
          refine CEndY.one F4 N4 hl4 (fun b hb => by rw [List.mem_singleton.mp hb]; exact ⟨oI, hoI⟩) hoC trivial hap ⟨_ :: es, rfl, ?_, ?_⟩
          · rw [unlikeF_take hx, if_pos (fun e => hc (congrArg Int.ofNat e)), List.map_append]
            exact DatAll.append (DatAll.mono (fun p hp => .tail _ hp) hD) (.cons (.tuple (.head _) (.cons (.int _ _) (.cons (.int _ _) (.cons (.int _ _) .nil)))) .nil)
          · intro p hp e he
            rcases List.mem_cons.mp he with rfl | he
            · exact hl4 p (List.mem_append_right _ (.tail _ (.tail _ (List.mem_append_right _ (.tail _ (.tail _ (.tail _ (.tail _ hp))))))))
            · exact hes p hp e he
        · rename (List.count x ns1 : Int) = _ => hc
          refine CEnd.intro _ F3 N3 (fun p hp => hp) hoC trivial hap ⟨es, rfl, ?_, hes⟩
          rw [unlikeF_take hx, if_neg (fun e => e (Int.ofNat.inj hc)), List.append_nil]
          exact hD
      · rintro s₂ D ys nx ⟨hh2, rfl⟩ hD ⟨es, rfl, hDa, hes⟩ h tk F3 N3 hnx
        dsimp only
        iterate 1 (first | (k_unfold; (try dsimp only)) | (k_end; wrow_close) | walk1 | (dsimp only; walk1) | (leave1; walk_say "STEP leave1"; try dsimp only) | fail "no step")
        rename News h₀ _ _ _ => kN
        rename Fr h₀ _ _ m => kF
        rw [List.take_of_length_le (by rw [hi.length]; exact Nat.le_refl _)] at hDa
        exact hret D ys ys.length es h tk kF (news_sub kN (by
          intro p hp
          rcases List.mem_append.mp hp with hp | hp
          · exact .tail _ (List.mem_append_left _ hp)
          · rcases List.mem_cons.mp hp with rfl | hp
            · exact .head _
            · exact .tail _ (List.mem_append_right _ (.tail _ (.tail _ (.tail _ (.tail _ hp))))))) (fun p hp => ⟨hD _ _ (N2 p (.tail _ (.tail _ (.tail _ (.tail _ hp))))).1, hes p hp⟩) hDa
theorem tn_split : splitId "tuple.__new__" = some ("tuple", "__new__") := by decide +kernel
theorem tn_kind : builtinKind "tuple.__new__" = some .builtinFn := by decide +kernel
theorem meta_tuple : typeOf (.type "tuple") = pure (.type "type") := by first | rfl | kernel_rfl
set_option maxRecDepth 100000 in
set_option maxHeartbeats 8000000 in
theorem tup_new {w : World} {A : Around} {h₀ : Heap} {L T : Addr} {m : Str → Option Value} {news : List (Addr × Obj)} {s : Shared} {Q E : Value → Shared → Prop} {x y z : Value}
  (F : Fr h₀ L s.heap m) (X : (hd.heap_1 w.params).In h₀) (N : News h₀ L s.heap news)
  (hT : (T, ({ cls := .type "tuple", data := .seq #[x, y, z] } : Obj)) ∈ news)
  (hret : ∀ r dx h' tk', (∀ p ∈ news, p.1 < dx) → dx < r → Fr h₀ L h' m → News h₀ L h' ((r, ({ cls := .ref 142, dict := some dx, data := .seq #[x, y, z] } : Obj)) :: (dx, emptyDict) :: news) → Q (.ref r) { s with heap := h', toks := tk' }) :
  wpAny (model PR w) A (PySem.call (.builtin "tuple.__new__") [.ref 142, .ref T]) Q E s := by
    have Xs := X.keeps F.keep
    have hcls : clsIn (Mine.hd.heap_1 w.params) 142 = some { name := Str.ofString "Mismatch", bases := [.type "tuple"], mro := [.ref 142, .type "tuple", .type "object"], ns := 141, qualname := Str.ofString "Mismatch", hasDict := false } := by k_is
    have htyp : instIn (Mine.hd.heap_1 w.params) (.ref 142) (.type "type") = some true := by k_is
    have hinit : findIn (Mine.hd.heap_1 w.params) (.ref 142) "__init__" = some (some (.builtin "object.__init__")) := by k_is
    have hsub : subIn (Mine.hd.heap_1 w.params) (.ref 142) (.type "tuple") = some true := by k_is
    have typ := looks_instIn (M := model PR w) Xs htyp
    have ini := looks_findIn (M := model PR w) Xs hinit
    have sub := looks_subIn (M := model PR w) Xs hsub
    refine wpAny_call ?_
    refine codeAny_call_builtin_code (Code.quiet_builtin _ (by decide +kernel)) ?_
    have hm : Looks (model PR w) s.heap (mroOf (.ref 142)) [.ref 142, .type "tuple", .type "object"] := (looks_clsIn Xs hcls).andThen .now
    have hl : (Mine.hd.heap_1 w.params).lookup 142 = some ⟨.type "type", none, .cls { name := Str.ofString "Mismatch", bases := [.type "tuple"], mro := [.ref 142, .type "tuple", .type "object"], ns := 141, qualname := Str.ofString "Mismatch", hasDict := false }, ⟨[some (.ref 72), none, some (.str (Str.ofString "Mismatch") 264), some (.str (Str.ofString "Mismatch") 272), some .none, some (.bool false)]⟩⟩ := by k_is
    have hC := Xs _ _ hl
    have made : Looks (model PR w) s.heap (Bind.madeBy (.ref 142)) none := by
      intro A Q E s' k q
      unfold Bind.madeBy
      refine wpAny_bind (hm A _ E s' k ?_)
      rw [List.forIn_cons]
      refine wpAny_bind (wpAny_bind (wpAny_bind (wpAny_bind (wpAny_loadPart (k _ _ hC) (wpAny_pure ?_)))))
      dsimp only
      exact wpAny_pure (wpAny_pure (wpAny_pure q))
    have mt : Looks (model PR w) s.heap (Bind.madeBy (.type "tuple")) (some "tuple.__new__") := Looks.of_pure PySem.F.called_tuple.made
    have best : Builtin.Slots.bestBase [.type "tuple"] = pure (.type "tuple") := by first | rfl | kernel_rfl
    have base : Looks (model PR w) s.heap (Bind.staticBase (.ref 142)) (.type "tuple") := by
      intro A Q E s' k q
      unfold Bind.staticBase
      refine wpAny_bind (hm A _ E s' k ?_)
      rw [List.forIn_cons]
      refine wpAny_bind (wpAny_bind (wpAny_bind (made A _ E s' k ?_)))
      rw [if_neg (by decide)]
      dsimp only
      refine wpAny_bind (looks_clsIn Xs hcls A _ E s' k ?_)
      refine wpAny_bind (wpAny_of_eq best (wpAny_pure ?_))
      dsimp only
      rw [List.forIn_cons]
      refine wpAny_bind (wpAny_bind (wpAny_of_eq PySem.F.called_tuple.made ?_))
      rw [if_pos (by decide)]
      exact wpAny_pure (wpAny_pure (wpAny_pure q))
    have here : Looks (model PR w) s.heap (Bind.madeHere "tuple.__new__" (.ref 142)) () := by
      refine base.andThen (mt.andThen (Looks.of_pure ?_))
      simp only [Option.map_some, bne_self_eq_false, Bool.false_eq_true, if_false]
    simp only [checkBuiltinCall, tn_kind, tn_split]
    repeat (first | simp only [Bool.false_eq_true, if_false, Bool.not_true, bne_self_eq_false] | lk)
    have hT' : s.heap.get? T = some ({ cls := .type "tuple", data := .seq #[x, y, z] } : Obj) := (N _ hT).1
    have hsz : (#[x, y, z] : Array Value).size ≤ sizeLine := by rw [PySem.sizeLine_eq]; show 3 ≤ _; omega
    refine codeAny_builtin PySem.F.entry_tuple_new ?_
    unfold Builtin.«tuple.__new__»
    repeat (first | simp only [Bool.false_eq_true, if_false, Bool.not_true, bne_self_eq_false] | ((with_reducible show wpAny _ _ (PySem.collect _) _ _ _); refine wpAny_collect_seq (s := s) T (.inr rfl) hT' rfl rfl ?_ hsz) | lk)
    intro h1 k1
    refine wpAny_bind (wpAny_pure (wpAny_bind (wpAny_alloc (wpAny_bind ?_))))
    have hsz' : ¬ ((#[x, y, z] : Array Value).size > sizeLine) := Nat.not_lt.mpr hsz
    unfold newObj
    dsimp only
    rw [if_neg hsz']
    unfold newObjAsIs classHasDel
    have up : ∀ b o, s.heap.get? b = some o → ((h1.push emptyDict).push { cls := .ref 142, dict := some h1.objs.size, data := .seq #[x, y, z] }).get? b = some o := fun b o e => Heap.get?_push_of_some _ (Heap.get?_push_of_some _ (k1 b o e))
    refine wpAny_bind (wpAny_alloc (wpAny_bind (wpAny_bind (wpAny_load (up _ _ hC) (wpAny_pure ?_)))))
    refine wpAny_pure (wpAny_pure ?_)
    have F1 : Fr h₀ L h1 m := F.keeps k1
    have F2 : Fr h₀ L (h1.push emptyDict) m := F1.push _
    have N1 : News h₀ L h1 news := N.grown k1
    have N2 := (N1.push F1 emptyDict).push F2 { cls := .ref 142, dict := some h1.objs.size, data := .seq #[x, y, z] }
    rw [show (h1.push emptyDict).objs.size = h1.objs.size + 1 from Heap.size_push ..] at N2
    show Q (.ref (h1.push emptyDict).objs.size) _
    rw [show (h1.push emptyDict).objs.size = h1.objs.size + 1 from Heap.size_push ..]
    exact hret (h1.objs.size + 1) h1.objs.size _ _ (fun p hp => Heap.lt_size (N1 p hp).1) (Nat.lt_succ_self _) (F2.push _) N2
abbrev misO (dx : Addr) (a b c : Int) (ta tb tc : Tok) : Obj := { cls := .ref 142, dict := some dx, data := .seq #[.int a ta, .int b tb, .int c tc] }
set_option maxRecDepth 100000 in
set_option maxHeartbeats 8000000 in
theorem c_mis {w : World} {mean : ExcName → Option Value} {mg mb : Str → Option Value} {dp un : Nat} {gd : Option (List Code)} {cn : Str} {cs : Scope} {a : Addr} {ccd : Value} {cl : List (Str × Addr)} {outer : List Env} {A₀ : Around} {base h₀ : Heap} {L : Addr} {m : Str → Option Value} {news : List (Addr × Obj)} {s : Shared} {Q E : Value → Shared → Prop}
  {x y z : Int} {tx ty tz : Tok}
  (Bl : Below A₀ base outer h₀) (F : Fr h₀ L s.heap m) (X : (hd.heap_1 w.params).In h₀) (N : News h₀ L s.heap news) (T : Top topProg LO mean mg mb h₀) (hk : cs.kind = .function)
  (hd : dp + 10 < recursionLimit) (hu : un + 100 < cLine)
  (hret : ∀ r dx h' tk', (∀ p ∈ news, p.1 < dx) → dx < r → Fr h₀ L h' m → News h₀ L h' ((r, misO dx x y z tx ty tz) :: (dx, emptyDict) :: news) → Q (.ref r) { s with heap := h', toks := tk' }) :
  wpAny (model PR w) (ktrTop dp un gd cn cs L a ccd cl outer) (call (.ref 142) [.int x tx, .int y ty, .int z tz]) Q E s := by
    have Xs := X.keeps F.keep
    have hcls : clsIn (Mine.hd.heap_1 w.params) 142 = some { name := Str.ofString "Mismatch", bases := [.type "tuple"], mro := [.ref 142, .type "tuple", .type "object"], ns := 141, qualname := Str.ofString "Mismatch", hasDict := false } := by k_is
    have hcall : specialIn (Mine.hd.heap_1 w.params) (.ref 142) "__call__" = some (some (.builtin "type.__call__")) := by k_is
    have htyp : instIn (Mine.hd.heap_1 w.params) (.ref 142) (.type "type") = some true := by k_is
    have hinit : findIn (Mine.hd.heap_1 w.params) (.ref 142) "__init__" = some (some (.builtin "object.__init__")) := by k_is
    have call := looks_specialIn (M := model PR w) Xs hcall
    have typ := looks_instIn (M := model PR w) Xs htyp
    have hm : Looks (model PR w) s.heap (mroOf (.ref 142)) [.ref 142, .type "tuple", .type "object"] := (looks_clsIn Xs hcls).andThen .now
    have hl : (Mine.hd.heap_1 w.params).lookup 142 = some ⟨.type "type", none, .cls { name := Str.ofString "Mismatch", bases := [.type "tuple"], mro := [.ref 142, .type "tuple", .type "object"], ns := 141, qualname := Str.ofString "Mismatch", hasDict := false }, ⟨[some (.ref 72), none, some (.str (Str.ofString "Mismatch") 264), some (.str (Str.ofString "Mismatch") 272), some .none, some (.bool false)]⟩⟩ := by k_is
    have hC := Xs _ _ hl
    have madeG : ∀ {hh : Heap}, (Mine.hd.heap_1 w.params).In hh → Looks (model PR w) hh (Bind.madeBy (.ref 142)) none := by
      intro hh Xq A Q E s' k q
      unfold Bind.madeBy
      have hmq : Looks (model PR w) hh (mroOf (.ref 142)) [.ref 142, .type "tuple", .type "object"] := (looks_clsIn Xq hcls).andThen .now
      refine wpAny_bind (hmq A _ E s' k ?_)
      rw [List.forIn_cons]
      refine wpAny_bind (wpAny_bind (wpAny_bind (wpAny_bind (wpAny_loadPart (k _ _ (Xq _ _ hl)) (wpAny_pure ?_)))))
      dsimp only
      exact wpAny_pure (wpAny_pure (wpAny_pure q))
    have made := madeG Xs
    refine wpAny_call (codeAny_of_tree ?_)
    show wpAny _ _ (callAny (.ref 142) _) _ _ _
    refine nd_load hC ?_
    show wpAny _ _ (callAny.viaDunder (.ref 142) _) _ _ _
    unfold callAny.viaDunder
    refine wpAny_bind (call.at ?_)
    dsimp only
    rw [tc_bind]
    refine wpAny_bind (wpAny_pure (wpAny_bind (wpAny_pure ?_)))
    refine wpAny_pure (a := Fin.again (.call (.builtin "type.__call__") ⟨[.ref 142, .int x tx, .int y ty, .int z tz], []⟩)) (And.intro rfl ?_)
    refine codeAny_call_builtin_at (Code.quiet_builtin _ (by decide +kernel)) entry_typeCall (check_slot tc_kind tc_split typ (tc_args _ _ _) ?_)
    unfold Builtin.«type.__call__»
    have smr : readsIn (Mine.hd.heap_1 w.params) 142 (.type "type") = true := by k_is
    have smt : typeIn (Mine.hd.heap_1 w.params) (.ref 142) = some (.type "type") := by k_is
    have smf : findCls (Mine.hd.heap_1 w.params) (.ref 142) (.type "type") (Str.ofString "__new__") = some (.get (.builtin "staticmethod.__get__") (.ref 143) .none (.ref 142)) := by k_is
    have smp : recIn (Mine.hd.heap_1 w.params) 143 "staticmethod" = some [.ref 89] := by k_is
    repeat (first | simp only [Bool.false_eq_true, if_false, List.isEmpty_cons] | with_reducible refine cls_sm F X smt smr smf smp rfl ?_ | with_reducible refine wpAny_call ?_ | lk)
    generalize hR : (fun (r : Result) (s' : Shared) => _) = RR
    have eA : ∃ u, u ≤ 5 ∧ (ktrTop dp un gd cn cs L a ccd cl outer).under (Code.builtin "type.__call__" ⟨[.ref 142, .int x tx, .int y ty, .int z tz], []⟩) = ktrTop (dp + 1) (un + u) gd cn cs L a ccd cl outer := by
      first
        | exact ⟨1, by omega, rfl⟩
        | exact ⟨2, by omega, rfl⟩
        | exact ⟨3, by omega, rfl⟩
        | exact ⟨4, by omega, rfl⟩
        | exact ⟨0, by omega, rfl⟩
    obtain ⟨u, hu5, eA⟩ := eA
    rw [eA] at hR ⊢
    k_dflt ktr_enter
    iterate 8 (first | (k_unfold; (try dsimp only)) | (k_end; wrow_close) | walk1 | (dsimp only; walk1) | (leave1; walk_say "STEP leave1"; try dsimp only) | fail "no step")
    refine method_type (name := Str.ofString "__new__") (v := .builtin "tuple.__new__") (by k_asm) (by k_asm) meta_tuple (by decide +kernel) (by k_dflt k_is) rfl ?_
    iterate 14 (first | (k_unfold; (try dsimp only)) | (k_end; wrow_close) | walk1 | (dsimp only; walk1) | (leave1; walk_say "STEP leave1"; try dsimp only) | fail "no step")
    rename Fr _ _ _ _ => F3
    rename News _ _ _ _ => N3
    refine tup_new F3 (by k_asm) N3 (.head _) ?_
    intro r dx h4 tk4 hlt4 hdr F4 N4
    iterate 2 (first | (k_unfold; (try dsimp only)) | (k_end; wrow_close) | walk1 | (dsimp only; walk1) | (leave1; walk_say "STEP leave1"; try dsimp only) | fail "no step")
    rename Fr h₀ _ _ _ => kF
    rename News h₀ _ _ _ => kN
    rw [← hR]
    dsimp only
    have Xh := X.keeps kF.keep
    have hselfs : subIn (Mine.hd.heap_1 w.params) (.ref 142) (.ref 142) = some true := by k_is
    have hobj : subIn (Mine.hd.heap_1 w.params) (.ref 142) (.type "object") = some true := by k_is
    have ht : Looks (model PR w) h4 (typeOf (.ref r)) (.ref 142) := (Looks.ld (kN _ (.head _)).1).andThen .now
    have s1 := looks_subIn (M := model PR w) Xh hselfs
    have s2 := looks_subIn (M := model PR w) Xh hobj
    have i1 := looks_findIn (M := model PR w) Xh hinit
    have b1 := Looks.of_pure (M := model PR w) (h := h4) (oi_bind (.ref r))
    unfold isInstance callSpecial? specialOf
    repeat (first | with_reducible refine wpAny_call ?_ | lk)
    have t2 : Looks (model PR w) h4 (isInstance (.ref r) (.type "object")) true := ht.andThen s2
    refine codeAny_call_builtin oi_plain entry_oi (@check_slot (model PR w) _ _ _ "object.__init__" "object" "__init__" (.ref r) [.int x tx, .int y ty, .int z tz] [] _ oi_kind oi_split t2 (by unfold argsOk; kernel_rfl) ?_)
    have m4 := madeG Xh
    unfold Builtin.«object.__init__»
    repeat lk
    exact hret r dx h4 _ (fun p hp => hlt4 p (.tail _ hp)) hdr kF (news_sub kN (by
      intro p hp
      rcases List.mem_cons.mp hp with rfl | hp
      · exact .head _
      · rcases List.mem_cons.mp hp with rfl | hp
        · exact .tail _ (.head _)
        · exact .tail _ (.tail _ (.tail _ hp))))
def staleC : List Str := [Str.ofString "i", Str.ofString "elem", Str.ofString "cnt_s", Str.ofString "cnt_t", Str.ofString "j", Str.ofString "other_elem", Str.ofString "diff"]
abbrev baseC (RES NU LS LTt l1 l2 : Addr) (n1 n2 : Nat) (tm tn : Tok) : Str → Option Value := fun y => if y = Str.ofString "result" then some (Value.ref RES) else if y = Str.ofString "NULL" then some (Value.ref NU) else if y = Str.ofString "m" then some (Value.int n1 tm) else if y = Str.ofString "n" then some (Value.int n2 tn) else if y = Str.ofString "s" then some (Value.ref LS) else if y = Str.ofString "t" then some (Value.ref LTt) else List.lookup y [(Str.ofString "expected", Value.ref l2), (Str.ofString "actual", Value.ref l1)]
abbrev elemC (base m₁ : Str → Option Value) (cs ct ev iv : Value) : Str → Option Value := fun y => if y = Str.ofString "cnt_t" then some ct else if y = Str.ofString "cnt_s" then some cs else if y = Str.ofString "elem" then some ev else if y = Str.ofString "i" then some iv else if y = Str.ofString "cnt_s" then m₁ y else if y = Str.ofString "cnt_t" then m₁ y else if y = Str.ofString "j" then m₁ y else if y = Str.ofString "other_elem" then m₁ y else if y = Str.ofString "diff" then m₁ y else base y
theorem stale_map {m₁ base : Str → Option Value} {v w : Option Value} (hm : ∀ z, z ∉ staleC → m₁ z = base z) :
    (fun y => if y = Str.ofString "elem" then v else if y = Str.ofString "i" then w else m₁ y) = fun y => if y = Str.ofString "elem" then v else if y = Str.ofString "i" then w else if y = Str.ofString "cnt_s" then m₁ y else if y = Str.ofString "cnt_t" then m₁ y else if y = Str.ofString "j" then m₁ y else if y = Str.ofString "other_elem" then m₁ y else if y = Str.ofString "diff" then m₁ y else base y := by
  funext y
  by_cases h1 : y = Str.ofString "elem"; · simp only [if_pos h1]
  by_cases h2 : y = Str.ofString "i"; · simp only [if_neg h1, if_pos h2]
  by_cases h3 : y = Str.ofString "cnt_s"; · simp only [if_neg h1, if_neg h2, if_pos h3]
  by_cases h4 : y = Str.ofString "cnt_t"; · simp only [if_neg h1, if_neg h2, if_neg h3, if_pos h4]
  by_cases h5 : y = Str.ofString "j"; · simp only [if_neg h1, if_neg h2, if_neg h3, if_neg h4, if_pos h5]
  by_cases h6 : y = Str.ofString "other_elem"; · simp only [if_neg h1, if_neg h2, if_neg h3, if_neg h4, if_neg h5, if_pos h6]
  by_cases h7 : y = Str.ofString "diff"; · simp only [if_neg h1, if_neg h2, if_neg h3, if_neg h4, if_neg h5, if_neg h6, if_pos h7]
  simp only [if_neg h1, if_neg h2, if_neg h3, if_neg h4, if_neg h5, if_neg h6, if_neg h7]
  exact hm y (by unfold staleC; simp only [List.mem_cons, List.not_mem_nil, or_false, not_or]; exact ⟨h2, h1, h3, h4, h5, h6, h7⟩)
theorem map_abc {a b c : Str} {m₃ base : Str → Option Value} {v w : Option Value} {u : Value} (hc : m₃ c = some u) (hm : ∀ z, z ≠ a → z ≠ b → z ≠ c → m₃ z = base z) :
    (fun y => if y = a then v else if y = b then w else m₃ y) = fun y => if y = a then v else if y = b then w else if y = c then some u else base y := by
  funext y
  by_cases h1 : y = a; · simp only [if_pos h1]
  by_cases h2 : y = b; · simp only [if_neg h1, if_pos h2]
  by_cases h3 : y = c; · simp only [if_neg h1, if_neg h2, if_pos h3]; rw [h3]; exact hc
  simp only [if_neg h1, if_neg h2, if_neg h3]; exact hm y h1 h2 h3
theorem map_abc_out {a b c : Str} {m₃ base : Str → Option Value} {u : Value} (hc : m₃ c = some u) (hm : ∀ z, z ≠ a → z ≠ b → z ≠ c → m₃ z = base z) :
    m₃ = fun y => if y = c then some u else if y = a then m₃ y else if y = b then m₃ y else base y := by
  funext y
  by_cases h3 : y = c; · simp only [if_pos h3]; rw [h3]; exact hc
  by_cases h1 : y = a; · simp only [if_neg h3, if_pos h1]
  by_cases h2 : y = b; · simp only [if_neg h3, if_neg h1, if_pos h2]
  simp only [if_neg h3, if_neg h1, if_neg h2]; exact hm y h1 h2 h3
theorem off_mid {own nx : List (Addr × Obj)} {D I : Addr} {o o' : Obj} (h : ∀ q ∈ own ++ (D, o) :: nx, q.1 ≠ I) : ∀ q ∈ own ++ (D, o') :: nx, q.1 ≠ I := fun q hq => by
  rcases List.mem_append.mp hq with hq | hq
  · exact h q (List.mem_append_left _ hq)
  · rcases List.mem_cons.mp hq with rfl | hq
    · exact h (D, o) (List.mem_append_right _ (.head _))
    · exact h q (List.mem_append_right _ (.tail _ hq))
theorem not_stale {z : Str} (h : z ∉ staleC) : z ≠ Str.ofString "i" ∧ z ≠ Str.ofString "elem" ∧ z ≠ Str.ofString "cnt_s" ∧ z ≠ Str.ofString "cnt_t" ∧ z ≠ Str.ofString "j" ∧ z ≠ Str.ofString "other_elem" ∧ z ≠ Str.ofString "diff" := by
  unfold staleC at h; simpa only [List.mem_cons, List.not_mem_nil, or_false, not_or] using h
theorem stale_out {m₁ base : Str → Option Value} (hm : ∀ z, z ∉ staleC → m₁ z = base z) :
    m₁ = fun y => if y = Str.ofString "elem" then m₁ y else if y = Str.ofString "i" then m₁ y else if y = Str.ofString "cnt_s" then m₁ y else if y = Str.ofString "cnt_t" then m₁ y else if y = Str.ofString "j" then m₁ y else if y = Str.ofString "other_elem" then m₁ y else if y = Str.ofString "diff" then m₁ y else base y := by
  funext y
  by_cases h1 : y = Str.ofString "elem"; · simp only [if_pos h1]
  by_cases h2 : y = Str.ofString "i"; · simp only [if_neg h1, if_pos h2]
  by_cases h3 : y = Str.ofString "cnt_s"; · simp only [if_neg h1, if_neg h2, if_pos h3]
  by_cases h4 : y = Str.ofString "cnt_t"; · simp only [if_neg h1, if_neg h2, if_neg h3, if_pos h4]
  by_cases h5 : y = Str.ofString "j"; · simp only [if_neg h1, if_neg h2, if_neg h3, if_neg h4, if_pos h5]
  by_cases h6 : y = Str.ofString "other_elem"; · simp only [if_neg h1, if_neg h2, if_neg h3, if_neg h4, if_neg h5, if_pos h6]
  by_cases h7 : y = Str.ofString "diff"; · simp only [if_neg h1, if_neg h2, if_neg h3, if_neg h4, if_neg h5, if_neg h6, if_pos h7]
  simp only [if_neg h1, if_neg h2, if_neg h3, if_neg h4, if_neg h5, if_neg h6, if_neg h7]
  exact hm y (by unfold staleC; simp only [List.mem_cons, List.not_mem_nil, or_false, not_or]; exact ⟨h2, h1, h3, h4, h5, h6, h7⟩)
abbrev elemD (base m₁ : Str → Option Value) (ct ev iv : Value) : Str → Option Value := fun y => if y = Str.ofString "cnt_t" then some ct else if y = Str.ofString "elem" then some ev else if y = Str.ofString "i" then some iv else if y = Str.ofString "cnt_s" then m₁ y else if y = Str.ofString "cnt_t" then m₁ y else if y = Str.ofString "j" then m₁ y else if y = Str.ofString "other_elem" then m₁ y else if y = Str.ofString "diff" then m₁ y else base y
inductive RowsAre (es : List (Addr × Obj)) : List Value → List (Int × Int × Int) → Prop
  | nil : RowsAre es [] []
  | cons {r dx : Addr} {a b c : Int} {ta tb tc : Tok} {vs : List Value} {ps : List (Int × Int × Int)} : (r, misO dx a b c ta tb tc) ∈ es → RowsAre es vs ps → RowsAre es (.ref r :: vs) ((a, b, c) :: ps)
theorem RowsAre.sub {es es' : List (Addr × Obj)} (h : ∀ p ∈ es, p ∈ es') : ∀ {vs : List Value} {ps : List (Int × Int × Int)}, RowsAre es vs ps → RowsAre es' vs ps
  | _, _, .nil => .nil
  | _, _, .cons m r => .cons (h _ m) (sub h r)
theorem RowsAre.snoc {es : List (Addr × Obj)} {r dx : Addr} {a b c : Int} {ta tb tc : Tok} (m : (r, misO dx a b c ta tb tc) ∈ es) : ∀ {vs : List Value} {ps : List (Int × Int × Int)}, RowsAre es vs ps → RowsAre es (vs ++ [.ref r]) (ps ++ [(a, b, c)])
  | _, _, .nil => .cons m .nil
  | _, _, .cons m' q => .cons m' (snoc m q)
theorem RowsAre.len {es : List (Addr × Obj)} : ∀ {vs : List Value} {ps : List (Int × Int × Int)}, RowsAre es vs ps → vs.length = ps.length
  | _, _, .nil => rfl
  | _, _, .cons _ r => by simp [len r]
theorem mem_firstsF {l : List Int} {x : Int} : x ∈ firstsF l ↔ x ∈ l := by
  have all : ∀ k, ∀ l : List Int, l.length = k → (x ∈ firstsF l ↔ x ∈ l) := by
    intro k
    induction k with
    | zero => intro l hl; rw [List.length_eq_zero_iff.mp hl]; exact Iff.rfl
    | succ k ih =>
      intro l hl
      have hne : l ≠ [] := by intro e; rw [e] at hl; cases hl
      obtain ⟨r, y, rfl⟩ : ∃ r y, l = r ++ [y] := ⟨l.dropLast, l.getLast hne, (List.dropLast_concat_getLast hne).symm⟩
      rw [List.length_append, List.length_singleton] at hl
      have h1 := ih r (by omega)
      rw [firstsF_snoc]
      split
      · rename_i hy
        rw [h1, List.mem_append, List.mem_singleton]
        refine ⟨.inl, fun e => e.elim id fun e => ?_⟩
        subst e
        exact h1.mp hy
      · rw [List.mem_append, List.mem_append, h1]
  exact all _ l rfl
theorem unlikeF_old {a b l : List Int} {x : Int} (h : x ∈ l) : unlikeF a b (firstsF (l ++ [x])) = unlikeF a b (firstsF l) := by
  rw [firstsF_snoc, if_pos (mem_firstsF.mpr h)]
theorem unlikeF_new {a b l : List Int} {x : Int} (h : x ∉ l) (hc : a.count x ≠ b.count x) : unlikeF a b (firstsF (l ++ [x])) = unlikeF a b (firstsF l) ++ [((a.count x : Int), (b.count x : Int), x)] := by
  rw [firstsF_snoc, if_neg (fun e => h (mem_firstsF.mp e))]
  unfold unlikeF
  rw [List.filter_append, List.map_append, List.filter_cons_of_pos (by simpa using hc)]; rfl
theorem unlikeF_eq {a b l : List Int} {x : Int} (h : x ∉ l) (hc : a.count x = b.count x) : unlikeF a b (firstsF (l ++ [x])) = unlikeF a b (firstsF l) := by
  rw [firstsF_snoc, if_neg (fun e => h (mem_firstsF.mp e))]
  unfold unlikeF
  rw [List.filter_append, List.map_append, List.filter_cons_of_neg (by simpa using hc)]; simp
theorem off_res {P : Addr → Prop} {es news : List (Addr × Obj)} {a : Addr} {o1 o1' : Obj} (h : ∀ q ∈ es ++ (a, o1) :: news, P q.1) : ∀ q ∈ es ++ (a, o1') :: news, P q.1 := fun q hq => by
  rcases List.mem_append.mp hq with hq | hq
  · exact h q (List.mem_append_left _ hq)
  · rcases List.mem_cons.mp hq with rfl | hq
    · exact h (a, o1) (List.mem_append_right _ (.head _))
    · exact h q (List.mem_append_right _ (.tail _ hq))
theorem off_three {P : Addr → Prop} {es news : List (Addr × Obj)} {a b c : Addr} {o1 o2 o3 o1' o2' o3' : Obj} (h : ∀ q ∈ es ++ (a, o1) :: (b, o2) :: (c, o3) :: news, P q.1) : ∀ q ∈ es ++ (a, o1') :: (b, o2') :: (c, o3') :: news, P q.1 := fun q hq => by
  rcases List.mem_append.mp hq with hq | hq
  · exact h q (List.mem_append_left _ hq)
  · simp only [List.mem_cons] at hq
    rcases hq with rfl | rfl | rfl | hq
    · exact h (a, o1) (List.mem_append_right _ (.head _))
    · exact h (b, o2) (List.mem_append_right _ (.tail _ (.head _)))
    · exact h (c, o3) (List.mem_append_right _ (.tail _ (.tail _ (.head _))))
    · exact h q (List.mem_append_right _ (.tail _ (.tail _ (.tail _ hq))))
set_option maxRecDepth 100000 in
set_option maxHeartbeats 8000000 in
theorem c_count {w : World} {mean : ExcName → Option Value} {mg mb : Str → Option Value} {dp un : Nat} {gd : Option (List Code)} {cn : Str} {cs : Scope} {a : Addr} {ccd : Value} {cl : List (Str × Addr)} {outer : List Env} {A₀ : Around} {base h₀ : Heap} {L : Addr} {m : Str → Option Value} {news : List (Addr × Obj)} {s : Shared} {Q E : Value → Shared → Prop}
  {l1 l2 : Addr} {vs1 vs2 : List Value} {ns1 ns2 : List Int} {n1 n2 : Nat}
  (Bl : Below A₀ base outer h₀) (F : Fr h₀ L s.heap m) (X : (hd.heap_1 w.params).In h₀) (N : News h₀ L s.heap news) (T : Top topProg LO mean mg mb h₀) (hk : cs.kind = .function)
  (hl1 : (l1, listOf vs1.toArray n1) ∈ news) (hl2 : (l2, listOf vs2.toArray n2) ∈ news) (hi1 : IntsAre vs1 ns1) (hi2 : IntsAre vs2 ns2) (hs1 : ns1.length ≤ 100) (hs2 : ns2.length ≤ 100)
  (hd : dp + 60 < recursionLimit) (hu : un + 300 < cLine)
  (hret : ∀ r us c es (h' : Heap) (tk' : Nat), Fr h₀ L h' m → News h₀ L h' (es ++ (r, listOf us.toArray c) :: news) → (∀ p ∈ news, p.1 < r ∧ ∀ e ∈ es, p.1 < e.1) → RowsAre es us (unlikeF ns1 ns2 (firstsF (ns1 ++ ns2))) → Q (.ref r) { s with heap := h', toks := tk' }) :
  wpAny (model PR w) (ktrTop dp un gd cn cs L a ccd cl outer) (call (.ref 152) [.ref l1, .ref l2]) Q E s := by
    refine wpAny_call ?_
    k_dflt ktr_enter
    iterate 22 (first | (k_unfold; (try dsimp only)) | (k_end; wrow_close) | walk1 | (dsimp only; walk1) | (leave1; walk_say "STEP leave1"; try dsimp only) | fail "no step")
    rename News _ _ _ _ => N1
    have hl2' := news_has N1 (List.Mem.tail _ hl2)
    clear hl2
    iterate 47 (first | (k_unfold; (try dsimp only)) | (k_end; wrow_close) | walk1 | (dsimp only; walk1) | (leave1; walk_say "STEP leave1"; try dsimp only) | fail "no step")
    rename Fr _ _ _ _ => F2
    rename News _ _ _ _ => N2
    refine object_K F2 N2 ?_
    intro NU h3 hNU hLNU F3 N3
    clear F2 N2
    iterate 6 (first | (k_unfold; (try dsimp only)) | (k_end; wrow_close) | walk1 | (dsimp only; walk1) | (leave1; walk_say "STEP leave1"; try dsimp only) | fail "no step")
    rename_i g' L' _ _ _ _ _ _ LS cS _ hLS LTt cT _ hLT T1 _ hT1 _ _ _ _ T2 _ hT2 _ _ _ _ RES _ F4 N4 hRES
    iterate 3 (first | (k_unfold; (try dsimp only)) | (k_end; wrow_close) | walk1 | (dsimp only; walk1) | (leave1; walk_say "STEP leave1"; try dsimp only) | fail "no step")
    rename Fr _ _ _ _ => F5
    rename News _ _ _ _ => N5
    replace F5 : ∃ tm tn, Fr g' L' _ (baseC RES NU LS LTt l1 l2 ns1.length ns2.length tm tn) := ⟨_, _, F5⟩
    obtain ⟨tm, tn, F5⟩ := F5
    have N6 := news_sub N5 (l' := (LS, listOf vs1.toArray cS) :: ((RES, listOf #[] 0) :: (NU, objO) :: (LTt, listOf vs2.toArray cT) :: news)) (by
      (repeat' (first | exact sub_nil | exact sub_self | refine sub_cons ?_ ?_ | refine sub_app ?_ ?_ | exact List.Mem.head _ | refine List.Mem.tail _ ?_ | refine sub_tail ?_ | (refine sub_left ?_; (repeat (first | exact sub_self | refine sub_tail ?_)); done) | (refine sub_left ?_; refine sub_left ?_; exact sub_self) | (refine sub_left ?_; refine sub_right ?_; (repeat (first | exact sub_self | refine sub_tail ?_)); done) | (refine List.mem_append_left _ ?_; (repeat (first | exact List.Mem.head _ | refine List.Mem.tail _ ?_)); done) | (refine List.mem_append_left _ ?_; refine List.mem_append_right _ ?_; (repeat (first | exact List.Mem.head _ | refine List.Mem.tail _ ?_)); done) | refine sub_right ?_ | refine List.mem_append_right _ ?_)))
    clear N5
    have oLT : @LT.lt Nat _ LS LTt := hLT.1
    have oNU : @LT.lt Nat _ LTt NU := hNU (LTt, _) (.tail _ (.tail _ (.head _)))
    have oRES : @LT.lt Nat _ NU RES := hRES.1
    have onews : ∀ q ∈ news, @LT.lt Nat _ q.1 LS := hLS
    refine For_enumM (h₀ := g') ?_
    iterate 6 (first | (k_unfold; (try dsimp only)) | (k_end; wrow_close) | walk1 | (dsimp only; walk1) | (leave1; walk_say "STEP leave1"; try dsimp only) | fail "no step")
    refine enum_loop (n := ns1.length) (fun i vs m₁ nx => (∃ rs cR es vsT cT, nx = es ++ (RES, listOf rs.toArray cR) :: (NU, objO) :: (LTt, listOf vsT.toArray cT) :: news ∧ SlotsAre NU vs (maskF ns1 (ns1.take i)) ∧ SlotsAre NU vsT (maskF ns2 (ns1.take i)) ∧ rs.length ≤ i ∧ (∀ e ∈ es, RES < e.1) ∧ RowsAre es rs (unlikeF ns1 ns2 (firstsF (ns1.take i)))) ∧ ∀ z, z ∉ staleC → m₁ z = baseC RES NU LS LTt l1 l2 ns1.length ns2.length tm tn z) (by rfl) (by rfl) (by rfl) (by rfl) F5 N6 (by rw [hi1.length]) ⟨⟨[], 0, [], vs2, cT, rfl, by rw [List.take_zero, maskF_nil]; exact .ofInts hi1, by rw [List.take_zero, maskF_nil]; exact .ofInts hi2, Nat.le_refl _, (fun _ h => nomatch h), .nil⟩, fun _ _ => rfl⟩ ?_ ?_
    · rintro e li i v tk vs k m₁ nx h tk' own E' hi hv ⟨⟨rs, cR, es, vsT, cT', rfl, hS, hT, hrs, hes, hRw⟩, hm⟩ ⟨oe, hoe⟩ ⟨oli, holi⟩ hown hoff hle hll hnlt hllt F7 N7
      clear F5 N6
      rw [stale_map hm] at F7
      k_fold
      obtain ⟨x, hx⟩ : ∃ x, ns1[i]? = some x := ⟨ns1[i], List.getElem?_eq_getElem hi⟩
      have hsl := hS.get hv (maskF_get hx)
      by_cases hin : x ∈ ns1.take i
      · rw [if_pos hin] at hsl
        cases hsl
        iterate 10 (first | (k_unfold; (try dsimp only)) | (k_end; wrow_close) | walk1 | (dsimp only; walk1) | (leave1; walk_say "STEP leave1"; try dsimp only) | fail "no step")
        have e1 : ns1.take (i + 1) = ns1.take i ++ [x] := take_snoc hx
        refine GoOn.intro (es ++ (RES, listOf rs.toArray cR) :: (NU, objO) :: (LTt, listOf vsT.toArray cT') :: news) F7 N7 (fun p hp => hp) (by rw [hS.length, maskF_len]) hoff ⟨⟨rs, cR, es, vsT, cT', rfl, ?_, ?_, by omega, hes, by rw [e1, unlikeF_old hin]; exact hRw⟩, fun z hz => ?_⟩ (.inr rfl)
        · rw [e1, maskF_same hin]; exact hS
        · rw [e1, maskF_same hin]; exact hT
        · obtain ⟨a1, a2, a3, a4, a5, a6, a7⟩ := not_stale hz
          repeat (refine (if_neg (by with_reducible assumption)).trans ?_)
          rfl
      · rw [if_neg hin] at hsl
        cases hsl
        iterate 5 (first | (k_unfold; (try dsimp only)) | (k_end; wrow_close) | walk1 | (dsimp only; walk1) | (leave1; walk_say "STEP leave1"; try dsimp only) | fail "no step")
        refine wpAny_is_other rfl (by intro e; cases e) ?_
        iterate 11 (first | (k_unfold; (try dsimp only)) | (k_end; wrow_close) | walk1 | (dsimp only; walk1) | (leave1; walk_say "STEP leave1"; try dsimp only) | fail "no step")
        rename Fr _ _ _ _ => F8
        rename News _ _ _ _ => N8
        clear F7 N7
        have hnLS : ∀ q ∈ own, q.1 ≠ LS := fun q hq e => (hown q hq).elim (fun h => hle (e ▸ h)) fun h => hll (e ▸ h)
        have hoLS : ∀ q ∈ es ++ (RES, listOf rs.toArray cR) :: (NU, objO) :: (LTt, listOf vsT.toArray cT') :: news, q.1 ≠ LS := by
          intro q hq
          show ¬ @Eq Nat q.1 LS
          rcases List.mem_append.mp hq with hq | hq
          · have : @LT.lt Nat _ RES q.1 := hes q hq
            omega
          · simp only [List.mem_cons] at hq
            rcases hq with rfl | rfl | rfl | hq
            · show ¬ @Eq Nat RES LS; omega
            · show ¬ @Eq Nat NU LS; omega
            · show ¬ @Eq Nat LTt LS; omega
            · have := onews q hq; omega
        have hxn : ∀ y ∈ ns1.take i, y ∈ ns1.take i := fun _ h => h
        refine For_rangeM ?_
        iterate 9 (first | (k_unfold; (try dsimp only)) | (k_end; wrow_close) | walk1 | (dsimp only; walk1) | (leave1; walk_say "STEP leave1"; try dsimp only) | fail "no step")
        rename IsRange _ _ _ _ _ _ _ _ => hr
        rename Fr _ _ _ _ => F9
        rename News _ _ _ _ => N9
        replace F9 : ∃ t0 t1 tx, Fr g' L' _ (elemC (baseC RES NU LS LTt l1 l2 ns1.length ns2.length tm tn) m₁ (.int 0 t0) (.int 0 t1) (.int x tx) (.int i tk)) := ⟨_, _, _, F9⟩
        obtain ⟨t0, t1, tx, F9⟩ := F9
        have hc0 : (ns1.take i).count x = 0 := List.count_eq_zero.mpr hin
        refine range_loop (n := ns1.length - i) (fun k m₂ nx => (∃ vs' kk, nx = own ++ (LS, listOf vs'.toArray kk) :: (es ++ (RES, listOf rs.toArray cR) :: (NU, objO) :: (LTt, listOf vsT.toArray cT') :: news) ∧ SlotsAre NU vs' (midF ns1 (ns1.take i) x (i + k))) ∧ (∃ tc, m₂ (Str.ofString "cnt_s") = some (.int ((ns1.take (i + k)).count x) tc)) ∧ ∀ z, z ≠ Str.ofString "j" → z ≠ Str.ofString "cnt_s" → m₂ z = elemC (baseC RES NU LS LTt l1 l2 ns1.length ns2.length tm tn) m₁ (.int 0 t0) (.int 0 t1) (.int x tx) (.int i tk) z) (by rfl) (by rfl) (by rfl) F9 N9 hr (small_one (by omega) (by omega) (by omega) (by omega)) (by rw [rangeSize_nat]; omega) ⟨⟨vs, k, rfl, by rw [Nat.add_zero, midF_start hxn]; exact hS⟩, ⟨_, by simp only [Nat.add_zero, hc0]; rfl⟩, fun _ _ _ => rfl⟩ ?_ ?_
        · rintro I oI j tj m₂ nx h2 tk2 E2 hj ⟨⟨vs', kk, rfl, hS'⟩, ⟨tc, hc⟩, hm2⟩ hoffI hltI F10 N10
          rw [map_two hc hm2] at F10
          k_fold
          clear F9 N9 hr
          iterate 6 (first | (k_unfold; (try dsimp only)) | (k_end; wrow_close) | walk1 | (dsimp only; walk1) | (leave1; walk_say "STEP leave1"; try dsimp only) | fail "no step")
          have hij : i + j < ns1.length := by omega
          obtain ⟨y, hy⟩ : ∃ y, ns1[i + j]? = some y := ⟨ns1[i + j], List.getElem?_eq_getElem hij⟩
          have hvl' : vs'.length = ns1.length := by rw [hS'.length, midF_len]
          obtain ⟨v', hv'⟩ : ∃ v', vs'[i + j]? = some v' := ⟨vs'[i + j], List.getElem?_eq_getElem (by omega)⟩
          have hsl' := hS'.get hv' (midF_get hy)
          have eij : ((i : Int) + (j : Int)).toNat = i + j := by omega
          have hmLS : (LS, listOf vs'.toArray kk) ∈ [(I, oI)] ++ (own ++ (LS, listOf vs'.toArray kk) :: (es ++ (RES, listOf rs.toArray cR) :: (NU, objO) :: (LTt, listOf vsT.toArray cT') :: news)) := List.mem_append_right [(I, oI)] (List.mem_append_right own (.head _))
          have hmNU : (NU, objO) ∈ [(I, oI)] ++ (own ++ (LS, listOf vs'.toArray kk) :: (es ++ (RES, listOf rs.toArray cR) :: (NU, objO) :: (LTt, listOf vsT.toArray cT') :: news)) := List.mem_append_right [(I, oI)] (List.mem_append_right own (.tail _ (List.mem_append_right es (.tail _ (.head _)))))
          refine item_litK (News.isList N10 hmLS) (by omega) (by omega) (by rw [eij]; exact hv') ?_
          by_cases hyin : y ∈ ns1.take i
          · rw [if_pos hyin] at hsl'
            cases hsl'
            iterate 1 (first | (k_unfold; (try dsimp only)) | (k_end; wrow_close) | walk1 | (dsimp only; walk1) | (leave1; walk_say "STEP leave1"; try dsimp only) | fail "no step")
            refine eq_obj_int (N10 _ hmNU).1 (by ktr_units) ?_
            iterate 4 (first | (k_unfold; (try dsimp only)) | (k_end; wrow_close) | walk1 | (dsimp only; walk1) | (leave1; walk_say "STEP leave1"; try dsimp only) | fail "no step")
            refine GoR.intro _ F10 N10 (fun p hp => hp) hoffI ⟨⟨vs', kk, rfl, ?_⟩, ⟨tc, ?_⟩, fun z h1 h2 => ?_⟩ (.inl rfl)
            · rw [← Nat.add_assoc, ← midF_keep hy (.inr hyin)]; exact hS'
            · rw [← Nat.add_assoc, count_take hy, if_neg (fun (e : y = x) => hin (e ▸ hyin))]; rfl
            · first | exact (if_neg h1).trans (if_neg h2) | exact (if_neg h2).trans ((if_neg h1).trans (if_neg h2)) | simp only [if_neg h1, if_neg h2]
          · rw [if_neg hyin] at hsl'
            cases hsl'
            iterate 14 (first | (k_unfold; (try dsimp only)) | (k_end; wrow_close) | walk1 | (dsimp only; walk1) | (leave1; walk_say "STEP leave1"; try dsimp only) | fail "no step")
            · rename y ≠ x => hyx
              refine GoR.intro _ F10 N10 (fun p hp => hp) hoffI ⟨⟨vs', kk, rfl, ?_⟩, ⟨tc, ?_⟩, fun z h1 h2 => ?_⟩ (.inl rfl)
              · rw [← Nat.add_assoc, ← midF_keep hy (.inl hyx)]; exact hS'
              · rw [← Nat.add_assoc, count_take hy, if_neg hyx]; rfl
              · first | exact (if_neg h1).trans (if_neg h2) | exact (if_neg h2).trans ((if_neg h1).trans (if_neg h2)) | simp only [if_neg h1, if_neg h2]
            · rename y = x => hyx
              subst hyx
              iterate 3 (first | (k_unfold; (try dsimp only)) | (k_end; wrow_close) | walk1 | (dsimp only; walk1) | (leave1; walk_say "STEP leave1"; try dsimp only) | fail "no step")
              rename Fr _ _ _ _ => F11
              rename News _ _ _ _ => N11
              refine set_any F11 N11 (.tail (Nat.ne_of_gt (hltI (LS, listOf vs.toArray k) (List.mem_append_right _ (.head _)))) (upd_at hoLS hnLS)) (by omega) (by omega) (by omega) ?_
              intro h12 F12 N12
              iterate 2 (first | (k_unfold; (try dsimp only)) | (k_end; wrow_close) | walk1 | (dsimp only; walk1) | (leave1; walk_say "STEP leave1"; try dsimp only) | fail "no step")
              rw [eij] at N12
              refine GoR.intro _ F12 N12 (fun p hp => hp) ?_ ⟨⟨vs'.set (i + j) (.ref NU), kk, rfl, ?_⟩, ⟨_, by rw [← Nat.add_assoc, count_take hy, if_pos rfl]; rfl⟩, fun z h1 h2 => ?_⟩ (.inl rfl)
              · exact off_mid (o := listOf vs'.toArray kk) hoffI
              · rw [← Nat.add_assoc, ← midF_set hy]; exact hS'.set _
              · first | exact (if_neg h1).trans (if_neg h2) | exact (if_neg h2).trans ((if_neg h1).trans (if_neg h2)) | simp only [if_neg h1, if_neg h2]
        · rintro m₂ nx h2 tk2 ⟨⟨vs', kk, rfl, hS'⟩, ⟨tc, hc⟩, hm2⟩ F10 N10
          rw [show i + (ns1.length - i) = ns1.length by omega] at hS' hc
          rw [List.take_length] at hc
          rw [show m₂ = _ from (map_out hc hm2).symm] at F10
          clear F9 N9 hr
          iterate 1 (first | (k_unfold; (try dsimp only)) | (k_end; wrow_close) | walk1 | (dsimp only; walk1) | (leave1; walk_say "STEP leave1"; try dsimp only) | fail "no step")
          refine For_enumM (h₀ := g') ?_
          iterate 6 (first | (k_unfold; (try dsimp only)) | (k_end; wrow_close) | walk1 | (dsimp only; walk1) | (leave1; walk_say "STEP leave1"; try dsimp only) | fail "no step")
          have N13 := news_sub N10 (l' := (LTt, listOf vsT.toArray cT') :: (own ++ (LS, listOf vs'.toArray kk) :: (es ++ (RES, listOf rs.toArray cR) :: (NU, objO) :: news))) (by
            (repeat' (first | exact sub_nil | exact sub_self | refine sub_cons ?_ ?_ | refine sub_app ?_ ?_ | exact List.Mem.head _ | refine List.Mem.tail _ ?_ | refine sub_tail ?_ | (refine sub_left ?_; (repeat (first | exact sub_self | refine sub_tail ?_)); done) | (refine sub_left ?_; refine sub_left ?_; exact sub_self) | (refine sub_left ?_; refine sub_right ?_; (repeat (first | exact sub_self | refine sub_tail ?_)); done) | (refine List.mem_append_left _ ?_; (repeat (first | exact List.Mem.head _ | refine List.Mem.tail _ ?_)); done) | (refine List.mem_append_left _ ?_; refine List.mem_append_right _ ?_; (repeat (first | exact List.Mem.head _ | refine List.Mem.tail _ ?_)); done) | refine sub_right ?_ | refine List.mem_append_right _ ?_)))
          refine enum_loop (n := ns2.length) (fun j us m₃ nx => nx = own ++ (LS, listOf vs'.toArray kk) :: (es ++ (RES, listOf rs.toArray cR) :: (NU, objO) :: news) ∧ SlotsAre NU us (midF ns2 (ns1.take i) x j) ∧ (∃ tc2, m₃ (Str.ofString "cnt_t") = some (.int ((ns2.take j).count x) tc2)) ∧ ∀ z, z ≠ Str.ofString "other_elem" → z ≠ Str.ofString "j" → z ≠ Str.ofString "cnt_t" → m₃ z = elemC (baseC RES NU LS LTt l1 l2 ns1.length ns2.length tm tn) m₁ (.int (ns1.count x) tc) (.int 0 t1) (.int x tx) (.int i tk) z) (by rfl) (by rfl) (by rfl) (by rfl) F10 N13 (by rw [hT.length, maskF_len]) ⟨rfl, by rw [midF_zero]; exact hT, ⟨_, rfl⟩, fun z h1 h2 h3 => ?_⟩ ?_ ?_
          · show (if z = Str.ofString "j" then m₂ z else _) = _
            rw [if_neg h2]
            by_cases hz : z = Str.ofString "cnt_s"
            · simp only [elemC, if_neg h3, if_pos hz]
            · simp only [elemC, if_neg h3, if_neg hz]
          · rintro e2 li2 j v2 tj us kk2 m₃ nx h3 tk3 own2 E2 hj hv2 ⟨rfl, hU, ⟨tc2, hc2⟩, hm3⟩ ⟨oe2, hoe2⟩ ⟨oli2, holi2⟩ hown2 hoff2 hle2 hll2 hnlt2 hllt2 F14 N14
            rw [map_abc hc2 hm3] at F14
            k_fold
            clear F10 N10 N13
            iterate 5 (first | (k_unfold; (try dsimp only)) | (k_end; wrow_close) | walk1 | (dsimp only; walk1) | (leave1; walk_say "STEP leave1"; try dsimp only) | fail "no step")
            obtain ⟨y, hy⟩ : ∃ y, ns2[j]? = some y := ⟨ns2[j], List.getElem?_eq_getElem hj⟩
            have hvl' : us.length = ns2.length := by rw [hU.length, midF_len]
            have hsl' := hU.get hv2 (midF_get hy)
            have hoLT : ∀ q ∈ own ++ (LS, listOf vs'.toArray kk) :: (es ++ (RES, listOf rs.toArray cR) :: (NU, objO) :: news), q.1 ≠ LTt := by
              intro q hq
              show ¬ @Eq Nat q.1 LTt
              rcases List.mem_append.mp hq with hq | hq
              · have h9 := hnlt (LTt, listOf vs2.toArray cT) (.tail _ (.tail _ (.head _)))
                have h91 : @LT.lt Nat _ LTt e := h9.1
                have h92 : @LT.lt Nat _ LTt li := h9.2
                rcases hown q hq with e' | e'
                · have e'' : @Eq Nat q.1 e := e'
                  omega
                · have e'' : @Eq Nat q.1 li := e'
                  omega
              · simp only [List.mem_cons, List.mem_append] at hq
                rcases hq with rfl | hq | rfl | rfl | hq
                · show ¬ @Eq Nat LS LTt; omega
                · have : @LT.lt Nat _ RES q.1 := hes q hq
                  omega
                · show ¬ @Eq Nat RES LTt; omega
                · show ¬ @Eq Nat NU LTt; omega
                · have := onews q hq; omega
            have hnLT : ∀ q ∈ own2, q.1 ≠ LTt := fun q hq e' => (hown2 q hq).elim (fun h => hle2 (e' ▸ h)) fun h => hll2 (e' ▸ h)
            have hmNU : (NU, objO) ∈ own2 ++ (LTt, listOf us.toArray kk2) :: (own ++ (LS, listOf vs'.toArray kk) :: (es ++ (RES, listOf rs.toArray cR) :: (NU, objO) :: news)) := List.mem_append_right own2 (.tail _ (List.mem_append_right own (.tail _ (List.mem_append_right es (.tail _ (.head _))))))
            by_cases hyin : y ∈ ns1.take i
            · rw [if_pos hyin] at hsl'
              cases hsl'
              refine eq_obj_int (N14 _ hmNU).1 (by ktr_units) ?_
              iterate 4 (first | (k_unfold; (try dsimp only)) | (k_end; wrow_close) | walk1 | (dsimp only; walk1) | (leave1; walk_say "STEP leave1"; try dsimp only) | fail "no step")
              refine GoOn.intro _ F14 N14 (fun p hp => hp) hvl' hoff2 ⟨rfl, ?_, ⟨tc2, ?_⟩, fun z h1 h2 h3 => ?_⟩ (.inl rfl)
              · rw [← midF_keep hy (.inr hyin)]; exact hU
              · rw [count_take hy, if_neg (fun (e' : y = x) => hin (e' ▸ hyin))]; rfl
              · first | exact (if_neg h1).trans ((if_neg h2).trans (if_neg h3)) | exact (if_neg h3).trans ((if_neg h1).trans ((if_neg h2).trans (if_neg h3))) | simp only [if_neg h1, if_neg h2, if_neg h3]
            · rw [if_neg hyin] at hsl'
              cases hsl'
              iterate 13 (first | (k_unfold; (try dsimp only)) | (k_end; wrow_close) | walk1 | (dsimp only; walk1) | (leave1; walk_say "STEP leave1"; try dsimp only) | fail "no step")
              · rename y ≠ x => hyx
                refine GoOn.intro _ F14 N14 (fun p hp => hp) hvl' hoff2 ⟨rfl, ?_, ⟨tc2, ?_⟩, fun z h1 h2 h3 => ?_⟩ (.inl rfl)
                · rw [← midF_keep hy (.inl hyx)]; exact hU
                · rw [count_take hy, if_neg hyx]; rfl
                · first | exact (if_neg h1).trans ((if_neg h2).trans (if_neg h3)) | exact (if_neg h3).trans ((if_neg h1).trans ((if_neg h2).trans (if_neg h3))) | simp only [if_neg h1, if_neg h2, if_neg h3]
              · rename y = x => hyx
                subst hyx
                iterate 3 (first | (k_unfold; (try dsimp only)) | (k_end; wrow_close) | walk1 | (dsimp only; walk1) | (leave1; walk_say "STEP leave1"; try dsimp only) | fail "no step")
                rename Fr _ _ _ _ => F15
                rename News _ _ _ _ => N15
                refine set_any F15 N15 (upd_at hoLT hnLT) (by omega) (by omega) (by omega) ?_
                intro h16 F16 N16
                iterate 2 (first | (k_unfold; (try dsimp only)) | (k_end; wrow_close) | walk1 | (dsimp only; walk1) | (leave1; walk_say "STEP leave1"; try dsimp only) | fail "no step")
                rw [Int.toNat_natCast] at N16
                refine GoOn.intro _ F16 N16 (fun p hp => hp) (by rw [List.length_set]; exact hvl') hoff2 ⟨rfl, ?_, ⟨_, by rw [count_take hy, if_pos rfl]; rfl⟩, fun z h1 h2 h3 => ?_⟩ (.inl rfl)
                · rw [← midF_set hy]; exact hU.set _
                · first | exact (if_neg h1).trans ((if_neg h2).trans (if_neg h3)) | exact (if_neg h3).trans ((if_neg h1).trans ((if_neg h2).trans (if_neg h3))) | simp only [if_neg h1, if_neg h2, if_neg h3]
          · rintro us kk2 m₃ nx h3 tk3 ⟨rfl, hU, ⟨tc2, hc2⟩, hm3⟩ F14 N14
            rw [map_abc_out hc2 hm3] at F14
            clear F10 N10 N13
            rw [List.take_length] at F14
            iterate 8 (first | (k_unfold; (try dsimp only)) | (k_end; wrow_close) | walk1 | (dsimp only; walk1) | (leave1; walk_say "STEP leave1"; try dsimp only) | fail "no step")
            · iterate 13 (first | (k_unfold; (try dsimp only)) | (k_end; wrow_close) | walk1 | (dsimp only; walk1) | (leave1; walk_say "STEP leave1"; try dsimp only) | fail "no step")
              refine c_mis (by k_asm) F14 (by k_asm) N14 (by k_asm) (by exact rfl) (by ktr_room) (by ktr_units) ?_
              intro r dx h5 tk5 hdx hdr F15 N15
              iterate 11 (first | (k_unfold; (try dsimp only)) | (k_end; wrow_close) | walk1 | (dsimp only; walk1) | (leave1; walk_say "STEP leave1"; try dsimp only) | fail "no step")
              rename Fr _ _ _ _ => F16
              rename News _ _ _ _ => N16
              have N17 := news_sub N16 (l' := ((r, misO dx (ns1.count x) (ns2.count x) x tc tc2 tx) :: (dx, emptyDict) :: (LTt, listOf us.toArray kk2) :: (own ++ (LS, listOf vs'.toArray kk) :: es)) ++ (RES, listOf rs.toArray cR) :: ((NU, objO) :: news)) (by
                (repeat' (first | exact sub_nil | exact sub_self | refine sub_cons ?_ ?_ | refine sub_app ?_ ?_ | exact List.Mem.head _ | refine List.Mem.tail _ ?_ | refine sub_tail ?_ | (refine sub_left ?_; (repeat (first | exact sub_self | refine sub_tail ?_)); done) | (refine sub_left ?_; refine sub_left ?_; exact sub_self) | (refine sub_left ?_; refine sub_right ?_; (repeat (first | exact sub_self | refine sub_tail ?_)); done) | (refine List.mem_append_left _ ?_; (repeat (first | exact List.Mem.head _ | refine List.Mem.tail _ ?_)); done) | (refine List.mem_append_left _ ?_; refine List.mem_append_right _ ?_; (repeat (first | exact List.Mem.head _ | refine List.Mem.tail _ ?_)); done) | refine sub_right ?_ | refine List.mem_append_right _ ?_)))
              refine append_K F16 N17 (upd_at ?_ ?_) ?_ (by rw [List.size_toArray, sizeLine_eq]; omega)
              · intro q hq
                show ¬ @Eq Nat q.1 RES
                rcases List.mem_cons.mp hq with rfl | hq
                · show ¬ @Eq Nat NU RES; omega
                · have := onews q hq; omega
              · intro q hq
                show ¬ @Eq Nat q.1 RES
                have hRdx : @LT.lt Nat _ RES dx := hdx (RES, listOf rs.toArray cR) (.tail _ (List.mem_append_right own (.tail _ (List.mem_append_right es (.head _)))))
                have hdr' : @LT.lt Nat _ dx r := hdr
                simp only [List.mem_cons, List.mem_append] at hq
                rcases hq with rfl | rfl | rfl | hq | rfl | hq
                · show ¬ @Eq Nat r RES; omega
                · show ¬ @Eq Nat dx RES; omega
                · show ¬ @Eq Nat LTt RES; omega
                · have hR := hoff (RES, listOf rs.toArray cR) (List.mem_append_right _ (.head _))
                  have hR1 : ¬ @Eq Nat RES e := hR.1
                  have hR2 : ¬ @Eq Nat RES li := hR.2
                  rcases hown q hq with e' | e'
                  · have e'' : @Eq Nat q.1 e := e'
                    omega
                  · have e'' : @Eq Nat q.1 li := e'
                    omega
                · show ¬ @Eq Nat LS RES; omega
                · have : @LT.lt Nat _ RES q.1 := hes q hq
                  omega
              · intro h18 F18 N18
                iterate 3 (first | (k_unfold; (try dsimp only)) | (k_end; wrow_close) | walk1 | (dsimp only; walk1) | (leave1; walk_say "STEP leave1"; try dsimp only) | fail "no step")
                simp only [List.push_toArray] at N18
                have e1 : ns1.take (i + 1) = ns1.take i ++ [x] := take_snoc hx
                have hled : ∀ q ∈ own, @LT.lt Nat _ q.1 dx := fun q hq => hdx q (.tail _ (List.mem_append_left _ hq))
                have hedx : @LT.lt Nat _ e dx := hled (e, oe) hoe
                have hlidx : @LT.lt Nat _ li dx := hled (li, oli) holi
                have hRdx : @LT.lt Nat _ RES dx := hdx (RES, listOf rs.toArray cR) (.tail _ (List.mem_append_right own (.tail _ (List.mem_append_right es (.head _)))))
                have hdr' : @LT.lt Nat _ dx r := hdr
                refine GoOn.intro (vs := vs') (k := kk) (((r, misO dx (ns1.count x) (ns2.count x) x tc tc2 tx) :: (dx, emptyDict) :: es) ++ (RES, listOf (rs ++ [Value.ref r]).toArray (cR + 1)) :: (NU, objO) :: (LTt, listOf us.toArray kk2) :: news) F18 N18 ?_ (by rw [hS'.length, midF_len]) ?_ ⟨⟨rs ++ [Value.ref r], cR + 1, (r, misO dx (ns1.count x) (ns2.count x) x tc tc2 tx) :: (dx, emptyDict) :: es, us, kk2, rfl, ?_, ?_, by rw [List.length_append, List.length_singleton]; omega, ?_, ?_⟩, fun z hz => ?_⟩ (.inl rfl)
                · (repeat' (first | exact sub_nil | exact sub_self | refine sub_cons ?_ ?_ | refine sub_app ?_ ?_ | exact List.Mem.head _ | refine List.Mem.tail _ ?_ | refine sub_tail ?_ | (refine sub_left ?_; (repeat (first | exact sub_self | refine sub_tail ?_)); done) | (refine sub_left ?_; refine sub_left ?_; exact sub_self) | (refine sub_left ?_; refine sub_right ?_; (repeat (first | exact sub_self | refine sub_tail ?_)); done) | (refine List.mem_append_left _ ?_; (repeat (first | exact List.Mem.head _ | refine List.Mem.tail _ ?_)); done) | (refine List.mem_append_left _ ?_; refine List.mem_append_right _ ?_; (repeat (first | exact List.Mem.head _ | refine List.Mem.tail _ ?_)); done) | refine sub_right ?_ | refine List.mem_append_right _ ?_))
                · intro q hq
                  rcases List.mem_cons.mp hq with rfl | hq
                  · exact ⟨by show ¬ @Eq Nat r e; omega, by show ¬ @Eq Nat r li; omega⟩
                  · rcases List.mem_cons.mp hq with rfl | hq
                    · exact ⟨by show ¬ @Eq Nat dx e; omega, by show ¬ @Eq Nat dx li; omega⟩
                    · exact off_three (P := fun y => y ≠ e ∧ y ≠ li) hoff q hq
                · rw [e1, ← midF_full]; exact hS'
                · rw [e1, ← midF_full]; exact hU
                · intro q hq
                  rcases List.mem_cons.mp hq with rfl | hq
                  · show @LT.lt Nat _ RES r; omega
                  · rcases List.mem_cons.mp hq with rfl | hq
                    · exact hRdx
                    · exact hes q hq
                · rw [e1, unlikeF_new hin (by omega)]
                  exact RowsAre.snoc (.head _) (RowsAre.sub (fun p hp => .tail _ (.tail _ hp)) hRw)
                · obtain ⟨a1, a2, a3, a4, a5, a6, a7⟩ := not_stale hz
                  repeat (refine (if_neg (by with_reducible assumption)).trans ?_)
                  rfl
            · rename (List.count x ns1 : Int) = _ => hceq
              iterate 2 (first | (k_unfold; (try dsimp only)) | (k_end; wrow_close) | walk1 | (dsimp only; walk1) | (leave1; walk_say "STEP leave1"; try dsimp only) | fail "no step")
              have e1 : ns1.take (i + 1) = ns1.take i ++ [x] := take_snoc hx
              refine GoOn.intro (vs := vs') (k := kk) (es ++ (RES, listOf rs.toArray cR) :: (NU, objO) :: (LTt, listOf us.toArray kk2) :: news) F14 N14 ?_ (by rw [hS'.length, midF_len]) ?_ ⟨⟨rs, cR, es, us, kk2, rfl, ?_, ?_, by omega, hes, by rw [e1, unlikeF_eq hin (by omega)]; exact hRw⟩, fun z hz => ?_⟩ (.inl rfl)
              · (repeat' (first | exact sub_nil | exact sub_self | refine sub_cons ?_ ?_ | refine sub_app ?_ ?_ | exact List.Mem.head _ | refine List.Mem.tail _ ?_ | refine sub_tail ?_ | (refine sub_left ?_; (repeat (first | exact sub_self | refine sub_tail ?_)); done) | (refine sub_left ?_; refine sub_left ?_; exact sub_self) | (refine sub_left ?_; refine sub_right ?_; (repeat (first | exact sub_self | refine sub_tail ?_)); done) | (refine List.mem_append_left _ ?_; (repeat (first | exact List.Mem.head _ | refine List.Mem.tail _ ?_)); done) | (refine List.mem_append_left _ ?_; refine List.mem_append_right _ ?_; (repeat (first | exact List.Mem.head _ | refine List.Mem.tail _ ?_)); done) | refine sub_right ?_ | refine List.mem_append_right _ ?_))
              · exact off_three (P := fun y => y ≠ e ∧ y ≠ li) hoff
              · rw [e1, ← midF_full]; exact hS'
              · rw [e1, ← midF_full]; exact hU
              · obtain ⟨a1, a2, a3, a4, a5, a6, a7⟩ := not_stale hz
                repeat (refine (if_neg (by with_reducible assumption)).trans ?_)
                rfl
    · rintro vs k m₁ nx h tk ⟨⟨rs, cR, es, vsT, cT', rfl, hS, hT, hrs, hes, hRw⟩, hm⟩ F7 N7
      clear F5 N6
      rw [stale_out hm] at F7
      rw [List.take_length] at hS hT hRw
      iterate 1 (first | (k_unfold; (try dsimp only)) | (k_end; wrow_close) | walk1 | (dsimp only; walk1) | (leave1; walk_say "STEP leave1"; try dsimp only) | fail "no step")
      refine For_enumM (h₀ := g') ?_
      iterate 6 (first | (k_unfold; (try dsimp only)) | (k_end; wrow_close) | walk1 | (dsimp only; walk1) | (leave1; walk_say "STEP leave1"; try dsimp only) | fail "no step")
      have N13 := news_sub N7 (l' := (LTt, listOf vsT.toArray cT') :: (es ++ (RES, listOf rs.toArray cR) :: (NU, objO) :: news)) (by
        (repeat' (first | exact sub_nil | exact sub_self | refine sub_cons ?_ ?_ | refine sub_app ?_ ?_ | exact List.Mem.head _ | refine List.Mem.tail _ ?_ | refine sub_tail ?_ | (refine sub_left ?_; (repeat (first | exact sub_self | refine sub_tail ?_)); done) | (refine sub_left ?_; refine sub_left ?_; exact sub_self) | (refine sub_left ?_; refine sub_right ?_; (repeat (first | exact sub_self | refine sub_tail ?_)); done) | (refine List.mem_append_left _ ?_; (repeat (first | exact List.Mem.head _ | refine List.Mem.tail _ ?_)); done) | (refine List.mem_append_left _ ?_; refine List.mem_append_right _ ?_; (repeat (first | exact List.Mem.head _ | refine List.Mem.tail _ ?_)); done) | refine sub_right ?_ | refine List.mem_append_right _ ?_)))
      refine enum_loop (n := ns2.length) (fun i us m₃ nx => (∃ rs cR es, nx = es ++ (RES, listOf rs.toArray cR) :: (NU, objO) :: news ∧ SlotsAre NU us (maskF ns2 (ns1 ++ ns2.take i)) ∧ rs.length ≤ 100 + i ∧ (∀ e ∈ es, RES < e.1) ∧ RowsAre es rs (unlikeF ns1 ns2 (firstsF (ns1 ++ ns2.take i)))) ∧ ∀ z, z ∉ staleC → m₃ z = baseC RES NU LS LTt l1 l2 ns1.length ns2.length tm tn z) (by rfl) (by rfl) (by rfl) (by rfl) F7 N13 (by rw [hT.length, maskF_len]) ⟨⟨rs, cR, es, rfl, by rw [List.take_zero, List.append_nil]; exact hT, by omega, hes, by rw [List.take_zero, List.append_nil]; exact hRw⟩, fun z hz => ?_⟩ ?_ ?_
      · obtain ⟨a1, a2, a3, a4, a5, a6, a7⟩ := not_stale hz
        repeat (refine (if_neg (by with_reducible assumption)).trans ?_)
        rfl
      · clear hS hT hRw hes hm N7 N13 F7 hrs
        rintro e li i v tk us k m₃ nx h tk' own E' hi hv ⟨⟨rs, cR, es, rfl, hT, hrs, hes, hRw⟩, hm⟩ ⟨oe, hoe⟩ ⟨oli, holi⟩ hown hoff hle hll hnlt hllt F7 N7
        rw [stale_map hm] at F7
        k_fold
        obtain ⟨x, hx⟩ : ∃ x, ns2[i]? = some x := ⟨ns2[i], List.getElem?_eq_getElem hi⟩
        have hsl := hT.get hv (maskF_get hx)
        have e1 : ns1 ++ ns2.take (i + 1) = (ns1 ++ ns2.take i) ++ [x] := by rw [take_snoc hx, List.append_assoc]
        by_cases hin : x ∈ ns1 ++ ns2.take i
        · rw [if_pos hin] at hsl
          cases hsl
          iterate 10 (first | (k_unfold; (try dsimp only)) | (k_end; wrow_close) | walk1 | (dsimp only; walk1) | (leave1; walk_say "STEP leave1"; try dsimp only) | fail "no step")
          refine GoOn.intro (es ++ (RES, listOf rs.toArray cR) :: (NU, objO) :: news) F7 N7 (fun p hp => hp) (by rw [hT.length, maskF_len]) hoff ⟨⟨rs, cR, es, rfl, ?_, by omega, hes, by rw [e1, unlikeF_old hin]; exact hRw⟩, fun z hz => ?_⟩ (.inr rfl)
          · rw [e1, maskF_same hin]; exact hT
          · obtain ⟨a1, a2, a3, a4, a5, a6, a7⟩ := not_stale hz
            repeat (refine (if_neg (by with_reducible assumption)).trans ?_)
            rfl
        · rw [if_neg hin] at hsl
          cases hsl
          iterate 5 (first | (k_unfold; (try dsimp only)) | (k_end; wrow_close) | walk1 | (dsimp only; walk1) | (leave1; walk_say "STEP leave1"; try dsimp only) | fail "no step")
          refine wpAny_is_other rfl (by intro e; cases e) ?_
          iterate 8 (first | (k_unfold; (try dsimp only)) | (k_end; wrow_close) | walk1 | (dsimp only; walk1) | (leave1; walk_say "STEP leave1"; try dsimp only) | fail "no step")
          rename Fr _ _ _ _ => F8
          rename News _ _ _ _ => N8
          clear F7 N7
          have hnLT : ∀ q ∈ own, q.1 ≠ LTt := fun q hq e => (hown q hq).elim (fun h => hle (e ▸ h)) fun h => hll (e ▸ h)
          have hoLT : ∀ q ∈ es ++ (RES, listOf rs.toArray cR) :: (NU, objO) :: news, q.1 ≠ LTt := by
            intro q hq
            show ¬ @Eq Nat q.1 LTt
            rcases List.mem_append.mp hq with hq | hq
            · have : @LT.lt Nat _ RES q.1 := hes q hq
              omega
            · simp only [List.mem_cons] at hq
              rcases hq with rfl | rfl | hq
              · show ¬ @Eq Nat RES LTt; omega
              · show ¬ @Eq Nat NU LTt; omega
              · have := onews q hq; omega
          have hxn : ∀ y ∈ ns2.take i, y ∈ ns1 ++ ns2.take i := fun _ h => List.mem_append_right _ h
          refine For_rangeM ?_
          iterate 9 (first | (k_unfold; (try dsimp only)) | (k_end; wrow_close) | walk1 | (dsimp only; walk1) | (leave1; walk_say "STEP leave1"; try dsimp only) | fail "no step")
          rename IsRange _ _ _ _ _ _ _ _ => hr
          rename Fr _ _ _ _ => F9
          rename News _ _ _ _ => N9
          replace F9 : ∃ t0 tx, Fr g' L' _ (elemD (baseC RES NU LS LTt l1 l2 ns1.length ns2.length tm tn) m₃ (.int 0 t0) (.int x tx) (.int i tk)) := ⟨_, _, F9⟩
          obtain ⟨t0, tx, F9⟩ := F9
          have hc0 : (ns2.take i).count x = 0 := List.count_eq_zero.mpr fun e => hin (List.mem_append_right _ e)
          refine range_loop (n := ns2.length - i) (fun k m₂ nx => (∃ vs' kk, nx = own ++ (LTt, listOf vs'.toArray kk) :: (es ++ (RES, listOf rs.toArray cR) :: (NU, objO) :: news) ∧ SlotsAre NU vs' (midF ns2 (ns1 ++ ns2.take i) x (i + k))) ∧ (∃ tc, m₂ (Str.ofString "cnt_t") = some (.int ((ns2.take (i + k)).count x) tc)) ∧ ∀ z, z ≠ Str.ofString "j" → z ≠ Str.ofString "cnt_t" → m₂ z = elemD (baseC RES NU LS LTt l1 l2 ns1.length ns2.length tm tn) m₃ (.int 0 t0) (.int x tx) (.int i tk) z) (by rfl) (by rfl) (by rfl) F9 N9 hr (small_one (by omega) (by omega) (by omega) (by omega)) (by rw [rangeSize_nat]; omega) ⟨⟨us, k, rfl, by rw [Nat.add_zero, midF_start hxn]; exact hT⟩, ⟨_, by simp only [Nat.add_zero, hc0]; rfl⟩, fun _ _ _ => rfl⟩ ?_ ?_
          · rintro I oI j tj m₂ nx h2 tk2 E2 hj ⟨⟨vs', kk, rfl, hS'⟩, ⟨tc, hc⟩, hm2⟩ hoffI hltI F10 N10
            rw [map_two hc hm2] at F10
            k_fold
            clear F9 N9 hr
            iterate 6 (first | (k_unfold; (try dsimp only)) | (k_end; wrow_close) | walk1 | (dsimp only; walk1) | (leave1; walk_say "STEP leave1"; try dsimp only) | fail "no step")
            have hij : i + j < ns2.length := by omega
            obtain ⟨y, hy⟩ : ∃ y, ns2[i + j]? = some y := ⟨ns2[i + j], List.getElem?_eq_getElem hij⟩
            have hvl' : vs'.length = ns2.length := by rw [hS'.length, midF_len]
            obtain ⟨v', hv'⟩ : ∃ v', vs'[i + j]? = some v' := ⟨vs'[i + j], List.getElem?_eq_getElem (by omega)⟩
            have hsl' := hS'.get hv' (midF_get hy)
            have eij : ((i : Int) + (j : Int)).toNat = i + j := by omega
            have hmLT : (LTt, listOf vs'.toArray kk) ∈ [(I, oI)] ++ (own ++ (LTt, listOf vs'.toArray kk) :: (es ++ (RES, listOf rs.toArray cR) :: (NU, objO) :: news)) := List.mem_append_right [(I, oI)] (List.mem_append_right own (.head _))
            have hmNU : (NU, objO) ∈ [(I, oI)] ++ (own ++ (LTt, listOf vs'.toArray kk) :: (es ++ (RES, listOf rs.toArray cR) :: (NU, objO) :: news)) := List.mem_append_right [(I, oI)] (List.mem_append_right own (.tail _ (List.mem_append_right es (.tail _ (.head _)))))
            refine item_litK (News.isList N10 hmLT) (by omega) (by omega) (by rw [eij]; exact hv') ?_
            by_cases hyin : y ∈ ns1 ++ ns2.take i
            · rw [if_pos hyin] at hsl'
              cases hsl'
              iterate 1 (first | (k_unfold; (try dsimp only)) | (k_end; wrow_close) | walk1 | (dsimp only; walk1) | (leave1; walk_say "STEP leave1"; try dsimp only) | fail "no step")
              refine eq_obj_int (N10 _ hmNU).1 (by ktr_units) ?_
              iterate 4 (first | (k_unfold; (try dsimp only)) | (k_end; wrow_close) | walk1 | (dsimp only; walk1) | (leave1; walk_say "STEP leave1"; try dsimp only) | fail "no step")
              refine GoR.intro _ F10 N10 (fun p hp => hp) hoffI ⟨⟨vs', kk, rfl, ?_⟩, ⟨tc, ?_⟩, fun z h1 h2 => ?_⟩ (.inl rfl)
              · rw [← Nat.add_assoc, ← midF_keep hy (.inr hyin)]; exact hS'
              · rw [← Nat.add_assoc, count_take hy, if_neg (fun (e : y = x) => hin (e ▸ hyin))]; rfl
              · first | exact (if_neg h1).trans (if_neg h2) | exact (if_neg h2).trans ((if_neg h1).trans (if_neg h2)) | simp only [if_neg h1, if_neg h2]
            · rw [if_neg hyin] at hsl'
              cases hsl'
              iterate 14 (first | (k_unfold; (try dsimp only)) | (k_end; wrow_close) | walk1 | (dsimp only; walk1) | (leave1; walk_say "STEP leave1"; try dsimp only) | fail "no step")
              · rename y ≠ x => hyx
                refine GoR.intro _ F10 N10 (fun p hp => hp) hoffI ⟨⟨vs', kk, rfl, ?_⟩, ⟨tc, ?_⟩, fun z h1 h2 => ?_⟩ (.inl rfl)
                · rw [← Nat.add_assoc, ← midF_keep hy (.inl hyx)]; exact hS'
                · rw [← Nat.add_assoc, count_take hy, if_neg hyx]; rfl
                · first | exact (if_neg h1).trans (if_neg h2) | exact (if_neg h2).trans ((if_neg h1).trans (if_neg h2)) | simp only [if_neg h1, if_neg h2]
              · rename y = x => hyx
                subst hyx
                iterate 3 (first | (k_unfold; (try dsimp only)) | (k_end; wrow_close) | walk1 | (dsimp only; walk1) | (leave1; walk_say "STEP leave1"; try dsimp only) | fail "no step")
                rename Fr _ _ _ _ => F11
                rename News _ _ _ _ => N11
                refine set_any F11 N11 (.tail (Nat.ne_of_gt (hltI (LTt, listOf us.toArray k) (List.mem_append_right _ (.head _)))) (upd_at hoLT hnLT)) (by omega) (by omega) (by omega) ?_
                intro h12 F12 N12
                iterate 2 (first | (k_unfold; (try dsimp only)) | (k_end; wrow_close) | walk1 | (dsimp only; walk1) | (leave1; walk_say "STEP leave1"; try dsimp only) | fail "no step")
                rw [eij] at N12
                refine GoR.intro _ F12 N12 (fun p hp => hp) ?_ ⟨⟨vs'.set (i + j) (.ref NU), kk, rfl, ?_⟩, ⟨_, by rw [← Nat.add_assoc, count_take hy, if_pos rfl]; rfl⟩, fun z h1 h2 => ?_⟩ (.inl rfl)
                · exact off_mid (o := listOf vs'.toArray kk) hoffI
                · rw [← Nat.add_assoc, ← midF_set hy]; exact hS'.set _
                · first | exact (if_neg h1).trans (if_neg h2) | exact (if_neg h2).trans ((if_neg h1).trans (if_neg h2)) | simp only [if_neg h1, if_neg h2]
          · rintro m₂ nx h2 tk2 ⟨⟨vs', kk, rfl, hS'⟩, ⟨tc, hc⟩, hm2⟩ F10 N10
            rw [show i + (ns2.length - i) = ns2.length by omega] at hS' hc
            rw [List.take_length] at hc
            rw [show m₂ = _ from (map_out hc hm2).symm] at F10
            clear F9 N9 hr
            iterate 13 (first | (k_unfold; (try dsimp only)) | (k_end; wrow_close) | walk1 | (dsimp only; walk1) | (leave1; walk_say "STEP leave1"; try dsimp only) | fail "no step")
            refine c_mis (by k_asm) F10 (by k_asm) N10 (by k_asm) (by exact rfl) (by ktr_room) (by ktr_units) ?_
            intro r dx h5 tk5 hdx hdr F15 N15
            iterate 11 (first | (k_unfold; (try dsimp only)) | (k_end; wrow_close) | walk1 | (dsimp only; walk1) | (leave1; walk_say "STEP leave1"; try dsimp only) | fail "no step")
            rename Fr _ _ _ _ => F16
            rename News _ _ _ _ => N16
            have N17 := news_sub N16 (l' := ((r, misO dx 0 (ns2.count x) x tk2 tc tx) :: (dx, emptyDict) :: (own ++ (LTt, listOf vs'.toArray kk) :: es)) ++ (RES, listOf rs.toArray cR) :: ((NU, objO) :: news)) (by
              (repeat' (first | exact sub_nil | exact sub_self | refine sub_cons ?_ ?_ | refine sub_app ?_ ?_ | exact List.Mem.head _ | refine List.Mem.tail _ ?_ | refine sub_tail ?_ | (refine sub_left ?_; (repeat (first | exact sub_self | refine sub_tail ?_)); done) | (refine sub_left ?_; refine sub_left ?_; exact sub_self) | (refine sub_left ?_; refine sub_right ?_; (repeat (first | exact sub_self | refine sub_tail ?_)); done) | (refine List.mem_append_left _ ?_; (repeat (first | exact List.Mem.head _ | refine List.Mem.tail _ ?_)); done) | (refine List.mem_append_left _ ?_; refine List.mem_append_right _ ?_; (repeat (first | exact List.Mem.head _ | refine List.Mem.tail _ ?_)); done) | refine sub_right ?_ | refine List.mem_append_right _ ?_)))
            have hRdx : @LT.lt Nat _ RES dx := hdx (RES, listOf rs.toArray cR) (List.mem_append_right own (.tail _ (List.mem_append_right es (.head _))))
            have hdr' : @LT.lt Nat _ dx r := hdr
            have hedx : @LT.lt Nat _ e dx := hdx (e, oe) (List.mem_append_left _ hoe)
            have hlidx : @LT.lt Nat _ li dx := hdx (li, oli) (List.mem_append_left _ holi)
            refine append_K F16 N17 (upd_at ?_ ?_) ?_ (by rw [List.size_toArray, sizeLine_eq]; omega)
            · intro q hq
              show ¬ @Eq Nat q.1 RES
              rcases List.mem_cons.mp hq with rfl | hq
              · show ¬ @Eq Nat NU RES; omega
              · have := onews q hq; omega
            · intro q hq
              show ¬ @Eq Nat q.1 RES
              simp only [List.mem_cons, List.mem_append] at hq
              rcases hq with rfl | rfl | hq | rfl | hq
              · show ¬ @Eq Nat r RES; omega
              · show ¬ @Eq Nat dx RES; omega
              · have hR := hoff (RES, listOf rs.toArray cR) (List.mem_append_right _ (.head _))
                have hR1 : ¬ @Eq Nat RES e := hR.1
                have hR2 : ¬ @Eq Nat RES li := hR.2
                rcases hown q hq with e' | e'
                · have e'' : @Eq Nat q.1 e := e'
                  omega
                · have e'' : @Eq Nat q.1 li := e'
                  omega
              · show ¬ @Eq Nat LTt RES; omega
              · have : @LT.lt Nat _ RES q.1 := hes q hq
                omega
            · intro h18 F18 N18
              iterate 2 (first | (k_unfold; (try dsimp only)) | (k_end; wrow_close) | walk1 | (dsimp only; walk1) | (leave1; walk_say "STEP leave1"; try dsimp only) | fail "no step")
              simp only [List.push_toArray] at N18
              have hc1 : ns1.count x = 0 := List.count_eq_zero.mpr fun e => hin (List.mem_append_left _ e)
              have hc2 : 0 < ns2.count x := List.count_pos_iff.mpr (List.mem_of_getElem? hx)
              have hun := unlikeF_new (a := ns1) (b := ns2) hin (by omega)
              rw [hc1] at hun
              refine GoOn.intro (vs := vs') (k := kk) (((r, misO dx 0 (ns2.count x) x tk2 tc tx) :: (dx, emptyDict) :: es) ++ (RES, listOf (rs ++ [Value.ref r]).toArray (cR + 1)) :: (NU, objO) :: news) F18 N18 ?_ (by rw [hS'.length, midF_len]) ?_ ⟨⟨rs ++ [Value.ref r], cR + 1, (r, misO dx 0 (ns2.count x) x tk2 tc tx) :: (dx, emptyDict) :: es, rfl, ?_, by rw [List.length_append, List.length_singleton]; omega, ?_, ?_⟩, fun z hz => ?_⟩ (.inl rfl)
              · (repeat' (first | exact sub_nil | exact sub_self | refine sub_cons ?_ ?_ | refine sub_app ?_ ?_ | exact List.Mem.head _ | refine List.Mem.tail _ ?_ | refine sub_tail ?_ | (refine sub_left ?_; (repeat (first | exact sub_self | refine sub_tail ?_)); done) | (refine sub_left ?_; refine sub_left ?_; exact sub_self) | (refine sub_left ?_; refine sub_right ?_; (repeat (first | exact sub_self | refine sub_tail ?_)); done) | (refine List.mem_append_left _ ?_; (repeat (first | exact List.Mem.head _ | refine List.Mem.tail _ ?_)); done) | (refine List.mem_append_left _ ?_; refine List.mem_append_right _ ?_; (repeat (first | exact List.Mem.head _ | refine List.Mem.tail _ ?_)); done) | refine sub_right ?_ | refine List.mem_append_right _ ?_))
              · intro q hq
                rcases List.mem_cons.mp hq with rfl | hq
                · exact ⟨by show ¬ @Eq Nat r e; omega, by show ¬ @Eq Nat r li; omega⟩
                · rcases List.mem_cons.mp hq with rfl | hq
                  · exact ⟨by show ¬ @Eq Nat dx e; omega, by show ¬ @Eq Nat dx li; omega⟩
                  · exact off_res (P := fun y => y ≠ e ∧ y ≠ li) hoff q hq
              · rw [e1, ← midF_full]; exact hS'
              · intro q hq
                rcases List.mem_cons.mp hq with rfl | hq
                · show @LT.lt Nat _ RES r; omega
                · rcases List.mem_cons.mp hq with rfl | hq
                  · exact hRdx
                  · exact hes q hq
              · rw [e1, hun]
                exact RowsAre.snoc (.head _) (RowsAre.sub (fun p hp => .tail _ (.tail _ hp)) hRw)
              · obtain ⟨a1, a2, a3, a4, a5, a6, a7⟩ := not_stale hz
                repeat (refine (if_neg (by with_reducible assumption)).trans ?_)
                rfl
      · rintro us k m₃ nx h tk ⟨⟨rs, cR, es, rfl, hT, hrs, hes, hRw⟩, hm⟩ F8 N8
        rw [stale_out hm] at F8
        rw [List.take_length] at hRw
        iterate 4 (first | (k_unfold; (try dsimp only)) | (k_end; wrow_close) | walk1 | (dsimp only; walk1) | (leave1; walk_say "STEP leave1"; try dsimp only) | fail "no step")
        rename Fr h₀ _ _ _ => kF
        rename News h₀ _ _ _ => kN
        refine hret RES rs cR es _ _ kF (news_sub kN ?_) ?_ hRw
        · (repeat' (first | exact sub_nil | exact sub_self | refine sub_cons ?_ ?_ | refine sub_app ?_ ?_ | exact List.Mem.head _ | refine List.Mem.tail _ ?_ | refine sub_tail ?_ | (refine sub_left ?_; (repeat (first | exact sub_self | refine sub_tail ?_)); done) | (refine sub_left ?_; refine sub_left ?_; exact sub_self) | (refine sub_left ?_; refine sub_right ?_; (repeat (first | exact sub_self | refine sub_tail ?_)); done) | (refine List.mem_append_left _ ?_; (repeat (first | exact List.Mem.head _ | refine List.Mem.tail _ ?_)); done) | (refine List.mem_append_left _ ?_; refine List.mem_append_right _ ?_; (repeat (first | exact List.Mem.head _ | refine List.Mem.tail _ ?_)); done) | refine sub_right ?_ | refine List.mem_append_right _ ?_))
        · intro p hp
          have h1 : @LT.lt Nat _ p.1 RES := by have := onews p hp; omega
          exact ⟨h1, fun e he => Nat.lt_trans h1 (hes e he)⟩
/-- what goes over the lists' thresholds d, from the first on -/
def beyF (d : Int → Int) (l : List Int) : List Int := l.foldl (fun more x => if (more.count x : Int) < d x then more ++ [x] else more) []
theorem beyF_snoc (d : Int → Int) (l : List Int) (x : Int) : beyF d (l ++ [x]) = if ((beyF d l).count x : Int) < d x then beyF d l ++ [x] else beyF d l := by
  unfold beyF; rw [List.foldl_append]; rfl
theorem beyond_bey (a b l : List Int) : beyondF a b l = beyF (fun x => (a.count x : Int) - (b.count x : Int)) l := rfl
theorem snoc_ind {P : List Int → Prop} (h0 : P []) (h1 : ∀ l x, P l → P (l ++ [x])) : ∀ l, P l := by
  have all : ∀ k, ∀ l : List Int, l.length = k → P l := by
    intro k
    induction k with
    | zero => intro l hl; rw [List.length_eq_zero_iff.mp hl]; exact h0
    | succ k ih =>
      intro l hl
      have hne : l ≠ [] := by intro e; rw [e] at hl; cases hl
      obtain ⟨r, y, rfl⟩ : ∃ r y, l = r ++ [y] := ⟨l.dropLast, l.getLast hne, (List.dropLast_concat_getLast hne).symm⟩
      rw [List.length_append, List.length_singleton] at hl
      exact h1 r y (ih r (by omega))
  exact fun l => all _ l rfl
theorem beyF_count (d : Int → Int) (x : Int) : ∀ l, (beyF d l).count x ≤ l.count x ∧ (l.count x ≤ (beyF d l).count x ∨ d x ≤ ((beyF d l).count x : Int)) := by
  refine snoc_ind ⟨Nat.le_refl _, .inl (Nat.le_refl _)⟩ fun l y ih => ?_
  rw [beyF_snoc, List.count_append, List.count_singleton]
  by_cases hxy : y = x
  · subst hxy
    split
    · rw [List.count_append, List.count_singleton]; simp only [beq_self_eq_true, if_true]; omega
    · simp only [beq_self_eq_true, if_true]; omega
  · have e : (y == x) = false := by simpa using hxy
    split
    · rw [List.count_append, List.count_singleton, e]; simp only [Bool.false_eq_true, if_false]; omega
    · rw [e]; simp only [Bool.false_eq_true, if_false]; omega
theorem beyF_all {d : Int → Int} : ∀ l : List Int, (∀ x, (l.count x : Int) ≤ d x) → beyF d l = l := by
  refine snoc_ind (fun _ => rfl) fun l y ih h => ?_
  have h1 : ∀ x, (l.count x : Int) ≤ d x := fun x => by
    have := h x
    rw [List.count_append] at this
    omega
  have h2 := h y
  rw [List.count_append, List.count_singleton] at h2
  simp only [beq_self_eq_true, if_true] at h2
  rw [beyF_snoc, ih h1, if_pos (by omega)]
theorem beyF_congr {d d' : Int → Int} : ∀ l : List Int, (∀ x ∈ l, d x = d' x) → beyF d l = beyF d' l := by
  refine snoc_ind (fun _ => rfl) fun l y ih h => ?_
  rw [beyF_snoc, beyF_snoc, ih fun x hx => h x (List.mem_append_left _ hx), h y (List.mem_append_right _ (.head _))]
theorem beyF_drop {d : Int → Int} {x : Int} {q : List Int} (h : d x ≤ (q.count x : Int)) : ∀ p, beyF d (q ++ [x] ++ p) = beyF d (q ++ p) := by
  refine snoc_ind ?_ fun l y ih => ?_
  · rw [List.append_nil, List.append_nil, beyF_snoc, if_neg]
    have := beyF_count d x q
    omega
  · rw [← List.append_assoc, ← List.append_assoc q l, beyF_snoc, beyF_snoc, ih]
theorem uld_miss : ∀ (R m as : List Int) (d : Int → Int), (∀ y, (as.count y = 0 → (R.count y : Int) ≤ d y) ∧ (0 < as.count y → d y = (R.count y : Int) - (as.count y : Int))) →
    (R.foldl uldStep (m, as)).1 = m ++ (beyF d R.reverse).reverse := by
  intro R
  induction R with
  | nil => intro m as d _; simp [beyF]
  | cons x r ih =>
    intro m as d h
    have hx := h x
    rw [List.count_cons_self] at hx
    have hc := beyF_count d x r.reverse
    rw [List.count_reverse] at hc
    rw [List.foldl_cons, show uldStep (m, as) x = if x ∈ as then (m, as.erase x) else (m ++ [x], as) from rfl, List.reverse_cons, beyF_snoc]
    by_cases hm : x ∈ as
    · have hp : 0 < as.count x := List.count_pos_iff.mpr hm
      have h2 := hx.2 hp
      rw [if_pos hm, if_neg (by omega)]
      refine ih m (as.erase x) d fun y => ?_
      by_cases hy : y = x
      · subst hy
        rw [List.count_erase_self]
        omega
      · rw [List.count_erase_of_ne hy]
        have := h y
        rw [List.count_cons_of_ne (Ne.symm hy)] at this
        exact this
    · have hz : as.count x = 0 := List.count_eq_zero.mpr hm
      have h2 := hx.1 hz
      rw [if_neg hm, if_pos (by omega), ih (m ++ [x]) as d fun y => ?_, List.reverse_append]
      · simp
      · by_cases hy : y = x
        · subst hy; omega
        · have := h y
          rw [List.count_cons_of_ne (Ne.symm hy)] at this
          exact this
theorem uld_left : ∀ (R m as : List Int), (R.foldl uldStep (m, as)).2 = (beyF (fun x => (as.count x : Int) - (R.count x : Int)) as.reverse).reverse := by
  intro R
  induction R with
  | nil =>
    intro m as
    rw [beyF_all as.reverse fun x => by rw [List.count_reverse, List.count_nil]; omega]
    simp
  | cons x r ih =>
    intro m as
    rw [List.foldl_cons, show uldStep (m, as) x = if x ∈ as then (m, as.erase x) else (m ++ [x], as) from rfl]
    by_cases hm : x ∈ as
    · rw [if_pos hm, ih]
      obtain ⟨p, q, hxp, e1, e2⟩ := List.exists_erase_eq hm
      rw [e2]
      have hd : (fun y => ((p ++ q).count y : Int) - (r.count y : Int)) = fun y => (as.count y : Int) - ((x :: r).count y : Int) := by
        funext y
        rw [e1, List.count_append, List.count_append]
        by_cases hy : y = x
        · subst hy; rw [List.count_cons_self, List.count_cons_self]; omega
        · rw [List.count_cons_of_ne (Ne.symm hy), List.count_cons_of_ne (Ne.symm hy)]
      rw [hd, e1, List.reverse_append, List.reverse_append, List.reverse_cons, beyF_drop]
      rw [← e1, List.count_reverse, List.count_cons_self]
      rw [e1, List.count_append, List.count_cons_self, List.count_eq_zero.mpr hxp]
      omega
    · rw [if_neg hm, ih]
      congr 1
      refine beyF_congr _ fun y hy => ?_
      have : y ≠ x := fun e => hm (by rw [List.mem_reverse] at hy; exact e ▸ hy)
      rw [List.count_cons_of_ne (Ne.symm this)]
theorem told_eq (es as : List Int) : uldF es as = ((beyondF es as es).reverse, (beyondF as.reverse es as.reverse).reverse) := by
  unfold uldF
  refine Prod.ext ?_ ?_
  · rw [uld_miss es.reverse [] as (fun x => (es.count x : Int) - (as.count x : Int)) fun y => ?_, List.reverse_reverse, List.nil_append, beyond_bey]
    rw [List.count_reverse]
    omega
  · rw [uld_left, beyond_bey]
    have : (fun x => (as.count x : Int) - (es.reverse.count x : Int)) = fun x => (as.reverse.count x : Int) - (es.count x : Int) := by
      funext x; rw [List.count_reverse, List.count_reverse]
    rw [this]; rfl
/-- sums over lists -/
def sumOf (f : Int → Int) (l : List Int) : Int := (l.map f).sum
theorem sumOf_nil (f : Int → Int) : sumOf f [] = 0 := rfl
theorem sumOf_cons (f : Int → Int) (x : Int) (l : List Int) : sumOf f (x :: l) = f x + sumOf f l := by unfold sumOf; rw [List.map_cons, List.sum_cons]
theorem sumOf_append (f : Int → Int) (a b : List Int) : sumOf f (a ++ b) = sumOf f a + sumOf f b := by unfold sumOf; rw [List.map_append, List.sum_append]
theorem sumOf_reverse (f : Int → Int) : ∀ a : List Int, sumOf f a.reverse = sumOf f a
  | [] => rfl
  | x :: r => by rw [List.reverse_cons, sumOf_append, sumOf_reverse f r, sumOf_cons, sumOf_cons, sumOf_nil]; omega
theorem sumOf_erase (f : Int → Int) (x : Int) (a : List Int) (h : x ∈ a) : sumOf f (a.erase x) = sumOf f a - f x := by
  obtain ⟨p, q, _, e1, e2⟩ := List.exists_erase_eq h
  rw [e2, e1, sumOf_append, sumOf_append, sumOf_cons]; omega
theorem uld_sum (f : Int → Int) : ∀ (R m as : List Int), sumOf f (R.foldl uldStep (m, as)).1 - sumOf f (R.foldl uldStep (m, as)).2 = sumOf f m - sumOf f as + sumOf f R := by
  intro R
  induction R with
  | nil => intro m as; rw [List.foldl_nil, sumOf_nil]; simp
  | cons x r ih =>
    intro m as
    rw [List.foldl_cons, show uldStep (m, as) x = if x ∈ as then (m, as.erase x) else (m ++ [x], as) from rfl]
    by_cases hm : x ∈ as
    · rw [if_pos hm, ih, sumOf_erase f x as hm, sumOf_cons]; omega
    · rw [if_neg hm, ih, sumOf_append, sumOf_cons, sumOf_cons, sumOf_nil]; omega
theorem told_sum (f : Int → Int) (es as : List Int) : sumOf f (uldF es as).1 - sumOf f (uldF es as).2 = sumOf f es - sumOf f as := by
  unfold uldF
  rw [uld_sum, sumOf_nil, sumOf_reverse]; omega
theorem uld_mem {y : Int} : ∀ (R m as : List Int), (y ∈ (R.foldl uldStep (m, as)).1 → y ∈ m ∨ y ∈ R) ∧ (y ∈ (R.foldl uldStep (m, as)).2 → y ∈ as) := by
  intro R
  induction R with
  | nil => intro m as; exact ⟨.inl, id⟩
  | cons x r ih =>
    intro m as
    rw [List.foldl_cons, show uldStep (m, as) x = if x ∈ as then (m, as.erase x) else (m ++ [x], as) from rfl]
    by_cases hm : x ∈ as
    · rw [if_pos hm]
      have h := ih m (as.erase x)
      exact ⟨fun e => (h.1 e).imp id (.tail _), fun e => List.mem_of_mem_erase (h.2 e)⟩
    · rw [if_neg hm]
      have h := ih (m ++ [x]) as
      refine ⟨fun e => ?_, h.2⟩
      rcases h.1 e with e | e
      · rcases List.mem_append.mp e with e | e
        · exact .inl e
        · rw [List.mem_singleton.mp e]; exact .inr (.head _)
      · exact .inr (.tail _ e)
theorem told_mem1 {y : Int} {es as : List Int} (h : y ∈ (uldF es as).1) : y ∈ es := by
  rcases (uld_mem es.reverse [] as).1 h with e | e
  · exact nomatch e
  · exact List.mem_reverse.mp e
theorem told_mem2 {y : Int} {es as : List Int} (h : y ∈ (uldF es as).2) : y ∈ as := (uld_mem es.reverse [] as).2 h
theorem sumOf_one (l : List Int) : sumOf (fun _ => 1) l = (l.length : Int) := by
  induction l with
  | nil => rfl
  | cons x r ih => rw [sumOf_cons, ih, List.length_cons]; push_cast; omega
theorem uldF_perm {a b : List Int} (h : a.Perm b) : uldF a b = ([], []) := by
  have all : ∀ (R as : List Int), R.Perm as → R.foldl uldStep ([], as) = ([], []) := by
    intro R
    induction R with
    | nil => intro as h; rw [List.nil_perm.mp h]; rfl
    | cons x r ih =>
      intro as h
      have hm : x ∈ as := h.subset (.head _)
      rw [List.foldl_cons, show uldStep ([], as) x = if x ∈ as then ([], as.erase x) else ([] ++ [x], as) from rfl, if_pos hm]
      exact ih _ (List.perm_cons_erase hm |>.symm.trans h.symm |>.symm.cons_inv)
  exact all _ _ ((List.reverse_perm a).trans h)
noncomputable def lawDef : Option (List Stmt × Scope) := Challenge.pw_tx0014_01.main.body.findSome? fun st => match st with
  | .FunctionDef n _ b _ _ _ sc _ _ _ => if n = Str.ofString "law" then some (b, sc) else none
  | _ => none
noncomputable def lawBody : List Stmt := match lawDef with | some p => p.1 | none => []
noncomputable def lawScope : Scope := match lawDef with | some p => p.2 | none => default
abbrev lawCl (L : Addr) : List (Str × Addr) := [(Str.ofString "size", L + 4), (Str.ofString "rows", L + 3), (Str.ofString "width", L + 2), (Str.ofString "figures", L + 1)]
noncomputable abbrev lawEnv (L fa : Addr) (cd : Value) : Env := envX (Str.ofString "law") lawScope L fa cd (lawCl L)
/-- the rest of the law's body, from the statement k on -/
noncomputable abbrev LawRest (w : World) (L fa : Addr) (cd : Value) (k : Nat) (Q : Flow → Shared → Prop) (E : Value → Shared → Prop) (s : Shared) : Prop :=
  wpAny (model PR w) (callerA.deeper (lawEnv L fa cd)) (execs (lawBody.drop k) (lawEnv L fa cd)) Q E s
def figA (x : Int) : Int := (if x < 0 then -x else x).fmod (10 ^ Int.toNat 100)
def figF (x : Int) : Int := figA x * (if 0 ≤ x then 1 else -1)
def numF (ns : List Int) : List Int := List.take 4 ns ++ cutF [1, 1, 2, 3] (some (ns.length : Nat)) none
set_option maxRecDepth 100000 in
theorem figA_bound (x : Int) : 0 ≤ figA x ∧ (figA x).natAbs < 2 ^ 333 := by
  unfold figA
  have e : (10 : Int) ^ Int.toNat 100 = ((10 ^ 100 : Nat) : Int) := by rfl
  rw [e]
  have hp : (0 : Int) < ((10 ^ 100 : Nat) : Int) := by
    have : 0 < 10 ^ 100 := Nat.pow_pos (by decide)
    omega
  have h1 := Int.fmod_nonneg_of_pos (if x < 0 then -x else x) hp
  have h2 := Int.fmod_lt_of_pos (if x < 0 then -x else x) hp
  have h3 : (10 : Nat) ^ 100 < 2 ^ 333 := by decide +kernel
  generalize (10 : Nat) ^ 100 = P at *
  generalize (2 : Nat) ^ 333 = P2 at *
  exact ⟨h1, by omega⟩
theorem figF_natAbs (x : Int) : (figF x).natAbs = (figA x).natAbs := by
  unfold figF
  rw [Int.natAbs_mul]
  split <;> simp
theorem fig_mul_ok {x b : Int} (hb : b.natAbs ≤ 1) : IntMulOk (figA x) b := by
  refine mul_ok (p := 400) (q := 400) ?_ ?_ (by decide)
  · exact Nat.le_trans (bits_le (figA_bound x).2) (by decide)
  · exact Nat.le_trans (bits_le (show b.natAbs < 2 ^ 1 by omega)) (by decide)
set_option maxRecDepth 100000 in
set_option maxHeartbeats 8000000 in
theorem law_1 {w : World} {mean : ExcName → Option Value} {mg mb : Str → Option Value} {L fa ls : Addr} {cd : Value} {base : Heap} {s : Shared} {Q : Flow → Shared → Prop} {E : Value → Shared → Prop} {o1 o2 o3 o4 : Obj} {vs : List Value} {ns : List Int}
    (Bl : Below callerA base [] base) (F : Fr base L s.heap (fun y => if y = Str.ofString "script" then some (Value.ref ls) else none)) (X : (hd.heap_1 w.params).In base)
    (N : News base L s.heap [(L + 4, o4), (L + 3, o3), (L + 2, o2), (L + 1, o1), (161, tabObj #[]), (154, tabObj #[])]) (T : Top topProg LO mean mg mb base)
    (d4 : o4.data = .cell none) (d3 : o3.data = .cell none) (d2 : o2.data = .cell none) (d1 : o1.data = .cell none) (hl : base.IsList ls vs.toArray) (hI : IntsAre vs ns) (hn63 : ns.length ≤ 63) (l1 : 161 < L) (l2 : 154 < L)
    (hnext : ∀ FIG fvs wd tw o1' o2' m h' tk', Fr base L h' m → News base L h' [(FIG, listOf fvs.toArray fvs.length), (L + 1, o1'), (L + 2, o2'), (L + 3, o3), (L + 4, o4), (161, tabObj #[]), (154, tabObj #[])] → IntsAre fvs ((numF ns).map figF) →
      o1'.data = .cell (some (.ref FIG)) → o2'.data = .cell (some (.int wd tw)) → 0 ≤ wd → wd < 64 → L + 4 < FIG → LawRest w L fa cd 3 Q E { s with heap := h', toks := tk' }) :
    LawRest w L fa cd 0 Q E s := by
  have hsc := (rfl : lawScope = lawScope)
  conv at hsc => rhs; whnf
  have hb := (rfl : lawBody.drop 0 = lawBody.drop 0)
  conv at hb => rhs; whnf
  unfold LawRest lawEnv at *
  rw [hb]
  simp only [hsc] at hnext ⊢
  clear hb hsc
  iterate 34 (first | (k_unfold; (try dsimp only)) | (k_end; wrow_close) | walk1 | (dsimp only; walk1) | (leave1; walk_say "STEP leave1"; try dsimp only) | fail "no step")
  with_reducible rename Fr _ _ _ _ => F1
  with_reducible rename News _ _ _ _ => N1
  refine slice_K F1 N1 (.head _) (.cons _ _ (.cons _ _ (.cons _ _ (.cons _ _ .nil)))) (IsPart.int _ _) IsPart.none (by decide) ?_ (by with_unfolding_all rfl)
  intro D2 ws2 h2 F2 N2 lt2 i2
  have hn1 : (List.take 4 ns).length ≤ 4 := by rw [List.length_take]; omega
  have hn2 : (cutF [1, 1, 2, 3] (some ↑ns.length) none).length ≤ 4 := by
    unfold cutF
    rw [List.length_take, List.length_drop]
    show min _ (4 - _) ≤ 4
    omega
  refine kmk_add_ints F2 N2 (News.isList N2 (.tail _ (.tail _ (.head _)))) (News.isList N2 (.head _)) (by assumption) i2 ?_ (by rw [sizeLine_eq]; omega)
  intro NUM ws3 h3 F3 N3 lt3 i3
  clear F1 N1 F2 N2
  rw [show List.take 4 ns ++ cutF [1, 1, 2, 3] (some ↑ns.length) none = numF ns from rfl] at i3
  have hnl : (numF ns).length ≤ 8 := by unfold numF; rw [List.length_append]; omega
  generalize numF ns = numbers at i3 hnl hnext
  iterate 4 (first | (k_unfold; (try dsimp only)) | (k_end; wrow_close) | walk1 | (dsimp only; walk1) | (leave1; walk_say "STEP leave1"; try dsimp only) | fail "no step")
  with_reducible rename Fr _ _ _ _ => F4
  with_reducible rename News _ _ _ _ => N4
  have N5 := news_sub N4 (l' := (NUM, listOf ws3.toArray 0) :: [(L + 1, o1), (L + 2, o2), (L + 3, o3), (L + 4, o4), (161, tabObj #[]), (154, tabObj #[])]) (by
    (repeat' (first | exact sub_nil | exact sub_self | refine sub_cons ?_ ?_ | refine sub_app ?_ ?_ | exact List.Mem.head _ | refine List.Mem.tail _ ?_ | refine sub_tail ?_ | (refine sub_left ?_; (repeat (first | exact sub_self | refine sub_tail ?_)); done) | (refine sub_left ?_; refine sub_left ?_; exact sub_self) | (refine sub_left ?_; refine sub_right ?_; (repeat (first | exact sub_self | refine sub_tail ?_)); done) | (refine List.mem_append_left _ ?_; (repeat (first | exact List.Mem.head _ | refine List.Mem.tail _ ?_)); done) | (refine List.mem_append_left _ ?_; refine List.mem_append_right _ ?_; (repeat (first | exact List.Mem.head _ | refine List.Mem.tail _ ?_)); done) | refine sub_right ?_ | refine List.mem_append_right _ ?_)))
  clear N4 lt3 lt2
  refine ListComp_G (h₀ := base) (L := L) (by with_unfolding_all rfl) (by decide) (by rfl) (by decide) ?_
  iterate 1 (first | (k_unfold; (try dsimp only)) | (k_end; wrow_close) | walk1 | (dsimp only; walk1) | (leave1; walk_say "STEP leave1"; try dsimp only) | fail "no step")
  refine start_list (fun i ys nx => nx = _ ∧ IntsAre ys ((numbers.take i).map figF)) (by rfl) (by rfl) (by rfl) F4 N5 (.head _) ⟨rfl, .nil⟩ ?_ ?_ ?_ ?_
  · rintro i ys nx ⟨rfl, -⟩
    exact .head _
  · rintro i ys nx hi2 ⟨-, h2⟩
    rw [h2.length, List.length_map, List.length_take, sizeLine_eq]; omega
  · rintro C D i v ys m₂ oC I nx h tk own E' hv ⟨rfl, hys⟩ hm2 hoC ⟨oI, hoI⟩ hap F6 N6
    obtain ⟨x, t, rfl, hx⟩ := i3.at i v hv
    clear F4 N5 hnext
    dsimp only
    have et : (numbers.take (i + 1)).map figF = (numbers.take i).map figF ++ [figF x] := by rw [take_snoc hx, List.map_append]; rfl
    iterate 21 (first | (k_unfold; (try dsimp only)) | (k_end; wrow_close) | walk1 | (dsimp only; walk1) | (leave1; walk_say "STEP leave1"; try dsimp only) | fail "no step")
    · iterate 2 (first | (k_unfold; (try dsimp only)) | (k_end; wrow_close) | walk1 | (dsimp only; walk1) | (leave1; walk_say "STEP leave1"; try dsimp only) | fail "no step")
      have hx0 : 0 ≤ x := by omega
      refine CEndY.intro _ F6 N6 (fun p hp => hp) hoC trivial hap ⟨rfl, ?_⟩
      rw [et]
      refine hys.append ?_
      have e : figF x = (if x < 0 then -x else x).fmod (10 ^ Int.toNat 100) * 1 := by unfold figF figA; rw [if_pos hx0]
      rw [e]
      exact .cons _ _ .nil
    · iterate 4 (first | (k_unfold; (try dsimp only)) | (k_end; wrow_close) | walk1 | (dsimp only; walk1) | (leave1; walk_say "STEP leave1"; try dsimp only) | fail "no step")
      have hx0 : ¬ 0 ≤ x := by omega
      refine CEndY.intro _ F6 N6 (fun p hp => hp) hoC trivial hap ⟨rfl, ?_⟩
      rw [et]
      refine hys.append ?_
      have e : figF x = (if x < 0 then -x else x).fmod (10 ^ Int.toNat 100) * -1 := by unfold figF figA; rw [if_neg hx0]
      rw [e]
      exact .cons _ _ .nil
  · rintro s₂ FIG fvs nx ⟨hh2, rfl⟩ hD ⟨rfl, hys⟩ h tk F6 N6 hnx
    dsimp only
    have oF : ∀ p ∈ [(NUM, listOf ws3.toArray 0), (L + 1, o1), (L + 2, o2), (L + 3, o3), (L + 4, o4), (161, tabObj #[]), (154, tabObj #[])], @LT.lt Nat _ p.1 FIG := fun p hp => hD _ _ (N5 p hp).1
    clear F4 N5 hD hnx
    rw [i3.length, List.take_length] at hys
    have f4 : @LT.lt Nat _ (L + 4) FIG := oF (L + 4, o4) (by simp)
    have N7 := news_sub N6 (l' := (L + 1, o1) :: [(FIG, listOf fvs.toArray fvs.length), (L + 2, o2), (L + 3, o3), (L + 4, o4), (161, tabObj #[]), (154, tabObj #[])]) (by
      (repeat' (first | exact sub_nil | exact sub_self | refine sub_cons ?_ ?_ | refine sub_app ?_ ?_ | exact List.Mem.head _ | refine List.Mem.tail _ ?_ | refine sub_tail ?_ | (refine sub_left ?_; (repeat (first | exact sub_self | refine sub_tail ?_)); done) | (refine sub_left ?_; refine sub_left ?_; exact sub_self) | (refine sub_left ?_; refine sub_right ?_; (repeat (first | exact sub_self | refine sub_tail ?_)); done) | (refine List.mem_append_left _ ?_; (repeat (first | exact List.Mem.head _ | refine List.Mem.tail _ ?_)); done) | (refine List.mem_append_left _ ?_; refine List.mem_append_right _ ?_; (repeat (first | exact List.Mem.head _ | refine List.Mem.tail _ ?_)); done) | refine sub_right ?_ | refine List.mem_append_right _ ?_)))
    refine storeX_C F6 N7 (c := L + 1) rfl (.head ?_) d1 ?_ rfl rfl
    · intro p hp
      show ¬ @Eq Nat p.1 (L + 1)
      have l1' : @LT.lt Nat _ 161 L := l1
      have l2' : @LT.lt Nat _ 154 L := l2
      simp only [List.mem_cons, List.not_mem_nil, or_false] at hp
      rcases hp with rfl | rfl | rfl | rfl | rfl | rfl
      · show ¬ @Eq Nat FIG (L + 1); omega
      · show ¬ @Eq Nat (L + 2) (L + 1); omega
      · show ¬ @Eq Nat (L + 3) (L + 1); omega
      · show ¬ @Eq Nat (L + 4) (L + 1); omega
      · show ¬ @Eq Nat 161 (L + 1); omega
      · show ¬ @Eq Nat 154 (L + 1); omega
    · intro h8 o1' F8 N8 d1'
      clear F6 N6 N7
      dsimp only at N8 ⊢
      iterate 25 (first | (k_unfold; (try dsimp only)) | (k_end; wrow_close) | walk1 | (dsimp only; walk1) | (leave1; walk_say "STEP leave1"; try dsimp only) | fail "no step")
      with_reducible rename Fr _ _ _ _ => F9
      with_reducible rename News _ _ _ _ => N9
      have N10 := news_sub N9 (l' := (L + 2, o2) :: [(FIG, listOf fvs.toArray fvs.length), (L + 1, o1'), (L + 3, o3), (L + 4, o4), (161, tabObj #[]), (154, tabObj #[])]) (by
        (repeat' (first | exact sub_nil | exact sub_self | refine sub_cons ?_ ?_ | refine sub_app ?_ ?_ | exact List.Mem.head _ | refine List.Mem.tail _ ?_ | refine sub_tail ?_ | (refine sub_left ?_; (repeat (first | exact sub_self | refine sub_tail ?_)); done) | (refine sub_left ?_; refine sub_left ?_; exact sub_self) | (refine sub_left ?_; refine sub_right ?_; (repeat (first | exact sub_self | refine sub_tail ?_)); done) | (refine List.mem_append_left _ ?_; (repeat (first | exact List.Mem.head _ | refine List.Mem.tail _ ?_)); done) | (refine List.mem_append_left _ ?_; refine List.mem_append_right _ ?_; (repeat (first | exact List.Mem.head _ | refine List.Mem.tail _ ?_)); done) | refine sub_right ?_ | refine List.mem_append_right _ ?_)))
      refine storeX_C F9 N10 (c := L + 2) rfl (.head ?_) d2 ?_ rfl rfl
      · intro p hp
        show ¬ @Eq Nat p.1 (L + 2)
        have l1' : @LT.lt Nat _ 161 L := l1
        have l2' : @LT.lt Nat _ 154 L := l2
        simp only [List.mem_cons, List.not_mem_nil, or_false] at hp
        rcases hp with rfl | rfl | rfl | rfl | rfl | rfl
        · show ¬ @Eq Nat FIG (L + 2); omega
        · show ¬ @Eq Nat (L + 1) (L + 2); omega
        · show ¬ @Eq Nat (L + 3) (L + 2); omega
        · show ¬ @Eq Nat (L + 4) (L + 2); omega
        · show ¬ @Eq Nat 161 (L + 2); omega
        · show ¬ @Eq Nat 154 (L + 2); omega
      · intro h11 o2' F11 N11 d2'
        dsimp only at N11 ⊢
        have b1 := Int.fmod_nonneg_of_pos (if (List.drop 4 ns).sum < 0 then -(List.drop 4 ns).sum else (List.drop 4 ns).sum) (show (0 : Int) < 64 by decide)
        have b2 := Int.fmod_lt_of_pos (if (List.drop 4 ns).sum < 0 then -(List.drop 4 ns).sum else (List.drop 4 ns).sum) (show (0 : Int) < 64 by decide)
        refine hnext FIG fvs _ _ o1' o2' _ _ _ F11 (news_sub N11 ?_) hys d1' d2' b1 b2 f4
        (repeat' (first | exact sub_nil | exact sub_self | refine sub_cons ?_ ?_ | refine sub_app ?_ ?_ | exact List.Mem.head _ | refine List.Mem.tail _ ?_ | refine sub_tail ?_ | (refine sub_left ?_; (repeat (first | exact sub_self | refine sub_tail ?_)); done) | (refine sub_left ?_; refine sub_left ?_; exact sub_self) | (refine sub_left ?_; refine sub_right ?_; (repeat (first | exact sub_self | refine sub_tail ?_)); done) | (refine List.mem_append_left _ ?_; (repeat (first | exact List.Mem.head _ | refine List.Mem.tail _ ?_)); done) | (refine List.mem_append_left _ ?_; refine List.mem_append_right _ ?_; (repeat (first | exact List.Mem.head _ | refine List.Mem.tail _ ?_)); done) | refine sub_right ?_ | refine List.mem_append_right _ ?_))
def groundF (wd : Int) (figs : List Int) (k : Nat) : List Int := (List.range k).map fun i => ((figs.getD i 0).natAbs : Int) * 2 ^ (wd.toNat * i)
set_option maxRecDepth 100000 in
set_option maxHeartbeats 8000000 in
theorem law_2 {w : World} {mean : ExcName → Option Value} {mg mb : Str → Option Value} {L fa FIG : Addr} {cd : Value} {base : Heap} {s : Shared} {m : Str → Option Value} {Q : Flow → Shared → Prop} {E : Value → Shared → Prop} {o1 o2 o3 o4 : Obj} {fvs : List Value} {figs : List Int} {wd : Int} {tw : Tok}
    (Bl : Below callerA base [] base) (F : Fr base L s.heap m) (X : (hd.heap_1 w.params).In base)
    (N : News base L s.heap [(FIG, listOf fvs.toArray fvs.length), (L + 1, o1), (L + 2, o2), (L + 3, o3), (L + 4, o4), (161, tabObj #[]), (154, tabObj #[])]) (T : Top topProg LO mean mg mb base)
    (hf : IntsAre fvs figs) (h4 : figs.length = 4) (hfb : ∀ x ∈ figs, x.natAbs < 2 ^ 333) (d1 : o1.data = .cell (some (.ref FIG))) (d2 : o2.data = .cell (some (.int wd tw))) (hw0 : 0 ≤ wd) (hw1 : wd < 64) (l1 : 161 < L) (l2 : 154 < L) (hF : L + 4 < FIG)
    (hnext : ∀ g tg (m' : Str → Option Value) h' tk', Fr base L h' (fun y => if y = Str.ofString "ground" then some (.int g tg) else m' y) → g = (groundF wd figs 4).sum → News base L h' [(FIG, listOf fvs.toArray fvs.length), (L + 1, o1), (L + 2, o2), (L + 3, o3), (L + 4, o4), (161, tabObj #[]), (154, tabObj #[])] → LawRest w L fa cd 4 Q E { s with heap := h', toks := tk' }) :
    LawRest w L fa cd 3 Q E s := by
  have hsc := (rfl : lawScope = lawScope)
  conv at hsc => rhs; whnf
  have hb := (rfl : lawBody.drop 3 = lawBody.drop 3)
  conv at hb => rhs; whnf
  unfold LawRest lawEnv at *
  rw [hb]
  simp only [hsc] at hnext ⊢
  clear hb hsc
  iterate 6 (first | (k_unfold; (try dsimp only)) | (k_end; wrow_close) | walk1 | (dsimp only; walk1) | (leave1; walk_say "STEP leave1"; try dsimp only) | fail "no step")
  refine ListComp_G (h₀ := base) (L := L) (by with_unfolding_all rfl) (by decide) (by rfl) (by decide) ?_
  iterate 7 (first | (k_unfold; (try dsimp only)) | (k_end; wrow_close) | walk1 | (dsimp only; walk1) | (leave1; walk_say "STEP leave1"; try dsimp only) | fail "no step")
  rename IsRange _ _ _ _ _ _ _ _ => hr
  rename Fr _ _ _ _ => F1
  rename News _ _ _ _ => N1
  refine start_range (fun i ys nx => nx = [(FIG, listOf fvs.toArray fvs.length), (L + 1, o1), (L + 2, o2), (L + 3, o3), (L + 4, o4), (161, tabObj #[]), (154, tabObj #[])] ∧ IntsAre ys (groundF wd figs i)) (by rfl) (by rfl) (by rfl) F1 N1 hr (by decide) (n := 4) (by decide) ⟨rfl, .nil⟩ ?_ ?_ ?_
  · rintro i ys nx hi ⟨-, h2⟩
    rw [h2.length, groundF, List.length_map, List.length_range, sizeLine_eq]; omega
  · rintro C D i ti ys m₂ oC I nx h tk own E' hi ⟨rfl, hys⟩ hm2 hoC ⟨oI, hoI⟩ hap F3 N3
    clear F1 N1 hr hnext
    dsimp only
    have hmF : (FIG, listOf fvs.toArray fvs.length) ∈ own ++ [(C, oC), (D, LCg.lst ys), (FIG, listOf fvs.toArray fvs.length), (L + 1, o1), (L + 2, o2), (L + 3, o3), (L + 4, o4), (161, tabObj #[]), (154, tabObj #[])] := List.mem_append_right _ (.tail _ (.tail _ (.head _)))
    have hmF1 : (L + 1, o1) ∈ own ++ [(C, oC), (D, LCg.lst ys), (FIG, listOf fvs.toArray fvs.length), (L + 1, o1), (L + 2, o2), (L + 3, o3), (L + 4, o4), (161, tabObj #[]), (154, tabObj #[])] := List.mem_append_right _ (.tail _ (.tail _ (.tail _ (.head _))))
    have hmF2 : (L + 2, o2) ∈ own ++ [(C, oC), (D, LCg.lst ys), (FIG, listOf fvs.toArray fvs.length), (L + 1, o1), (L + 2, o2), (L + 3, o3), (L + 4, o4), (161, tabObj #[]), (154, tabObj #[])] := List.mem_append_right _ (.tail _ (.tail _ (.tail _ (.tail _ (.head _)))))
    iterate 8 (first | (k_unfold; (try dsimp only)) | (k_end; wrow_close) | walk1 | (dsimp only; walk1) | (leave1; walk_say "STEP leave1"; try dsimp only) | fail "no step")
    refine item_anyK (News.isList N3 hmF) hf (by omega) (by omega) (by omega) ?_
    intro t5
    iterate 6 (first | (k_unfold; (try dsimp only)) | (k_end; wrow_close) | walk1 | (dsimp only; walk1) | (leave1; walk_say "STEP leave1"; try dsimp only) | fail "no step")
    have e0 : ((0 : Int) + (i : Int)).toNat = i := by omega
    have ei : i < figs.length := by omega
    have hx : figs.getD i 0 ∈ figs := by rw [List.getD_eq_getElem?_getD, List.getElem?_eq_getElem ei]; exact List.getElem_mem ei
    have hb1 := hfb _ hx
    have e1 : (wd * (0 + (i : Int))).toNat = wd.toNat * i := by
      obtain ⟨k, rfl⟩ := Int.eq_ofNat_of_zero_le hw0
      rw [Int.zero_add, ← Int.natCast_mul, Int.toNat_natCast, Int.toNat_natCast]
    have e2 : ∀ x : Int, (if x < 0 then -x else x) = (x.natAbs : Int) := by intro x; split <;> omega
    have hwi : 0 ≤ wd * (0 + (i : Int)) ∧ wd * (0 + (i : Int)) ≤ 189 := by
      obtain rfl | rfl | rfl | rfl : i = 0 ∨ i = 1 ∨ i = 2 ∨ i = 3 := by omega
      · omega
      · omega
      · omega
      · omega
    rw [e0, e2]
    have hbb : Builtin.Int.intBits ((figs.getD i 0).natAbs : Int) ≤ 333 := bits_le (by rw [Int.natAbs_natCast]; exact hb1)
    refine lshift_int hwi.1 (by omega) ?_
    refine CEndY.intro _ F3 N3 (fun p hp => hp) hoC trivial hap ⟨rfl, ?_⟩
    rw [e1]
    unfold groundF at hys ⊢
    rw [List.range_succ, List.map_append]
    exact hys.append (.cons _ _ .nil)
  · rintro s₂ D ys nx ⟨hh2, rfl⟩ hD ⟨rfl, hys⟩ h tk F3 N3 hnx
    dsimp only
    clear F1 N1 hr
    iterate 3 (first | (k_unfold; (try dsimp only)) | (k_end; wrow_close) | walk1 | (dsimp only; walk1) | (leave1; walk_say "STEP leave1"; try dsimp only) | fail "no step")
    with_reducible rename Fr _ _ _ _ => F4
    with_reducible rename News _ _ _ _ => N4
    refine hnext _ _ _ _ _ F4 rfl (news_sub N4 ?_)
    intro p hp
    exact .tail _ hp
/-- the digits of a number at one bit; the row; the bag's number; whose bag -/
noncomputable def onesF (k : Nat) : List Int := digF 1 ((Builtin.Int.intBits (0 + (k : Nat)) + 1 - 1) / 1) (0 + (k : Nat))
noncomputable def rowF (figs : List Int) (k : Nat) : List Int := List.zipWith (· * ·) (onesF k) figs
noncomputable def numbF (g : Int) (wd : Nat) (figs : List Int) (k : Nat) : Int := g + d2iF wd (rowF figs k)
noncomputable def bagF (g : Int) (wd : Nat) (figs : List Int) (par : Int) (i : Nat) : List Int := ((List.range i).filter fun k => (onesF k).sum.fmod 2 == par).map (numbF g wd figs)
theorem bagF_succ (g : Int) (wd : Nat) (figs : List Int) (par : Int) (i : Nat) : bagF g wd figs par (i + 1) = if (onesF i).sum.fmod 2 = par then bagF g wd figs par i ++ [numbF g wd figs i] else bagF g wd figs par i := by
  unfold bagF
  rw [List.range_succ, List.filter_append, List.map_append]
  by_cases h : (onesF i).sum.fmod 2 = par
  · rw [if_pos h, List.filter_cons_of_pos (by simpa using h)]; rfl
  · rw [if_neg h, List.filter_cons_of_neg (by simpa using h)]; simp
theorem onesF_le {k : Nat} (h : k < 16) : (onesF k).length ≤ 4 ∧ ∀ x ∈ onesF k, x.natAbs ≤ 1 := by
  have all : ∀ k < 16, (onesF k).length ≤ 4 ∧ ∀ x ∈ onesF k, x.natAbs ≤ 1 := by decide +kernel
  exact all k h
theorem rowF_lt {figs : List Int} (hfb : ∀ x ∈ figs, x.natAbs < 2 ^ 333) {k : Nat} (hk : k < 16) : ∀ x ∈ rowF figs k, x.natAbs < 2 ^ 333 := by
  intro x hx
  obtain ⟨j, hj⟩ := List.mem_iff_getElem?.mp hx
  unfold rowF at hj
  rw [List.getElem?_zipWith] at hj
  cases h1 : (onesF k)[j]? with
  | none => rw [h1] at hj; cases hj
  | some a =>
    cases h2 : figs[j]? with
    | none => rw [h1, h2] at hj; cases hj
    | some b =>
      rw [h1, h2] at hj
      cases hj
      rw [Int.natAbs_mul]
      exact Nat.lt_of_le_of_lt (Nat.le_trans (Nat.mul_le_mul_right _ ((onesF_le hk).2 a (List.mem_of_getElem? h1))) (by rw [Nat.one_mul]; exact Nat.le_refl _)) (hfb b (List.mem_of_getElem? h2))
abbrev Dj (es1 es2 : List (Addr × Obj)) (rest : List Addr) : Prop := (∀ e ∈ es1, ∀ q ∈ es2, q.1 ≠ e.1) ∧ (∀ e ∈ es1, ∀ a ∈ rest, a ≠ e.1) ∧ (∀ e ∈ es2, ∀ a ∈ rest, a ≠ e.1)
theorem off_adrs {l : List (Addr × Obj)} {x : Addr} (h : ∀ a ∈ l.map (·.1), a ≠ x) : ∀ q ∈ l, q.1 ≠ x := fun q hq => h _ (List.mem_map_of_mem hq)
abbrev D2T := TabSt 161 (Str.ofString "_digits2int.<locals>.inner") 147 4
abbrev I2T := TabSt 154 (Str.ofString "_int2digits.<locals>.inner") 129 4
def staleN : List Str := [Str.ofString "number", Str.ofString "ones", Str.ofString "row"]
theorem stale_num {m₁ base : Str → Option Value} {v : Option Value} (hm : ∀ z, z ∉ staleN → m₁ z = base z) :
    (fun y => if y = Str.ofString "number" then v else m₁ y) = fun y => if y = Str.ofString "number" then v else if y = Str.ofString "ones" then m₁ y else if y = Str.ofString "row" then m₁ y else base y := by
  funext y
  by_cases h1 : y = Str.ofString "number"; · simp only [if_pos h1]
  by_cases h2 : y = Str.ofString "ones"; · simp only [if_neg h1, if_pos h2]
  by_cases h3 : y = Str.ofString "row"; · simp only [if_neg h1, if_neg h2, if_pos h3]
  simp only [if_neg h1, if_neg h2, if_neg h3]
  exact hm y (by unfold staleN; simp only [List.mem_cons, List.not_mem_nil, or_false, not_or]; exact ⟨h1, h2, h3⟩)
theorem stale_num_out {m₁ base : Str → Option Value} (hm : ∀ z, z ∉ staleN → m₁ z = base z) :
    m₁ = fun y => if y = Str.ofString "number" then m₁ y else if y = Str.ofString "ones" then m₁ y else if y = Str.ofString "row" then m₁ y else base y := by
  funext y
  by_cases h1 : y = Str.ofString "number"; · simp only [if_pos h1]
  by_cases h2 : y = Str.ofString "ones"; · simp only [if_neg h1, if_pos h2]
  by_cases h3 : y = Str.ofString "row"; · simp only [if_neg h1, if_neg h2, if_pos h3]
  simp only [if_neg h1, if_neg h2, if_neg h3]
  exact hm y (by unfold staleN; simp only [List.mem_cons, List.not_mem_nil, or_false, not_or]; exact ⟨h1, h2, h3⟩)
set_option maxRecDepth 100000 in
set_option maxHeartbeats 1000000 in
theorem law_3 {w : World} {mean : ExcName → Option Value} {mg mb : Str → Option Value} {L fa FIG : Addr} {cd : Value} {base : Heap} {s : Shared} {m : Str → Option Value} {Q : Flow → Shared → Prop} {E : Value → Shared → Prop} {o1 o2 o3 o4 : Obj} {fvs : List Value} {figs : List Int} {g : Int} {wn : Nat} {tw tg : Tok}
    (Bl : Below callerA base [] base) (F : Fr base L s.heap (fun y => if y = Str.ofString "ground" then some (.int g tg) else m y)) (X : (hd.heap_1 w.params).In base)
    (N : News base L s.heap [(FIG, listOf fvs.toArray fvs.length), (L + 1, o1), (L + 2, o2), (L + 3, o3), (L + 4, o4), (161, tabObj #[]), (154, tabObj #[])]) (T : Top topProg LO mean mg mb base)
    (CH1 : CodeHd base 165 161) (CH2 : CodeHd base 158 154)
    (hf : IntsAre fvs figs) (h4 : figs.length = 4) (hfb : ∀ x ∈ figs, x.natAbs < 2 ^ 333) (d1 : o1.data = .cell (some (.ref FIG))) (d2 : o2.data = .cell (some (.int wn tw))) (hw1 : wn < 64) (l1 : 161 < L) (l2 : 154 < L) (hF : L + 4 < FIG)
    (hnext : ∀ EV OD evs ovs ce co es1 es2 (m' : Str → Option Value) h' tk', Fr base L h' (fun y => if y = Str.ofString "odd" then some (.ref OD) else if y = Str.ofString "even" then some (.ref EV) else m' y) → D2T es1 → I2T es2 → Dj es1 es2 [EV, OD, FIG, L + 1, L + 2, L + 3, L + 4] → FIG < EV → EV < OD →
      News base L h' (es1 ++ (es2 ++ [(EV, listOf evs.toArray ce), (OD, listOf ovs.toArray co), (FIG, listOf fvs.toArray fvs.length), (L + 1, o1), (L + 2, o2), (L + 3, o3), (L + 4, o4)])) → IntsAre evs (bagF g wn figs 0 16) → IntsAre ovs (bagF g wn figs 1 16) → LawRest w L fa cd 7 Q E { s with heap := h', toks := tk' }) :
    LawRest w L fa cd 4 Q E s := by
  have hsc := (rfl : lawScope = lawScope)
  conv at hsc => rhs; whnf
  have hb := (rfl : lawBody.drop 4 = lawBody.drop 4)
  conv at hb => rhs; whnf
  unfold LawRest lawEnv at *
  rw [hb]
  simp only [hsc] at hnext ⊢
  clear hb hsc
  iterate 12 (first | (k_unfold; (try dsimp only)) | (k_end; wrow_close) | walk1 | (dsimp only; walk1) | (leave1; walk_say "STEP leave1"; try dsimp only) | fail "no step")
  with_reducible rename _ < _ ∧ _ < _ ∧ _ < _ ∧ _ < _ ∧ _ < _ ∧ _ < _ ∧ _ < _ ∧ _ < _ => ltOD
  iterate 4 (first | (k_unfold; (try dsimp only)) | (k_end; wrow_close) | walk1 | (dsimp only; walk1) | (leave1; walk_say "STEP leave1"; try dsimp only) | fail "no step")
  with_reducible rename Fr _ _ _ _ => F1
  with_reducible rename News _ _ _ _ => N1
  rename_i EV h5 ltEV OD h6 BG h7 ltBG h8
  have hNe : News base L h8 ([(161, tabObj #[])] ++ ([(154, tabObj #[])] ++ (EV, listOf (List.toArray []) 0) :: (OD, listOf (List.toArray []) 0) :: (BG, listOf #[.ref EV, .ref OD] 0) :: [(FIG, listOf fvs.toArray fvs.length), (L + 1, o1), (L + 2, o2), (L + 3, o3), (L + 4, o4)])) := news_sub N1 (by
    (repeat' (first | exact sub_nil | exact sub_self | refine sub_cons ?_ ?_ | refine sub_app ?_ ?_ | exact List.Mem.head _ | refine List.Mem.tail _ ?_ | refine sub_tail ?_ | (refine sub_left ?_; (repeat (first | exact sub_self | refine sub_tail ?_)); done) | (refine sub_left ?_; refine sub_left ?_; exact sub_self) | (refine sub_left ?_; refine sub_right ?_; (repeat (first | exact sub_self | refine sub_tail ?_)); done) | (refine List.mem_append_left _ ?_; (repeat (first | exact List.Mem.head _ | refine List.Mem.tail _ ?_)); done) | (refine List.mem_append_left _ ?_; refine List.mem_append_right _ ?_; (repeat (first | exact List.Mem.head _ | refine List.Mem.tail _ ?_)); done) | refine sub_right ?_ | refine List.mem_append_right _ ?_)))
  clear N1
  have hDj0 : Dj [((161 : Addr), tabObj #[])] [((154 : Addr), tabObj #[])] [EV, OD, BG, FIG, L + 1, L + 2, L + 3, L + 4] := by
    have q1 : @LT.lt Nat _ 161 L := l1
    have q2 : @LT.lt Nat _ 154 L := l2
    have q3 : @LT.lt Nat _ (L + 4) FIG := hF
    have q4 : @LT.lt Nat _ FIG EV := ltEV.1
    have q5 : @LT.lt Nat _ EV OD := ltOD.1
    have q6 : @LT.lt Nat _ OD BG := ltBG.1
    refine ⟨?_, ?_, ?_⟩
    · intro e he q hq
      rw [List.mem_singleton.mp he, List.mem_singleton.mp hq]; decide
    · intro e he a ha
      rw [List.mem_singleton.mp he]
      show ¬ @Eq Nat a 161
      simp only [List.mem_cons, List.not_mem_nil, or_false] at ha
      have ha' : @Eq Nat a EV ∨ @Eq Nat a OD ∨ @Eq Nat a BG ∨ @Eq Nat a FIG ∨ @Eq Nat a (L + 1) ∨ @Eq Nat a (L + 2) ∨ @Eq Nat a (L + 3) ∨ @Eq Nat a (L + 4) := ha
      omega
    · intro e he a ha
      rw [List.mem_singleton.mp he]
      show ¬ @Eq Nat a 154
      simp only [List.mem_cons, List.not_mem_nil, or_false] at ha
      have ha' : @Eq Nat a EV ∨ @Eq Nat a OD ∨ @Eq Nat a BG ∨ @Eq Nat a FIG ∨ @Eq Nat a (L + 1) ∨ @Eq Nat a (L + 2) ∨ @Eq Nat a (L + 3) ∨ @Eq Nat a (L + 4) := ha
      omega
  have oEO : @LT.lt Nat _ EV OD := ltOD.1
  have oOB : @LT.lt Nat _ OD BG := ltBG.1
  have oFE : @LT.lt Nat _ FIG EV := ltEV.1
  have hF' : @LT.lt Nat _ (L + 4) FIG := hF
  refine For_rangeM ?_
  iterate 7 (first | (k_unfold; (try dsimp only)) | (k_end; wrow_close) | walk1 | (dsimp only; walk1) | (leave1; walk_say "STEP leave1"; try dsimp only) | fail "no step")
  with_reducible rename IsRange _ _ _ _ _ _ _ _ => hr
  with_reducible rename Fr _ _ _ _ => F2
  with_reducible rename News _ _ _ _ => N2
  refine range_loop (h₀ := base) (n := 16) (fun i m₁ nx => (∃ es1 es2 evs ovs ce co, nx = es1 ++ (es2 ++ (EV, listOf (List.toArray evs) ce) :: (OD, listOf (List.toArray ovs) co) :: (BG, listOf #[.ref EV, .ref OD] 0) :: [(FIG, listOf fvs.toArray fvs.length), (L + 1, o1), (L + 2, o2), (L + 3, o3), (L + 4, o4)]) ∧ D2T es1 ∧ I2T es2 ∧ Dj es1 es2 [EV, OD, BG, FIG, L + 1, L + 2, L + 3, L + 4] ∧ IntsAre evs (bagF g wn figs 0 i) ∧ IntsAre ovs (bagF g wn figs 1 i)) ∧ ∀ z, z ∉ staleN → m₁ z = (fun y => if y = Str.ofString "bags" then some (.ref BG) else if y = Str.ofString "ground" then some (.int g tg) else m y) z) (by rfl) (by rfl) (by rfl) F2 N2 hr (by decide) (by decide) ⟨⟨_, _, _, _, _, _, rfl, .fresh, .fresh, hDj0, .nil, .nil⟩, fun _ _ => rfl⟩ ?_ ?_
  · rintro I oI i ti m₁ nx h tk E' hi ⟨⟨es1, es2, evs, ovs, ce, co, rfl, t1, t2, hD, hev, hod⟩, hm⟩ hoffI hltI F3 N3
    rw [stale_num hm] at F3
    clear F2 N2 hr hnext
    k_fold
    iterate 11 (first | (k_unfold; (try dsimp only)) | (k_end; wrow_close) | walk1 | (dsimp only; walk1) | (leave1; walk_say "STEP leave1"; try dsimp only) | fail "no step")
    have hIe : ∀ e ∈ es1 ++ es2, I ≠ e.1 := fun e he q => hoffI e (by
      rcases List.mem_append.mp he with he | he
      · exact List.mem_append_left _ he
      · exact List.mem_append_right _ (List.mem_append_left _ he)) q.symm
    have N4 := news_sub N3 (l' := es2 ++ ((I, oI) :: (es1 ++ (EV, listOf (List.toArray evs) ce) :: (OD, listOf (List.toArray ovs) co) :: (BG, listOf #[.ref EV, .ref OD] 0) :: [(FIG, listOf fvs.toArray fvs.length), (L + 1, o1), (L + 2, o2), (L + 3, o3), (L + 4, o4)]))) (by
      (repeat' (first | exact sub_nil | exact sub_self | refine sub_cons ?_ ?_ | refine sub_app ?_ ?_ | exact List.Mem.head _ | refine List.Mem.tail _ ?_ | refine sub_tail ?_ | (refine sub_left ?_; (repeat (first | exact sub_self | refine sub_tail ?_)); done) | (refine sub_left ?_; refine sub_left ?_; exact sub_self) | (refine sub_left ?_; refine sub_right ?_; (repeat (first | exact sub_self | refine sub_tail ?_)); done) | (refine List.mem_append_left _ ?_; (repeat (first | exact List.Mem.head _ | refine List.Mem.tail _ ?_)); done) | (refine List.mem_append_left _ ?_; refine List.mem_append_right _ ?_; (repeat (first | exact List.Mem.head _ | refine List.Mem.tail _ ?_)); done) | refine sub_right ?_ | refine List.mem_append_right _ ?_)))
    have hne2 : ∀ e ∈ es2, ∀ q ∈ (I, oI) :: (es1 ++ (EV, listOf (List.toArray evs) ce) :: (OD, listOf (List.toArray ovs) co) :: (BG, listOf #[.ref EV, .ref OD] 0) :: [(FIG, listOf fvs.toArray fvs.length), (L + 1, o1), (L + 2, o2), (L + 3, o3), (L + 4, o4)]), q.1 ≠ e.1 := by
      intro e he q hq
      rcases List.mem_cons.mp hq with rfl | hq
      · exact hIe e (List.mem_append_right _ he)
      · rcases List.mem_append.mp hq with hq | hq
        · exact (hD.1 q hq e he).symm
        · exact hD.2.2 e he _ (List.mem_map_of_mem (f := (·.1)) hq)
    refine c_i2d (B := 5) (by k_asm) F3 (by k_asm) N4 (by k_asm) (by exact rfl) CH2 t2 hne2 (by omega) (by omega) (by decide) (by decide) (by decide) (by decide) (by ktr_room) (by ktr_units) ?_
    intro es2' ro ovals cr t0 h5 tk5 t2' hne2' hlt' i5 _ F5 N5
    clear F3 N3 N4
    iterate 3 (first | (k_unfold; (try dsimp only)) | (k_end; wrow_close) | walk1 | (dsimp only; walk1) | (leave1; walk_say "STEP leave1"; try dsimp only) | fail "no step")
    refine Assign_ListComp_G (h₀ := base) (L := L) rfl (by with_unfolding_all rfl) (by with_unfolding_all rfl) (by decide) (by rfl) (by decide) (by rfl) (by rfl) ?_
    iterate 8 (first | (k_unfold; (try dsimp only)) | (k_end; wrow_close) | walk1 | (dsimp only; walk1) | (leave1; walk_say "STEP leave1"; try dsimp only) | fail "no step")
    with_reducible rename Fr _ _ _ _ => F6
    with_reducible rename News _ _ _ _ => N6
    have i5' : IntsAre ovals (onesF i) := i5
    clear i5
    have hol := onesF_le hi
    have hov : ovals.length = (onesF i).length := i5'.length
    have hfv : fvs.length = 4 := by rw [hf.length, h4]
    refine start_zip (fun j ys nx => nx = es2' ++ (ro, listOf ovals.toArray cr) :: (I, oI) :: (es1 ++ (EV, listOf (List.toArray evs) ce) :: (OD, listOf (List.toArray ovs) co) :: (BG, listOf #[.ref EV, .ref OD] 0) :: [(FIG, listOf fvs.toArray fvs.length), (L + 1, o1), (L + 2, o2), (L + 3, o3), (L + 4, o4)]) ∧ IntsAre ys ((rowF figs i).take j)) (by rfl) (by rfl) (by rfl) (by rfl) F6 N6 (List.mem_append_right _ (.head _)) (List.mem_append_right _ (.tail _ (.tail _ (List.mem_append_right _ (.tail _ (.tail _ (.tail _ (.head _)))))))) ⟨rfl, .nil⟩ ?_ ?_ ?_
    · rintro j ys nx hj ⟨-, h2⟩
      rw [h2.length, List.length_take, sizeLine_eq]; omega
    · rintro C D j x y ys m₂ oC nx h9 tk9 own E9 hj hx hy ⟨rfl, hys⟩ hma hmb hoC hoD hap hwo F7 N7
      obtain ⟨xn, xt, rfl, hxn⟩ := i5'.at j x hx
      obtain ⟨yn, yt, rfl, hyn⟩ := hf.at j y hy
      clear F6 N6
      rw [if_neg (by decide)] at hma
      k_fold
      iterate 3 (first | (k_unfold; (try dsimp only)) | (k_end; wrow_close) | walk1 | (dsimp only; walk1) | (leave1; walk_say "STEP leave1"; try dsimp only) | fail "no step")
      have hm1 := hol.2 xn (List.mem_of_getElem? hxn)
      have hm2 := hfb yn (List.mem_of_getElem? hyn)
      refine mul_int ?_ (mul_ok (p := 1) (q := 333) (bits_le (by omega)) (bits_le hm2) (by decide))
      refine CEndY.intro _ F7 N7 (fun p hp => hp) hoC trivial hap ⟨rfl, ?_⟩
      have hrj : (rowF figs i)[j]? = some (xn * yn) := by
        unfold rowF
        rw [List.getElem?_zipWith, hxn, hyn]
      rw [take_snoc hrj]
      exact hys.append (.cons _ _ .nil)
    · rintro s₂ D ys nx ⟨hh2, rfl⟩ hDn ⟨rfl, hys⟩ h9 tk9 F7 N7 hnx
      dsimp only
      have oD : ∀ p ∈ es2' ++ (ro, listOf ovals.toArray cr) :: (I, oI) :: (es1 ++ (EV, listOf (List.toArray evs) ce) :: (OD, listOf (List.toArray ovs) co) :: (BG, listOf #[.ref EV, .ref OD] 0) :: [(FIG, listOf fvs.toArray fvs.length), (L + 1, o1), (L + 2, o2), (L + 3, o3), (L + 4, o4)]), @LT.lt Nat _ p.1 D := fun p hp => hDn _ _ (N6 p hp).1
      clear F6 N6 hDn
      rw [hov, hf.length, show min (onesF i).length figs.length = (rowF figs i).length by unfold rowF; rw [List.length_zipWith], List.take_length] at hys
      have hmO := news_has N7 (p := (ro, listOf ovals.toArray cr)) (.tail _ (List.mem_append_right _ (.head _)))
      have hmB := news_has N7 (p := (BG, listOf #[.ref EV, .ref OD] 0)) (.tail _ (List.mem_append_right _ (.tail _ (.tail _ (List.mem_append_right _ (.tail _ (.tail _ (.head _))))))))
      iterate 15 (first | (k_unfold; (try dsimp only)) | (k_end; wrow_close) | walk1 | (dsimp only; walk1) | (leave1; walk_say "STEP leave1"; try dsimp only) | fail "no step")
      with_reducible rename Fr _ _ _ _ => F8
      with_reducible rename News _ _ _ _ => N8
      have q1 := Int.fmod_nonneg_of_pos (onesF i).sum (show (0 : Int) < 2 by decide)
      have q2 := Int.fmod_lt_of_pos (onesF i).sum (show (0 : Int) < 2 by decide)
      have N9 := news_sub N8 (l' := es1 ++ ((D, LCg.lst ys) :: (ro, listOf ovals.toArray cr) :: (I, oI) :: (es2' ++ (EV, listOf (List.toArray evs) ce) :: (OD, listOf (List.toArray ovs) co) :: (BG, listOf #[.ref EV, .ref OD] 0) :: [(FIG, listOf fvs.toArray fvs.length), (L + 1, o1), (L + 2, o2), (L + 3, o3), (L + 4, o4)]))) (by
        (repeat' (first | exact sub_nil | exact sub_self | refine sub_cons ?_ ?_ | refine sub_app ?_ ?_ | exact List.Mem.head _ | refine List.Mem.tail _ ?_ | refine sub_tail ?_ | (refine sub_left ?_; (repeat (first | exact sub_self | refine sub_tail ?_)); done) | (refine sub_left ?_; refine sub_left ?_; exact sub_self) | (refine sub_left ?_; refine sub_right ?_; (repeat (first | exact sub_self | refine sub_tail ?_)); done) | (refine List.mem_append_left _ ?_; (repeat (first | exact List.Mem.head _ | refine List.Mem.tail _ ?_)); done) | (refine List.mem_append_left _ ?_; refine List.mem_append_right _ ?_; (repeat (first | exact List.Mem.head _ | refine List.Mem.tail _ ?_)); done) | refine sub_right ?_ | refine List.mem_append_right _ ?_)))
      have hne1 : ∀ e ∈ es1, ∀ q ∈ (D, LCg.lst ys) :: (ro, listOf ovals.toArray cr) :: (I, oI) :: (es2' ++ (EV, listOf (List.toArray evs) ce) :: (OD, listOf (List.toArray ovs) co) :: (BG, listOf #[.ref EV, .ref OD] 0) :: [(FIG, listOf fvs.toArray fvs.length), (L + 1, o1), (L + 2, o2), (L + 3, o3), (L + 4, o4)]), q.1 ≠ e.1 := by
        intro e he q hq
        rcases List.mem_cons.mp hq with rfl | hq
        · exact Nat.ne_of_gt (oD e (List.mem_append_right _ (.tail _ (.tail _ (List.mem_append_left _ he)))))
        rcases List.mem_cons.mp hq with rfl | hq
        · exact Nat.ne_of_gt (hlt' e (List.mem_append_right _ (.tail _ (List.mem_append_left _ he))))
        rcases List.mem_cons.mp hq with rfl | hq
        · exact hIe e (List.mem_append_left _ he)
        rcases List.mem_append.mp hq with hq | hq
        · exact (hne2' q hq e (.tail _ (.tail _ (List.mem_append_left _ he)))).symm
        · exact hD.2.1 e he _ (List.mem_map_of_mem (f := (·.1)) hq)
      have hrl : (rowF figs i).length ≤ 100 := by unfold rowF; rw [List.length_zipWith]; omega
      have hIa : ∀ a ∈ [EV, OD, BG, FIG, L + 1, L + 2, L + 3, L + 4], a ≠ I := fun a ha => by
        obtain ⟨q, hq, rfl⟩ := List.mem_map.mp (show a ∈ ((EV, listOf (List.toArray evs) ce) :: (OD, listOf (List.toArray ovs) co) :: (BG, listOf #[.ref EV, .ref OD] 0) :: [(FIG, listOf fvs.toArray fvs.length), (L + 1, o1), (L + 2, o2), (L + 3, o3), (L + 4, o4)]).map (·.1) from ha)
        exact hoffI q (List.mem_append_right _ (List.mem_append_right _ hq))
      have h2a : ∀ e ∈ es2', ∀ a ∈ [EV, OD, BG, FIG, L + 1, L + 2, L + 3, L + 4], a ≠ e.1 := fun e he a ha => by
        obtain ⟨q, hq, rfl⟩ := List.mem_map.mp (show a ∈ ((EV, listOf (List.toArray evs) ce) :: (OD, listOf (List.toArray ovs) co) :: (BG, listOf #[.ref EV, .ref OD] 0) :: [(FIG, listOf fvs.toArray fvs.length), (L + 1, o1), (L + 2, o2), (L + 3, o3), (L + 4, o4)]).map (·.1) from ha)
        exact hne2' e he q (.tail _ (.tail _ (List.mem_append_right _ hq)))
      have hDa : ∀ a ∈ [EV, OD, BG, FIG, L + 1, L + 2, L + 3, L + 4], @LT.lt Nat _ a D := fun a ha => by
        obtain ⟨q, hq, rfl⟩ := List.mem_map.mp (show a ∈ ((EV, listOf (List.toArray evs) ce) :: (OD, listOf (List.toArray ovs) co) :: (BG, listOf #[.ref EV, .ref OD] 0) :: [(FIG, listOf fvs.toArray fvs.length), (L + 1, o1), (L + 2, o2), (L + 3, o3), (L + 4, o4)]).map (·.1) from ha)
        exact oD q (List.mem_append_right _ (.tail _ (.tail _ (List.mem_append_right _ hq))))
      have hra : ∀ a ∈ [EV, OD, BG, FIG, L + 1, L + 2, L + 3, L + 4], @LT.lt Nat _ a ro := fun a ha => by
        obtain ⟨q, hq, rfl⟩ := List.mem_map.mp (show a ∈ ((EV, listOf (List.toArray evs) ce) :: (OD, listOf (List.toArray ovs) co) :: (BG, listOf #[.ref EV, .ref OD] 0) :: [(FIG, listOf fvs.toArray fvs.length), (L + 1, o1), (L + 2, o2), (L + 3, o3), (L + 4, o4)]).map (·.1) from ha)
        exact hlt' q (List.mem_append_right _ (.tail _ (List.mem_append_right _ hq)))
      rcases (show (onesF i).sum.fmod 2 = 0 ∨ (onesF i).sum.fmod 2 = 1 by omega) with hp0 | hp1
      · rw [hp0]
        refine item_litK (vs := [.ref EV, .ref OD]) (News.isList N8 hmB) (by decide) (by decide) rfl ?_
        have hmX := news_has N8 (p := (EV, listOf (List.toArray evs) ce)) (.tail _ (List.mem_append_right _ (.tail _ (.tail _ (List.mem_append_right _ (.head _))))))
        have hmW := news_has N8 (p := (L + 2, o2)) (.tail _ (List.mem_append_right _ (.tail _ (.tail _ (List.mem_append_right _ (.tail _ (.tail _ (.tail _ (.tail _ (.tail _ (.head _)))))))))))
        iterate 14 (first | (k_unfold; (try dsimp only)) | (k_end; wrow_close) | walk1 | (dsimp only; walk1) | (leave1; walk_say "STEP leave1"; try dsimp only) | fail "no step")
        refine c_d2i (B := 333) (by k_asm) F8 (by k_asm) N9 (by k_asm) (by exact rfl) CH1 t1 hne1 (.head _) hys hrl (rowF_lt hfb hi) (by decide) (by omega) (by ktr_room) (by ktr_units) ?_
        intro es1' tz h10 tk10 t1' hne1' F10 N10
        iterate 2 (first | (k_unfold; (try dsimp only)) | (k_end; wrow_close) | walk1 | (dsimp only; walk1) | (leave1; walk_say "STEP leave1"; try dsimp only) | fail "no step")
        have N11 := news_sub N10 (l' := (es1' ++ ((D, LCg.lst ys) :: (ro, listOf ovals.toArray cr) :: (I, oI) :: es2')) ++ (EV, listOf (List.toArray evs) ce) :: (OD, listOf (List.toArray ovs) co) :: (BG, listOf #[.ref EV, .ref OD] 0) :: [(FIG, listOf fvs.toArray fvs.length), (L + 1, o1), (L + 2, o2), (L + 3, o3), (L + 4, o4)]) (by
          (repeat' (first | exact sub_nil | exact sub_self | refine sub_cons ?_ ?_ | refine sub_app ?_ ?_ | exact List.Mem.head _ | refine List.Mem.tail _ ?_ | refine sub_tail ?_ | (refine sub_left ?_; (repeat (first | exact sub_self | refine sub_tail ?_)); done) | (refine sub_left ?_; refine sub_left ?_; exact sub_self) | (refine sub_left ?_; refine sub_right ?_; (repeat (first | exact sub_self | refine sub_tail ?_)); done) | (refine List.mem_append_left _ ?_; (repeat (first | exact List.Mem.head _ | refine List.Mem.tail _ ?_)); done) | (refine List.mem_append_left _ ?_; refine List.mem_append_right _ ?_; (repeat (first | exact List.Mem.head _ | refine List.Mem.tail _ ?_)); done) | refine sub_right ?_ | refine List.mem_append_right _ ?_)))
        refine append_K F10 N11 (upd_at ?_ ?_) ?_ (by rw [List.size_toArray, sizeLine_eq, hev.length]; unfold bagF; rw [List.length_map]; have := List.length_filter_le (fun k => (onesF k).sum.fmod 2 == 0) (List.range i); rw [List.length_range] at this; omega)
        · intro q hq
          simp only [List.mem_cons, List.not_mem_nil, or_false] at hq
          rcases hq with rfl | rfl | rfl | rfl | rfl | rfl | rfl
          · show ¬ @Eq Nat OD EV; omega
          · show ¬ @Eq Nat BG EV; omega
          · show ¬ @Eq Nat FIG EV; omega
          · show ¬ @Eq Nat (L + 1) EV; omega
          · show ¬ @Eq Nat (L + 2) EV; omega
          · show ¬ @Eq Nat (L + 3) EV; omega
          · show ¬ @Eq Nat (L + 4) EV; omega
        · intro q hq
          rcases List.mem_append.mp hq with hq | hq
          · exact (hne1' q hq (EV, listOf (List.toArray evs) ce) (.tail _ (.tail _ (.tail _ (List.mem_append_right _ (.head _)))))).symm
          rcases List.mem_cons.mp hq with rfl | hq
          · exact Nat.ne_of_gt (hDa EV (.head _))
          rcases List.mem_cons.mp hq with rfl | hq
          · exact Nat.ne_of_gt (hra EV (.head _))
          rcases List.mem_cons.mp hq with rfl | hq
          · exact (hIa EV (.head _)).symm
          exact (h2a q hq EV (.head _)).symm
        · intro h12 F12 N12
          iterate 2 (first | (k_unfold; (try dsimp only)) | (k_end; wrow_close) | walk1 | (dsimp only; walk1) | (leave1; walk_say "STEP leave1"; try dsimp only) | fail "no step")
          simp only [List.push_toArray] at N12
          have hDj' : Dj es1' es2' [EV, OD, BG, FIG, L + 1, L + 2, L + 3, L + 4] := by
            refine ⟨fun e he q hq => hne1' e he q (.tail _ (.tail _ (.tail _ (List.mem_append_left _ hq)))), fun e he a ha => ?_, h2a⟩
            obtain ⟨q, hq, rfl⟩ := List.mem_map.mp (show a ∈ ((EV, listOf (List.toArray evs) ce) :: (OD, listOf (List.toArray ovs) co) :: (BG, listOf #[.ref EV, .ref OD] 0) :: [(FIG, listOf fvs.toArray fvs.length), (L + 1, o1), (L + 2, o2), (L + 3, o3), (L + 4, o4)]).map (·.1) from ha)
            exact hne1' e he q (.tail _ (.tail _ (.tail _ (List.mem_append_right _ hq))))
          refine GoR.intro (es1' ++ (es2' ++ (EV, listOf (List.toArray (evs ++ [Value.int (numbF g wn figs i) tk10])) (ce + 1)) :: (OD, listOf (List.toArray ovs) co) :: (BG, listOf #[.ref EV, .ref OD] 0) :: [(FIG, listOf fvs.toArray fvs.length), (L + 1, o1), (L + 2, o2), (L + 3, o3), (L + 4, o4)])) F12 N12 ?_ ?_ ⟨⟨es1', es2', evs ++ [Value.int (numbF g wn figs i) tk10], ovs, ce + 1, co, rfl, t1', t2', hDj', ?_, ?_⟩, fun z hz => ?_⟩ (.inl rfl)
          · (repeat' (first | exact sub_nil | exact sub_self | refine sub_cons ?_ ?_ | refine sub_app ?_ ?_ | exact List.Mem.head _ | refine List.Mem.tail _ ?_ | refine sub_tail ?_ | (refine sub_left ?_; (repeat (first | exact sub_self | refine sub_tail ?_)); done) | (refine sub_left ?_; refine sub_left ?_; exact sub_self) | (refine sub_left ?_; refine sub_right ?_; (repeat (first | exact sub_self | refine sub_tail ?_)); done) | (refine List.mem_append_left _ ?_; (repeat (first | exact List.Mem.head _ | refine List.Mem.tail _ ?_)); done) | (refine List.mem_append_left _ ?_; refine List.mem_append_right _ ?_; (repeat (first | exact List.Mem.head _ | refine List.Mem.tail _ ?_)); done) | refine sub_right ?_ | refine List.mem_append_right _ ?_))
          · intro q hq
            rcases List.mem_append.mp hq with hq | hq
            · exact (hne1' q hq (I, oI) (.tail _ (.tail _ (.head _)))).symm
            rcases List.mem_append.mp hq with hq | hq
            · exact (hne2' q hq (I, oI) (.tail _ (.head _))).symm
            · exact hIa _ (List.mem_map_of_mem (f := (·.1)) hq)
          · rw [bagF_succ, if_pos hp0]; exact hev.append (.cons _ _ .nil)
          · rw [bagF_succ, if_neg (by rw [hp0]; decide)]; exact hod
          · unfold staleN at hz
            simp only [List.mem_cons, List.not_mem_nil, or_false, not_or] at hz
            simp only [if_neg hz.1, if_neg hz.2.1, if_neg hz.2.2]
      · rw [hp1]
        refine item_litK (vs := [.ref EV, .ref OD]) (News.isList N8 hmB) (by decide) (by decide) rfl ?_
        have hmX := news_has N8 (p := (OD, listOf (List.toArray ovs) co)) (.tail _ (List.mem_append_right _ (.tail _ (.tail _ (List.mem_append_right _ (.tail _ (.head _)))))))
        have hmW := news_has N8 (p := (L + 2, o2)) (.tail _ (List.mem_append_right _ (.tail _ (.tail _ (List.mem_append_right _ (.tail _ (.tail _ (.tail _ (.tail _ (.tail _ (.head _)))))))))))
        iterate 14 (first | (k_unfold; (try dsimp only)) | (k_end; wrow_close) | walk1 | (dsimp only; walk1) | (leave1; walk_say "STEP leave1"; try dsimp only) | fail "no step")
        refine c_d2i (B := 333) (by k_asm) F8 (by k_asm) N9 (by k_asm) (by exact rfl) CH1 t1 hne1 (.head _) hys hrl (rowF_lt hfb hi) (by decide) (by omega) (by ktr_room) (by ktr_units) ?_
        intro es1' tz h10 tk10 t1' hne1' F10 N10
        iterate 2 (first | (k_unfold; (try dsimp only)) | (k_end; wrow_close) | walk1 | (dsimp only; walk1) | (leave1; walk_say "STEP leave1"; try dsimp only) | fail "no step")
        have N11 := news_sub N10 (l' := (es1' ++ ((D, LCg.lst ys) :: (ro, listOf ovals.toArray cr) :: (I, oI) :: (es2' ++ [(EV, listOf (List.toArray evs) ce)]))) ++ (OD, listOf (List.toArray ovs) co) :: (BG, listOf #[.ref EV, .ref OD] 0) :: [(FIG, listOf fvs.toArray fvs.length), (L + 1, o1), (L + 2, o2), (L + 3, o3), (L + 4, o4)]) (by
          (repeat' (first | exact sub_nil | exact sub_self | refine sub_cons ?_ ?_ | refine sub_app ?_ ?_ | exact List.Mem.head _ | refine List.Mem.tail _ ?_ | refine sub_tail ?_ | (refine sub_left ?_; (repeat (first | exact sub_self | refine sub_tail ?_)); done) | (refine sub_left ?_; refine sub_left ?_; exact sub_self) | (refine sub_left ?_; refine sub_right ?_; (repeat (first | exact sub_self | refine sub_tail ?_)); done) | (refine List.mem_append_left _ ?_; (repeat (first | exact List.Mem.head _ | refine List.Mem.tail _ ?_)); done) | (refine List.mem_append_left _ ?_; refine List.mem_append_right _ ?_; (repeat (first | exact List.Mem.head _ | refine List.Mem.tail _ ?_)); done) | refine sub_right ?_ | refine List.mem_append_right _ ?_)))
        refine append_K F10 N11 (upd_at ?_ ?_) ?_ (by rw [List.size_toArray, sizeLine_eq, hod.length]; unfold bagF; rw [List.length_map]; have := List.length_filter_le (fun k => (onesF k).sum.fmod 2 == 1) (List.range i); rw [List.length_range] at this; omega)
        · intro q hq
          simp only [List.mem_cons, List.not_mem_nil, or_false] at hq
          rcases hq with rfl | rfl | rfl | rfl | rfl | rfl
          · show ¬ @Eq Nat BG OD; omega
          · show ¬ @Eq Nat FIG OD; omega
          · show ¬ @Eq Nat (L + 1) OD; omega
          · show ¬ @Eq Nat (L + 2) OD; omega
          · show ¬ @Eq Nat (L + 3) OD; omega
          · show ¬ @Eq Nat (L + 4) OD; omega
        · intro q hq
          rcases List.mem_append.mp hq with hq | hq
          · exact (hne1' q hq (OD, listOf (List.toArray ovs) co) (.tail _ (.tail _ (.tail _ (List.mem_append_right _ (.tail _ (.head _))))))).symm
          rcases List.mem_cons.mp hq with rfl | hq
          · exact Nat.ne_of_gt (hDa OD (.tail _ (.head _)))
          rcases List.mem_cons.mp hq with rfl | hq
          · exact Nat.ne_of_gt (hra OD (.tail _ (.head _)))
          rcases List.mem_cons.mp hq with rfl | hq
          · exact (hIa OD (.tail _ (.head _))).symm
          rcases List.mem_append.mp hq with hq | hq
          · exact (h2a q hq OD (.tail _ (.head _))).symm
          · rw [List.mem_singleton.mp hq]; show ¬ @Eq Nat EV OD; omega
        · intro h12 F12 N12
          iterate 2 (first | (k_unfold; (try dsimp only)) | (k_end; wrow_close) | walk1 | (dsimp only; walk1) | (leave1; walk_say "STEP leave1"; try dsimp only) | fail "no step")
          simp only [List.push_toArray] at N12
          have hDj' : Dj es1' es2' [EV, OD, BG, FIG, L + 1, L + 2, L + 3, L + 4] := by
            refine ⟨fun e he q hq => hne1' e he q (.tail _ (.tail _ (.tail _ (List.mem_append_left _ hq)))), fun e he a ha => ?_, h2a⟩
            obtain ⟨q, hq, rfl⟩ := List.mem_map.mp (show a ∈ ((EV, listOf (List.toArray evs) ce) :: (OD, listOf (List.toArray ovs) co) :: (BG, listOf #[.ref EV, .ref OD] 0) :: [(FIG, listOf fvs.toArray fvs.length), (L + 1, o1), (L + 2, o2), (L + 3, o3), (L + 4, o4)]).map (·.1) from ha)
            exact hne1' e he q (.tail _ (.tail _ (.tail _ (List.mem_append_right _ hq))))
          refine GoR.intro (es1' ++ (es2' ++ (EV, listOf (List.toArray evs) ce) :: (OD, listOf (List.toArray (ovs ++ [Value.int (numbF g wn figs i) tk10])) (co + 1)) :: (BG, listOf #[.ref EV, .ref OD] 0) :: [(FIG, listOf fvs.toArray fvs.length), (L + 1, o1), (L + 2, o2), (L + 3, o3), (L + 4, o4)])) F12 N12 ?_ ?_ ⟨⟨es1', es2', evs, ovs ++ [Value.int (numbF g wn figs i) tk10], ce, co + 1, rfl, t1', t2', hDj', ?_, ?_⟩, fun z hz => ?_⟩ (.inl rfl)
          · intro p hp
            simp only [List.mem_cons, List.mem_append, List.not_mem_nil, or_false] at hp ⊢
            rcases hp with hp | hp | hp | hp | hp | hp | hp | hp | hp | hp | hp <;> simp [hp, numbF]
          · intro q hq
            rcases List.mem_append.mp hq with hq | hq
            · exact (hne1' q hq (I, oI) (.tail _ (.tail _ (.head _)))).symm
            rcases List.mem_append.mp hq with hq | hq
            · exact (hne2' q hq (I, oI) (.tail _ (.head _))).symm
            · exact hIa _ (List.mem_map_of_mem (f := (·.1)) hq)
          · rw [bagF_succ, if_neg (by rw [hp1]; decide)]; exact hev
          · rw [bagF_succ, if_pos hp1]; exact hod.append (.cons _ _ .nil)
          · unfold staleN at hz
            simp only [List.mem_cons, List.not_mem_nil, or_false, not_or] at hz
            simp only [if_neg hz.1, if_neg hz.2.1, if_neg hz.2.2]
  · rintro m₁ nx h tk ⟨⟨es1, es2, evs, ovs, ce, co, rfl, t1, t2, hD, hev, hod⟩, hm⟩ F3 N3
    rw [stale_num_out hm] at F3
    clear F2 N2 hr
    iterate 11 (first | (k_unfold; (try dsimp only)) | (k_end; wrow_close) | walk1 | (dsimp only; walk1) | (leave1; walk_say "STEP leave1"; try dsimp only) | fail "no step")
    with_reducible rename Fr base L _ _ => F4
    with_reducible rename News base L _ _ => N4
    refine hnext EV OD evs ovs ce co es1 es2 _ _ _ F4 t1 t2 ⟨hD.1, fun e he a ha => hD.2.1 e he a ?_, fun e he a ha => hD.2.2 e he a ?_⟩ oFE oEO (news_sub N4 ?_) hev hod
    · simp only [List.mem_cons, List.not_mem_nil, or_false] at ha ⊢
      rcases ha with ha | ha | ha | ha | ha | ha | ha <;> simp [ha]
    · simp only [List.mem_cons, List.not_mem_nil, or_false] at ha ⊢
      rcases ha with ha | ha | ha | ha | ha | ha | ha <;> simp [ha]
    · (repeat' (first | exact sub_nil | exact sub_self | refine sub_cons ?_ ?_ | refine sub_app ?_ ?_ | exact List.Mem.head _ | refine List.Mem.tail _ ?_ | refine sub_tail ?_ | (refine sub_left ?_; (repeat (first | exact sub_self | refine sub_tail ?_)); done) | (refine sub_left ?_; refine sub_left ?_; exact sub_self) | (refine sub_left ?_; refine sub_right ?_; (repeat (first | exact sub_self | refine sub_tail ?_)); done) | (refine List.mem_append_left _ ?_; (repeat (first | exact List.Mem.head _ | refine List.Mem.tail _ ?_)); done) | (refine List.mem_append_left _ ?_; refine List.mem_append_right _ ?_; (repeat (first | exact List.Mem.head _ | refine List.Mem.tail _ ?_)); done) | refine sub_right ?_ | refine List.mem_append_right _ ?_))
open PySem.F in
theorem next_seq {w : World} {A : Around} {s : Shared} {E : Value → Shared → Prop} {it t : Addr} {i : Nat} {ot : Obj} {items : Array Value} {n : Nat} {x : Value} {Q : Option Value → Shared → Prop} (hit : s.heap.IsTupleIter it t i) (ht : s.heap.get? t = some ot) (hd : ot.data = .seq items n) (hx : items[i]? = some x)
    (hQ : ∀ h', h'.IsTupleIter it t (i + 1) → Heap.SameBut it s.heap h' → Q (some x) { s with heap := h' }) : wpAny (model PR w) A (pyNext (.ref it)) Q E s := by
  obtain ⟨o, ho, hc, hf⟩ := id hit
  unfold pyNext
  refine wpAny_bind (wpAny_attempt (wpAny_callSpecial?_slot (name := Str.ofString "__next__") hit.typeIs slot_tuple_iterator_next (wpAny_call_entry slot_tuple_iterator_next hit.typeIs entry_tuple_iterator_next ?_ (args_tuple_iterator_next_1 _))))
  show wpAny _ _ (field (.ref it) 0 >>= _) _ _ s
  refine wpAny_bind (wpAny_field ho hf (x := .ref t) rfl ?_)
  show wpAny _ _ (if (Value.ref t == Value.none) = true then _ else _) _ _ s
  rw [if_neg (show ¬ ((Value.ref t == Value.none) = true) from Bool.false_ne_true)]
  show wpAny _ _ (field (.ref it) 1 >>= _) _ _ s
  refine wpAny_bind (wpAny_field ho hf (x := .int i 0) rfl ?_)
  show wpAny _ _ (seqItems? (.ref t) >>= _) _ _ s
  refine wpAny_bind (wpAny_seqItems ht hd ?_)
  simp only [Int.toNat_natCast, hx]
  refine wpAny_bind (wpAny_setField ho hf (by simp) (wpAny_pure ⟨x, rfl, wpAny_pure (hQ _ ?_ (Heap.SameBut.update ..))⟩))
  refine ⟨_, Heap.get?_update_self _ ho (Obj.isFreed_of_fields (Obj.data_mapFields hf _)), (Obj.cls_mapFields ..).trans hc, ?_⟩
  rw [Obj.data_mapFields hf]
  simp [rawInt]
open PySem.F in
theorem next_seq_end {w : World} {A : Around} {s : Shared} {E : Value → Shared → Prop} {it t : Addr} {i : Nat} {ot : Obj} {items : Array Value} {n : Nat} {Q : Option Value → Shared → Prop} (hh : A.handled = none) (hit : s.heap.IsTupleIter it t i) (ht : s.heap.get? t = some ot) (hd : ot.data = .seq items n) (hx : items[i]? = none)
    (hQ : ∀ h', Heap.ExtBut it s.heap h' → Q none { s with heap := h' }) : wpAny (model PR w) A (pyNext (.ref it)) Q E s := by
  obtain ⟨o, ho, hc, hf⟩ := id hit
  unfold pyNext
  refine wpAny_bind (wpAny_attempt (wpAny_callSpecial?_slot (name := Str.ofString "__next__") hit.typeIs slot_tuple_iterator_next (wpAny_call_entry slot_tuple_iterator_next hit.typeIs entry_tuple_iterator_next ?_ (args_tuple_iterator_next_1 _))))
  show wpAny _ _ (field (.ref it) 0 >>= _) _ _ s
  refine wpAny_bind (wpAny_field ho hf (x := .ref t) rfl ?_)
  show wpAny _ _ (if (Value.ref t == Value.none) = true then _ else _) _ _ s
  rw [if_neg (show ¬ ((Value.ref t == Value.none) = true) from Bool.false_ne_true)]
  show wpAny _ _ (field (.ref it) 1 >>= _) _ _ s
  refine wpAny_bind (wpAny_field ho hf (x := .int i 0) rfl ?_)
  show wpAny _ _ (seqItems? (.ref t) >>= _) _ _ s
  refine wpAny_bind (wpAny_seqItems ht hd ?_)
  simp only [Int.toNat_natCast, hx]
  refine wpAny_bind (wpAny_rule (wpAny_bind (wpAny_setField ho hf (by simp) ?_)))
  show wpAny _ _ (newExc (.type "StopIteration") [] >>= _) _ _ _
  refine wpAny_bind ?_
  simp only [newExc, newTuple]
  refine wpAny_bind (wpAny_newObj_type ?_ (by size_fits))
  refine wpAny_bind (m := firstArgMember _ _) (wpAny_of_eq (a := Value.none) (by first | rfl | (simp only [firstArgMember]; rfl)) ?_)
  refine wpAny_newObj_type ?_ (by size_fits)
  simp only [raiseNew]
  refine wpAny_bind (wpAny_handled ?_)
  first | rw [show A.in1.handled = none from hh] | rw [hh]
  refine wpAny_bind (wpAny_pure (wpAny_throw ?_))
  refine wpAny_bind (wpAny_isInstance (T := "StopIteration") (b := true) ⟨_, Heap.get?_push_size _ rfl, rfl⟩ isSubtype_stop ?_)
  exact wpAny_pure (hQ _ (((Heap.SameBut.update ..).extBut.push _).push _))
set_option maxRecDepth 100000 in
set_option maxHeartbeats 2000000 in
theorem iter_mis {w : World} {A : Around} {s : Shared} {E : Value → Shared → Prop} {r dx : Addr} {x y z : Value} {Q : Value → Shared → Prop} (Xs : (hd.heap_1 w.params).In s.heap) (hr : s.heap.get? r = some ({ cls := .ref 142, dict := some dx, data := .seq #[x, y, z] } : Obj))
    (hQ : Q (.ref s.heap.objs.size) { s with heap := s.heap.push { cls := .type "tuple_iterator", data := .fields #[.ref r, .int 0 0] } }) : wpAny (model PR w) A (pyIter (.ref r)) Q E s := by
  have hfi : findIn (Mine.hd.heap_1 w.params) (.ref 142) "__iter__" = some (some (.builtin "tuple.__iter__")) := by k_is
  have hsub : subIn (Mine.hd.heap_1 w.params) (.ref 142) (.type "tuple") = some true := by k_is
  have ht : Looks (model PR w) s.heap (typeOf (.ref r)) (.ref 142) := (Looks.ld hr).andThen .now
  have i1 := looks_findIn (M := model PR w) Xs hfi
  have s2 := looks_subIn (M := model PR w) Xs hsub
  have t2 : Looks (model PR w) s.heap (isInstance (.ref r) (.type "tuple")) true := ht.andThen s2
  have sp : Looks (model PR w) s.heap (specialOf (.ref r) "__iter__") (some (.builtin "tuple.__iter__")) := ht.andThen i1
  unfold pyIter
  refine wpAny_bind (sp.at ?_)
  dsimp only
  simp only [callSpecialIfBoundUnlessNone?, bindSpecialIfBound?]
  have ti_kind : builtinKind "tuple.__iter__" = some .slot := by decide +kernel
  have ti_split : splitId "tuple.__iter__" = some ("tuple", "__iter__") := by decide +kernel
  have fin0 : ∀ {Q' : Value → Shared → Prop}, Q' (.ref s.heap.objs.size) { s with heap := s.heap.push { cls := .type "tuple_iterator", data := .fields #[.ref r, .int 0 0] } } → wpAny (model PR w) A (call (.builtin "tuple.__iter__") [.ref r]) Q' E s := by
    intro Q' hq
    refine wpAny_call (codeAny_call_builtin PySem.F.slot_tuple_iter.plain PySem.F.entry_tuple_iter (@check_slot (model PR w) _ _ _ "tuple.__iter__" "tuple" "__iter__" (.ref r) [] [] _ ti_kind ti_split t2 (PySem.F.args_tuple_iter_1 _) ?_))
    show wpAny _ _ (do ret (← newFields "tuple_iterator" [.ref r, rawInt 0])) _ _ s
    exact wpAny_bind (wpAny_newObj_type (wpAny_pure hq))
  refine wpAny_bind (wpAny_holding (wpAny_bind (wpAny_bind (sp.at ?_))))
  simp only [PySem.F.slot_tuple_iter.bind]
  refine wpAny_bind (wpAny_askSetting (wpAny_ite ?_))
  have fin : ∀ {Q' : Option Value → Shared → Prop} {refuse : Sem Value}, Q' (some (.ref s.heap.objs.size)) { s with heap := s.heap.push { cls := .type "tuple_iterator", data := .fields #[.ref r, .int 0 0] } } → wpAny (model PR w) A (if (Value.builtin "tuple.__iter__" == Value.none) = true then (refuse >>= fun v => pure (some v)) else (call (.builtin "tuple.__iter__") [.ref r] >>= fun v => pure (some v))) Q' E s := by
    intro Q' refuse hq
    rw [if_neg (show ¬ ((Value.builtin "tuple.__iter__" == Value.none) = true) by decide)]
    exact wpAny_bind (fin0 (wpAny_pure hq))
  have last : wpAny (model PR w) A (do match ← specialOf (.ref s.heap.objs.size) "__next__" with | none => (do rule "iter.non-iterator"; raiseError "TypeError" s!"iter() returned non-iterator of type '{← typeNameOf (.ref s.heap.objs.size)}'" : Sem Value) | some _ => pure (.ref s.heap.objs.size)) Q E { s with heap := s.heap.push { cls := .type "tuple_iterator", data := .fields #[.ref r, .int 0 0] } } :=
    wpAny_bind (wpAny_specialOf (T := "tuple_iterator") ⟨_, Heap.get?_push_size _ rfl, rfl⟩ PySem.F.slot_tuple_iterator_next.lookup (wpAny_pure hQ))
  split
  · exact wpAny_bind (wpAny_pure (wpAny_pure (fin last)))
  · exact wpAny_tryCatch (wpAny_bind (wpAny_pure (wpAny_pure (fin last))))
theorem un3_mis {w : World} {A : Around} {es : List (Addr × Obj)} {r dx : Addr} {x y z : Value} (hh : A.handled = none) (hm : (r, ({ cls := .ref 142, dict := some dx, data := .seq #[x, y, z] } : Obj)) ∈ es) : Un3 PR w A (hd.heap_1 w.params) es (.ref r) x y z := by
  intro s Q E Xs hes hQ
  have hr := hes _ hm
  dsimp only at hr
  have hne : r ≠ s.heap.objs.size := Nat.ne_of_lt (Heap.lt_size hr)
  have hfi : findIn (Mine.hd.heap_1 w.params) (.ref 142) "__iter__" = some (some (.builtin "tuple.__iter__")) := by k_is
  have ht : Looks (model PR w) s.heap (typeOf (.ref r)) (.ref 142) := (Looks.ld hr).andThen .now
  have sp : Looks (model PR w) s.heap (specialOf (.ref r) "__iter__") (some (.builtin "tuple.__iter__")) := ht.andThen (looks_findIn (M := model PR w) Xs hfi)
  unfold unpackItems
  refine wpAny_bind ?_
  unfold notIterableAtAll
  refine wpAny_bind (sp.at ?_)
  refine wpAny_pure ?_
  simp only [Bool.false_eq_true, if_false]
  refine wpAny_bind (wpAny_holding (iter_mis Xs hr ?_))
  have it0 : (s.heap.push { cls := .type "tuple_iterator", data := .fields #[.ref r, .int 0 0] }).IsTupleIter s.heap.objs.size r 0 := ⟨_, Heap.get?_push_size _ rfl, rfl, rfl⟩
  have r0 : (s.heap.push { cls := .type "tuple_iterator", data := .fields #[.ref r, .int 0 0] }).get? r = some ({ cls := .ref 142, dict := some dx, data := .seq #[x, y, z] } : Obj) := Heap.get?_push_of_some _ hr
  refine wpAny_bind (wpAny_holding ?_)
  show wpAny _ _ (draw (.ref s.heap.objs.size) 3) _ _ _
  unfold draw
  refine wpAny_bind (next_seq it0 r0 rfl (x := x) rfl fun h1 i1 k1 => wpAny_bind (wpAny_holding ?_))
  have r1 := k1.extBut _ _ hne r0
  unfold draw
  refine wpAny_bind (next_seq i1 r1 rfl (x := y) rfl fun h2 i2 k2 => wpAny_bind (wpAny_holding ?_))
  have r2 := k2.extBut _ _ hne r1
  unfold draw
  refine wpAny_bind (next_seq i2 r2 rfl (x := z) rfl fun h3 i3 k3 => wpAny_bind (wpAny_holding ?_))
  have r3 := k3.extBut _ _ hne r2
  unfold draw
  refine wpAny_pure (wpAny_pure (wpAny_pure (wpAny_pure ?_)))
  rw [if_neg (by simp)]
  refine wpAny_bind (wpAny_holding (next_seq_end hh i3 r3 rfl rfl fun h4 k4 => ?_))
  simp only [Option.isSome_none, Bool.false_eq_true, if_false]
  exact wpAny_pure (hQ h4 _ fun b o hb e => k4 b o hb (k3.extBut b o hb (k2.extBut b o hb (k1.extBut b o hb (Heap.get?_push_of_some _ e)))))
theorem beyondF_len (a b l : List Int) : (beyondF a b l).length ≤ l.length := by
  refine snoc_ind (P := fun l => (beyondF a b l).length ≤ l.length) (Nat.le_refl _) (fun l x ih => ?_) l
  rw [beyondF_snoc, List.length_append, List.length_singleton]
  split
  · rw [List.length_append, List.length_singleton]; omega
  · omega
theorem cutF_all (ns : List Int) : cutF ns none none = ns := by
  unfold cutF
  show List.take (ns.length - 0) (List.drop 0 ns) = ns
  rw [List.drop_zero, Nat.sub_zero, List.take_length]
/-- the object of a tuple -/
abbrev tupO (vs : List Value) (k : Nat) : Obj := { cls := .type "tuple", data := .seq vs.toArray k }
set_option maxRecDepth 100000 in
set_option maxHeartbeats 1000000 in
theorem law_4 {w : World} {mean : ExcName → Option Value} {mg mb : Str → Option Value} {L fa EV OD : Addr} {cd : Value} {base : Heap} {s : Shared} {m : Str → Option Value} {Q : Flow → Shared → Prop} {E : Value → Shared → Prop} {evs ovs : List Value} {evn odn : List Int} {ce co : Nat} {rest : List (Addr × Obj)}
    (Bl : Below callerA base [] base) (F : Fr base L s.heap (fun y => if y = Str.ofString "odd" then some (.ref OD) else if y = Str.ofString "even" then some (.ref EV) else m y)) (X : (hd.heap_1 w.params).In base)
    (N : News base L s.heap ((EV, listOf evs.toArray ce) :: (OD, listOf ovs.toArray co) :: rest)) (T : Top topProg LO mean mg mb base)
    (hev : IntsAre evs evn) (hod : IntsAre ovs odn) (hle : evn.length ≤ 16) (hlo : odn.length ≤ 16)
    (htold : uldF evn odn = ((beyondF evn odn evn).reverse, (beyondF odn.reverse evn odn.reverse).reverse))
    (hnext : ∀ TD lm l2 us1 us2 n1 n2 k h' tk', Fr base L h' (fun y => if y = Str.ofString "told" then some (.ref TD) else if y = Str.ofString "odd" then some (.ref OD) else if y = Str.ofString "even" then some (.ref EV) else m y) →
      News base L h' ((TD, tupO [.ref lm, .ref l2] k) :: (lm, listOf (List.toArray us1) n1) :: (l2, listOf (List.toArray us2) n2) :: (EV, listOf evs.toArray ce) :: (OD, listOf ovs.toArray co) :: rest) → (∀ p ∈ (EV, listOf evs.toArray ce) :: (OD, listOf ovs.toArray co) :: rest, p.1 < l2) → l2 < lm → lm < TD →
      IntsAre us1 (uldF evn odn).1 → IntsAre us2 (uldF evn odn).2 → LawRest w L fa cd 9 Q E { s with heap := h', toks := tk' }) :
    LawRest w L fa cd 7 Q E s := by
  have hsc := (rfl : lawScope = lawScope)
  conv at hsc => rhs; whnf
  have hb := (rfl : lawBody.drop 7 = lawBody.drop 7)
  conv at hb => rhs; whnf
  unfold LawRest lawEnv at *
  rw [hb]
  simp only [hsc] at hnext ⊢
  clear hb hsc
  iterate 12 (first | (k_unfold; (try dsimp only)) | (k_end; wrow_close) | walk1 | (dsimp only; walk1) | (leave1; walk_say "STEP leave1"; try dsimp only) | fail "no step")
  refine slice_K F N (.head _) hev .none .none (by omega) ?_ (by with_unfolding_all rfl)
  intro E1 ws1 h1 F1 N1 lt1 i1
  rw [cutF_all] at i1
  iterate 7 (first | (k_unfold; (try dsimp only)) | (k_end; wrow_close) | walk1 | (dsimp only; walk1) | (leave1; walk_say "STEP leave1"; try dsimp only) | fail "no step")
  refine slice_K F1 N1 (.tail _ (.tail _ (.head _))) hod .none .none (by omega) ?_ (by with_unfolding_all rfl)
  intro O1 ws2 h2 F2 N2 lt2 i2
  rw [cutF_all] at i2
  clear F1 N1
  have N3 := news_sub N2 (l' := (E1, listOf ws1.toArray 0) :: (O1, listOf ws2.toArray 0) :: ((EV, listOf evs.toArray ce) :: (OD, listOf ovs.toArray co) :: rest)) (by
    (repeat' (first | exact sub_nil | exact sub_self | refine sub_cons ?_ ?_ | refine sub_app ?_ ?_ | exact List.Mem.head _ | refine List.Mem.tail _ ?_ | refine sub_tail ?_ | (refine sub_left ?_; (repeat (first | exact sub_self | refine sub_tail ?_)); done) | (refine sub_left ?_; refine sub_left ?_; exact sub_self) | (refine sub_left ?_; refine sub_right ?_; (repeat (first | exact sub_self | refine sub_tail ?_)); done) | (refine List.mem_append_left _ ?_; (repeat (first | exact List.Mem.head _ | refine List.Mem.tail _ ?_)); done) | (refine List.mem_append_left _ ?_; refine List.mem_append_right _ ?_; (repeat (first | exact List.Mem.head _ | refine List.Mem.tail _ ?_)); done) | refine sub_right ?_ | refine List.mem_append_right _ ?_)))
  have oEO : @LT.lt Nat _ E1 O1 := lt2 _ (.head _)
  iterate 2 (first | (k_unfold; (try dsimp only)) | (k_end; wrow_close) | walk1 | (dsimp only; walk1) | (leave1; walk_say "STEP leave1"; try dsimp only) | fail "no step")
  refine c_uld F2 (by k_asm) N3 (by k_asm) (by exact rfl) (Nat.ne_of_lt oEO) (fun p hp => Nat.ne_of_lt (lt1 p hp)) (fun p hp => Nat.ne_of_lt (lt2 p (.tail _ hp))) i1 i2 (by omega) (by omega) (by ktr_room) (by ktr_units) ?_
  intro TD lm us1 us2 m1 m2 k h4 tk4 F4 N4 o1 o2 o3 j1 j2
  iterate 6 (first | (k_unfold; (try dsimp only)) | (k_end; wrow_close) | walk1 | (dsimp only; walk1) | (leave1; walk_say "STEP leave1"; try dsimp only) | fail "no step")
  with_reducible rename Fr _ _ _ _ => F5
  with_reducible rename News _ _ _ _ => N5
  iterate 12 (first | (k_unfold; (try dsimp only)) | (k_end; wrow_close) | walk1 | (dsimp only; walk1) | (leave1; walk_say "STEP leave1"; try dsimp only) | fail "no step")
  refine c_beyond (by k_asm) F5 (by k_asm) N5 (by k_asm) (by exact rfl) (.tail _ (.tail _ (.tail _ (.head _)))) (.tail _ (.tail _ (.tail _ (.tail _ (.head _))))) hev hod (by omega) (by omega) (by ktr_room) (by ktr_units) ?_
  intro b1 ub1 nb1 h6 tk6 F6 N6 lb1 ib1
  have hbl1 := beyondF_len evn odn evn
  have hbl2 := beyondF_len odn.reverse evn odn.reverse
  rw [List.length_reverse] at hbl2
  iterate 7 (first | (k_unfold; (try dsimp only)) | (k_end; wrow_close) | walk1 | (dsimp only; walk1) | (leave1; walk_say "STEP leave1"; try dsimp only) | fail "no step")
  refine rev_K F6 N6 (.head _) ib1 (IsPart.int _ _) (by omega) ?_ (by with_unfolding_all rfl)
  intro R1 ur1 h7 F7 N7 lr1 ir1
  iterate 15 (first | (k_unfold; (try dsimp only)) | (k_end; wrow_close) | walk1 | (dsimp only; walk1) | (leave1; walk_say "STEP leave1"; try dsimp only) | fail "no step")
  refine rev_K F7 N7 (.tail _ (.tail _ (.tail _ (.tail _ (.tail _ (.tail _ (.head _))))))) hod (IsPart.int _ _) (by omega) ?_ (by with_unfolding_all rfl)
  intro RO uro h8 F8 N8 lro iro
  iterate 4 (first | (k_unfold; (try dsimp only)) | (k_end; wrow_close) | walk1 | (dsimp only; walk1) | (leave1; walk_say "STEP leave1"; try dsimp only) | fail "no step")
  refine c_beyond (by k_asm) F8 (by k_asm) N8 (by k_asm) (by exact rfl) (.head _) (.tail _ (.tail _ (.tail _ (.tail _ (.tail _ (.tail _ (.head _))))))) iro hev (by rw [List.length_reverse]; omega) (by omega) (by ktr_room) (by ktr_units) ?_
  intro b2 ub2 nb2 h9 tk9 F9 N9 lb2 ib2
  iterate 7 (first | (k_unfold; (try dsimp only)) | (k_end; wrow_close) | walk1 | (dsimp only; walk1) | (leave1; walk_say "STEP leave1"; try dsimp only) | fail "no step")
  refine rev_K F9 N9 (.head _) ib2 (IsPart.int _ _) (by omega) ?_ (by with_unfolding_all rfl)
  intro R2 ur2 h10 F10 N10 lr2 ir2
  iterate 2 (first | (k_unfold; (try dsimp only)) | (k_end; wrow_close) | walk1 | (dsimp only; walk1) | (leave1; walk_say "STEP leave1"; try dsimp only) | fail "no step")
  with_reducible rename Fr _ _ _ _ => F11
  with_reducible rename News _ _ _ _ => N11
  have j1' := j1
  have j2' := j2
  rw [htold] at j1' j2'
  dsimp only at j1' j2'
  refine ne_same N11 (d := .tuple [.list ((beyondF evn odn evn).reverse.map Dat.int), .list ((beyondF odn.reverse evn odn.reverse).reverse.map Dat.int)]) (.tuple (vs := [.ref lm, .ref O1]) (n := k) (.tail _ (.tail _ (.tail _ (.tail _ (.tail _ (.tail _ (.head _))))))) (.cons (.list (.tail _ (.tail _ (.tail _ (.tail _ (.tail _ (.tail _ (.tail _ (.head _)))))))) (dat_ints j1')) (.cons (.list (.tail _ (.tail _ (.tail _ (.tail _ (.tail _ (.tail _ (.tail _ (.tail _ (.head _))))))))) (dat_ints j2')) .nil)))
    (.tuple (vs := [.ref R1, .ref R2]) (.head _) (.cons (.list (.tail _ (.tail _ (.tail _ (.tail _ (.head _))))) (dat_ints ir1)) (.cons (.list (.tail _ (.head _)) (dat_ints ir2)) .nil))) (by simp only [kqdOk, List.all_cons, List.all_nil, Bool.and_true, Bool.and_eq_true]; exact ⟨ok_ints 7 _, ok_ints 7 _⟩) (by ktr_units) ?_
  iterate 2 (first | (k_unfold; (try dsimp only)) | (k_end; wrow_close) | walk1 | (dsimp only; walk1) | (leave1; walk_say "STEP leave1"; try dsimp only) | fail "no step")
  refine wpAny_execs_nil ?_
  refine hnext TD lm O1 us1 us2 m1 m2 k _ _ F11 (news_sub N11 ?_) (fun p hp => ?_) o1 o2 j1 j2
  · (repeat' (first | exact sub_nil | exact sub_self | refine sub_cons ?_ ?_ | refine sub_app ?_ ?_ | exact List.Mem.head _ | refine List.Mem.tail _ ?_ | refine sub_tail ?_ | (refine sub_left ?_; (repeat (first | exact sub_self | refine sub_tail ?_)); done) | (refine sub_left ?_; refine sub_left ?_; exact sub_self) | (refine sub_left ?_; refine sub_right ?_; (repeat (first | exact sub_self | refine sub_tail ?_)); done) | (refine List.mem_append_left _ ?_; (repeat (first | exact List.Mem.head _ | refine List.Mem.tail _ ?_)); done) | (refine List.mem_append_left _ ?_; refine List.mem_append_right _ ?_; (repeat (first | exact List.Mem.head _ | refine List.Mem.tail _ ?_)); done) | refine sub_right ?_ | refine List.mem_append_right _ ?_))
  · exact lt2 p (.tail _ hp)
theorem RowsAre.get {es : List (Addr × Obj)} : ∀ {vs : List Value} {ps : List (Int × Int × Int)}, RowsAre es vs ps → ∀ (i : Nat) (v : Value), vs[i]? = some v → ∃ r dx a b c ta tb tc, v = .ref r ∧ ps[i]? = some (a, b, c) ∧ (r, misO dx a b c ta tb tc) ∈ es
  | _, _, .nil, i, v, h => by simp at h
  | _, _, .cons (r := r) (dx := dx) (a := a) (b := b) (c := c) (ta := ta) (tb := tb) (tc := tc) m q, 0, v, h => by
    simp only [List.getElem?_cons_zero, Option.some.injEq] at h
    subst h
    exact ⟨r, dx, a, b, c, ta, tb, tc, rfl, rfl, m⟩
  | _, _, .cons m q, i + 1, v, h => get q i v (by simpa using h)
theorem ok_d3s (k : Nat) (ps : List (Int × Int × Int)) : kqdOk (k + 2) (.list (ps.map d3)) = true := by
  simp only [kqdOk, List.all_map, List.all_eq_true]
  intro p _
  simp only [Function.comp_apply, d3, kqdOk, List.all_cons, List.all_nil, ok_int, Bool.and_true]
theorem take_snoc3 {l : List (Int × Int × Int)} {i : Nat} {p : Int × Int × Int} (h : l[i]? = some p) : l.take (i + 1) = l.take i ++ [p] := by
  rw [List.take_add_one, h]; rfl
set_option maxRecDepth 100000 in
set_option maxHeartbeats 1000000 in
theorem law_5 {w : World} {mean : ExcName → Option Value} {mg mb : Str → Option Value} {L fa TD EV OD : Addr} {cd : Value} {base : Heap} {s : Shared} {m : Str → Option Value} {Q : Flow → Shared → Prop} {E : Value → Shared → Prop} {evs ovs : List Value} {evn odn : List Int} {ce co : Nat} {o3 : Obj} {rest : List (Addr × Obj)}
    (Bl : Below callerA base [] base) (F : Fr base L s.heap (fun y => if y = Str.ofString "told" then some (.ref TD) else if y = Str.ofString "odd" then some (.ref OD) else if y = Str.ofString "even" then some (.ref EV) else m y)) (X : (hd.heap_1 w.params).In base)
    (N : News base L s.heap ((EV, listOf evs.toArray ce) :: (OD, listOf ovs.toArray co) :: (L + 3, o3) :: rest)) (T : Top topProg LO mean mg mb base)
    (hev : IntsAre evs evn) (hod : IntsAre ovs odn) (hle : evn.length ≤ 16) (hlo : odn.length ≤ 16) (d3' : o3.data = .cell none) (hE3 : EV ≠ L + 3) (hO3 : OD ≠ L + 3) (hr3 : ∀ p ∈ rest, p.1 ≠ L + 3)
    (hnext : ∀ RW rvs nR es5 o3' h' tk', Fr base L h' (fun y => if y = Str.ofString "told" then some (.ref TD) else if y = Str.ofString "odd" then some (.ref OD) else if y = Str.ofString "even" then some (.ref EV) else m y) →
      News base L h' (es5 ++ (RW, listOf (List.toArray rvs) nR) :: (EV, listOf evs.toArray ce) :: (OD, listOf ovs.toArray co) :: (L + 3, o3') :: rest) → o3'.data = .cell (some (.ref RW)) → DatAll es5 rvs ((unlikeF evn odn (firstsF (evn ++ odn))).map d3) →
      (∀ p ∈ rest, p.1 < RW ∧ ∀ e ∈ es5, p.1 < e.1) → LawRest w L fa cd 11 Q E { s with heap := h', toks := tk' }) :
    LawRest w L fa cd 9 Q E s := by
  have hsc := (rfl : lawScope = lawScope)
  conv at hsc => rhs; whnf
  have hb := (rfl : lawBody.drop 9 = lawBody.drop 9)
  conv at hb => rhs; whnf
  unfold LawRest lawEnv at *
  rw [hb]
  simp only [hsc] at hnext ⊢
  clear hb hsc
  iterate 1 (first | (k_unfold; (try dsimp only)) | (k_end; wrow_close) | walk1 | (dsimp only; walk1) | (leave1; walk_say "STEP leave1"; try dsimp only) | fail "no step")
  refine wpAny_Assign_Name ?_ (by with_unfolding_all rfl)
  refine ListComp_G (h₀ := base) (L := L) (by with_unfolding_all rfl) (by decide) (by rfl) (by decide) ?_
  iterate 10 (first | (k_unfold; (try dsimp only)) | (k_end; wrow_close) | walk1 | (dsimp only; walk1) | (leave1; walk_say "STEP leave1"; try dsimp only) | fail "no step")
  refine slice_K F N (.head _) hev .none .none (by omega) ?_ (by with_unfolding_all rfl)
  intro E1 ws1 h1 F1 N1 lt1 i1
  rw [cutF_all] at i1
  iterate 7 (first | (k_unfold; (try dsimp only)) | (k_end; wrow_close) | walk1 | (dsimp only; walk1) | (leave1; walk_say "STEP leave1"; try dsimp only) | fail "no step")
  refine slice_K F1 N1 (.tail _ (.tail _ (.head _))) hod .none .none (by omega) ?_ (by with_unfolding_all rfl)
  intro O1 ws2 h2 F2 N2 lt2 i2
  rw [cutF_all] at i2
  clear F1 N1
  iterate 2 (first | (k_unfold; (try dsimp only)) | (k_end; wrow_close) | walk1 | (dsimp only; walk1) | (leave1; walk_say "STEP leave1"; try dsimp only) | fail "no step")
  refine c_count (by k_asm) F2 (by k_asm) N2 (by k_asm) (by exact rfl) (.tail _ (.head _)) (.head _) i1 i2 (by omega) (by omega) (by ktr_room) (by ktr_units) ?_
  intro r us cr es h3 tk3 F3 N3 lt3 hR
  clear F2 N2
  have hlen := unlikeF_len evn odn (firstsF (evn ++ odn))
  have hlen2 := firstsF_len (evn ++ odn)
  rw [List.length_append] at hlen2
  generalize hps : unlikeF evn odn (firstsF (evn ++ odn)) = ps at hR hnext hlen
  have hul := hR.len
  have ltn : ∀ p ∈ (EV, listOf evs.toArray ce) :: (OD, listOf ovs.toArray co) :: (L + 3, o3) :: rest, p.1 < r ∧ ∀ e ∈ es, p.1 < e.1 := fun p hp => lt3 p (.tail _ (.tail _ hp))
  refine start_list3 (K := hd.heap_1 w.params) (es := es) (P3 := fun i x y z => ∃ a b c ta tb tc, x = .int a ta ∧ y = .int b tb ∧ z = .int c tc ∧ ps[i]? = some (a, b, c)) (fun i ys nx => ∃ es', nx = es' ++ (es ++ (r, listOf us.toArray cr) :: (O1, listOf ws2.toArray 0) :: (E1, listOf ws1.toArray 0) :: (EV, listOf evs.toArray ce) :: (OD, listOf ovs.toArray co) :: (L + 3, o3) :: rest) ∧ DatAll es' ys ((ps.take i).map d3) ∧ ∀ p ∈ (EV, listOf evs.toArray ce) :: (OD, listOf ovs.toArray co) :: (L + 3, o3) :: rest, ∀ e ∈ es', p.1 < e.1) (by rfl) (by rfl) (by rfl) (by rfl) (by rfl) (by decide) (by decide) (by decide) X F3 N3 (List.mem_append_right _ (.head _)) (fun e he => List.mem_append_left _ he) ?_ ⟨[], rfl, .nil, fun _ _ _ h => nomatch h⟩ ?_ ?_ ?_
  · intro i v hv
    obtain ⟨q, dx, a, b, c, ta, tb, tc, rfl, hp, hm⟩ := hR.get i v hv
    exact ⟨_, _, _, ⟨a, b, c, ta, tb, tc, rfl, rfl, rfl, hp⟩, un3_mis rfl hm⟩
  · rintro i ys nx hi ⟨es', -, hD, -⟩
    rw [hD.length, List.length_map, List.length_take, sizeLine_eq]; omega
  · rintro C D i x y z ys m₂ oC I nx h tk own E' hi ⟨a, b, c, ta, tb, tc, rfl, rfl, rfl, hp⟩ ⟨es', rfl, hD, hes⟩ hma hmb hmc hoC ⟨oI, hoI⟩ hap F6 N6
    clear F3 N3 hnext
    dsimp only
    iterate 9 (first | (k_unfold; (try dsimp only)) | (k_end; wrow_close) | walk1 | (dsimp only; walk1) | (leave1; walk_say "STEP leave1"; try dsimp only) | fail "no step")
    with_reducible rename Fr _ _ _ _ => F7
    with_reducible rename News _ _ _ _ => N7
    rename ∀ (p : Addr × Obj), p ∈ own ++ _ → p.1 < _ => hl4
    refine CEndY.one F7 N7 hl4 (fun b hb => by rw [List.mem_singleton.mp hb]; exact ⟨oI, hoI⟩) hoC trivial hap ⟨_ :: es', rfl, ?_, ?_⟩
    · rw [take_snoc3 hp, List.map_append]
      exact DatAll.append (DatAll.mono (fun p hp => .tail _ hp) hD) (.cons (.tuple (.head _) (.cons (.int _ _) (.cons (.int _ _) (.cons (.int _ _) .nil)))) .nil)
    · intro p hp e he
      rcases List.mem_cons.mp he with rfl | he
      · exact hl4 p (List.mem_append_right _ (.tail _ (.tail _ (List.mem_append_right _ (List.mem_append_right _ (.tail _ (.tail _ (.tail _ hp))))))))
      · exact hes p hp e he
  · rintro s₂ RW rvs nx ⟨hh2, rfl⟩ hDn ⟨es', rfl, hDa, hes⟩ h tk F6 N6 hnx
    dsimp only
    rw [hul, List.take_of_length_le (Nat.le_refl _)] at hDa
    have oRW : ∀ p ∈ (EV, listOf evs.toArray ce) :: (OD, listOf ovs.toArray co) :: (L + 3, o3) :: rest, p.1 < RW := fun p hp => hDn _ _ (N3 p (List.mem_append_right _ (.tail _ (.tail _ (.tail _ hp))))).1
    have N7 := news_sub N6 (l' := (L + 3, o3) :: (es' ++ (RW, listOf (List.toArray rvs) rvs.length) :: (EV, listOf evs.toArray ce) :: (OD, listOf ovs.toArray co) :: rest)) (by
      intro p hp
      simp only [List.mem_cons, List.mem_append] at hp ⊢
      rcases hp with hp | hp | hp | hp | hp | hp <;> simp [hp, LCg.lst])
    clear F3 N3 N6 hDn hnx
    refine storeX_C F6 N7 (c := L + 3) rfl (.head ?_) d3' ?_ rfl rfl
    · intro p hp
      rcases List.mem_append.mp hp with hp | hp
      · exact Nat.ne_of_gt (hes (L + 3, o3) (.tail _ (.tail _ (.head _))) p hp)
      rcases List.mem_cons.mp hp with rfl | hp
      · exact Nat.ne_of_gt (oRW (L + 3, o3) (.tail _ (.tail _ (.head _))))
      rcases List.mem_cons.mp hp with rfl | hp
      · exact hE3
      rcases List.mem_cons.mp hp with rfl | hp
      · exact hO3
      · exact hr3 p hp
    · intro h8 o3' F8 N8 d3''
      clear F6 N7
      dsimp only at N8 ⊢
      iterate 13 (first | (k_unfold; (try dsimp only)) | (k_end; wrow_close) | walk1 | (dsimp only; walk1) | (leave1; walk_say "STEP leave1"; try dsimp only) | fail "no step")
      refine c_unlike (by k_asm) F8 (by k_asm) N8 (by k_asm) (by exact rfl) (.tail _ (List.mem_append_right _ (.tail _ (.head _)))) (.tail _ (List.mem_append_right _ (.tail _ (.tail _ (.head _))))) hev hod (by omega) (by omega) (by ktr_room) (by ktr_units) ?_
      intro r2 us2 n2 es2 h9 tk9 F9 N9 lt9 hD9
      rw [hps] at hD9
      refine ne_same N9 (d := .list (ps.map d3)) (.list (List.mem_append_right _ (.tail _ (.tail _ (List.mem_append_right _ (.head _))))) (hDa.mono fun p hp => List.mem_append_right _ (.tail _ (.tail _ (List.mem_append_left _ hp))))) (.list (List.mem_append_right _ (.head _)) (hD9.mono fun p hp => List.mem_append_left _ hp)) (ok_d3s 7 ps) (by ktr_units) ?_
      iterate 2 (first | (k_unfold; (try dsimp only)) | (k_end; wrow_close) | walk1 | (dsimp only; walk1) | (leave1; walk_say "STEP leave1"; try dsimp only) | fail "no step")
      refine wpAny_execs_nil ?_
      refine hnext RW rvs rvs.length es' o3' _ _ F9 (news_sub N9 ?_) d3'' hDa (fun p hp => ⟨oRW p (.tail _ (.tail _ (.tail _ hp))), fun e he => hes p (.tail _ (.tail _ (.tail _ hp))) e he⟩)
      intro p hp
      refine List.mem_append_right _ (.tail _ ?_)
      rcases List.mem_append.mp hp with hp | hp
      · exact .tail _ (List.mem_append_left _ hp)
      rcases List.mem_cons.mp hp with rfl | hp
      · exact .tail _ (List.mem_append_right _ (.head _))
      rcases List.mem_cons.mp hp with rfl | hp
      · exact .tail _ (List.mem_append_right _ (.tail _ (.head _)))
      rcases List.mem_cons.mp hp with rfl | hp
      · exact .tail _ (List.mem_append_right _ (.tail _ (.tail _ (.head _))))
      rcases List.mem_cons.mp hp with rfl | hp
      · exact .head _
      · exact .tail _ (List.mem_append_right _ (.tail _ (.tail _ (.tail _ hp))))
theorem mul_lt {a b : Int} {p q : Nat} (h1 : a.natAbs < 2 ^ p) (h2 : b.natAbs < 2 ^ q) : (a * b).natAbs < 2 ^ (p + q) := by
  rw [Int.natAbs_mul, Nat.pow_add]
  exact Nat.mul_lt_mul'' h1 h2
theorem mul_ok' {a b : Int} {p q : Nat} (h1 : a.natAbs < 2 ^ p) (h2 : b.natAbs < 2 ^ q) (h : p + q ≤ 2 ^ 26) : IntMulOk a b := mul_ok (bits_le h1) (bits_le h2) h
set_option maxRecDepth 100000 in
set_option maxHeartbeats 1000000 in
theorem law_6 {w : World} {mean : ExcName → Option Value} {mg mb : Str → Option Value} {L fa FIG : Addr} {cd : Value} {base : Heap} {s : Shared} {m : Str → Option Value} {Q : Flow → Shared → Prop} {E : Value → Shared → Prop} {o1 o2 : Obj} {fvs : List Value} {f0 f1 f2 f3 : Int} {wn : Nat} {tw : Tok} {news : List (Addr × Obj)}
    (Bl : Below callerA base [] base) (F : Fr base L s.heap m) (X : (hd.heap_1 w.params).In base) (N : News base L s.heap news) (T : Top topProg LO mean mg mb base)
    (hF : (FIG, listOf fvs.toArray fvs.length) ∈ news) (h1 : (L + 1, o1) ∈ news) (h2 : (L + 2, o2) ∈ news)
    (hf : IntsAre fvs [f0, f1, f2, f3]) (hfb : ∀ x ∈ [f0, f1, f2, f3], x.natAbs < 2 ^ 333) (d1 : o1.data = .cell (some (.ref FIG))) (d2 : o2.data = .cell (some (.int wn tw))) (hw1 : wn < 64)
    (hnext : ∀ tg h' tk', Fr base L h' (fun y => if y = Str.ofString "whole" then some (.int (f0 * f1 * f2 * f3 * 2 ^ (6 * wn)) tg) else m y) → News base L h' news → LawRest w L fa cd 12 Q E { s with heap := h', toks := tk' }) :
    LawRest w L fa cd 11 Q E s := by
  have hsc := (rfl : lawScope = lawScope)
  conv at hsc => rhs; whnf
  have hb := (rfl : lawBody.drop 11 = lawBody.drop 11)
  conv at hb => rhs; whnf
  unfold LawRest lawEnv at *
  rw [hb]
  simp only [hsc] at hnext ⊢
  clear hb hsc
  iterate 1 (first | (k_unfold; (try dsimp only)) | (k_end; wrow_close) | walk1 | (dsimp only; walk1) | (leave1; walk_say "STEP leave1"; try dsimp only) | fail "no step")
  refine wpAny_Assign_Name ?_ (by with_unfolding_all rfl)
  have b0 : f0.natAbs < 2 ^ 333 := hfb f0 (.head _)
  have b1 : f1.natAbs < 2 ^ 333 := hfb f1 (.tail _ (.head _))
  have b2 : f2.natAbs < 2 ^ 333 := hfb f2 (.tail _ (.tail _ (.head _)))
  have b3 : f3.natAbs < 2 ^ 333 := hfb f3 (.tail _ (.tail _ (.tail _ (.head _))))
  have b01 := mul_lt b0 b1
  have b012 := mul_lt b01 b2
  have b0123 := mul_lt b012 b3
  iterate 12 (first | (k_unfold; (try dsimp only)) | (k_end; wrow_close) | walk1 | (dsimp only; walk1) | (leave1; walk_say "STEP leave1"; try dsimp only) | fail "no step")
  show wpAny _ _ (binaryOp .Mult (.int f0 _) (.int f1 _)) _ _ _
  refine mul_int ?_ (mul_ok' b0 b1 (by decide))
  iterate 4 (first | (k_unfold; (try dsimp only)) | (k_end; wrow_close) | walk1 | (dsimp only; walk1) | (leave1; walk_say "STEP leave1"; try dsimp only) | fail "no step")
  show wpAny _ _ (binaryOp .Mult (.int _ _) (.int f2 _)) _ _ _
  refine mul_int ?_ (mul_ok' b01 b2 (by decide))
  iterate 4 (first | (k_unfold; (try dsimp only)) | (k_end; wrow_close) | walk1 | (dsimp only; walk1) | (leave1; walk_say "STEP leave1"; try dsimp only) | fail "no step")
  show wpAny _ _ (binaryOp .Mult (.int _ _) (.int f3 _)) _ _ _
  refine mul_int ?_ (mul_ok' b012 b3 (by decide))
  iterate 4 (first | (k_unfold; (try dsimp only)) | (k_end; wrow_close) | walk1 | (dsimp only; walk1) | (leave1; walk_say "STEP leave1"; try dsimp only) | fail "no step")
  have hbb : Builtin.Int.intBits (f0 * f1 * f2 * f3) ≤ 1332 := bits_le b0123
  refine lshift_int (by omega) (by omega) ?_
  rw [show (6 * (wn : Int)).toNat = 6 * wn by omega]
  iterate 1 (first | (k_unfold; (try dsimp only)) | (k_end; wrow_close) | walk1 | (dsimp only; walk1) | (leave1; walk_say "STEP leave1"; try dsimp only) | fail "no step")
  with_reducible rename Fr _ _ _ _ => F4
  with_reducible rename News _ _ _ _ => N4
  exact hnext _ _ _ F4 N4
/-- one row's part of a power's sum -/
def powT (k : Nat) (p : Int × Int × Int) : Int := (p.1 - p.2.1) * p.2.2 ^ k
theorem pow_lt {c : Int} {i : Nat} (h : c.natAbs < 2 ^ 600) (hi : i ≤ 4) : (c ^ i).natAbs < 2 ^ 2401 := by
  rw [Int.natAbs_pow]
  have h1 : c.natAbs ^ i ≤ (2 ^ 600) ^ i := Nat.pow_le_pow_left (Nat.le_of_lt h) i
  rw [← Nat.pow_mul] at h1
  exact Nat.lt_of_le_of_lt h1 (Nat.pow_lt_pow_right (by decide) (by omega))
theorem dat_row {es : List (Addr × Obj)} : ∀ {vs : List Value} {ps : List (Int × Int × Int)}, DatAll es vs (ps.map d3) → ∀ (i : Nat) (v : Value), vs[i]? = some v → ∃ t a b c ta tb tc n, v = .ref t ∧ ps[i]? = some (a, b, c) ∧ (t, tupO [.int a ta, .int b tb, .int c tc] n) ∈ es
  | _, [], .nil, i, v, h => by simp at h
  | _, p :: ps, .cons hd r, 0, v, h => by
    simp only [List.getElem?_cons_zero, Option.some.injEq] at h
    subst h
    obtain ⟨a, b, c⟩ := p
    cases hd with
    | tuple hm hr =>
      cases hr with
      | cons h1 r1 =>
        cases h1 with
        | int _ ta =>
          cases r1 with
          | cons h2 r2 =>
            cases h2 with
            | int _ tb =>
              cases r2 with
              | cons h3 r3 =>
                cases h3 with
                | int _ tc =>
                  cases r3
                  exact ⟨_, a, b, c, ta, tb, tc, _, rfl, rfl, hm⟩
  | _, p :: ps, .cons hd r, i + 1, v, h => by
    obtain ⟨t, a, b, c, ta, tb, tc, n, e1, e2, e3⟩ := dat_row r i v (by simpa using h)
    exact ⟨t, a, b, c, ta, tb, tc, n, e1, by simpa using e2, e3⟩
set_option maxRecDepth 100000 in
set_option maxHeartbeats 1000000 in
theorem law_7 {w : World} {mean : ExcName → Option Value} {mg mb : Str → Option Value} {L fa RW : Addr} {cd : Value} {base : Heap} {s : Shared} {m : Str → Option Value} {Q : Flow → Shared → Prop} {E : Value → Shared → Prop} {o3 : Obj} {rvs : List Value} {nR : Nat} {ps : List (Int × Int × Int)} {wh : Int} {tg : Tok} {es news : List (Addr × Obj)}
    (Bl : Below callerA base [] base) (F : Fr base L s.heap (fun y => if y = Str.ofString "whole" then some (.int wh tg) else m y)) (X : (hd.heap_1 w.params).In base) (N : News base L s.heap news) (T : Top topProg LO mean mg mb base)
    (hR : (RW, listOf rvs.toArray nR) ∈ news) (h3 : (L + 3, o3) ∈ news) (hes : ∀ e ∈ es, e ∈ news) (d3' : o3.data = .cell (some (.ref RW))) (hD : DatAll es rvs (ps.map d3)) (hpl : ps.length ≤ 32)
    (hb1 : ∀ p ∈ ps, p.1.natAbs ≤ 16 ∧ p.2.1.natAbs ≤ 16 ∧ p.2.2.natAbs < 2 ^ 600)
    (hpow : (List.range 5).map (fun k => (ps.map (powT k)).sum) = [0, 0, 0, 0, 24 * wh])
    (hnext : ∀ m' h' tk', Fr base L h' (fun y => if y = Str.ofString "powers" then m' else if y = Str.ofString "whole" then some (.int wh tg) else m y) → News base L h' news → LawRest w L fa cd 14 Q E { s with heap := h', toks := tk' }) :
    LawRest w L fa cd 12 Q E s := by
  have hsc := (rfl : lawScope = lawScope)
  conv at hsc => rhs; whnf
  have hb := (rfl : lawBody.drop 12 = lawBody.drop 12)
  conv at hb => rhs; whnf
  unfold LawRest lawEnv at *
  rw [hb]
  simp only [hsc] at hnext ⊢
  clear hb hsc
  iterate 1 (first | (k_unfold; (try dsimp only)) | (k_end; wrow_close) | walk1 | (dsimp only; walk1) | (leave1; walk_say "STEP leave1"; try dsimp only) | fail "no step")
  refine Assign_ListComp_P (h₀ := base) (L := L) (x := Str.ofString "power") rfl (by with_unfolding_all rfl) (by with_unfolding_all rfl) (fun _ _ => by rfl) (fun _ => by rfl) (by rfl) (by decide) (by rfl) (by rfl) ?_
  iterate 7 (first | (k_unfold; (try dsimp only)) | (k_end; wrow_close) | walk1 | (dsimp only; walk1) | (leave1; walk_say "STEP leave1"; try dsimp only) | fail "no step")
  rename IsRange _ _ _ _ _ _ _ _ => hr
  with_reducible rename Fr _ _ _ _ => F1
  with_reducible rename News _ _ _ _ => N1
  refine start_rangeP (fun i ys nx => nx = news ∧ IntsAre ys ((List.range i).map fun k => (ps.map (powT k)).sum)) (by rfl) (by rfl) (by rfl) F1 N1 hr (by decide) (n := 5) (by decide) ⟨rfl, .nil⟩ ?_ ?_ ?_
  · rintro i ys nx hi ⟨-, h2⟩
    rw [h2.length, List.length_map, List.length_range, sizeLine_eq]; omega
  · rintro C D P i ti ys m₂ oC I oP nx h tk own E' hi ⟨rfl, hys⟩ hdP hoC hPo hap hwo F6 N6
    clear F1 N1 hr hnext
    dsimp only
    have hR6 := news_has N6 (p := (RW, listOf rvs.toArray nR)) (List.mem_append_right _ (.tail _ (.tail _ hR)))
    have h36 := news_has N6 (p := (L + 3, o3)) (List.mem_append_right _ (.tail _ (.tail _ h3)))
    have hP6 := news_has N6 (p := (P, oP)) (List.mem_append_left _ hPo)
    iterate 4 (first | (k_unfold; (try dsimp only)) | (k_end; wrow_close) | walk1 | (dsimp only; walk1) | (leave1; walk_say "STEP leave1"; try dsimp only) | fail "no step")
    refine ListComp_G (h₀ := base) (L := L) (by with_unfolding_all rfl) (by decide) (by rfl) (by decide) ?_
    iterate 1 (first | (k_unfold; (try dsimp only)) | (k_end; wrow_close) | walk1 | (dsimp only; walk1) | (leave1; walk_say "STEP leave1"; try dsimp only) | fail "no step")
    refine start_list3 (K := hd.heap_1 w.params) (es := es) (P3 := fun j x y z => ∃ a b c ta tb tc, x = .int a ta ∧ y = .int b tb ∧ z = .int c tc ∧ ps[j]? = some (a, b, c)) (fun j zs nx => nx = _ ∧ IntsAre zs ((ps.take j).map (powT i))) (by rfl) (by rfl) (by rfl) (by rfl) (by rfl) (by decide) (by decide) (by decide) X F6 N6 hR6 (fun e he => List.mem_append_right _ (.tail _ (.tail _ (hes e he)))) ?_ ⟨rfl, .nil⟩ ?_ ?_ ?_
    · intro j v hv
      obtain ⟨q, a, b, c, ta, tb, tc, n, rfl, hp, hm⟩ := dat_row hD j v hv
      exact ⟨_, _, _, ⟨a, b, c, ta, tb, tc, rfl, rfl, rfl, hp⟩, un3_tuple rfl hm rfl rfl⟩
    · rintro j zs nx hj ⟨-, h2⟩
      rw [h2.length, List.length_map, List.length_take, sizeLine_eq]; omega
    · rintro C2 D2 j x y z zs m₃ oC2 I2 nx h7 tk7 own2 E7 hj ⟨a, b, c, ta, tb, tc, rfl, rfl, rfl, hp⟩ ⟨rfl, hzs⟩ hma hmb hmc hoC2 ⟨oI2, hoI2⟩ hap2 F7 N7
      have hP7 := news_has N7 (p := (P, oP)) (List.mem_append_right _ (.tail _ (.tail _ hP6)))
      clear F6 N6
      dsimp only
      iterate 8 (first | (k_unfold; (try dsimp only)) | (k_end; wrow_close) | walk1 | (dsimp only; walk1) | (leave1; walk_say "STEP leave1"; try dsimp only) | fail "no step")
      have hbp := hb1 (a, b, c) (List.mem_of_getElem? hp)
      dsimp only at hbp
      have hci : Builtin.Int.intBits c ≤ 600 := bits_le hbp.2.2
      refine pow_int (by omega) (by
        obtain rfl | rfl | rfl | rfl | rfl : i = 0 ∨ i = 1 ∨ i = 2 ∨ i = 3 ∨ i = 4 := by omega
        all_goals omega) ?_
      rw [show ((0 : Int) + (i : Int)).toNat = i by omega]
      refine mul_int ?_ (mul_ok' (p := 6) (q := 2401) (by omega) (pow_lt hbp.2.2 (by omega)) (by decide))
      refine CEndY.intro _ F7 N7 (fun p hp => hp) hoC2 trivial hap2 ⟨rfl, ?_⟩
      rw [take_snoc3 hp, List.map_append]
      exact hzs.append (.cons _ _ .nil)
    · rintro s₃ D2 zs nx2 ⟨hh3, rfl⟩ hDn2 ⟨rfl, hzs⟩ h7 tk7 F7 N7 hnx2
      clear F6 N6
      dsimp only
      rw [show rvs.length = ps.length by rw [hD.length, List.length_map], List.take_length] at hzs
      iterate 2 (first | (k_unfold; (try dsimp only)) | (k_end; wrow_close) | walk1 | (dsimp only; walk1) | (leave1; walk_say "STEP leave1"; try dsimp only) | fail "no step")
      with_reducible rename Fr _ _ _ _ => F8
      with_reducible rename News _ _ _ _ => N8
      refine CEndY.intro _ F8 N8 (fun p hp => .tail _ hp) hoC trivial hap ⟨rfl, ?_⟩
      rw [List.range_succ, List.map_append]
      exact hys.append (.cons _ _ .nil)
  · rintro s₂ D ys nx ⟨hh2, rfl⟩ hDn ⟨rfl, hys⟩ h tk F6 N6 hnx
    dsimp only
    rw [hpow] at hys
    clear F1 N1 hr hpow hnx
    iterate 23 (first | (k_unfold; (try dsimp only)) | (k_end; wrow_close) | walk1 | (dsimp only; walk1) | (leave1; walk_say "STEP leave1"; try dsimp only) | fail "no step")
    with_reducible rename Fr _ _ _ _ => F8
    with_reducible rename News _ _ _ _ => N8
    refine wpAny_execs_nil ?_
    exact hnext _ _ _ F8 (news_sub N8 fun p hp => .tail _ (.tail _ hp))
set_option maxRecDepth 100000 in
set_option maxHeartbeats 1000000 in
theorem law_8 {w : World} {mean : ExcName → Option Value} {mg mb : Str → Option Value} {L fa TD EV OD : Addr} {cd : Value} {base : Heap} {s : Shared} {m : Str → Option Value} {mp : Option Value} {Q : Flow → Shared → Prop} {E : Value → Shared → Prop} {evs ovs : List Value} {evn odn : List Int} {ce co : Nat} {o4 : Obj} {wh : Int} {tg : Tok} {rest : List (Addr × Obj)}
    (Bl : Below callerA base [] base) (F : Fr base L s.heap (fun y => if y = Str.ofString "powers" then mp else if y = Str.ofString "whole" then some (.int wh tg) else if y = Str.ofString "told" then some (.ref TD) else if y = Str.ofString "odd" then some (.ref OD) else if y = Str.ofString "even" then some (.ref EV) else m y)) (X : (hd.heap_1 w.params).In base)
    (N : News base L s.heap ((L + 4, o4) :: (EV, listOf evs.toArray ce) :: (OD, listOf ovs.toArray co) :: rest)) (T : Top topProg LO mean mg mb base)
    (hev : IntsAre evs evn) (hod : IntsAre ovs odn) (hle : evn.length ≤ 16) (hlo : odn.length ≤ 16) (hne : evn ≠ []) (d4 : o4.data = .cell none) (hE4 : EV ≠ L + 4) (hO4 : OD ≠ L + 4) (hr4 : ∀ p ∈ rest, p.1 ≠ L + 4) (hmax : ∀ x ∈ evn ++ odn, x.natAbs < 2 ^ 600)
    (hnext : ∀ M o4' tz h' tk', Fr base L h' (fun y => if y = Str.ofString "powers" then mp else if y = Str.ofString "whole" then some (.int wh tg) else if y = Str.ofString "told" then some (.ref TD) else if y = Str.ofString "odd" then some (.ref OD) else if y = Str.ofString "even" then some (.ref EV) else m y) →
      News base L h' ((L + 4, o4') :: (EV, listOf evs.toArray ce) :: (OD, listOf ovs.toArray co) :: rest) → o4'.data = .cell (some (.int (8 * (Builtin.Int.intBits (M + 1) : Int)) tz)) → M ∈ evn ++ odn → (∀ a ∈ evn ++ odn, a ≤ M) → LawRest w L fa cd 15 Q E { s with heap := h', toks := tk' }) :
    LawRest w L fa cd 14 Q E s := by
  have hsc := (rfl : lawScope = lawScope)
  conv at hsc => rhs; whnf
  have hb := (rfl : lawBody.drop 14 = lawBody.drop 14)
  conv at hb => rhs; whnf
  unfold LawRest lawEnv at *
  rw [hb]
  simp only [hsc] at hnext ⊢
  clear hb hsc
  iterate 1 (first | (k_unfold; (try dsimp only)) | (k_end; wrow_close) | walk1 | (dsimp only; walk1) | (leave1; walk_say "STEP leave1"; try dsimp only) | fail "no step")
  refine wpAny_Assign_Name ?_ (by with_unfolding_all rfl)
  have hpos : 0 < (evn ++ odn).length := by
    rw [List.length_append]
    have := List.length_pos_iff.mpr hne
    omega
  have hapn : evn ++ odn ≠ [] := fun e => by rw [e] at hpos; exact absurd hpos (by decide)
  iterate 14 (first | (k_unfold; (try dsimp only)) | (k_end; wrow_close) | walk1 | (dsimp only; walk1) | (leave1; walk_say "STEP leave1"; try dsimp only) | fail "no step")
  with_reducible rename _ ∈ evn ++ odn => hM
  rename ∀ (a : Int), a ∈ evn ++ odn → a ≤ _ => hMax
  rename Int => M
  iterate 7 (first | (k_unfold; (try dsimp only)) | (k_end; wrow_close) | walk1 | (dsimp only; walk1) | (leave1; walk_say "STEP leave1"; try dsimp only) | fail "no step")
  with_reducible rename Fr _ _ _ _ => F5
  with_reducible rename News _ _ _ _ => N5
  rename_i o4' d4'
  replace d4' : ∃ tz, o4'.data = .cell (some (.int (8 * (Builtin.Int.intBits (M + 1) : Int)) tz)) := ⟨_, d4'⟩
  obtain ⟨tz, d4'⟩ := d4'
  exact hnext M o4' tz _ _ F5 (news_sub N5 fun p hp => .tail _ hp) d4' hM hMax
noncomputable def topF (n : Nat) (ns : List Int) : List Int := (digF n ((Builtin.Int.intBits (prodF n ns) + n - 1) / n) (prodF n ns)).reverse ++ [0, 0, 0, 0]
theorem ints_dat {es : List (Addr × Obj)} : ∀ {vs : List Value} {ns : List Int}, DatAll es vs (ns.map Dat.int) → IntsAre vs ns
  | _, [], .nil => .nil
  | _, n :: ns, .cons hd r => by
    cases hd with
    | int _ t => exact .cons n t (ints_dat r)
theorem topF_len (n : Nat) (ns : List Int) : (topF n ns).length = (Builtin.Int.intBits (prodF n ns) + n - 1) / n + 4 := by
  unfold topF; rw [List.length_append, List.length_reverse, digF_len]; rfl
set_option maxRecDepth 100000 in
set_option maxHeartbeats 1000000 in
theorem law_9 {w : World} {mean : ExcName → Option Value} {mg mb : Str → Option Value} {L fa TD lm l2 EV OD : Addr} {cd : Value} {base : Heap} {s : Shared} {m : Str → Option Value} {mp : Option Value} {Q : Flow → Shared → Prop} {E : Value → Shared → Prop} {us1 us2 : List Value} {tn1 tn2 : List Int} {n1 n2 k sz : Nat} {o4 : Obj} {wh : Int} {tg tz : Tok} {es2 rest : List (Addr × Obj)}
    (Bl : Below callerA base [] base) (F : Fr base L s.heap (fun y => if y = Str.ofString "powers" then mp else if y = Str.ofString "whole" then some (.int wh tg) else if y = Str.ofString "told" then some (.ref TD) else if y = Str.ofString "odd" then some (.ref OD) else if y = Str.ofString "even" then some (.ref EV) else m y)) (X : (hd.heap_1 w.params).In base)
    (N : News base L s.heap (es2 ++ ((L + 4, o4) :: (TD, tupO [.ref lm, .ref l2] k) :: (lm, listOf us1.toArray n1) :: (l2, listOf us2.toArray n2) :: rest))) (T : Top topProg LO mean mg mb base) (CH2 : CodeHd base 158 154) (t2 : I2T es2)
    (hne : ∀ e ∈ es2, ∀ q ∈ (L + 4, o4) :: (TD, tupO [.ref lm, .ref l2] k) :: (lm, listOf us1.toArray n1) :: (l2, listOf us2.toArray n2) :: rest, q.1 ≠ e.1)
    (h1 : IntsAre us1 tn1) (h2 : IntsAre us2 tn2) (hl1 : tn1.length ≤ 8) (hl2 : tn2.length ≤ 8) (d4 : o4.data = .cell (some (.int sz tz))) (hs1 : 1 ≤ sz) (hs2 : sz ≤ 100000)
    (h01 : ∀ x ∈ tn1, 0 ≤ x) (h02 : ∀ x ∈ tn2, 0 ≤ x) (hB1 : ∀ x ∈ tn1, x < 2 ^ sz) (hB2 : ∀ x ∈ tn2, x < 2 ^ sz)
    (hnext : ∀ MI YO vm vy cm cy es2' h' tk', Fr base L h' (fun y => if y = Str.ofString "yours" then some (.ref YO) else if y = Str.ofString "mine" then some (.ref MI) else if y = Str.ofString "powers" then mp else if y = Str.ofString "whole" then some (.int wh tg) else if y = Str.ofString "told" then some (.ref TD) else if y = Str.ofString "odd" then some (.ref OD) else if y = Str.ofString "even" then some (.ref EV) else m y) →
      News base L h' (es2' ++ ((MI, listOf (List.toArray vm) cm) :: (YO, listOf (List.toArray vy) cy) :: (L + 4, o4) :: (TD, tupO [.ref lm, .ref l2] k) :: (lm, listOf us1.toArray n1) :: (l2, listOf us2.toArray n2) :: rest)) → I2T es2' →
      IntsAre vm (topF sz tn1) → IntsAre vy (topF sz tn2) → LawRest w L fa cd 16 Q E { s with heap := h', toks := tk' }) :
    LawRest w L fa cd 15 Q E s := by
  have hsc := (rfl : lawScope = lawScope)
  conv at hsc => rhs; whnf
  have hb := (rfl : lawBody.drop 15 = lawBody.drop 15)
  conv at hb => rhs; whnf
  unfold LawRest lawEnv at *
  rw [hb]
  simp only [hsc] at hnext ⊢
  clear hb hsc
  iterate 1 (first | (k_unfold; (try dsimp only)) | (k_end; wrow_close) | walk1 | (dsimp only; walk1) | (leave1; walk_say "STEP leave1"; try dsimp only) | fail "no step")
  refine Assign_Tuple ?_ (by with_unfolding_all rfl) (by with_unfolding_all rfl)
  refine ListComp_G (h₀ := base) (L := L) (by with_unfolding_all rfl) (by decide) (by rfl) (by decide) ?_
  iterate 1 (first | (k_unfold; (try dsimp only)) | (k_end; wrow_close) | walk1 | (dsimp only; walk1) | (leave1; walk_say "STEP leave1"; try dsimp only) | fail "no step")
  generalize hled : (L + 4, o4) :: (TD, tupO [.ref lm, .ref l2] k) :: (lm, listOf us1.toArray n1) :: (l2, listOf us2.toArray n2) :: rest = led at N hne hnext
  have hTD : (TD, tupO [.ref lm, .ref l2] k) ∈ led := by rw [← hled]; exact .tail _ (.head _)
  have hlm : (lm, listOf us1.toArray n1) ∈ led := by rw [← hled]; exact .tail _ (.tail _ (.head _))
  have hll : (l2, listOf us2.toArray n2) ∈ led := by rw [← hled]; exact .tail _ (.tail _ (.tail _ (.head _)))
  have h4 : (L + 4, o4) ∈ led := by rw [← hled]; exact .head _
  refine start_tup (vs := [.ref lm, .ref l2]) (fun i ys nx => ∃ e2 rs, nx = e2 ++ (rs ++ led) ∧ I2T e2 ∧ (∀ e ∈ e2, ∀ q ∈ rs ++ led, q.1 ≠ e.1) ∧ DatAll rs ys (([topF sz tn1, topF sz tn2].take i).map fun ns => Dat.list (ns.map Dat.int))) (by rfl) (by rfl) (by rfl) F N (List.mem_append_right _ hTD) ⟨es2, [], rfl, t2, hne, .nil⟩ ?_ ?_ ?_
  · rintro i ys nx hi ⟨e2, rs, -, -, -, hD⟩
    rw [hD.length, List.length_map, List.length_take, sizeLine_eq]; simp only [List.length_cons, List.length_nil]; omega
  · rintro C D i v ys m₂ oC I nx h tk own E' hv ⟨e2, rs, rfl, te, hne2, hD⟩ hm2 hoC ⟨oI, hoI⟩ hown hap F6 N6
    have N7 := news_sub N6 (l' := e2 ++ (own ++ (C, oC) :: (D, LCg.lst ys) :: (rs ++ led))) (by
      intro p hp
      rcases List.mem_append.mp hp with hp | hp
      · exact List.mem_append_right _ (.tail _ (.tail _ (List.mem_append_left _ hp)))
      rcases List.mem_append.mp hp with hp | hp
      · exact List.mem_append_left _ hp
      rcases List.mem_cons.mp hp with rfl | hp
      · exact List.mem_append_right _ (.head _)
      rcases List.mem_cons.mp hp with rfl | hp
      · exact List.mem_append_right _ (.tail _ (.head _))
      · exact List.mem_append_right _ (.tail _ (.tail _ (List.mem_append_right _ hp))))
    have hne3 : ∀ e ∈ e2, ∀ q ∈ own ++ (C, oC) :: (D, LCg.lst ys) :: (rs ++ led), q.1 ≠ e.1 := by
      intro e he q hq
      have ha := hap e (List.mem_append_left _ he)
      rcases List.mem_append.mp hq with hq | hq
      · rcases hown q hq with h | h
        · rw [h]; exact fun q => ha.2.2 (by rw [← q]; exact .head _)
        · rw [h]; exact hne2 e he (TD, _) (List.mem_append_right _ hTD)
      rcases List.mem_cons.mp hq with rfl | hq
      · exact ha.1.symm
      rcases List.mem_cons.mp hq with rfl | hq
      · exact ha.2.1.symm
      · exact hne2 e he q hq
    have hm4 := news_has N7 (p := (L + 4, o4)) (List.mem_append_right _ (List.mem_append_right _ (.tail _ (.tail _ (List.mem_append_right _ h4)))))
    clear F N N6 hnext
    iterate 10 (first | (k_unfold; (try dsimp only)) | (k_end; wrow_close) | walk1 | (dsimp only; walk1) | (leave1; walk_say "STEP leave1"; try dsimp only) | fail "no step")
    have hvv : (v = .ref lm ∧ i = 0) ∨ (v = .ref l2 ∧ i = 1) := by
      rcases i with _ | _ | i
      · simp only [List.getElem?_cons_zero, Option.some.injEq] at hv; exact .inl ⟨hv.symm, rfl⟩
      · simp only [List.getElem?_cons_succ, List.getElem?_cons_zero, Option.some.injEq, Nat.zero_add] at hv; exact .inr ⟨hv.symm, rfl⟩
      · simp at hv
    rcases hvv with ⟨rfl, rfl⟩ | ⟨rfl, rfl⟩
    · refine c_top (B := 0) (by k_asm) F6 (by k_asm) N7 (by k_asm) (by exact rfl) CH2 te hne3 (List.mem_append_right _ (.tail _ (.tail _ (List.mem_append_right _ hlm)))) h1 hl1 hs1 hs2 h01 hB1 (by ktr_room) (by ktr_units) ?_
      intro e2' r vr cr h9 tk9 te' hne' hlt' ir F9 N9
      refine CEndY.intro (e2' ++ (((r, listOf vr.toArray cr) :: rs) ++ led)) F9 N9 ?_ hoC trivial ?_ ⟨e2', (r, listOf vr.toArray cr) :: rs, rfl, te', ?_, ?_⟩
      · intro p hp
        rcases List.mem_append.mp hp with hp | hp
        · exact List.mem_append_right _ (.tail _ (List.mem_append_left _ hp))
        rcases List.mem_cons.mp hp with rfl | hp
        · exact List.mem_append_right _ (.tail _ (List.mem_append_right _ (.head _)))
        rcases List.mem_cons.mp hp with rfl | hp
        · exact List.mem_append_right _ (.tail _ (List.mem_append_right _ (.tail _ (.head _))))
        rcases List.mem_append.mp hp with hp | hp
        · exact List.mem_append_left _ hp
        rcases List.mem_cons.mp hp with rfl | hp
        · exact List.mem_append_right _ (.head _)
        · exact List.mem_append_right _ (.tail _ (List.mem_append_right _ (.tail _ (.tail _ hp))))
      · intro q hq
        rcases List.mem_append.mp hq with hq | hq
        · refine ⟨(hne' q hq (C, oC) (.tail _ (List.mem_append_right _ (.head _)))).symm, (hne' q hq (D, LCg.lst ys) (.tail _ (List.mem_append_right _ (.tail _ (.head _))))).symm, fun hI => ?_⟩
          exact (hne' q hq (I, oI) (.tail _ (List.mem_append_left _ hoI))).symm (List.mem_singleton.mp hI)
        rcases List.mem_cons.mp hq with rfl | hq
        · exact ⟨Nat.ne_of_gt (hlt' (C, oC) (List.mem_append_right _ (List.mem_append_right _ (.head _)))), Nat.ne_of_gt (hlt' (D, LCg.lst ys) (List.mem_append_right _ (List.mem_append_right _ (.tail _ (.head _))))), fun hI => Nat.ne_of_gt (hlt' (I, oI) (List.mem_append_right _ (List.mem_append_left _ hoI))) (List.mem_singleton.mp hI)⟩
        · exact hap q (List.mem_append_right _ hq)
      · intro e he q hq
        rcases List.mem_cons.mp hq with rfl | hq
        · exact hne' e he _ (.head _)
        · exact hne' e he q (.tail _ (List.mem_append_right _ (.tail _ (.tail _ hq))))
      · cases hD
        exact .cons (.list (.head _) (dat_ints ir)) .nil
    · refine c_top (B := 0) (by k_asm) F6 (by k_asm) N7 (by k_asm) (by exact rfl) CH2 te hne3 (List.mem_append_right _ (.tail _ (.tail _ (List.mem_append_right _ hll)))) h2 hl2 hs1 hs2 h02 hB2 (by ktr_room) (by ktr_units) ?_
      intro e2' r vr cr h9 tk9 te' hne' hlt' ir F9 N9
      refine CEndY.intro (e2' ++ (((r, listOf vr.toArray cr) :: rs) ++ led)) F9 N9 ?_ hoC trivial ?_ ⟨e2', (r, listOf vr.toArray cr) :: rs, rfl, te', ?_, ?_⟩
      · intro p hp
        rcases List.mem_append.mp hp with hp | hp
        · exact List.mem_append_right _ (.tail _ (List.mem_append_left _ hp))
        rcases List.mem_cons.mp hp with rfl | hp
        · exact List.mem_append_right _ (.tail _ (List.mem_append_right _ (.head _)))
        rcases List.mem_cons.mp hp with rfl | hp
        · exact List.mem_append_right _ (.tail _ (List.mem_append_right _ (.tail _ (.head _))))
        rcases List.mem_append.mp hp with hp | hp
        · exact List.mem_append_left _ hp
        rcases List.mem_cons.mp hp with rfl | hp
        · exact List.mem_append_right _ (.head _)
        · exact List.mem_append_right _ (.tail _ (List.mem_append_right _ (.tail _ (.tail _ hp))))
      · intro q hq
        rcases List.mem_append.mp hq with hq | hq
        · refine ⟨(hne' q hq (C, oC) (.tail _ (List.mem_append_right _ (.head _)))).symm, (hne' q hq (D, LCg.lst ys) (.tail _ (List.mem_append_right _ (.tail _ (.head _))))).symm, fun hI => ?_⟩
          exact (hne' q hq (I, oI) (.tail _ (List.mem_append_left _ hoI))).symm (List.mem_singleton.mp hI)
        rcases List.mem_cons.mp hq with rfl | hq
        · exact ⟨Nat.ne_of_gt (hlt' (C, oC) (List.mem_append_right _ (List.mem_append_right _ (.head _)))), Nat.ne_of_gt (hlt' (D, LCg.lst ys) (List.mem_append_right _ (List.mem_append_right _ (.tail _ (.head _))))), fun hI => Nat.ne_of_gt (hlt' (I, oI) (List.mem_append_right _ (List.mem_append_left _ hoI))) (List.mem_singleton.mp hI)⟩
        · exact hap q (List.mem_append_right _ hq)
      · intro e he q hq
        rcases List.mem_cons.mp hq with rfl | hq
        · exact hne' e he _ (.head _)
        · exact hne' e he q (.tail _ (List.mem_append_right _ (.tail _ (.tail _ hq))))
      · have hD1 := hD
        exact DatAll.append (DatAll.mono (fun p hp => .tail _ hp) hD1) (.cons (.list (.head _) (dat_ints ir)) .nil)
  · rintro s₂ D ys nx ⟨hh2, rfl⟩ hDn ⟨e2, rs, rfl, te, hne2, hD⟩ h tk F6 N6 hnx
    dsimp only
    have hD2 : DatAll rs ys [.list ((topF sz tn1).map Dat.int), .list ((topF sz tn2).map Dat.int)] := hD
    clear hD F N hDn hnx
    cases hD2 with
    | cons ha r1 =>
      cases ha with
      | list ma da =>
        rename_i MI vm cm
        cases r1 with
        | cons hb r2 =>
          cases hb with
          | list mb' db =>
            rename_i YO vy cy
            cases r2
            iterate 8 (first | (k_unfold; (try dsimp only)) | (k_end; wrow_close) | walk1 | (dsimp only; walk1) | (leave1; walk_say "STEP leave1"; try dsimp only) | fail "no step")
            with_reducible rename Fr _ _ _ _ => F8
            with_reducible rename News _ _ _ _ => N8
            refine hnext MI YO vm vy cm cy e2 _ _ F8 (news_sub N8 ?_) te (ints_dat da) (ints_dat db)
            intro p hp
            refine .tail _ ?_
            rcases List.mem_append.mp hp with hp | hp
            · exact List.mem_append_left _ hp
            rcases List.mem_cons.mp hp with rfl | hp
            · exact List.mem_append_right _ (List.mem_append_left _ ma)
            rcases List.mem_cons.mp hp with rfl | hp
            · exact List.mem_append_right _ (List.mem_append_left _ mb')
            · exact List.mem_append_right _ (List.mem_append_right _ (hled ▸ hp))
set_option maxRecDepth 100000 in
set_option maxHeartbeats 1000000 in
theorem law_10 {w : World} {mean : ExcName → Option Value} {mg mb : Str → Option Value} {L fa MI YO EV OD : Addr} {cd : Value} {base : Heap} {s : Shared} {m : Str → Option Value} {mp mt : Option Value} {Q : Flow → Shared → Prop} {E : Value → Shared → Prop} {evs ovs vm vy : List Value} {evn odn mns yns : List Int} {ce co cm cy : Nat} {wh : Int} {tg : Tok} {rest : List (Addr × Obj)}
    (Bl : Below callerA base [] base) (F : Fr base L s.heap (fun y => if y = Str.ofString "yours" then some (.ref YO) else if y = Str.ofString "mine" then some (.ref MI) else if y = Str.ofString "powers" then mp else if y = Str.ofString "whole" then some (.int wh tg) else if y = Str.ofString "told" then mt else if y = Str.ofString "odd" then some (.ref OD) else if y = Str.ofString "even" then some (.ref EV) else m y)) (X : (hd.heap_1 w.params).In base)
    (N : News base L s.heap ((MI, listOf vm.toArray cm) :: (YO, listOf vy.toArray cy) :: (EV, listOf evs.toArray ce) :: (OD, listOf ovs.toArray co) :: rest)) (T : Top topProg LO mean mg mb base)
    (hev : IntsAre evs evn) (hod : IntsAre ovs odn) (hle : evn.length ≤ 16) (hlo : odn.length ≤ 16) (hm : IntsAre vm mns) (hy : IntsAre vy yns) (hml : 5 ≤ mns.length ∧ mns.length ≤ 1000) (hyl : 5 ≤ yns.length ∧ yns.length ≤ 1000)
    (hcut : cutF mns none (some 4) = cutF yns none (some 4)) (h4 : yns.getD 4 0 - mns.getD 4 0 = 6 * wh) (hs1 : (sumsF evn).length ≤ 100) (hs2 : (sumsF odn).length ≤ 100) (huld : uldF (sumsF evn) (sumsF odn) = ([], []))
    (hend : ∀ m' h' tk', Fr base L h' m' → News base L h' rest → Q (.ret (.bool true)) { s with heap := h', toks := tk' }) :
    LawRest w L fa cd 16 Q E s := by
  have hsc := (rfl : lawScope = lawScope)
  conv at hsc => rhs; whnf
  have hb := (rfl : lawBody.drop 16 = lawBody.drop 16)
  conv at hb => rhs; whnf
  unfold LawRest lawEnv at *
  rw [hb]
  simp only [hsc]
  clear hb hsc
  iterate 2 (first | (k_unfold; (try dsimp only)) | (k_end; wrow_close) | walk1 | (dsimp only; walk1) | (leave1; walk_say "STEP leave1"; try dsimp only) | fail "no step")
  iterate 9 (first | (k_unfold; (try dsimp only)) | (k_end; wrow_close) | walk1 | (dsimp only; walk1) | (leave1; walk_say "STEP leave1"; try dsimp only) | fail "no step")
  refine slice_K F N (.head _) hm .none (IsPart.int _ _) (by omega) ?_ (by with_unfolding_all rfl)
  intro D1 w1 h1 F1 N1 lt1 i1
  iterate 7 (first | (k_unfold; (try dsimp only)) | (k_end; wrow_close) | walk1 | (dsimp only; walk1) | (leave1; walk_say "STEP leave1"; try dsimp only) | fail "no step")
  refine slice_K F1 N1 (.tail _ (.tail _ (.head _))) hy .none (IsPart.int _ _) (by omega) ?_ (by with_unfolding_all rfl)
  intro D2 w2 h2 F2 N2 lt2 i2
  rw [← hcut] at i2
  refine ne_same N2 (d := .list ((cutF mns none (some 4)).map Dat.int)) (.list (.tail _ (.head _)) (dat_ints i1)) (.list (.head _) (dat_ints i2)) (ok_ints 8 _) (by ktr_units) ?_
  iterate 8 (first | (k_unfold; (try dsimp only)) | (k_end; wrow_close) | walk1 | (dsimp only; walk1) | (leave1; walk_say "STEP leave1"; try dsimp only) | fail "no step")
  refine item_anyK (News.isList N2 (.tail _ (.tail _ (.tail _ (.head _))))) hy (by omega) (by omega) (by omega) ?_
  intro t5
  iterate 3 (first | (k_unfold; (try dsimp only)) | (k_end; wrow_close) | walk1 | (dsimp only; walk1) | (leave1; walk_say "STEP leave1"; try dsimp only) | fail "no step")
  refine item_anyK (News.isList N2 (.tail _ (.tail _ (.head _)))) hm (by omega) (by omega) (by omega) ?_
  intro t6
  rw [show (4 : Int).toNat = 4 from rfl]
  iterate 1 (first | (k_unfold; (try dsimp only)) | (k_end; wrow_close) | walk1 | (dsimp only; walk1) | (leave1; walk_say "STEP leave1"; try dsimp only) | fail "no step")
  rw [h4]
  iterate 6 (first | (k_unfold; (try dsimp only)) | (k_end; wrow_close) | walk1 | (dsimp only; walk1) | (leave1; walk_say "STEP leave1"; try dsimp only) | fail "no step")
  rw [if_neg (by simp)]
  iterate 2 (first | (k_unfold; (try dsimp only)) | (k_end; wrow_close) | walk1 | (dsimp only; walk1) | (leave1; walk_say "STEP leave1"; try dsimp only) | fail "no step")
  refine wpAny_execs_nil ?_
  iterate 14 (first | (k_unfold; (try dsimp only)) | (k_end; wrow_close) | walk1 | (dsimp only; walk1) | (leave1; walk_say "STEP leave1"; try dsimp only) | fail "no step")
  with_reducible rename Fr _ _ _ _ => F3
  with_reducible rename News _ _ _ _ => N3
  refine c_sums (by k_asm) F3 (by k_asm) N3 (by k_asm) (by exact rfl) (.tail _ (.tail _ (.tail _ (.tail _ (.head _))))) hev (by omega) (by ktr_room) (by ktr_units) ?_
  intro r1 s1 c1 h5 tk5 lr1 ir1 F5 N5
  iterate 8 (first | (k_unfold; (try dsimp only)) | (k_end; wrow_close) | walk1 | (dsimp only; walk1) | (leave1; walk_say "STEP leave1"; try dsimp only) | fail "no step")
  refine c_sums (by k_asm) F5 (by k_asm) N5 (by k_asm) (by exact rfl) (.tail _ (.tail _ (.tail _ (.tail _ (.tail _ (.tail _ (.head _))))))) hod (by omega) (by ktr_room) (by ktr_units) ?_
  intro r2 s2 c2 h6 tk6 lr2 ir2 F6 N6
  iterate 2 (first | (k_unfold; (try dsimp only)) | (k_end; wrow_close) | walk1 | (dsimp only; walk1) | (leave1; walk_say "STEP leave1"; try dsimp only) | fail "no step")
  have N7 := news_sub N6 (l' := (r1, listOf s1.toArray c1) :: (r2, listOf s2.toArray c2) :: rest) (by
    (repeat' (first | exact sub_nil | exact sub_self | refine sub_cons ?_ ?_ | refine sub_app ?_ ?_ | exact List.Mem.head _ | refine List.Mem.tail _ ?_ | refine sub_tail ?_ | (refine sub_left ?_; (repeat (first | exact sub_self | refine sub_tail ?_)); done) | (refine sub_left ?_; refine sub_left ?_; exact sub_self) | (refine sub_left ?_; refine sub_right ?_; (repeat (first | exact sub_self | refine sub_tail ?_)); done) | (refine List.mem_append_left _ ?_; (repeat (first | exact List.Mem.head _ | refine List.Mem.tail _ ?_)); done) | (refine List.mem_append_left _ ?_; refine List.mem_append_right _ ?_; (repeat (first | exact List.Mem.head _ | refine List.Mem.tail _ ?_)); done) | refine sub_right ?_ | refine List.mem_append_right _ ?_)))
  have hr12 : r1 ≠ r2 := Nat.ne_of_lt (lr2 _ (.head _))
  refine c_uld F6 (by k_asm) N7 (by k_asm) (by exact rfl) hr12 (fun p hp => Nat.ne_of_lt (lr1 p (.tail _ (.tail _ (.tail _ (.tail _ (.tail _ (.tail _ hp)))))))) (fun p hp => Nat.ne_of_lt (lr2 p (.tail _ (.tail _ (.tail _ (.tail _ (.tail _ (.tail _ (.tail _ hp))))))))) ir1 ir2 hs1 hs2 (by ktr_room) (by ktr_units) ?_
  intro RD lm us1 us2 m1 m2 k h8 tk8 F8 N8 o1 o2 o3 j1 j2
  rw [huld] at j1 j2
  iterate 11 (first | (k_unfold; (try dsimp only)) | (k_end; wrow_close) | walk1 | (dsimp only; walk1) | (leave1; walk_say "STEP leave1"; try dsimp only) | fail "no step")
  with_reducible rename Fr _ _ _ _ => F9
  with_reducible rename News _ _ _ _ => N9
  refine eq_same N9 (d := .tuple [.list [], .list []]) (.tuple (vs := [.ref lm, .ref r2]) (n := k) (.tail _ (.tail _ (.tail _ (.head _)))) (.cons (.list (.tail _ (.tail _ (.tail _ (.tail _ (.head _))))) (dat_ints j1)) (.cons (.list (.tail _ (.tail _ (.tail _ (.tail _ (.tail _ (.head _)))))) (dat_ints j2)) .nil)))
    (.tuple (vs := [_, _]) (n := 0) (.head _) (.cons (.list (vs := []) (n := 0) (.tail _ (.tail _ (.head _))) .nil) (.cons (.list (vs := []) (n := 0) (.tail _ (.head _)) .nil) .nil))) (by rfl) (by ktr_units) ?_
  exact hend _ _ _ F9 (news_sub N9 fun p hp => .tail _ (.tail _ (.tail _ (.tail _ (.tail _ (.tail _ hp))))))
theorem len_four {l : List Int} (h : l.length = 4) : ∃ a b c d, l = [a, b, c, d] := by
  match l, h with
  | [a, b, c, d], _ => exact ⟨a, b, c, d, rfl⟩
theorem numF_len (ns : List Int) : (numF ns).length = 4 := by
  unfold numF cutF
  rw [List.length_append, List.length_take, List.length_take, List.length_drop]
  unfold kms_lo kms_hi
  simp only [List.length_cons, List.length_nil]
  split
  · omega
  · omega
theorem p_figs (ns : List Int) : ∃ f0 f1 f2 f3, (numF ns).map figF = [f0, f1, f2, f3] ∧ ∀ x ∈ [f0, f1, f2, f3], x.natAbs < 2 ^ 333 := by
  obtain ⟨a, b, c, d, h⟩ := len_four (numF_len ns)
  refine ⟨figF a, figF b, figF c, figF d, by rw [h]; rfl, ?_⟩
  intro x hx
  simp only [List.mem_cons, List.not_mem_nil, or_false] at hx
  rcases hx with rfl | rfl | rfl | rfl <;> (rw [figF_natAbs]; exact (figA_bound _).2)
theorem p_size {M : Int} (h0 : 0 ≤ M) (hM : M.natAbs < 2 ^ 600) : 1 ≤ 8 * Builtin.Int.intBits (M + 1) ∧ 8 * Builtin.Int.intBits (M + 1) ≤ 80000 ∧ M + 1 < 2 ^ Builtin.Int.intBits (M + 1) := by
  have h1 : Builtin.Int.intBits (M + 1) ≤ 601 := bits_le (by
    have h : (2 : Nat) ^ 601 = 2 ^ 600 * 2 := Nat.pow_succ 2 600
    rw [h]
    generalize (2 : Nat) ^ 600 = P at hM
    omega)
  have hne : (M + 1).natAbs ≠ 0 := by omega
  have hb : Builtin.Int.intBits (M + 1) = Nat.log2 (M + 1).natAbs + 1 := by
    unfold Builtin.Int.intBits
    split
    · rename_i e
      have : M + 1 = 0 := by simpa using e
      omega
    · rfl
  have h2 : (M + 1).natAbs < 2 ^ (Nat.log2 (M + 1).natAbs + 1) := Nat.lt_log2_self
  refine ⟨by omega, by omega, ?_⟩
  rw [hb]
  have h3 : (2 : Int) ^ (Nat.log2 (M + 1).natAbs + 1) = ((2 ^ (Nat.log2 (M + 1).natAbs + 1) : Nat) : Int) := by push_cast; rfl
  rw [h3]
  omega
theorem filter_sum {p : Int → Bool} {h : Int → Int} (hz : ∀ x, p x = false → h x = 0) : ∀ l : List Int, ((l.filter p).map h).sum = (l.map h).sum
  | [] => rfl
  | x :: r => by
    by_cases hp : p x = true
    · rw [List.filter_cons_of_pos hp, List.map_cons, List.map_cons, List.sum_cons, List.sum_cons, filter_sum hz r]
    · rw [List.filter_cons_of_neg hp, List.map_cons, List.sum_cons, filter_sum hz r, hz x (by simpa using hp)]; omega
theorem zero_sum (f : Int → Int) : ∀ l : List Int, (l.map fun x => (([] : List Int).count x : Int) * f x).sum = 0
  | [] => rfl
  | x :: r => by rw [List.map_cons, List.sum_cons, zero_sum f r, List.count_nil]; simp
theorem none_sum (f : Int → Int) {y : Int} : ∀ {l : List Int}, y ∉ l → (l.map fun x => if y = x then f x else 0).sum = 0
  | [], _ => rfl
  | x :: r, h => by
    have e : y ≠ x := fun e => h (by rw [e]; exact .head _)
    rw [List.map_cons, List.sum_cons, none_sum f (fun hm => h (.tail _ hm)), if_neg e]; rfl
theorem one_sum (f : Int → Int) {y : Int} : ∀ {l : List Int}, l.Nodup → y ∈ l → (l.map fun x => if y = x then f x else 0).sum = f y
  | x :: r, hn, hm => by
    obtain ⟨h1, h2⟩ := List.nodup_cons.mp hn
    rw [List.map_cons, List.sum_cons]
    by_cases e : y = x
    · subst e
      rw [if_pos rfl, none_sum f h1]; omega
    · rw [if_neg e, one_sum f h2 ((List.mem_cons.mp hm).resolve_left e)]; omega
theorem add_sum (g h : Int → Int) : ∀ l : List Int, (l.map fun x => g x + h x).sum = (l.map g).sum + (l.map h).sum
  | [] => rfl
  | x :: r => by rw [List.map_cons, List.map_cons, List.map_cons, List.sum_cons, List.sum_cons, List.sum_cons, add_sum g h r]; omega
theorem sub_sum (g h : Int → Int) : ∀ l : List Int, (l.map fun x => g x - h x).sum = (l.map g).sum - (l.map h).sum
  | [] => rfl
  | x :: r => by rw [List.map_cons, List.map_cons, List.map_cons, List.sum_cons, List.sum_cons, List.sum_cons, sub_sum g h r]; omega
theorem cnt_sum (f : Int → Int) {l : List Int} (hn : l.Nodup) : ∀ a : List Int, (∀ x ∈ a, x ∈ l) → (l.map fun x => (a.count x : Int) * f x).sum = sumOf f a
  | [], _ => zero_sum f l
  | y :: r, h => by
    have e : (fun x => ((y :: r).count x : Int) * f x) = fun x => (r.count x : Int) * f x + (if y = x then f x else 0) := by
      funext x
      rw [List.count_cons]
      by_cases hxy : y = x
      · simp only [hxy, beq_self_eq_true, if_true]; rw [Int.natCast_add, Int.add_mul]; simp
      · have : (y == x) = false := by simpa using hxy
        simp only [this, Bool.false_eq_true, if_false, if_neg hxy, Nat.add_zero, Int.add_zero]
    rw [e, add_sum, cnt_sum f hn r fun x hx => h x (.tail _ hx), one_sum f hn (h y (.head _)), sumOf_cons]; omega
theorem firstsF_nodup : ∀ l, (firstsF l).Nodup := by
  refine snoc_ind List.nodup_nil fun l x ih => ?_
  rw [firstsF_snoc]
  split
  · exact ih
  · rename_i h
    rw [List.nodup_append]
    refine ⟨ih, by simp, ?_⟩
    intro a ha b hb e
    rw [List.mem_singleton.mp hb] at e
    exact h (e ▸ ha)
theorem p_rows (ev od : List Int) (k : Nat) : ((unlikeF ev od (firstsF (ev ++ od))).map (powT k)).sum = sumOf (fun x => x ^ k) ev - sumOf (fun x => x ^ k) od := by
  unfold unlikeF
  rw [List.map_map]
  have e : (powT k ∘ fun x => ((ev.count x : Int), (od.count x : Int), x)) = fun x => (ev.count x : Int) * x ^ k - (od.count x : Int) * x ^ k := by
    funext x
    show ((ev.count x : Int) - (od.count x : Int)) * x ^ k = _
    rw [Int.sub_mul]
  rw [e, filter_sum (fun x hx => by
    have : ev.count x = od.count x := by simpa using hx
    rw [this]; omega), sub_sum, cnt_sum _ (firstsF_nodup _) ev fun x hx => mem_firstsF.mpr (List.mem_append_left _ hx), cnt_sum _ (firstsF_nodup _) od fun x hx => mem_firstsF.mpr (List.mem_append_right _ hx)]
theorem p_rowb {ev od : List Int} (h1 : ev.length = 8) (h2 : od.length = 8) (hb : ∀ x ∈ ev ++ od, x.natAbs < 2 ^ 600) : (unlikeF ev od (firstsF (ev ++ od))).length ≤ 32 ∧ ∀ p ∈ unlikeF ev od (firstsF (ev ++ od)), p.1.natAbs ≤ 16 ∧ p.2.1.natAbs ≤ 16 ∧ p.2.2.natAbs < 2 ^ 600 := by
  have hl := unlikeF_len ev od (firstsF (ev ++ od))
  have hl2 := firstsF_len (ev ++ od)
  rw [List.length_append] at hl2
  refine ⟨by omega, fun p hp => ?_⟩
  unfold unlikeF at hp
  obtain ⟨x, hx, rfl⟩ := List.mem_map.mp hp
  have hx' := mem_firstsF.mp (List.mem_filter.mp hx).1
  have c1 := List.count_le_length (a := x) (l := ev)
  have c2 := List.count_le_length (a := x) (l := od)
  exact ⟨by show ((ev.count x : Nat) : Int).natAbs ≤ 16; omega, by show ((od.count x : Nat) : Int).natAbs ≤ 16; omega, hb x hx'⟩
def evL (a b c d g : Int) : List Int := [g, g + (a + b), g + (a + c), g + (b + c), g + (a + d), g + (b + d), g + (c + d), g + (a + b + c + d)]
def odL (a b c d g : Int) : List Int := [g + a, g + b, g + c, g + (a + b + c), g + d, g + (a + b + d), g + (a + c + d), g + (b + c + d)]
theorem idx_ev : ((List.range 16).filter fun k => (onesF k).sum.fmod 2 == 0) = [0, 3, 5, 6, 9, 10, 12, 15] := by decide +kernel
theorem idx_od : ((List.range 16).filter fun k => (onesF k).sum.fmod 2 == 1) = [1, 2, 4, 7, 8, 11, 13, 14] := by decide +kernel
theorem on0 : onesF 0 = [] := by decide +kernel
theorem on1 : onesF 1 = [1] := by decide +kernel
theorem on2 : onesF 2 = [0, 1] := by decide +kernel
theorem on3 : onesF 3 = [1, 1] := by decide +kernel
theorem on4 : onesF 4 = [0, 0, 1] := by decide +kernel
theorem on5 : onesF 5 = [1, 0, 1] := by decide +kernel
theorem on6 : onesF 6 = [0, 1, 1] := by decide +kernel
theorem on7 : onesF 7 = [1, 1, 1] := by decide +kernel
theorem on8 : onesF 8 = [0, 0, 0, 1] := by decide +kernel
theorem on9 : onesF 9 = [1, 0, 0, 1] := by decide +kernel
theorem on10 : onesF 10 = [0, 1, 0, 1] := by decide +kernel
theorem on11 : onesF 11 = [1, 1, 0, 1] := by decide +kernel
theorem on12 : onesF 12 = [0, 0, 1, 1] := by decide +kernel
theorem on13 : onesF 13 = [1, 0, 1, 1] := by decide +kernel
theorem on14 : onesF 14 = [0, 1, 1, 1] := by decide +kernel
theorem on15 : onesF 15 = [1, 1, 1, 1] := by decide +kernel
theorem d2i_4 (n : Nat) (x y z u : Int) : d2iF n [x, y, z, u] = x + (y + (z + u * 2 ^ n) * 2 ^ n) * 2 ^ n := by simp [d2iF]
theorem d2i_3 (n : Nat) (x y z : Int) : d2iF n [x, y, z] = x + (y + z * 2 ^ n) * 2 ^ n := by simp [d2iF]
theorem d2i_2 (n : Nat) (x y : Int) : d2iF n [x, y] = x + y * 2 ^ n := by simp [d2iF]
theorem d2i_1 (n : Nat) (x : Int) : d2iF n [x] = x := by simp [d2iF]
theorem bag_ev (g f0 f1 f2 f3 : Int) (n : Nat) : bagF g n [f0, f1, f2, f3] 0 16 = evL f0 (f1 * 2 ^ n) (f2 * (2 ^ n * 2 ^ n)) (f3 * (2 ^ n * 2 ^ n * 2 ^ n)) g := by
  unfold bagF
  rw [idx_ev]
  simp only [List.map_cons, List.map_nil, numbF, rowF, on0, on3, on5, on6, on9, on10, on12, on15, List.zipWith_cons_cons, List.zipWith_nil_left, d2i_1, d2i_2, d2i_3, d2i_4, evL, d2iF]
  generalize (2 : Int) ^ n = P
  simp only [List.cons.injEq, and_true]
  refine ⟨by grind, by grind, by grind, by grind, by grind, by grind, by grind, by grind⟩
theorem bag_od (g f0 f1 f2 f3 : Int) (n : Nat) : bagF g n [f0, f1, f2, f3] 1 16 = odL f0 (f1 * 2 ^ n) (f2 * (2 ^ n * 2 ^ n)) (f3 * (2 ^ n * 2 ^ n * 2 ^ n)) g := by
  unfold bagF
  rw [idx_od]
  simp only [List.map_cons, List.map_nil, numbF, rowF, on1, on2, on4, on7, on8, on11, on13, on14, List.zipWith_cons_cons, List.zipWith_nil_left, d2i_1, d2i_2, d2i_3, d2i_4, odL, d2iF]
  generalize (2 : Int) ^ n = P
  simp only [List.cons.injEq, and_true]
  refine ⟨by grind, by grind, by grind, by grind, by grind, by grind, by grind, by grind⟩
theorem pw_ev (a b c d g : Int) : ∀ k < 5, sumOf (fun x => x ^ k) (evL a b c d g) - sumOf (fun x => x ^ k) (odL a b c d g) = if k = 4 then 24 * (a * b * c * d) else 0 := by
  intro k hk
  obtain rfl | rfl | rfl | rfl | rfl : k = 0 ∨ k = 1 ∨ k = 2 ∨ k = 3 ∨ k = 4 := by omega
  · simp [evL, odL, sumOf]
  · simp [evL, odL, sumOf]; grind
  · simp [evL, odL, sumOf]; grind
  · simp [evL, odL, sumOf]; grind
  · simp [evL, odL, sumOf]; grind
abbrev Cf := Nat × Nat × Nat × Nat
def cAdd (x y : Cf) : Cf := (x.1 + y.1, x.2.1 + y.2.1, x.2.2.1 + y.2.2.1, x.2.2.2 + y.2.2.2)
def cLin (a b c d : Int) (x : Cf) : Int := (x.1 : Int) * a + (x.2.1 : Int) * b + (x.2.2.1 : Int) * c + (x.2.2.2 : Int) * d
def evC : List Cf := [(0, 0, 0, 0), (1, 1, 0, 0), (1, 0, 1, 0), (0, 1, 1, 0), (1, 0, 0, 1), (0, 1, 0, 1), (0, 0, 1, 1), (1, 1, 1, 1)]
def odC : List Cf := [(1, 0, 0, 0), (0, 1, 0, 0), (0, 0, 1, 0), (1, 1, 1, 0), (0, 0, 0, 1), (1, 1, 0, 1), (1, 0, 1, 1), (0, 1, 1, 1)]
def sumsC (l : List Cf) : List Cf := (List.range l.length).flatMap fun k => (List.range k).map fun i => cAdd (l.getD i (0, 0, 0, 0)) (l.getD k (0, 0, 0, 0))
theorem ev_map (a b c d g : Int) : evL a b c d g = evC.map fun x => g + cLin a b c d x := by
  simp [evL, evC, cLin]
theorem od_map (a b c d g : Int) : odL a b c d g = odC.map fun x => g + cLin a b c d x := by
  simp [odL, odC, cLin]
theorem getD_map {l : List Cf} {f : Cf → Int} {i : Nat} (h : i < l.length) : (l.map f).getD i 0 = f (l.getD i (0, 0, 0, 0)) := by
  rw [List.getD_eq_getElem?_getD, List.getD_eq_getElem?_getD, List.getElem?_map, List.getElem?_eq_getElem h]; rfl
theorem sums_map (a b c d g : Int) (l : List Cf) : sumsF (l.map fun x => g + cLin a b c d x) = (sumsC l).map fun x => 2 * g + cLin a b c d x := by
  unfold sumsF sumsC
  rw [List.length_map, List.map_flatMap]
  rw [List.flatMap_def, List.flatMap_def]
  congr 1
  refine List.map_congr_left fun k hk => ?_
  have hk' := List.mem_range.mp hk
  unfold sumsK
  rw [List.map_map]
  refine List.map_congr_left fun i hi => ?_
  have hi' := List.mem_range.mp hi
  rw [getD_map (by omega), getD_map hk']
  simp only [Function.comp_apply, cLin, cAdd]
  push_cast
  grind
theorem sums_perm : (sumsC evC).Perm (sumsC odC) := List.isPerm_iff.mp (by decide +kernel)
theorem sums_len1 : (sumsC evC).length = 28 := by decide +kernel
theorem sums_len2 : (sumsC odC).length = 28 := by decide +kernel
theorem ground_sum (n : Nat) (f0 f1 f2 f3 : Int) : (groundF (n : Int) [f0, f1, f2, f3] 4).sum = (f0.natAbs : Int) + ((f1 * 2 ^ n).natAbs : Int) + ((f2 * (2 ^ n * 2 ^ n)).natAbs : Int) + ((f3 * (2 ^ n * 2 ^ n * 2 ^ n)).natAbs : Int) := by
  have hp : (((2 : Int) ^ n).natAbs : Int) = 2 ^ n := by
    have : (0 : Int) < 2 ^ n := Int.pow_pos (by decide)
    omega
  have h2 : (2 : Int) ^ (n * 2) = 2 ^ n * 2 ^ n := by rw [show n * 2 = n + n by omega, Int.pow_add]
  have h3 : (2 : Int) ^ (n * 3) = 2 ^ n * 2 ^ n * 2 ^ n := by rw [show n * 3 = n + n + n by omega, Int.pow_add, Int.pow_add]
  unfold groundF
  rw [show List.range 4 = [0, 1, 2, 3] from rfl]
  simp only [List.map_cons, List.map_nil, List.sum_cons, List.sum_nil, Int.toNat_natCast, Nat.mul_zero, Nat.mul_one, h2, h3, Int.natAbs_mul, Int.natCast_mul, hp]
  show ((f0.natAbs : Int)) * 2 ^ 0 + ((f1.natAbs : Int) * 2 ^ n + ((f2.natAbs : Int) * (2 ^ n * 2 ^ n) + ((f3.natAbs : Int) * (2 ^ n * 2 ^ n * 2 ^ n) + 0))) = _
  rw [Int.pow_zero]
  omega
theorem one_bound {y g S : Int} {B B6 : Nat} (hy : y.natAbs ≤ S) (hg : g = S) (hS : 2 * S < 8 * (B : Int)) (hB : 8 * B ≤ B6) : 0 ≤ g + y ∧ (g + y).natAbs < B6 := by omega
theorem co_all : ∀ x ∈ evC ++ odC, x.1 ≤ 1 ∧ x.2.1 ≤ 1 ∧ x.2.2.1 ≤ 1 ∧ x.2.2.2 ≤ 1 := by decide
theorem co_le {k : Nat} (h : k ≤ 1) (a : Int) : ((k : Int) * a).natAbs ≤ a.natAbs := by
  rw [Int.natAbs_mul, Int.natAbs_natCast]
  exact Nat.le_trans (Nat.mul_le_mul_right _ h) (by rw [Nat.one_mul]; exact Nat.le_refl _)
theorem four_le {p q r s : Int} {a b c d : Nat} (h1 : p.natAbs ≤ a) (h2 : q.natAbs ≤ b) (h3 : r.natAbs ≤ c) (h4 : s.natAbs ≤ d) : ((p + q + r + s).natAbs : Int) ≤ (a : Int) + b + c + d := by omega
theorem item_bound {a b c d g : Int} {B B6 : Nat} (m0 : a.natAbs < B) (m1 : b.natAbs < B) (m2 : c.natAbs < B) (m3 : d.natAbs < B) (hB : 8 * B ≤ B6) (hg : g = (a.natAbs : Int) + (b.natAbs : Int) + (c.natAbs : Int) + (d.natAbs : Int)) :
    ∀ x ∈ evL a b c d g ++ odL a b c d g, 0 ≤ x ∧ x.natAbs < B6 := by
  intro x hx
  rw [ev_map, od_map, ← List.map_append] at hx
  obtain ⟨y, hy, rfl⟩ := List.mem_map.mp hx
  have hc := co_all y hy
  exact one_bound (four_le (co_le hc.1 a) (co_le hc.2.1 b) (co_le hc.2.2.1 c) (co_le hc.2.2.2 d)) hg (by omega) hB
theorem p_all {f0 f1 f2 f3 g : Int} {wn : Nat} (hw : wn < 64) (hb : ∀ x ∈ [f0, f1, f2, f3], x.natAbs < 2 ^ 333) (hg : g = (groundF (wn : Int) [f0, f1, f2, f3] 4).sum) :
    (bagF g wn [f0, f1, f2, f3] 0 16).length = 8 ∧ (bagF g wn [f0, f1, f2, f3] 1 16).length = 8 ∧ (∀ x ∈ bagF g wn [f0, f1, f2, f3] 0 16 ++ bagF g wn [f0, f1, f2, f3] 1 16, 0 ≤ x ∧ x.natAbs < 2 ^ 600) ∧
    (∀ k < 5, sumOf (fun x => x ^ k) (bagF g wn [f0, f1, f2, f3] 0 16) - sumOf (fun x => x ^ k) (bagF g wn [f0, f1, f2, f3] 1 16) = if k = 4 then 24 * (f0 * f1 * f2 * f3 * 2 ^ (6 * wn)) else 0) ∧
    (sumsF (bagF g wn [f0, f1, f2, f3] 0 16)).Perm (sumsF (bagF g wn [f0, f1, f2, f3] 1 16)) ∧ (sumsF (bagF g wn [f0, f1, f2, f3] 0 16)).length ≤ 100 ∧ (sumsF (bagF g wn [f0, f1, f2, f3] 1 16)).length ≤ 100 := by
  have b0 : f0.natAbs < 2 ^ 333 := hb f0 (.head _)
  have b1 : f1.natAbs < 2 ^ 333 := hb f1 (.tail _ (.head _))
  have b2 : f2.natAbs < 2 ^ 333 := hb f2 (.tail _ (.tail _ (.head _)))
  have b3 : f3.natAbs < 2 ^ 333 := hb f3 (.tail _ (.tail _ (.tail _ (.head _))))
  have bp : ((2 : Int) ^ wn).natAbs < 2 ^ 64 := by
    rw [Int.natAbs_pow]
    exact Nat.pow_lt_pow_right (by decide) hw
  have c1 := mul_lt b1 bp
  have c2 := mul_lt b2 (mul_lt bp bp)
  have c3 := mul_lt b3 (mul_lt (mul_lt bp bp) bp)
  have e6 : f0 * f1 * f2 * f3 * 2 ^ (6 * wn) = f0 * (f1 * 2 ^ wn) * (f2 * (2 ^ wn * 2 ^ wn)) * (f3 * (2 ^ wn * 2 ^ wn * 2 ^ wn)) := by
    rw [show 6 * wn = wn + wn + wn + wn + wn + wn by omega]
    simp only [Int.pow_add]
    generalize (2 : Int) ^ wn = P
    grind
  rw [bag_ev, bag_od, e6]
  rw [ground_sum] at hg
  generalize f1 * 2 ^ wn = b at *
  generalize f2 * (2 ^ wn * 2 ^ wn) = c at *
  generalize f3 * (2 ^ wn * 2 ^ wn * 2 ^ wn) = d at *
  have m0 : f0.natAbs < 2 ^ (333 + (64 + 64 + 64)) := Nat.lt_of_lt_of_le b0 (Nat.pow_le_pow_right (by decide) (by decide))
  have m1 : b.natAbs < 2 ^ (333 + (64 + 64 + 64)) := Nat.lt_of_lt_of_le c1 (Nat.pow_le_pow_right (by decide) (by decide))
  have m2 : c.natAbs < 2 ^ (333 + (64 + 64 + 64)) := Nat.lt_of_lt_of_le c2 (Nat.pow_le_pow_right (by decide) (by decide))
  have hB : 8 * 2 ^ (333 + (64 + 64 + 64)) ≤ 2 ^ 600 := by
    rw [show (8 : Nat) = 2 ^ 3 from rfl, ← Nat.pow_add]
    exact Nat.pow_le_pow_right (by decide) (by decide)
  refine ⟨rfl, rfl, ?_, pw_ev f0 b c d g, ?_, ?_, ?_⟩
  · exact item_bound m0 m1 m2 c3 hB hg
  · rw [ev_map, od_map, sums_map, sums_map]
    exact sums_perm.map _
  · rw [ev_map, sums_map, List.length_map, sums_len1]; decide
  · rw [od_map, sums_map, List.length_map, sums_len2]; decide
noncomputable def addS (x : Int) (t : List Int) : List Int := List.zipWith (· + ·) (t ++ [0]) (0 :: t.map (x * ·))
noncomputable def topC : List Int → List Int
  | [] => [1]
  | x :: r => addS x (topC r)
theorem addS_len (x : Int) (t : List Int) : (addS x t).length = t.length + 1 := by
  unfold addS; simp
theorem topC_len : ∀ l, (topC l).length = l.length + 1
  | [] => rfl
  | x :: r => by rw [topC, addS_len, topC_len r, List.length_cons]
theorem zip_getD : ∀ {a b : List Int}, a.length = b.length → ∀ i, (List.zipWith (· + ·) a b).getD i 0 = a.getD i 0 + b.getD i 0
  | [], [], _, i => by simp
  | x :: a, y :: b, h, 0 => by simp
  | x :: a, y :: b, h, i + 1 => by
    have := zip_getD (a := a) (b := b) (by simpa using h) i
    simpa using this
theorem getD_zero : ∀ (t : List Int) (k : Nat), (t ++ [0]).getD k 0 = t.getD k 0
  | [], 0 => rfl
  | [], k + 1 => by simp
  | x :: r, 0 => rfl
  | x :: r, k + 1 => by simpa using getD_zero r k
theorem getD_zeros : ∀ (t : List Int) (k : Nat), (t ++ [0, 0, 0, 0]).getD k 0 = t.getD k 0
  | [], 0 => rfl
  | [], 1 => rfl
  | [], 2 => rfl
  | [], 3 => rfl
  | [], k + 4 => by simp
  | x :: r, 0 => rfl
  | x :: r, k + 1 => by simpa using getD_zeros r k
theorem getD_mul (x : Int) : ∀ (t : List Int) (k : Nat), (t.map (x * ·)).getD k 0 = x * t.getD k 0
  | [], k => by simp
  | y :: r, 0 => by simp
  | y :: r, k + 1 => by simpa using getD_mul x r k
/-- the elementary symmetric sums -/
noncomputable def eS (k : Nat) (l : List Int) : Int := (topC l).getD k 0
theorem eS_cons (k : Nat) (x : Int) (r : List Int) : eS (k + 1) (x :: r) = eS (k + 1) r + x * eS k r := by
  unfold eS
  rw [topC, addS, zip_getD (by simp), getD_zero]
  show _ + (List.map (x * ·) (topC r)).getD k 0 = _
  rw [getD_mul]
theorem eS_zero : ∀ l, eS 0 l = 1
  | [] => rfl
  | x :: r => by
    have := eS_zero r
    unfold eS at this ⊢
    rw [topC, addS, zip_getD (by simp), getD_zero, this]; rfl
theorem eS_nil (k : Nat) : eS (k + 1) [] = 0 := by simp [eS, topC]
abbrev pS (k : Nat) (l : List Int) : Int := sumOf (fun x => x ^ k) l
theorem newton : ∀ l, eS 1 l = pS 1 l ∧ 2 * eS 2 l = eS 1 l * pS 1 l - pS 2 l ∧ 3 * eS 3 l = eS 2 l * pS 1 l - eS 1 l * pS 2 l + pS 3 l ∧ 4 * eS 4 l = eS 3 l * pS 1 l - eS 2 l * pS 2 l + eS 1 l * pS 3 l - pS 4 l
  | [] => by simp [eS_nil, sumOf]
  | x :: r => by
    obtain ⟨h1, h2, h3, h4⟩ := newton r
    have e0 := eS_zero r
    simp only [pS] at h1 h2 h3 h4 ⊢
    rw [eS_cons 0, eS_cons 1, eS_cons 2, eS_cons 3, sumOf_cons, sumOf_cons, sumOf_cons, sumOf_cons]
    generalize eS 1 r = a1 at *
    generalize eS 2 r = a2 at *
    generalize eS 3 r = a3 at *
    generalize eS 4 r = a4 at *
    generalize eS 0 r = a0 at *
    generalize sumOf (fun x => x ^ 1) r = p1 at *
    generalize sumOf (fun x => x ^ 2) r = p2 at *
    generalize sumOf (fun x => x ^ 3) r = p3 at *
    generalize sumOf (fun x => x ^ 4) r = p4 at *
    subst e0
    refine ⟨by grind, by grind, by grind, by grind⟩
noncomputable def evLow (X : Int) : List Int → Int
  | [] => 0
  | c :: r => c + X * evLow X r
theorem evLow_snoc (X : Int) : ∀ (l : List Int) (c : Int), evLow X (l ++ [c]) = evLow X l + c * X ^ l.length
  | [], c => by simp [evLow]
  | y :: r, c => by
    show y + X * evLow X (r ++ [c]) = (y + X * evLow X r) + c * X ^ (r.length + 1)
    rw [evLow_snoc X r c, Int.pow_succ]; grind
noncomputable def evT (X : Int) : List Int → Int
  | [] => 0
  | c :: r => c * X ^ r.length + evT X r
theorem evT_low (X : Int) : ∀ t, evT X t = evLow X t.reverse
  | [] => rfl
  | c :: r => by
    rw [List.reverse_cons, evLow_snoc, ← evT_low X r, List.length_reverse]
    show c * X ^ r.length + evT X r = _
    omega
theorem evT_shift (X : Int) : ∀ t, evT X (t ++ [0]) = X * evT X t
  | [] => by simp [evT]
  | c :: r => by
    show c * X ^ (r ++ [0]).length + evT X (r ++ [0]) = X * (c * X ^ r.length + evT X r)
    rw [evT_shift X r, List.length_append, List.length_singleton, Int.pow_succ]; grind
theorem evT_mul (X x : Int) : ∀ t, evT X (t.map (x * ·)) = x * evT X t
  | [] => by simp [evT]
  | c :: r => by
    show x * c * X ^ (r.map (x * ·)).length + evT X (r.map (x * ·)) = x * (c * X ^ r.length + evT X r)
    rw [evT_mul X x r, List.length_map]; grind
theorem evT_zip (X : Int) : ∀ {a b : List Int}, a.length = b.length → evT X (List.zipWith (· + ·) a b) = evT X a + evT X b
  | [], [], _ => rfl
  | x :: a, y :: b, h => by
    have hl : a.length = b.length := by simpa using h
    show (x + y) * X ^ (List.zipWith (· + ·) a b).length + evT X (List.zipWith (· + ·) a b) = (x * X ^ a.length + evT X a) + (y * X ^ b.length + evT X b)
    rw [evT_zip X hl, List.length_zipWith, hl, Nat.min_self]; grind
theorem evT_addS (X x : Int) (t : List Int) : evT X (addS x t) = (X + x) * evT X t := by
  unfold addS
  rw [evT_zip X (by simp), evT_shift]
  show X * evT X t + (0 * X ^ (t.map (x * ·)).length + evT X (t.map (x * ·))) = _
  rw [evT_mul]; grind
theorem fold_prod (n : Nat) : ∀ (l : List Int) (c : Int), l.foldl (fun p x => p * (2 ^ n + x)) c = c * evT (2 ^ n) (topC l)
  | [], c => by simp [topC, evT]
  | x :: r, c => by
    rw [List.foldl_cons, fold_prod n r, topC, evT_addS]; grind
theorem prod_top (n : Nat) (l : List Int) : prodF n l = evT (2 ^ n) (topC l) := by
  unfold prodF; rw [fold_prod]; omega
theorem dig_low (n : Nat) : ∀ (low : List Int), low ≠ [] → (∀ c ∈ low, 0 ≤ c ∧ c < 2 ^ n) → digF n low.length (evLow (2 ^ n) low) = low
  | [], h, _ => absurd rfl h
  | [c], _, h => by simp [digF, evLow]
  | c :: d :: r, _, h => by
    have hc := h c (.head _)
    have ih := dig_low n (d :: r) (by simp) fun y hy => h y (.tail _ hy)
    show digF n (r.length + 2) (c + 2 ^ n * evLow (2 ^ n) (d :: r)) = _
    have hX : (0 : Int) < 2 ^ n := Int.pow_pos (by decide)
    rw [digF]
    rw [Int.add_mul_emod_self_left, Int.emod_eq_of_lt hc.1 hc.2, Int.add_mul_ediv_left _ _ (by omega), Int.ediv_eq_zero_of_lt hc.1 hc.2, Int.zero_add]
    rw [show r.length + 1 = (d :: r).length from rfl, ih]
theorem zip_nonneg : ∀ {a b : List Int}, (∀ c ∈ a, 0 ≤ c) → (∀ c ∈ b, 0 ≤ c) → ∀ c ∈ List.zipWith (· + ·) a b, 0 ≤ c
  | [], _, _, _, c, hc => by simp at hc
  | _ :: _, [], _, _, c, hc => by simp at hc
  | x :: a, y :: b, h1, h2, c, hc => by
    rw [List.zipWith_cons_cons] at hc
    rcases List.mem_cons.mp hc with rfl | hc
    · have := h1 x (.head _); have := h2 y (.head _); omega
    · exact zip_nonneg (fun c hc => h1 c (.tail _ hc)) (fun c hc => h2 c (.tail _ hc)) c hc
theorem topC_nonneg : ∀ l : List Int, (∀ x ∈ l, 0 ≤ x) → ∀ c ∈ topC l, 0 ≤ c
  | [], _, c, hc => by
    have : c = 1 := by simpa [topC] using hc
    omega
  | x :: r, h, c, hc => by
    have ih := topC_nonneg r fun y hy => h y (.tail _ hy)
    have hx := h x (.head _)
    rw [topC] at hc
    unfold addS at hc
    refine zip_nonneg (fun d hd => ?_) (fun d hd => ?_) c hc
    · rcases List.mem_append.mp hd with hd | hd
      · exact ih d hd
      · rw [List.mem_singleton.mp hd]; omega
    · rcases List.mem_cons.mp hd with rfl | hd
      · omega
      · obtain ⟨e, he, rfl⟩ := List.mem_map.mp hd
        exact Int.mul_nonneg hx (ih e he)
theorem evT_one : ∀ t, evT 1 t = t.sum
  | [] => rfl
  | c :: r => by
    show c * 1 ^ r.length + evT 1 r = _
    rw [evT_one r, List.sum_cons, Int.one_pow]; omega
theorem mem_le_sum : ∀ {t : List Int}, (∀ c ∈ t, 0 ≤ c) → ∀ c ∈ t, c ≤ t.sum ∧ 0 ≤ t.sum
  | x :: r, h, c, hc => by
    have hx := h x (.head _)
    rw [List.sum_cons]
    have hs : 0 ≤ r.sum := by
      cases r with
      | nil => exact Int.le_refl _
      | cons y q => exact (mem_le_sum (fun c hc => h c (.tail _ hc)) y (.head _)).2
    rcases List.mem_cons.mp hc with rfl | hc
    · omega
    · have := mem_le_sum (fun c hc => h c (.tail _ hc)) c hc
      omega
theorem sum_le (M : Int) (hM : 0 ≤ M) : ∀ l : List Int, (∀ x ∈ l, 0 ≤ x ∧ x ≤ M) → 0 ≤ evT 1 (topC l) ∧ evT 1 (topC l) ≤ (M + 1) ^ l.length
  | [], _ => by simp [topC, evT]
  | x :: r, h => by
    have hx := h x (.head _)
    have ih := sum_le M hM r fun y hy => h y (.tail _ hy)
    rw [topC, evT_addS, List.length_cons, Int.pow_succ, Int.mul_comm ((M + 1) ^ r.length)]
    exact ⟨Int.mul_nonneg (by omega) ih.1, Int.mul_le_mul (by omega) ih.2 ih.1 (by omega)⟩
theorem pow8_le {M : Int} (hM : 0 ≤ M) {k : Nat} (hk : k ≤ 8) : (M + 1) ^ k ≤ (M + 1) ^ 8 := by
  obtain ⟨m, rfl⟩ := Int.eq_ofNat_of_zero_le hM
  have := Nat.pow_le_pow_right (show 0 < m + 1 by omega) hk
  exact_mod_cast this
theorem coef_lt {M : Int} {b : Nat} (hM : 0 ≤ M) (hb : M + 1 < 2 ^ b) {l : List Int} (h : ∀ x ∈ l, 0 ≤ x ∧ x ≤ M) (hl : l.length ≤ 8) : ∀ c ∈ topC l, 0 ≤ c ∧ c < 2 ^ (8 * b) := by
  intro c hc
  have hn := topC_nonneg l fun x hx => (h x hx).1
  have h1 := mem_le_sum hn c hc
  have h2 := sum_le M hM l h
  rw [evT_one] at h2
  have h3 := pow8_le hM hl
  have h4 : (M + 1) ^ 8 < 2 ^ (8 * b) := by
    obtain ⟨m, rfl⟩ := Int.eq_ofNat_of_zero_le hM
    have hb' : m + 1 < 2 ^ b := by exact_mod_cast hb
    have := Nat.pow_lt_pow_left hb' (show (8 : Nat) ≠ 0 by decide)
    rw [← Nat.pow_mul, Nat.mul_comm b 8] at this
    exact_mod_cast this
  exact ⟨hn c hc, by omega⟩
theorem evT_lt {X : Int} (hX : 0 < X) : ∀ {t : List Int}, (∀ c ∈ t, 0 ≤ c ∧ c < X) → 0 ≤ evT X t ∧ evT X t < X ^ t.length
  | [], _ => by simp [evT]
  | c :: r, h => by
    have hc := h c (.head _)
    have ih := evT_lt hX (t := r) fun y hy => h y (.tail _ hy)
    show 0 ≤ c * X ^ r.length + evT X r ∧ c * X ^ r.length + evT X r < X ^ (r.length + 1)
    have hp : 0 < X ^ r.length := Int.pow_pos hX
    rw [Int.pow_succ]
    generalize X ^ r.length = Y at *
    generalize evT X r = e at *
    have h1 : 0 ≤ c * Y := Int.mul_nonneg hc.1 (by omega)
    have h2 : (c + 1) * Y ≤ X * Y := Int.mul_le_mul_of_nonneg_right (by omega) (by omega)
    rw [Int.add_mul, Int.mul_comm X Y] at h2
    omega
theorem evT_ge {X : Int} (hX : 0 < X) : ∀ l : List Int, (∀ x ∈ l, 0 ≤ x) → X ^ l.length ≤ evT X (topC l)
  | [], _ => by simp [topC, evT]
  | x :: r, h => by
    have ih := evT_ge hX r fun y hy => h y (.tail _ hy)
    have hx := h x (.head _)
    rw [topC, evT_addS, List.length_cons, Int.pow_succ, Int.mul_comm]
    have hp : 0 < X ^ r.length := Int.pow_pos hX
    exact Int.mul_le_mul (by omega) ih (by omega) (by omega)
theorem log_len {n k : Nat} {P : Nat} (hn : 0 < n) (h1 : 2 ^ (n * k) ≤ P) (h2 : P < 2 ^ (n * (k + 1))) : (Nat.log2 P + 1 + n - 1) / n = k + 1 := by
  have hP : P ≠ 0 := by
    have := Nat.pow_pos (n := n * k) (show 0 < 2 by decide)
    omega
  have a1 : n * k ≤ Nat.log2 P := (Nat.le_log2 hP).mpr h1
  have a2 : Nat.log2 P < n * (k + 1) := (Nat.log2_lt hP).mpr h2
  rw [show Nat.log2 P + 1 + n - 1 = Nat.log2 P + n by omega, Nat.add_div_right _ hn]
  congr 1
  rw [Nat.div_eq_iff (by omega)]
  rw [Nat.mul_add, Nat.mul_one] at a2
  rw [Nat.mul_comm k n]
  omega
theorem topF_eq {M : Int} {b : Nat} (hM : 0 ≤ M) (hb : M + 1 < 2 ^ b) {l : List Int} (h : ∀ x ∈ l, 0 ≤ x ∧ x ≤ M) (hl : l.length ≤ 8) : topF (8 * b) l = topC l ++ [0, 0, 0, 0] := by
  have hb0 : 0 < b := by
    rcases Nat.eq_zero_or_pos b with e | e
    · subst e; rw [show (2 : Int) ^ 0 = 1 from rfl] at hb; omega
    · exact e
  have hX : (0 : Int) < 2 ^ (8 * b) := Int.pow_pos (by decide)
  have hc := coef_lt hM hb h hl
  have h1 := evT_ge hX l fun x hx => (h x hx).1
  have h2 := evT_lt hX hc
  rw [topC_len] at h2
  unfold topF
  rw [prod_top]
  generalize hP : evT (2 ^ (8 * b)) (topC l) = P at h1 h2
  obtain ⟨p, rfl⟩ := Int.eq_ofNat_of_zero_le h2.1
  rw [← Int.pow_mul] at h1
  have h2' := h2.2
  rw [← Int.pow_mul] at h2'
  have g1 : 2 ^ (8 * b * l.length) ≤ p := by exact_mod_cast h1
  have g2 : p < 2 ^ (8 * b * (l.length + 1)) := by exact_mod_cast h2'
  have hp0 : p ≠ 0 := by
    have := Nat.pow_pos (n := 8 * b * l.length) (show 0 < 2 by decide)
    omega
  have hbits : Builtin.Int.intBits (p : Int) = Nat.log2 p + 1 := by
    unfold Builtin.Int.intBits
    split
    · rename_i e
      have : (p : Int) = 0 := by simpa using e
      omega
    · rfl
  rw [hbits, log_len (by omega) g1 g2]
  have hne : (topC l).reverse ≠ [] := by
    intro e
    have := congrArg List.length e
    rw [List.length_reverse, topC_len] at this
    cases this
  have hd := dig_low (8 * b) (topC l).reverse hne fun c hc' => hc c (List.mem_reverse.mp hc')
  rw [List.length_reverse, topC_len, ← evT_low, hP] at hd
  rw [hd, List.reverse_reverse]
theorem take_four : ∀ {l : List Int}, 4 ≤ l.length → l.take 4 = [l.getD 0 0, l.getD 1 0, l.getD 2 0, l.getD 3 0]
  | a :: b :: c :: d :: r, _ => by simp
theorem cut_four {l : List Int} (h : 5 ≤ l.length) : cutF l none (some 4) = [l.getD 0 0, l.getD 1 0, l.getD 2 0, l.getD 3 0] := by
  unfold cutF
  have e1 : kms_lo none l.length = 0 := rfl
  have e2 : kms_hi (some 4) l.length = 4 := by
    unfold kms_hi
    simp only
    rw [if_neg (by decide)]
    show min 4 l.length = 4
    omega
  rw [e1, e2, List.drop_zero, Nat.sub_zero, take_four (by omega)]
theorem p_top {t1 t2 : List Int} {M wh : Int} {b : Nat} (_hb0 : b ≤ 10000) (hb : M + 1 < 2 ^ b) (h1 : ∀ x ∈ t1, 0 ≤ x ∧ x ≤ M) (h2 : ∀ x ∈ t2, 0 ≤ x ∧ x ≤ M) (hM : 0 ≤ M) (hl1 : t1.length ≤ 8) (hl2 : t2.length ≤ 8) (hs : ∀ k < 5, sumOf (fun x => x ^ k) t1 - sumOf (fun x => x ^ k) t2 = if k = 4 then 24 * wh else 0) :
    (5 ≤ (topF (8 * b) t1).length ∧ (topF (8 * b) t1).length ≤ 1000) ∧ (5 ≤ (topF (8 * b) t2).length ∧ (topF (8 * b) t2).length ≤ 1000) ∧ cutF (topF (8 * b) t1) none (some 4) = cutF (topF (8 * b) t2) none (some 4) ∧ (topF (8 * b) t2).getD 4 0 - (topF (8 * b) t1).getD 4 0 = 6 * wh := by
  rw [topF_eq hM hb h1 hl1, topF_eq hM hb h2 hl2]
  have n1 : (topC t1 ++ [0, 0, 0, 0]).length = t1.length + 5 := by rw [List.length_append, topC_len]; rfl
  have n2 : (topC t2 ++ [0, 0, 0, 0]).length = t2.length + 5 := by rw [List.length_append, topC_len]; rfl
  obtain ⟨a1, a2, a3, a4⟩ := newton t1
  obtain ⟨b1, b2, b3, b4⟩ := newton t2
  have s1 : pS 1 t1 = pS 1 t2 := by have := hs 1 (by decide); rw [if_neg (by decide)] at this; simp only [pS]; omega
  have s2 : pS 2 t1 = pS 2 t2 := by have := hs 2 (by decide); rw [if_neg (by decide)] at this; simp only [pS]; omega
  have s3 : pS 3 t1 = pS 3 t2 := by have := hs 3 (by decide); rw [if_neg (by decide)] at this; simp only [pS]; omega
  have s4 : pS 4 t1 - pS 4 t2 = 24 * wh := by have := hs 4 (by decide); rw [if_pos rfl] at this; exact this
  have q1 : eS 1 t1 = eS 1 t2 := by rw [a1, b1, s1]
  have q2 : eS 2 t1 = eS 2 t2 := by rw [q1, s1, s2] at a2; omega
  have q3 : eS 3 t1 = eS 3 t2 := by rw [q1, q2, s1, s2, s3] at a3; omega
  have q4 : eS 4 t2 - eS 4 t1 = 6 * wh := by rw [q1, q2, q3, s1, s2, s3] at a4; omega
  refine ⟨⟨by omega, by omega⟩, ⟨by omega, by omega⟩, ?_, ?_⟩
  · rw [cut_four (by omega), cut_four (by omega)]
    simp only [getD_zeros]
    show [eS 0 t1, eS 1 t1, eS 2 t1, eS 3 t1] = [eS 0 t2, eS 1 t2, eS 2 t2, eS 3 t2]
    rw [eS_zero, eS_zero, q1, q2, q3]
  · simp only [getD_zeros]
    exact q4
end
theorem tab_mem {P : Addr} {q : Str} {l c : Int} {es : List (Addr × Obj)} (h : TabSt P q l c es) : ∃ ps, (P, tabObj ps) ∈ es := by
  cases h with
  | fresh => exact ⟨_, .head _⟩
  | made _ _ _ => exact ⟨_, .tail _ (.head _)⟩
set_option maxRecDepth 100000 in
set_option maxHeartbeats 8000000 in
theorem law_holds : Challenge.rw_tx0014_01.Holds := by
  refine holds_law law_said fun said => ?_
  refine holds_open (q := vw) (loose := LS) (Xt := XT) (XP := XL vw []) (Yf := Hook.obs HK) (Ya := Hook.val HK) (YP := Hook.says HK) (N := 3570)
    left (Hook.of HK) (Hook.keeps HK) (fun s e => xl_of s (Bool.and_eq_true_iff.mp e).1) XL.keeps (by rfl) (by rfl) (by rfl) (fun s e => recFacts_of (Bool.and_eq_true_iff.mp e).2) (by rfl)
    said (by decide +kernel) ⟨rfl, rfl, rfl, rfl, rfl, by decide +kernel⟩ ?hw ?hc
  case hw => w_witness2
  clear said
  k_go0
  all_goals try k_fold
  rename_i w s₀ s₁ mg mb G Y fa o pm cd doc ho hcd hg X V T B TE TW ns hs hlay0 hLa hra hl2 a1 a2 ls vs a3 hL ra w1 r0 hI hr nc tr hD h₁ tk₁ o4 o3 o2 o1 e4 e3 e2 e1 X0 X1 T1 K1 F0 cA N0 l0
  replace F0 : Fr (ghostOf s₁.heap [(165, 161), (158, 154)]) s₁.heap.objs.size h₁ (fun y => if y = Str.ofString "script" then some (Value.ref ls) else none) := by with_unfolding_all exact F0
  replace e4 : o4.data = Data.cell none := by with_unfolding_all exact e4
  replace e3 : o3.data = Data.cell none := by with_unfolding_all exact e3
  replace e2 : o2.data = Data.cell none := by with_unfolding_all exact e2
  replace e1 : o1.data = Data.cell none := by with_unfolding_all exact e1
  clear X0
  refine law_1 K1 F0 X1 N0 T1 e4 e3 e2 e1 lifted hI (by omega) l0.1 l0.2 ?_
  intro FIG fvs wd tw o1' o2' m1 h1' tk1' F1 N1 i1 d1 d2 w0 w1 lF
  obtain ⟨wn, rfl⟩ := Int.eq_ofNat_of_zero_le w0
  obtain ⟨f0, f1, f2, f3, hfg, hfb⟩ := p_figs ns
  rw [hfg] at i1
  have hw : wn < 64 := by omega
  refine law_2 K1 F1 X1 N1 T1 i1 rfl hfb d1 d2 w0 w1 l0.1 l0.2 lF ?_
  intro g tg m2 h2' tk2' F2 hg N2
  refine law_3 K1 F2 X1 N2 T1 cA codeHd i1 rfl hfb d1 d2 hw l0.1 l0.2 lF ?_
  intro EV OD evs ovs ce co es1 es2 m3 h3' tk3' F3 t1 t2 hD oFE oEO N3 hev hod
  obtain ⟨q1, q2, q3, q4, q5, q6, q7⟩ := p_all hw hfb hg
  generalize bagF g wn [f0, f1, f2, f3] 0 16 = ev at hev q1 q3 q4 q5 q6
  generalize bagF g wn [f0, f1, f2, f3] 1 16 = od at hod q2 q3 q4 q5 q7
  generalize hwh : f0 * f1 * f2 * f3 * 2 ^ (6 * wn) = wh at q4
  have z1 : @LT.lt Nat _ (s₁.heap.objs.size + 4) FIG := lF
  have z2 : @LT.lt Nat _ FIG EV := oFE
  have z3 : @LT.lt Nat _ EV OD := oEO
  refine law_4 (ce := ce) (co := co) (rest := (s₁.heap.objs.size + 3, o3) :: ([(FIG, listOf fvs.toArray fvs.length), (s₁.heap.objs.size + 1, o1'), (s₁.heap.objs.size + 2, o2'), (s₁.heap.objs.size + 4, o4)] ++ (es1 ++ es2))) K1 F3 X1 (news_sub N3 ?_) T1 hev hod (by omega) (by omega) (told_eq ev od) ?_
  · (repeat' (first | exact sub_nil | exact sub_self | refine sub_cons ?_ ?_ | refine sub_app ?_ ?_ | exact List.Mem.head _ | refine List.Mem.tail _ ?_ | refine sub_tail ?_ | (refine sub_left ?_; (repeat (first | exact sub_self | refine sub_tail ?_)); done) | (refine sub_left ?_; refine sub_left ?_; exact sub_self) | (refine sub_left ?_; refine sub_right ?_; (repeat (first | exact sub_self | refine sub_tail ?_)); done) | (refine List.mem_append_left _ ?_; (repeat (first | exact List.Mem.head _ | refine List.Mem.tail _ ?_)); done) | (refine List.mem_append_left _ ?_; refine List.mem_append_right _ ?_; (repeat (first | exact List.Mem.head _ | refine List.Mem.tail _ ?_)); done) | refine sub_right ?_ | refine List.mem_append_right _ ?_))
  intro TD lm l2 us1 us2 n1 n2 k h4' tk4' F4 N4 lt4 o5 o6 u1 u2
  have z4 : @LT.lt Nat _ l2 lm := o5
  have z5 : @LT.lt Nat _ lm TD := o6
  have z6 : @LT.lt Nat _ OD l2 := lt4 (OD, _) (.tail _ (.head _))
  have s1 : ∀ p ∈ es1 ++ es2, @LT.lt Nat _ p.1 l2 := fun p hp => lt4 p (.tail _ (.tail _ (.tail _ (List.mem_append_right _ hp))))
  have s2 : ∀ p ∈ es1 ++ es2, ∀ a ∈ [EV, OD, FIG, s₁.heap.objs.size + 1, s₁.heap.objs.size + 2, s₁.heap.objs.size + 3, s₁.heap.objs.size + 4], a ≠ p.1 := fun p hp a ha => by
    rcases List.mem_append.mp hp with hp | hp
    · exact hD.2.1 p hp a ha
    · exact hD.2.2 p hp a ha
  have N5 := news_sub N4 (l' := (EV, listOf evs.toArray ce) :: (OD, listOf ovs.toArray co) :: (s₁.heap.objs.size + 3, o3) :: ((TD, tupO [.ref lm, .ref l2] k) :: (lm, listOf (List.toArray us1) n1) :: (l2, listOf (List.toArray us2) n2) :: ([(FIG, listOf fvs.toArray fvs.length), (s₁.heap.objs.size + 1, o1'), (s₁.heap.objs.size + 2, o2'), (s₁.heap.objs.size + 4, o4)] ++ (es1 ++ es2)))) (by
    (repeat' (first | exact sub_nil | exact sub_self | refine sub_cons ?_ ?_ | refine sub_app ?_ ?_ | exact List.Mem.head _ | refine List.Mem.tail _ ?_ | refine sub_tail ?_ | (refine sub_left ?_; (repeat (first | exact sub_self | refine sub_tail ?_)); done) | (refine sub_left ?_; refine sub_left ?_; exact sub_self) | (refine sub_left ?_; refine sub_right ?_; (repeat (first | exact sub_self | refine sub_tail ?_)); done) | (refine List.mem_append_left _ ?_; (repeat (first | exact List.Mem.head _ | refine List.Mem.tail _ ?_)); done) | (refine List.mem_append_left _ ?_; refine List.mem_append_right _ ?_; (repeat (first | exact List.Mem.head _ | refine List.Mem.tail _ ?_)); done) | refine sub_right ?_ | refine List.mem_append_right _ ?_)))
  refine law_5 K1 F4 X1 N5 T1 hev hod (by omega) (by omega) e3 (by show ¬ @Eq Nat EV (s₁.heap.objs.size + 3); omega) (by show ¬ @Eq Nat OD (s₁.heap.objs.size + 3); omega) ?_ ?_
  · intro p hp
    show ¬ @Eq Nat p.1 (s₁.heap.objs.size + 3)
    rcases List.mem_cons.mp hp with rfl | hp
    · show ¬ @Eq Nat TD (s₁.heap.objs.size + 3); omega
    rcases List.mem_cons.mp hp with rfl | hp
    · show ¬ @Eq Nat lm (s₁.heap.objs.size + 3); omega
    rcases List.mem_cons.mp hp with rfl | hp
    · show ¬ @Eq Nat l2 (s₁.heap.objs.size + 3); omega
    rcases List.mem_append.mp hp with hp | hp
    · simp only [List.mem_cons, List.not_mem_nil, or_false] at hp
      rcases hp with rfl | rfl | rfl | rfl
      · show ¬ @Eq Nat FIG (s₁.heap.objs.size + 3); omega
      · show ¬ @Eq Nat (s₁.heap.objs.size + 1) (s₁.heap.objs.size + 3); omega
      · show ¬ @Eq Nat (s₁.heap.objs.size + 2) (s₁.heap.objs.size + 3); omega
      · show ¬ @Eq Nat (s₁.heap.objs.size + 4) (s₁.heap.objs.size + 3); omega
    · exact fun e => s2 p hp (s₁.heap.objs.size + 3) (by simp) e.symm
  intro RW rvs nR es5 o3' h5' tk5' F5 N6 d3 hDat lt5
  refine law_6 K1 F5 X1 N6 T1 (List.mem_append_right _ (.tail _ (.tail _ (.tail _ (.tail _ (.tail _ (.tail _ (.tail _ (List.mem_append_left _ (.head _))))))))))
    (List.mem_append_right _ (.tail _ (.tail _ (.tail _ (.tail _ (.tail _ (.tail _ (.tail _ (List.mem_append_left _ (.tail _ (.head _)))))))))))
    (List.mem_append_right _ (.tail _ (.tail _ (.tail _ (.tail _ (.tail _ (.tail _ (.tail _ (List.mem_append_left _ (.tail _ (.tail _ (.head _)))))))))))) i1 hfb d1 d2 hw ?_
  intro tg6 h6' tk6' F6 N7
  rw [hwh] at F6
  have rb := p_rowb q1 q2 fun x hx => (q3 x hx).2
  refine law_7 (wh := wh) K1 F6 X1 N7 T1 (List.mem_append_right _ (.head _)) (List.mem_append_right _ (.tail _ (.tail _ (.tail _ (.head _))))) (fun e he => List.mem_append_left _ he) d3 hDat rb.1 rb.2 ?_ ?_
  · have pk : ∀ j < 5, ((unlikeF ev od (firstsF (ev ++ od))).map (powT j)).sum = if j = 4 then 24 * wh else 0 := fun j hj => by rw [p_rows]; exact q4 j hj
    show [_, _, _, _, _] = _
    dsimp only
    rw [pk 0 (by decide), pk 1 (by decide), pk 2 (by decide), pk 3 (by decide), pk 4 (by decide)]
    rfl
  intro mp h7' tk7' F7 N8
  have N9 := news_sub N8 (l' := (s₁.heap.objs.size + 4, o4) :: (EV, listOf evs.toArray ce) :: (OD, listOf ovs.toArray co) :: ((TD, tupO [.ref lm, .ref l2] k) :: (lm, listOf (List.toArray us1) n1) :: (l2, listOf (List.toArray us2) n2) :: (es1 ++ es2))) (by
    intro p hp
    refine List.mem_append_right _ ?_
    simp only [List.mem_cons, List.mem_append, List.not_mem_nil, or_false] at hp ⊢
    rcases hp with hp | hp | hp | hp | hp | hp | hp | hp <;> simp [hp])
  refine law_8 K1 F7 X1 N9 T1 hev hod (by omega) (by omega) (fun e => by rw [e] at q1; cases q1) e4 (by show ¬ @Eq Nat EV (s₁.heap.objs.size + 4); omega) (by show ¬ @Eq Nat OD (s₁.heap.objs.size + 4); omega) ?_ (fun x hx => (q3 x hx).2) ?_
  · intro p hp
    show ¬ @Eq Nat p.1 (s₁.heap.objs.size + 4)
    rcases List.mem_cons.mp hp with rfl | hp
    · show ¬ @Eq Nat TD (s₁.heap.objs.size + 4); omega
    rcases List.mem_cons.mp hp with rfl | hp
    · show ¬ @Eq Nat lm (s₁.heap.objs.size + 4); omega
    rcases List.mem_cons.mp hp with rfl | hp
    · show ¬ @Eq Nat l2 (s₁.heap.objs.size + 4); omega
    · exact fun e => s2 p hp (s₁.heap.objs.size + 4) (by simp) e.symm
  intro M o4' tz h8' tk8' F8 N10 d4 hM hMax
  have hM0 : 0 ≤ M := (q3 M hM).1
  obtain ⟨p1, p2, p3⟩ := p_size hM0 (q3 M hM).2
  have hsum : ∀ k < 5, sumOf (fun x => x ^ k) (uldF ev od).1 - sumOf (fun x => x ^ k) (uldF ev od).2 = if k = 4 then 24 * wh else 0 := fun k hk => by rw [told_sum]; exact q4 k hk
  have r1 : ∀ x ∈ (uldF ev od).1, 0 ≤ x ∧ x ≤ M := fun x hx => ⟨(q3 x (List.mem_append_left _ (told_mem1 hx))).1, hMax x (List.mem_append_left _ (told_mem1 hx))⟩
  have r2 : ∀ x ∈ (uldF ev od).2, 0 ≤ x ∧ x ≤ M := fun x hx => ⟨(q3 x (List.mem_append_right _ (told_mem2 hx))).1, hMax x (List.mem_append_right _ (told_mem2 hx))⟩
  have tl := uld_len ev.reverse [] od
  rw [List.length_reverse, List.length_nil] at tl
  have tl1 : (uldF ev od).1.length ≤ 8 := by have := tl.1; unfold uldF; omega
  have tl2 : (uldF ev od).2.length ≤ 8 := by have := tl.2; unfold uldF; omega
  generalize hbb : Builtin.Int.intBits (M + 1) = bb at d4 p1 p2 p3
  have big : ∀ x : Int, x ≤ M → x < 2 ^ (8 * bb) := fun x hx => by
    have e1 : (2 : Int) ^ bb ≤ 2 ^ (8 * bb) := by
      have := Nat.pow_le_pow_right (show 0 < 2 by decide) (show bb ≤ 8 * bb by omega)
      exact_mod_cast this
    omega
  obtain ⟨v1, v2, v3, v4⟩ := p_top (b := bb) (by omega) p3 r1 r2 hM0 tl1 tl2 hsum
  have d4c : o4'.data = .cell (some (.int ((8 * bb : Nat) : Int) tz)) := by rw [d4]; push_cast; rfl
  have N11 := news_sub N10 (l' := es2 ++ ((s₁.heap.objs.size + 4, o4') :: (TD, tupO [.ref lm, .ref l2] k) :: (lm, listOf (List.toArray us1) n1) :: (l2, listOf (List.toArray us2) n2) :: ((EV, listOf evs.toArray ce) :: (OD, listOf ovs.toArray co) :: es1))) (by
    (repeat' (first | exact sub_nil | exact sub_self | refine sub_cons ?_ ?_ | refine sub_app ?_ ?_ | exact List.Mem.head _ | refine List.Mem.tail _ ?_ | refine sub_tail ?_ | (refine sub_left ?_; (repeat (first | exact sub_self | refine sub_tail ?_)); done) | (refine sub_left ?_; refine sub_left ?_; exact sub_self) | (refine sub_left ?_; refine sub_right ?_; (repeat (first | exact sub_self | refine sub_tail ?_)); done) | (refine List.mem_append_left _ ?_; (repeat (first | exact List.Mem.head _ | refine List.Mem.tail _ ?_)); done) | (refine List.mem_append_left _ ?_; refine List.mem_append_right _ ?_; (repeat (first | exact List.Mem.head _ | refine List.Mem.tail _ ?_)); done) | refine sub_right ?_ | refine List.mem_append_right _ ?_)))
  refine law_9 K1 F8 X1 N11 T1 codeHd t2 ?_ u1 u2 tl1 tl2 d4c p1 (by omega) (fun x hx => (r1 x hx).1) (fun x hx => (r2 x hx).1) (fun x hx => big x (r1 x hx).2) (fun x hx => big x (r2 x hx).2) ?_
  · intro e he q hq
    have se := s1 e (List.mem_append_right _ he)
    have ae := s2 e (List.mem_append_right _ he)
    rcases List.mem_cons.mp hq with rfl | hq
    · exact ae _ (by simp)
    rcases List.mem_cons.mp hq with rfl | hq
    · show ¬ @Eq Nat TD e.1; omega
    rcases List.mem_cons.mp hq with rfl | hq
    · show ¬ @Eq Nat lm e.1; omega
    rcases List.mem_cons.mp hq with rfl | hq
    · show ¬ @Eq Nat l2 e.1; omega
    rcases List.mem_cons.mp hq with rfl | hq
    · exact ae _ (by simp)
    rcases List.mem_cons.mp hq with rfl | hq
    · exact ae _ (by simp)
    · exact (hD.1 q hq e he).symm
  intro MI YO vm vy cm cy es2' h9' tk9' F9 N12 t2' im iy
  have N13 := news_sub N12 (l' := (MI, listOf (List.toArray vm) cm) :: (YO, listOf (List.toArray vy) cy) :: (EV, listOf evs.toArray ce) :: (OD, listOf ovs.toArray co) :: (es2' ++ es1)) (by
    (repeat' (first | exact sub_nil | exact sub_self | refine sub_cons ?_ ?_ | refine sub_app ?_ ?_ | exact List.Mem.head _ | refine List.Mem.tail _ ?_ | refine sub_tail ?_ | (refine sub_left ?_; (repeat (first | exact sub_self | refine sub_tail ?_)); done) | (refine sub_left ?_; refine sub_left ?_; exact sub_self) | (refine sub_left ?_; refine sub_right ?_; (repeat (first | exact sub_self | refine sub_tail ?_)); done) | (refine List.mem_append_left _ ?_; (repeat (first | exact List.Mem.head _ | refine List.Mem.tail _ ?_)); done) | (refine List.mem_append_left _ ?_; refine List.mem_append_right _ ?_; (repeat (first | exact List.Mem.head _ | refine List.Mem.tail _ ?_)); done) | refine sub_right ?_ | refine List.mem_append_right _ ?_)))
  refine law_10 K1 F9 X1 N13 T1 hev hod (by omega) (by omega) im iy v1 v2 v3 v4 q6 q7 (uldF_perm q5) ?_
  intro m' h' tk' F' N'
  dsimp only
  obtain ⟨ps1, g1⟩ := tab_mem t1
  obtain ⟨ps2, g2⟩ := tab_mem t2'
  refine And.intro ?_ (And.intro (GrownAt.of N' (List.mem_append_right _ g1)) (And.intro (GrownAt.of N' (List.mem_append_left _ g2)) True.intro))
  wrow_close
end Mine
theorem PySem.Challenge.cw_tx0014_01_holds : PySem.Challenge.rw_tx0014_01.Holds := by
  exact Mine.law_holds
