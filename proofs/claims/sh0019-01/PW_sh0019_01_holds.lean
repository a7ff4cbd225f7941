import PyProof.Rows.All
import Wide.All
import OpenK.AllK
import Wide.FinOn
import Lean
import PySem.Challenge.RW_sh0019_01
set_option Elab.async false
set_option maxRecDepth 100000
set_option linter.unusedVariables false

section
open PySem PySem.W PyProof.Rows
namespace Mine
set_option maxHeartbeats 0 in
open_top hd for PySem.Challenge.rw_sh0019_01
theorem top_off : True := by
  w_top off
  trivial
end Mine
end

section
open PySem PySem.W PySem.Spec PySem.Calls PyProof.Rows
namespace Mine
abbrev PP := PySem.Challenge.rw_sh0019_01.prog

structure Std (lv : Nat) (w : World) (p : Program) (loose : List Str) (mean : ExcName → Option Value) (mg mb : Str → Option Value)
    (dp un : Nat) (cs : Scope) (outer : List Env) (A₀ : Around) (base h₀ : Heap) (L : Addr) (m : Str → Option Value) (h : Heap) (news : List (Addr × Obj)) : Prop where
  B : Below A₀ base outer h₀
  F : Fr h₀ L h m
  X : (hd.heap_39 w.params).In h₀
  N : News h₀ L h news
  T : Top p loose mean mg mb h₀
  hk : cs.kind = .function
  hdp : dp + lv < recursionLimit
  hun : un + 20 * lv < cLine

abbrev ent (w : World) (x : Str) (t : Tok) (v : Value) : DictEntry := ⟨PyData.keyHash w.params x, .str x t, v⟩
structure MV where
  l : Addr
  x : Addr
  d : Addr
  t1 : Tok
  t2 : Tok
  t3 : Tok
  t4 : Tok
  t5 : Tok
  ln : Value
  st : Value
  k : Nat
abbrev machL (w : World) (M : MV) (vs : List Value) (n : Nat) (rest : List (Addr × Obj)) : List (Addr × Obj) :=
  (M.l, listOf vs.toArray n) :: (M.x, instObj 90 M.d) ::
  (M.d, dictOf [ent w (Str.ofString "lineno") M.t1 M.ln, ent w (Str.ofString "instream") M.t2 M.st, ent w (Str.ofString "whitespace") M.t3 (.str (Str.ofString "\n\t\r ") M.t5), ent w (Str.ofString "pushback") M.t4 (.ref M.l)] M.k) :: rest
structure MOff (M : MV) (rest : List (Addr × Obj)) : Prop where
  lx : M.l ≠ M.x
  ld : M.l ≠ M.d
  xd : M.x ≠ M.d
  off : OwnOff rest [M.l, M.x, M.d]

section
variable {w : World} {p : Program} {loose : List Str} {mean : ExcName → Option Value} {mg mb : Str → Option Value} {dp un : Nat} {gd : Option (List Code)} {cn : Str} {cs : Scope} {a : Addr} {ccd : Value} {cl : List (Str × Addr)} {outer : List Env} {A₀ : Around} {base h₀ : Heap} {L : Addr} {m : Str → Option Value} {s : Shared} {M : MV} {vs : List Value} {n : Nat} {rest : List (Addr × Obj)} {Q E : Value → Shared → Prop}

theorem mach_turn (o : MOff M rest) (vs' : List Value) (n' : Nat) : Upd M.l (listOf vs.toArray n) (listOf vs'.toArray n') (machL w M vs n rest) (machL w M vs' n' rest) := by
  refine Upd.head ?_
  intro q hq
  rcases List.mem_cons.mp hq with rfl | hq
  · exact fun e => o.lx e.symm
  rcases List.mem_cons.mp hq with rfl | hq
  · exact fun e => o.ld e.symm
  · exact o.off q hq M.l (by simp)
theorem MOff.cons {x : Addr} {ob : Obj} (o : MOff M rest) (h1 : M.l < x) (h2 : M.x < x) (h3 : M.d < x) : MOff M ((x, ob) :: rest) :=
  ⟨o.lx, o.ld, o.xd, fun q hq b hb e => by
    rcases List.mem_cons.mp hq with rfl | hq
    · have e' : x = b := e
      rcases List.mem_cons.mp hb with rfl | hb
      · exact absurd e' (Nat.ne_of_gt h1)
      rcases List.mem_cons.mp hb with rfl | hb
      · exact absurd e' (Nat.ne_of_gt h2)
      rcases List.mem_cons.mp hb with rfl | hb
      · exact absurd e' (Nat.ne_of_gt h3)
      · cases hb
    · exact o.off q hq b hb e⟩
theorem mach_lt {I : Addr} {led : List (Addr × Obj)} (h : ∀ p ∈ led, p.1 < I) (hm : ∀ p ∈ machL w M vs n rest, p ∈ led) : M.l < I ∧ M.x < I ∧ M.d < I ∧ ∀ p ∈ rest, p.1 < I :=
  ⟨h _ (hm (M.l, _) (.head _)), h _ (hm (M.x, _) (.tail _ (.head _))), h _ (hm (M.d, _) (.tail _ (.tail _ (.head _)))), fun p hp => h p (hm p (.tail _ (.tail _ (.tail _ hp))))⟩
theorem mach_all {P : Addr × Obj → Prop} (h1 : P (M.l, listOf vs.toArray n)) (h2 : ∀ p ∈ (M.x, instObj 90 M.d) :: (M.d, dictOf [ent w (Str.ofString "lineno") M.t1 M.ln, ent w (Str.ofString "instream") M.t2 M.st, ent w (Str.ofString "whitespace") M.t3 (.str (Str.ofString "\n\t\r ") M.t5), ent w (Str.ofString "pushback") M.t4 (.ref M.l)] M.k) :: rest, P p) :
    ∀ p ∈ machL w M vs n rest, P p := by
  intro p hp
  rcases List.mem_cons.mp hp with rfl | hp
  · exact h1
  · exact h2 p hp
theorem mach_mem1 {q : Addr × Obj} : ∀ p ∈ machL w M vs n (q :: rest), p ∈ q :: machL w M vs n rest := by
  intro p hp
  rcases List.mem_cons.mp hp with rfl | hp
  · exact .tail _ (.head _)
  rcases List.mem_cons.mp hp with rfl | hp
  · exact .tail _ (.tail _ (.head _))
  rcases List.mem_cons.mp hp with rfl | hp
  · exact .tail _ (.tail _ (.tail _ (.head _)))
  rcases List.mem_cons.mp hp with rfl | hp
  · exact .head _
  · exact .tail _ (.tail _ (.tail _ (.tail _ hp)))
theorem mach_mem1' {q : Addr × Obj} : ∀ p ∈ q :: machL w M vs n rest, p ∈ machL w M vs n (q :: rest) := by
  intro p hp
  rcases List.mem_cons.mp hp with rfl | hp
  · exact .tail _ (.tail _ (.tail _ (.head _)))
  rcases List.mem_cons.mp hp with rfl | hp
  · exact .head _
  rcases List.mem_cons.mp hp with rfl | hp
  · exact .tail _ (.head _)
  rcases List.mem_cons.mp hp with rfl | hp
  · exact .tail _ (.tail _ (.head _))
  · exact .tail _ (.tail _ (.tail _ (.tail _ hp)))
theorem mach_push {h : Heap} {q : Addr × Obj} (N : News h₀ L h (q :: machL w M vs n rest)) : News h₀ L h (machL w M vs n (q :: rest)) := fun p hp => N p (mach_mem1 p hp)
theorem mach_pull {h : Heap} {q : Addr × Obj} (N : News h₀ L h (machL w M vs n (q :: rest))) : News h₀ L h (q :: machL w M vs n rest) := fun p hp => N p (mach_mem1' p hp)
theorem cons_swap {h : Heap} {q q' : Addr × Obj} {l : List (Addr × Obj)} (N : News h₀ L h (q :: q' :: l)) : News h₀ L h (q' :: q :: l) := fun p hp => by
  rcases List.mem_cons.mp hp with rfl | hp
  · exact N _ (.tail _ (.head _))
  rcases List.mem_cons.mp hp with rfl | hp
  · exact N _ (.head _)
  · exact N _ (.tail _ (.tail _ hp))
theorem mach_push2 {h : Heap} {q q' : Addr × Obj} (N : News h₀ L h (q :: q' :: machL w M vs n rest)) : News h₀ L h (machL w M vs n (q :: q' :: rest)) := mach_push (fun p hp => by
  rcases List.mem_cons.mp hp with rfl | hp
  · exact N _ (.head _)
  · exact N p (.tail _ (mach_mem1 p hp)))
theorem mach_pull2 {h : Heap} {q q' : Addr × Obj} (N : News h₀ L h (machL w M vs n (q :: q' :: rest))) : News h₀ L h (q :: q' :: machL w M vs n rest) := fun p hp => by
  have N' := mach_pull N
  rcases List.mem_cons.mp hp with rfl | hp
  · exact N' _ (.head _)
  · exact N' p (.tail _ (mach_mem1' p hp))
theorem if_no {P : Prop} [Decidable P] {x y : Prop} (h : ¬ P) (hy : y) : if P then x else y := by rw [if_neg h]; exact hy
theorem if_yes {P : Prop} [Decidable P] {x y : Prop} (h : P) (hx : x) : if P then x else y := by rw [if_pos h]; exact hx
end
end Mine

end

section
open PySem PySem.W PySem.Spec PySem.Calls PyProof.Rows
namespace Mine
section
variable {prog : Program} {w : World} {A : Around} {s : Shared} {env : Env} {h₀ : Heap} {R : Result → Shared → Prop}

/-- one turn of a for loop -/
theorem for_turn {target : Expr} {it : Value} {body : List Stmt}
    (h : wpAny (model prog w) A (pyNext it) (fun r s₁ => match r with
      | none => wpAny (model prog w) A (execs [] env) (fun f s₃ => R (.ok f) s₃) (notedBy (model prog w) A env fun e s' => R (.error e) s') s₁
      | some v => wpAny (model prog w) A (letOwnedTupleGo target it v) (fun _ s₁' =>
          wpAny (model prog w) A (assign target env v) (fun _ s₂ => wpAny (model prog w) A (execs body env) (fun f s₃ => match f with
            | .next | .cont => codeAny (model prog w) A (.forLoop target it body [] env) R s₃
            | .brk => R (.ok .next) s₃
            | .ret v => R (.ok (.ret v)) s₃) (notedBy (model prog w) A env fun e s' => R (.error e) s') s₂) (notedBy (model prog w) A env fun e s' => R (.error e) s') s₁') (notedBy (model prog w) A env fun e s' => R (.error e) s') s₁) (notedBy (model prog w) A env fun e s' => R (.error e) s') s) :
    codeAny (model prog w) A (.forLoop target it body [] env) R s := by
  refine codeAny_loop' rfl (fun n s' => n = 0 ∧ s' = s) (fun n s' hI => ?_) 0 ⟨rfl, rfl⟩
  obtain ⟨rfl, rfl⟩ := hI
  show wpAny _ A ((forTurn target it body [] env).onRaise (fun x => do noteFrame x env; theTreesLotGoes x)) _ _ _
  refine wpAny_noted ?_
  simp only [forTurn]
  refine wpAny_bind (wpAny_standAt (wpAny_bind (wpAny_onRaise (wpAny_mono h (fun r s₁ h₁ => ?_) fun _ _ h' => wpAny_standAt h'))))
  cases r with
  | none => exact wpAny_pure (.inr ⟨rfl, codeAny_block h₁⟩)
  | some v =>
    refine wpAny_bind (wpAny_mono h₁ (fun _ s₁' h₁' => ?_) fun _ _ h' => h')
    refine wpAny_bind (wpAny_mono h₁' (fun _ s₂ h₂ => wpAny_bind (wpAny_mono h₂ (fun f s₃ h₃ => ?_) fun _ _ h' => h')) fun _ _ h' => h')
    cases f with
    | next => exact wpAny_pure (.inr ⟨rfl, h₃⟩)
    | cont => exact wpAny_pure (.inr ⟨rfl, h₃⟩)
    | brk => exact wpAny_pure h₃
    | ret v => exact wpAny_pure h₃

/-- an iterator by its object: at step i its object answers O i; what else it reads is in C -/
structure It (prog : Program) (w : World) (A : Around) (I : Addr) (n : Nat) (P : Nat → Value → Prop) (O : Nat → Obj → Prop) (C : Heap → Prop) : Prop where
  item : ∀ i (s : Shared) o (Q : Option Value → Shared → Prop) (E : Value → Shared → Prop), i < n → s.heap.get? I = some o → O i o → C s.heap →
    (∀ v h' o' tk, P i v → h'.get? I = some o' → O (i + 1) o' → Heap.SameBut I s.heap h' → Q (some v) { s with heap := h', toks := tk }) → wpAny (model prog w) A (pyNext (.ref I)) Q E s
  done : ∀ (s : Shared) o (Q : Option Value → Shared → Prop) (E : Value → Shared → Prop), s.heap.get? I = some o → O n o → C s.heap →
    (∀ h' tk, Heap.ExtBut I s.heap h' → Q none { s with heap := h', toks := tk }) → wpAny (model prog w) A (pyNext (.ref I)) Q E s

theorem fr_ext {L I : Addr} {h h' : Heap} {m : Str → Option Value} (F : Fr h₀ L h m) (hs : Heap.ExtBut I h h') (hI : I ≠ L) (h0 : h₀.get? I = none) : Fr h₀ L h' m :=
  ⟨F.ns.at' fun o e => hs L o (Ne.symm hI) e, fun b o e => hs b o (fun q => by rw [q, h0] at e; cases e) (F.keep b o e), F.above⟩
theorem news_ext {L I : Addr} {h h' : Heap} {led : List (Addr × Obj)} (N : News h₀ L h led) (hs : Heap.ExtBut I h h') (off : ∀ p ∈ led, p.1 ≠ I) : News h₀ L h' led :=
  fun p hp => ⟨hs p.1 p.2 (off p hp) (N p hp).1, (N p hp).2⟩
theorem news_sub {L : Addr} {h : Heap} {led led' : List (Addr × Obj)} (N : News h₀ L h led) (hs : ∀ p ∈ led', p ∈ led) : News h₀ L h led' := fun p hp => N p (hs p hp)

theorem it_list {ax : Addr} {items : Array Value} (hh : A.handled = none) (I : Addr) :
    It prog w A I items.size (fun i v => items[i]? = some v) (fun i o => o.cls = .type "list_iterator" ∧ o.data = .fields #[.ref ax, .int i 0]) (fun h => h.IsList ax items) where
  item := fun i s o Q E hi ho hO hC hQ => by
    refine wpAny_pyNext_list_item ⟨o, ho, hO.1, hO.2⟩ hC (x := items[i]) (by simp [hi]) fun h' hit' hs' => ?_
    obtain ⟨o', ho', hO'⟩ := hit'
    exact hQ _ h' o' s.toks (by simp [hi]) ho' hO' hs'
  done := fun s o Q E ho hO hC hQ => wpAny_pyNext_list_end hh ⟨o, ho, hO.1, hO.2⟩ hC (by simp) fun h' he' => hQ h' s.toks he'

theorem it_range {a c : Int} {n : Nat} (hh : A.handled = none) (I : Addr) :
    It prog w A I n (fun i v => ∃ t, v = .int (a + (i : Nat) * c) t) (fun i o => o = { cls := .type "range_iterator", dict := none, data := .fields #[rawInt (a + (i : Nat) * c), rawInt ((n : Int) - (i : Nat)), rawInt c], slots := #[] }) (fun _ => True) where
  item := fun i s o Q E hi ho hO hC hQ => by
    subst hO
    refine wpAny_pyNext_range_item ho (by omega) fun h' hit' hs' => ?_
    have e1 : a + ((i + 1 : Nat) : Int) * c = a + (i : Int) * c + c := by push_cast; rw [Int.add_mul, Int.one_mul, Int.add_assoc]
    have e2 : (n : Int) - ((i + 1 : Nat) : Int) = (n : Int) - (i : Int) - 1 := by push_cast; omega
    exact hQ _ h' _ _ ⟨_, rfl⟩ hit' (by rw [e1, e2]) hs'
  done := fun s o Q E ho hO hC hQ => by
    subst hO
    exact wpAny_pyNext_range_end hh ho (by omega) fun h' he' => hQ h' s.toks he'

/-- one turn over a plain name -/
theorem for_item {x : Str} {px : Pos} {body : List Stmt} {I : Addr} {n i : Nat} {P : Nat → Value → Prop} {O : Nat → Obj → Prop} {C : Heap → Prop} {o : Obj} {m : Str → Option Value} {led : List (Addr × Obj)}
    (T : It prog w A I n P O C) (hi : i < n) (hx : env.kindOf x = some .local) (hp : (env.scope.kind == .class || (env.scope.kind == .module && env.locals != env.globals)) = false)
    (F : Fr h₀ env.locals s.heap m) (N : News h₀ env.locals s.heap ((I, o) :: led)) (hO : O i o) (hC : C s.heap) (off : ∀ p ∈ led, p.1 ≠ I)
    (h : ∀ v h' o' tk, P i v → O (i + 1) o' → Fr h₀ env.locals h' (fun y => if y = x then some v else m y) → News h₀ env.locals h' ((I, o') :: led) →
      wpAny (model prog w) A (execs body env) (fun f s₃ => match f with
            | .next | .cont => codeAny (model prog w) A (.forLoop (.Name x px) (.ref I) body [] env) R s₃
            | .brk => R (.ok .next) s₃
            | .ret v => R (.ok (.ret v)) s₃) (notedBy (model prog w) A env fun e s' => R (.error e) s') { s with heap := h', toks := tk }) :
    codeAny (model prog w) A (.forLoop (.Name x px) (.ref I) body [] env) R s := by
  have zI := N (I, o) (.head _)
  refine for_turn (T.item i s o _ _ hi zI.1 hO hC fun v h₁ o' tk hP ho' hO' hs => ?_)
  show wpAny _ A (letOwnedTupleGo (.Name x px) (.ref I) v) _ _ _
  refine wpAny_of_eq (a := ()) rfl ?_
  have F₁ : Fr h₀ env.locals h₁ m := fr_ext F hs.extBut zI.2.1 zI.2.2
  have N₁ : News h₀ env.locals h₁ led := news_ext (fun p hp => N p (.tail _ hp)) hs.extBut off
  refine wpAny_assign_Name (wpAny_storeName_local hx F₁.ns (fun h₂ hn₂ hs₂ => ?_) hp)
  have F₂ := F₁.set hn₂ hs₂
  refine h v h₂ o' _ hP hO' F₂ fun p hp => ?_
  rcases List.mem_cons.mp hp with rfl | hp
  · exact ⟨(hs₂.2 _ zI.2.1).trans ho', zI.2⟩
  · exact (N₁.set hs₂) p hp

theorem for_done {x : Str} {px : Pos} {body : List Stmt} {I : Addr} {n : Nat} {P : Nat → Value → Prop} {O : Nat → Obj → Prop} {C : Heap → Prop} {o : Obj} {m : Str → Option Value} {led : List (Addr × Obj)}
    (T : It prog w A I n P O C) (F : Fr h₀ env.locals s.heap m) (N : News h₀ env.locals s.heap ((I, o) :: led)) (hO : O n o) (hC : C s.heap) (off : ∀ p ∈ led, p.1 ≠ I)
    (h : ∀ h' tk, Fr h₀ env.locals h' m → News h₀ env.locals h' led → R (.ok .next) { s with heap := h', toks := tk }) :
    codeAny (model prog w) A (.forLoop (.Name x px) (.ref I) body [] env) R s := by
  have zI := N (I, o) (.head _)
  refine for_turn (T.done s o _ _ zI.1 hO hC fun h₁ tk hs => ?_)
  exact wpAny_execs_nil (h h₁ tk (fr_ext F hs zI.2.1 zI.2.2) (news_ext (fun p hp => N p (.tail _ hp)) hs off))

/-- a loop by an invariant over the frame and the ledger, whose addresses lie below the iterator -/
theorem for_inv {x : Str} {px : Pos} {body : List Stmt} {I : Addr} {n : Nat} {P : Nat → Value → Prop} {O : Nat → Obj → Prop} {C : Heap → Prop} {o : Obj} {m : Str → Option Value} {led : List (Addr × Obj)}
    (T : It prog w A I n P O C) (hx : env.kindOf x = some .local) (hp : (env.scope.kind == .class || (env.scope.kind == .module && env.locals != env.globals)) = false)
    (J : Nat → (Str → Option Value) → List (Addr × Obj) → Prop) (hJC : ∀ i m led h, J i m led → News h₀ env.locals h led → C h) (hJI : ∀ i m led, J i m led → ∀ p ∈ led, p.1 ≠ I)
    (step : ∀ i v m₁ led₁ h' o' tk, i < n → P i v → J i m₁ led₁ → O (i + 1) o' → Fr h₀ env.locals h' (fun y => if y = x then some v else m₁ y) → News h₀ env.locals h' ((I, o') :: led₁) →
      wpAny (model prog w) A (execs body env) (fun f s₃ => match f with
            | .next | .cont => ∃ h'' tk' m₂ led₂, s₃ = { s with heap := h'', toks := tk' } ∧ Fr h₀ env.locals h'' m₂ ∧ News h₀ env.locals h'' ((I, o') :: led₂) ∧ J (i + 1) m₂ led₂
            | .brk => R (.ok .next) s₃
            | .ret v => R (.ok (.ret v)) s₃) (notedBy (model prog w) A env fun e s' => R (.error e) s') { s with heap := h', toks := tk })
    (done : ∀ m₁ led₁ h' tk, J n m₁ led₁ → Fr h₀ env.locals h' m₁ → News h₀ env.locals h' led₁ → R (.ok .next) { s with heap := h', toks := tk })
    (F : Fr h₀ env.locals s.heap m) (N : News h₀ env.locals s.heap ((I, o) :: led)) (hO : O 0 o) (hJ : J 0 m led) :
    codeAny (model prog w) A (.forLoop (.Name x px) (.ref I) body [] env) R s := by
  have go : ∀ k i, i + k = n → ∀ h tk m₁ led₁ o₁, J i m₁ led₁ → O i o₁ → Fr h₀ env.locals h m₁ → News h₀ env.locals h ((I, o₁) :: led₁) →
      codeAny (model prog w) A (.forLoop (.Name x px) (.ref I) body [] env) R { s with heap := h, toks := tk } := by
    intro k
    induction k with
    | zero =>
      intro i hi h tk m₁ led₁ o₁ hJ hO F N
      obtain rfl : i = n := by omega
      have N' : News h₀ env.locals h led₁ := fun p hp => N p (.tail _ hp)
      exact for_done T F N hO (hJC _ _ _ _ hJ N') (hJI _ _ _ hJ) fun h' tk' F' N'' => done _ _ h' tk' hJ F' N''
    | succ k ih =>
      intro i hi h tk m₁ led₁ o₁ hJ hO F N
      have N' : News h₀ env.locals h led₁ := fun p hp => N p (.tail _ hp)
      refine for_item T (by omega) hx hp F N hO (hJC _ _ _ _ hJ N') (hJI _ _ _ hJ) fun v h' o' tk' hP hO' F' N'' => ?_
      refine wpAny_mono (step i v m₁ led₁ h' o' tk' (by omega) hP hJ hO' F' N'') (fun f s₃ h₃ => ?_) fun _ _ e => e
      cases f with
      | ret v => exact h₃
      | brk => exact h₃
      | next =>
        obtain ⟨h₄, tk₄, m₂, led₂, rfl, F₂, N₂, hJ₂⟩ := h₃
        exact ih (i + 1) (by omega) h₄ tk₄ m₂ led₂ o' hJ₂ hO' F₂ N₂
      | cont =>
        obtain ⟨h₄, tk₄, m₂, led₂, rfl, F₂, N₂, hJ₂⟩ := h₃
        exact ih (i + 1) (by omega) h₄ tk₄ m₂ led₂ o' hJ₂ hO' F₂ N₂
  exact go n 0 (by omega) s.heap s.toks m led o hJ hO F N
end
section
variable {prog : Program} {w : World} {A : Around} {s : Shared} {h₀ : Heap} {L : Addr} {m : Str → Option Value} {led : List (Addr × Obj)} {Q E : Value → Shared → Prop}
theorem iterList {ax : Addr} {items : Array Value} {n : Nat} (F : Fr h₀ L s.heap m) (N : News h₀ L s.heap led) (hm : (ax, listOf items n) ∈ led)
    (h : ∀ I h', Fr h₀ L h' m → News h₀ L h' ((I, { cls := .type "list_iterator", data := .fields #[.ref ax, .int 0 0] }) :: led) → (∀ p ∈ led, p.1 < I) → Q (.ref I) { s with heap := h' }) :
    wpAny (model prog w) A (pyIter (.ref ax)) Q E s :=
  wpAny_pyIter_list ⟨_, (N _ hm).1, rfl, n, rfl⟩ (h _ _ (F.push _) (N.push F _) fun p hp => Heap.lt_size (N p hp).1)
theorem iterRange {r : Addr} {a b c : Int} {t u v : Tok} (F : Fr h₀ L s.heap m) (N : News h₀ L s.heap led) (hr : IsRange s.heap r a b c t u v) (hs : Builtin.Range.small a b c = true)
    (h : ∀ I h', Fr h₀ L h' m → News h₀ L h' ((I, { cls := .type "range_iterator", data := .fields #[rawInt a, rawInt (Builtin.Range.rangeSize a b c), rawInt c] }) :: led) → (∀ p ∈ led, p.1 < I) → Q (.ref I) { s with heap := h' }) :
    wpAny (model prog w) A (pyIter (.ref r)) Q E s :=
  wpAny_pyIter_range hr hs (h _ _ (F.push _) (N.push F _) fun p hp => Heap.lt_size (N p hp).1)
end
end Mine

end

section
open PySem PySem.W PySem.Spec PySem.Calls PyProof.Rows
namespace Mine
theorem slot_re : Slot "re.Pattern" "sub" "re.Pattern.sub" :=
  .of (owner := "re.Pattern") (n := "sub") (by rw [typeLookup_type, builtinLookup_eq_fast]; kernel_rfl) (by decide +kernel) (by decide +kernel) (by decide +kernel)
    (by first | exact .inl (by decide +kernel) | exact .inr (by decide +kernel)) (by rw [isSubtype_type]; kernel_rfl)
theorem type_re : typeOf (.builtin "re.Pattern.sub") = pure (.type "method_descriptor") := by show builtinType _ = _; rw [builtinType_eq_fast]; kernel_rfl
theorem entry_re : entryFor table "re.Pattern.sub" = some Builtin.«re.Pattern.sub» := entryFor_of_tree (by kernel_rfl)
theorem entry_re_loop : entryFor table "re.Pattern.sub.loop" = some Builtin.«re.Pattern.sub.loop» := entryFor_of_tree (by kernel_rfl)
theorem attrs_re : PlainAttrs "re.Pattern" :=
  ⟨⟨"object.__getattribute__", by rw [typeLookup_type, builtinLookup_eq_fast]; kernel_rfl, by decide +kernel⟩, by rw [typeLookup_type, builtinLookup_eq_fast]; kernel_rfl⟩
#check @signature?_of
#check @argsOk
#print argsOk
theorem args_re (a b c : Value) : argsOk "re.Pattern.sub" ⟨[a, b, c], []⟩ := by
  unfold argsOk; kernel_rfl
end Mine

end

section
open PySem PySem.W PySem.Spec PySem.Calls PyProof.Rows PySem.Builtin PySem.Builtin.Re
namespace Mine
def driveTo : Nat → Sre.M → Option Sre.M
  | 0, _ => none
  | k + 1, m => if (m.runFor reTurnSteps).outcome.isSome then some (m.runFor reTurnSteps) else driveTo k (m.runFor reTurnSteps)
section
variable {M : Model} {A : Around} {E : Value → Shared → Prop} {s : Shared}
theorem drive_c {Q : Sre.M → Shared → Prop} : ∀ k turns m m', k ≤ turns → driveTo k m = some m' → Q m' s → wpAny M A (reDrive turns m) Q E s
  | 0, _, _, _, _, h, _ => by cases h
  | k + 1, 0, _, _, hk, _, _ => absurd hk (by omega)
  | k + 1, t + 1, m, m', hk, h, hq => by
    unfold driveTo at h
    unfold reDrive
    dsimp only
    by_cases ho : (m.runFor reTurnSteps).outcome.isSome = true
    · rw [if_pos ho] at h ⊢
      cases h
      exact wpAny_pure hq
    · rw [if_neg ho] at h ⊢
      exact wpAny_bind (wpAny_rule (drive_c k t _ m' (by omega) h hq))
theorem rules_c {Q : PUnit → Shared → Prop} {f : Nat → PUnit → Sem (ForInStep PUnit)} (hf : ∀ i (Q' : ForInStep PUnit → Shared → Prop), Q' (.yield ⟨⟩) s → wpAny M A (f i ⟨⟩) Q' E s) (hq : Q ⟨⟩ s) : ∀ l : List Nat, wpAny M A (forIn l PUnit.unit f) Q E s
  | [] => wpAny_pure hq
  | i :: l => by
    rw [List.forIn_cons]
    exact wpAny_bind (hf i _ (rules_c hf hq l))
theorem runToEnd_c {Q : Option Sre.M → Shared → Prop} {m m' : Sre.M} {k : Nat} (hk : k ≤ 2 ^ 64) (h : driveTo k m = some m') (b : Bool) (ho : m'.outcome = some (if b then .matched else .failed)) (hq : Q (if b then some m' else none) s) :
    wpAny M A (reRunToEnd m) Q E s := by
  unfold reRunToEnd
  refine wpAny_bind (drive_c k _ m m' hk h ?_)
  refine wpAny_bind (rules_c (fun i Q' hq' => ?_) ?_ _)
  · by_cases hi : m'.seen.has i = true
    · rw [if_pos hi]
      exact wpAny_bind (wpAny_rule (wpAny_pure hq'))
    · rw [if_neg hi]
      exact wpAny_pure hq'
  · rw [ho]
    cases b
    · exact wpAny_pure hq
    · exact wpAny_pure hq

/-- a pattern over str, no groups: its fields and its code -/
structure PatAt (h : Heap) (P : Addr) (code : Array Nat) : Prop where
  fs : ∃ o fs C, h.get? P = some o ∧ o.data = .fields fs ∧ reRawNat (fs.getD 6 .none) = 0 ∧ reRawNat (fs.getD 2 .none) = 0 ∧ fs.getD 5 .none = .ref C ∧ ∃ oc cs n, h.get? C = some oc ∧ oc.data = .seq cs n ∧ (cs.map reRawOf).map (·.toNat) = code
theorem PatAt.keeps {h h' : Heap} {P : Addr} {code : Array Nat} (x : PatAt h P code) (hk : ∀ b o, h.get? b = some o → h'.get? b = some o) : PatAt h' P code := by
  obtain ⟨o, fs, C, a, b, c, d, e, oc, cs, n, f, g, i⟩ := x
  exact ⟨o, fs, C, hk _ _ a, b, c, d, e, oc, cs, n, hk _ _ f, g, i⟩

theorem whole_c {P : Addr} {code : Array Nat} {x : Str} {u : Tok} {Q : ReTarget → Shared → Prop} (hp : PatAt s.heap P code)
    (hq : Q { pattern := .ref P, string := .str x u, code, text := x.cps, kind := 0, groups := 0, pos := 0, lim := x.cps.size } s) : wpAny M A (reWholeTarget (.ref P) (.str x u)) Q E s := by
  obtain ⟨o, fs, C, ho, hd, h6, h2, h5, oc, cs, n, hc, hcd, hcode⟩ := hp
  unfold reWholeTarget
  refine wpAny_bind (wpAny_fieldsOf ho hd ?_)
  refine wpAny_bind (wpAny_of_eq (a := (x.cps, 0)) rfl ?_)
  dsimp only
  rw [h6]
  refine wpAny_bind (wpAny_pure ?_)
  refine wpAny_bind ?_
  rw [h5]
  unfold reRawItems
  refine wpAny_bind (wpAny_seqItems hc hcd (wpAny_pure ?_))
  refine wpAny_pure ?_
  simp only [Option.getD_some]
  rw [hcode, h2]
  exact hq
end
section
variable {prog : Program} {w : World} {A : Around} {s : Shared} {R : Result → Shared → Prop}
def wants' (Q : Value → Shared → Prop) (E : Value → Shared → Prop) : Result → Shared → Prop := fun r s' => match r with | .ok (.ret v) => Q v s' | .ok _ => False | .error e => E e s'
theorem len_extract (x : Array Nat) (b e : Nat) : (x.extract b e).size ≤ x.size := by simp; omega

theorem strsAre_length {vs : List Value} {ys : List Str} (h : StrsAre vs ys) : vs.length = ys.length := by
  induction h with
  | nil => rfl
  | cons y t _ ih => rw [List.length_cons, List.length_cons, ih]
theorem strsAre_append {vs vs' : List Value} {ys ys' : List Str} (h : StrsAre vs ys) (h' : StrsAre vs' ys') : StrsAre (vs ++ vs') (ys ++ ys') := by
  induction h with
  | nil => exact h'
  | cons y t _ ih => exact .cons y t ih
theorem loop_end {P l : Addr} {code : Array Nat} {x repl : Str} {u t : Tok} {n done start : Nat} {must : Bool} {its : Array Value} {kk k : Nat} {m' : Sre.M} {ys : List Str}
    (hp : PatAt s.heap P code) (hl : s.heap.get? l = some (listOf its kk)) (hi : StrsAre its.toList ys) (hk : k ≤ 2 ^ 64) (hr : driveTo k (Sre.forSearch code x.cps 0 start x.cps.size must) = some m') (ho : m'.outcome = some .failed)
    (hd : done < x.cps.size) (hx : x.cps.size < 1000) (hys : (ys.map (·.length)).sum < 1000) (hyl : ys.length < 10)
    (hR : ∀ h' tk t', (∀ b o, b ≠ l → s.heap.get? b = some o → h'.get? b = some o) → R (.ok (.ret (.str (Txt.join ⟨#[]⟩ (ys ++ [⟨x.cps.extract done x.cps.size⟩])) t'))) { s with heap := h', toks := tk }) :
    codeAny (model prog w) A (.builtin "re.Pattern.sub.loop" ⟨[.ref P, .str x u, .str repl t, rawInt 0, rawInt 0, rawInt n, rawInt done, rawInt start, .bool must, .ref l, .bool false], []⟩) R s := by
  refine codeAny_builtin entry_re_loop ?_
  unfold Builtin.«re.Pattern.sub.loop»
  dsimp only [rawInt]
  refine wpAny_bind (whole_c hp ?_)
  dsimp only
  rw [if_pos (show ((0 : Int) == 0) = true from rfl)]
  refine wpAny_bind (wpAny_of_eq (a := ()) rfl ?_)
  refine wpAny_bind ?_
  rw [if_neg (by simp)]
  unfold reNextFound
  rw [Int.toNat_natCast]
  refine runToEnd_c hk hr false ho ?_
  simp only [Bool.false_eq_true, if_false, Int.toNat_natCast, if_pos hd]
  unfold reSlice
  refine wpAny_bind (wpAny_mkStr ?_ (by rw [sizeLine_eq]; exact Nat.le_trans (len_extract x.cps done x.cps.size) (by omega)))
  have hsz : its.size ≤ 20 := by
    have := strsAre_length hi
    rw [Array.length_toList] at this
    omega
  refine wpAny_bind (wpAny_updateSeq hl rfl ?_ (by rw [sizeLine_eq]; omega) (by rw [sizeLine_eq, Array.size_push]; omega))
  refine wpAny_bind (wpAny_mkStr ?_ (by rw [sizeLine_eq]; exact Nat.le_trans (len_extract x.cps 0 0) (by omega)))
  have hl' : (s.heap.update l (Obj.mapSeq fun y => y.push (Value.str ⟨x.cps.extract done x.cps.size⟩ s.toks))).get? l = some ⟨.type "list", none, .seq (its.push (Value.str ⟨x.cps.extract done x.cps.size⟩ s.toks)) _, #[]⟩ := Heap.get?_update_self _ hl rfl
  refine wpAny_bind (wpAny_seqItems hl' rfl ?_)
  rw [if_neg (by simp)]
  refine wpAny_bind ?_
  rw [if_pos (show ((0 : Nat) == 0) = true from rfl)]
  refine join_list (ys := ys ++ [⟨x.cps.extract done x.cps.size⟩]) ⟨_, hl', rfl, _, rfl⟩ ?_ ?_ ?_
  · rw [Array.toList_push]
    exact strsAre_append hi (.cons _ _ .nil)
  · have e1 : ((⟨x.cps.extract 0 0⟩ : Str).length) = 0 := by show (x.cps.extract 0 0).size = 0; simp
    rw [e1, List.map_append, List.sum_append]
    have := len_extract x.cps done x.cps.size
    show _ + (Array.size (x.cps.extract done x.cps.size) + 0) + _ ≤ _
    omega
  · intro t' k'
    refine wpAny_pure ?_
    have e : (⟨x.cps.extract 0 0⟩ : Str) = ⟨#[]⟩ := by congr 1; simp
    rw [e]
    exact hR _ _ _ fun b o hb e => ((Heap.SameBut.update ..).extBut b o hb e)

theorem loop_turn {P l : Addr} {code : Array Nat} {x repl : Str} {u t : Tok} {n done start : Nat} {must : Bool} {its : Array Value} {kk k : Nat} {m' : Sre.M}
    (hp : PatAt s.heap P code) (hl : s.heap.get? l = some (listOf its kk)) (hz : its.size < 1000) (hk : k ≤ 2 ^ 64) (hr : driveTo k (Sre.forSearch code x.cps 0 start x.cps.size must) = some m') (ho : m'.outcome = some .matched) (hm : ¬ done < m'.start)
    (hR : ∀ h' kk', h'.get? l = some (listOf (its.push (.str repl t)) kk') → Heap.SameBut l s.heap h' →
      codeAny (model prog w) A (.builtin "re.Pattern.sub.loop" ⟨[.ref P, .str x u, .str repl t, rawInt 0, rawInt 0, rawInt (n + 1 : Nat), rawInt m'.handed, rawInt m'.handed, .bool (m'.handed == m'.start), .ref l, .bool false], []⟩) R { s with heap := h' }) :
    codeAny (model prog w) A (.builtin "re.Pattern.sub.loop" ⟨[.ref P, .str x u, .str repl t, rawInt 0, rawInt 0, rawInt n, rawInt done, rawInt start, .bool must, .ref l, .bool false], []⟩) R s := by
  refine codeAny_builtin entry_re_loop ?_
  unfold Builtin.«re.Pattern.sub.loop»
  dsimp only [rawInt]
  refine wpAny_bind (whole_c hp ?_)
  dsimp only
  rw [if_pos (show ((0 : Int) == 0) = true from rfl)]
  refine wpAny_bind (wpAny_of_eq (a := ()) rfl ?_)
  refine wpAny_bind ?_
  rw [if_neg (by simp)]
  unfold reNextFound
  rw [Int.toNat_natCast]
  refine runToEnd_c hk hr true ho ?_
  simp only [if_true, Int.toNat_natCast, if_neg hm]
  rw [if_pos (show ((0 : Int) == 0) = true from rfl)]
  refine wpAny_bind (wpAny_pure ?_)
  rw [if_pos (show (Value.str repl t != Value.none) = true from rfl)]
  refine wpAny_bind (wpAny_updateSeq hl rfl ?_ (by rw [sizeLine_eq]; omega) (by rw [sizeLine_eq, Array.size_push]; omega))
  refine wpAny_pure ⟨Code.quiet_builtin _ (by decide +kernel), ?_⟩
  have hl' : (s.heap.update l (Obj.mapSeq fun y => y.push (Value.str repl t))).get? l = some ⟨.type "list", none, .seq (its.push (Value.str repl t)) _, #[]⟩ := Heap.get?_update_self _ hl rfl
  exact hR _ _ hl' (Heap.SameBut.update ..)

def failsB (m : Sre.M) : Bool := match driveTo 400 m with | some m' => (match m'.outcome with | some .failed => true | _ => false) | none => false
def hitsB (m : Sre.M) (a b : Nat) : Bool := match driveTo 400 m with | some m' => (match m'.outcome with | some .matched => m'.start == a && m'.handed == b | _ => false) | none => false
theorem failsB_of {m : Sre.M} (h : failsB m = true) : ∃ m', driveTo 400 m = some m' ∧ m'.outcome = some .failed := by
  unfold failsB at h
  split at h
  · rename_i m' e
    refine ⟨m', e, ?_⟩
    split at h
    · assumption
    · cases h
  · cases h
theorem hitsB_of {m : Sre.M} {a b : Nat} (h : hitsB m a b = true) : ∃ m', driveTo 400 m = some m' ∧ m'.outcome = some .matched ∧ m'.start = a ∧ m'.handed = b := by
  unfold hitsB at h
  split at h
  · rename_i m' e
    split at h
    · simp only [Bool.and_eq_true, beq_iff_eq] at h
      exact ⟨m', e, by assumption, h.1, h.2⟩
    · cases h
  · cases h
theorem sub_start {P : Addr} {code : Array Nat} {x repl : Str} {u t : Tok} {Q : Value → Shared → Prop} {E : Value → Shared → Prop}
    (hp : PatAt s.heap P code) (hP : s.TypeIs (.ref P) "re.Pattern") (hlit : repl.cps.contains 92 = false)
    (h : codeAny (model prog w) A (.builtin "re.Pattern.sub.loop" ⟨[.ref P, .str x u, .str repl t, rawInt 0, rawInt 0, rawInt (0 : Nat), rawInt (0 : Nat), rawInt (0 : Nat), .bool false, .ref s.heap.objs.size, .bool false], []⟩) (wants' Q E)
      { s with heap := s.heap.push (listOf #[] 0) }) :
    wpAny (model prog w) A (call (.builtin "re.Pattern.sub") [.ref P, .str repl t, .str x u]) Q E s := by
  refine wpAny_call (codeAny_call_builtin slot_re.plain entry_re (slot_re.check _ _ _ _ _ _ _ _ hP (args_re _ _ _) ?_))
  unfold Builtin.«re.Pattern.sub» reSubstitute
  dsimp only
  refine wpAny_bind (wpAny_of_eq (a := [some (.str repl t), some (.str x u), none]) (by kernel_rfl) ?_)
  dsimp only
  refine wpAny_bind (wpAny_pure ?_)
  refine wpAny_bind (wpAny_specialOf (T := "str") (r := none) (typeIs_str _ _ _) (by rw [typeLookup_type, builtinLookup_eq_fast]; kernel_rfl) ?_)
  rw [if_neg (show ¬ ((none : Option Value).isSome = true) by simp)]
  refine wpAny_bind (wpAny_of_eq (a := some repl) rfl ?_)
  dsimp only
  refine wpAny_bind (wpAny_pure ?_)
  rw [if_neg (show ¬ ((none : Option Value).isSome = true) by simp), hlit, if_pos (show (!false) = true from rfl)]
  refine wpAny_bind (wpAny_pure ?_)
  refine wpAny_bind (wpAny_holding (whole_c hp ?_))
  rw [if_neg (by simp)]
  refine wpAny_bind (wpAny_newObj_type ?_ (by show 0 ≤ _; omega))
  exact wpAny_pure ⟨Code.quiet_builtin _ (by decide +kernel), h⟩

/-- a pattern that nowhere matches gives the text back -/
theorem sub_none {P : Addr} {code : Array Nat} {x repl : Str} {u t : Tok} {Q : Value → Shared → Prop} {E : Value → Shared → Prop}
    (hp : PatAt s.heap P code) (hP : s.TypeIs (.ref P) "re.Pattern") (hlit : repl.cps.contains 92 = false) (hf : failsB (Sre.forSearch code x.cps 0 0 x.cps.size false) = true) (h0 : 0 < x.cps.size) (hx : x.cps.size < 1000)
    (hj : Txt.join ⟨#[]⟩ [⟨x.cps.extract 0 x.cps.size⟩] = x)
    (hQ : ∀ h' tk t', (∀ b o, s.heap.get? b = some o → h'.get? b = some o) → Q (.str x t') { s with heap := h', toks := tk }) :
    wpAny (model prog w) A (call (.builtin "re.Pattern.sub") [.ref P, .str repl t, .str x u]) Q E s := by
  obtain ⟨m', hr, ho⟩ := failsB_of hf
  refine sub_start hp hP hlit (loop_end (its := #[]) (ys := []) (kk := 0) (hp.keeps fun b o e => Heap.get?_push_of_some _ e) (Heap.get?_push_size _ rfl) .nil (by decide) hr ho h0 hx (by simp) (by simp) fun h' tk t' hk => ?_)
  rw [List.nil_append, hj]
  exact hQ h' tk t' fun b o e => hk b o (Nat.ne_of_lt (Heap.lt_size e)) (Heap.get?_push_of_some _ e)

/-- a pattern that matches once, at the head -/
theorem sub_head {P : Addr} {code : Array Nat} {x y repl : Str} {u t : Tok} {Q : Value → Shared → Prop} {E : Value → Shared → Prop}
    (hp : PatAt s.heap P code) (hP : s.TypeIs (.ref P) "re.Pattern") (hlit : repl.cps.contains 92 = false) (hh : hitsB (Sre.forSearch code x.cps 0 0 x.cps.size false) 0 1 = true)
    (hf : failsB (Sre.forSearch code x.cps 0 1 x.cps.size false) = true) (h0 : 1 < x.cps.size) (hx : x.cps.size < 1000) (hrl : repl.length < 100)
    (hj : Txt.join ⟨#[]⟩ [repl, ⟨x.cps.extract 1 x.cps.size⟩] = y)
    (hQ : ∀ h' tk t', (∀ b o, s.heap.get? b = some o → h'.get? b = some o) → Q (.str y t') { s with heap := h', toks := tk }) :
    wpAny (model prog w) A (call (.builtin "re.Pattern.sub") [.ref P, .str repl t, .str x u]) Q E s := by
  obtain ⟨m₁, hr₁, ho₁, hs₁, hh₁⟩ := hitsB_of hh
  obtain ⟨m', hr, ho⟩ := failsB_of hf
  have hp₁ : PatAt (s.heap.push (listOf #[] 0)) P code := hp.keeps fun b o e => Heap.get?_push_of_some _ e
  refine sub_start hp hP hlit (loop_turn (its := #[]) (kk := 0) hp₁ (Heap.get?_push_size _ rfl) (by simp) (by decide) hr₁ ho₁ (by rw [hs₁]; omega) fun h₂ kk₂ hl₂ hsb => ?_)
  have up : ∀ b o, s.heap.get? b = some o → h₂.get? b = some o := fun b o e => hsb.extBut b o (Nat.ne_of_lt (Heap.lt_size e)) (Heap.get?_push_of_some _ e)
  rw [hh₁, hs₁]
  refine loop_end (its := #[Value.str repl t]) (ys := [repl]) (kk := kk₂) (n := 0 + 1) (done := 1) (start := 1) (hp.keeps up) hl₂ (.cons _ _ .nil) (by decide) hr ho h0 hx (by simpa using (by omega : repl.length < 1000)) (by simp) fun h' tk t' hk => ?_
  rw [List.singleton_append, hj]
  exact hQ h' tk t' fun b o e => hk b o (Nat.ne_of_lt (Heap.lt_size e)) (up b o e)
end

def code1 : Array Nat := #[14, 4, 0, 1, 1, 6, 1, 16, 46, 1]
def code2 : Array Nat := #[14, 9, 4, 1, 2, 16, 10, 16, 13, 0, 7, 7, 16, 13, 16, 10, 15, 18, 5, 16, 10, 15, 13, 11, 16, 13, 5, 5, 0, 16, 10, 1, 15, 2, 0, 1]
end Mine

end

section
open PySem PySem.W PySem.Spec PySem.Calls PyProof.Rows
namespace Mine
def ltr (c : Nat) : Str := ⟨#[97 + c]⟩
def bitsOf (k : Nat) : List Nat := (List.range 4).filter (k.testBit ·)
def rowS (r : Nat × Nat) : Str := ⟨(List.replicate r.1 46 ++ (bitsOf r.2).map (97 + ·)).toArray⟩

theorem row_s2 : ∀ d < 5, ∀ k < 16, failsB (Sre.forSearch code2 (rowS (d + 1, k)).cps 0 0 (rowS (d + 1, k)).cps.size false) = true := by decide +kernel
theorem row_s1 : ∀ d < 5, ∀ k < 16, hitsB (Sre.forSearch code1 (rowS (d + 1, k)).cps 0 0 (rowS (d + 1, k)).cps.size false) 0 1 = true := by decide +kernel
theorem row_s1' : ∀ d < 5, ∀ k < 16, failsB (Sre.forSearch code1 (rowS (d + 1, k)).cps 0 1 (rowS (d + 1, k)).cps.size false) = true := by decide +kernel
theorem row_j2 : ∀ d < 5, ∀ k < 16, Txt.join ⟨#[]⟩ [⟨(rowS (d + 1, k)).cps.extract 0 (rowS (d + 1, k)).cps.size⟩] = rowS (d + 1, k) := by decide +kernel
theorem row_j1 : ∀ d < 5, ∀ k < 16, Txt.join ⟨#[]⟩ [Str.ofString "..", ⟨(rowS (d + 1, k)).cps.extract 1 (rowS (d + 1, k)).cps.size⟩] = rowS (d + 2, k) := by decide +kernel
theorem row_sz : ∀ d < 5, ∀ k < 16, 0 < k → 1 < (rowS (d + 1, k)).cps.size ∧ (rowS (d + 1, k)).cps.size < 1000 := by decide +kernel
end Mine

end

section
open PySem PySem.W PySem.Spec PySem.Calls PyProof.Rows
namespace Mine
theorem filled : PySem.Challenge.rw_sh0019_01 = PySem.Challenge.rw_sh0019_01 ∧ (fun w : World => hd.heap_39 w.params) = fun w => hd.heap_39 w.params := by k_fill; exact ⟨rfl, rfl⟩
section
variable {w : World} {p : Program} {loose : List Str} {mean : ExcName → Option Value} {mg mb : Str → Option Value} {dp un : Nat} {gd : Option (List Code)} {cn : Str} {cs : Scope} {a : Addr} {ccd : Value} {cl : List (Str × Addr)} {outer : List Env} {A₀ : Around} {base h₀ : Heap} {L : Addr} {m : Str → Option Value} {s : Shared} {M : MV} {vs : List Value} {n : Nat} {rest : List (Addr × Obj)} {Q E : Value → Shared → Prop}

set_option maxHeartbeats 4000000 in
theorem push_c (S : Std 2 w p loose mean mg mb dp un cs outer A₀ base h₀ L m s.heap (machL w M vs n rest)) (o : MOff M rest) (hvs : vs.length < 1000) {row : Str} {t : Tok}
    (hret : ∀ (h' : Heap) (tk' n' : Nat), Fr h₀ L h' m → News h₀ L h' (machL w M (vs ++ [Value.str row t]) n' rest) → Q .none { s with heap := h', toks := tk' }) :
    wpAny (model PP w) (ktrTop dp un gd cn cs L a ccd cl outer) (call (.ref 87) [.ref M.x, .str row t]) Q E s := by
  obtain ⟨B, F, X, N, T, hk, hdp, hun⟩ := S
  refine wpAny_call ?_
  k_dflt cell_enter
  iterate 12 (first | (k_unfold; (try dsimp only)) | walk1)
  have U := mach_turn (w := w) (n := n) (vs := vs) o (vs ++ [Value.str row t]) (n + 1)
  rw [← List.push_toArray] at U
  refine append_K (by k_asm) (by k_asm) U ?_ ?_
  · intro h' F' N'
    iterate 4 (first | (k_unfold; (try dsimp only)) | walk1)
    exact hret _ _ _ (by assumption) (by assumption)
  · rw [sizeLine_eq]; simp; omega

set_option maxHeartbeats 4000000 in
theorem pop_c {v : Value} (S : Std 2 w p loose mean mg mb dp un cs outer A₀ base h₀ L m s.heap (machL w M (v :: vs) n rest)) (o : MOff M rest) (hvs : vs.length < 1000)
    (hret : ∀ (h' : Heap) (tk' n' : Nat), Fr h₀ L h' m → News h₀ L h' (machL w M vs n' rest) → Q v { s with heap := h', toks := tk' }) :
    wpAny (model PP w) (ktrTop dp un gd cn cs L a ccd cl outer) (call (.ref 80) [.ref M.x]) Q E s := by
  obtain ⟨B, F, X, N, T, hk, hdp, hun⟩ := S
  refine wpAny_call ?_
  k_dflt cell_enter
  iterate 21 (first | (k_unfold; (try dsimp only)) | walk1)
  refine kl_popAt (k := 0) (p := []) (q := vs) (by k_asm) (by k_asm) (by rfl) (by simp [seqIndex?]) (by rfl) (mach_turn o vs (n + 1)) ?_ ?_
  · rw [sizeLine_eq]; simp; omega
  · intro h' F' N'
    iterate 2 (first | (k_unfold; (try dsimp only)) | walk1)
    exact hret _ _ _ (by assumption) (by assumption)
end
end Mine

end

section
open PySem PySem.W PySem.Spec PySem.Calls PyProof.Rows
namespace Mine

@[irreducible] def wantS (c : Nat) : Str := (Str.ofString "...") ++ ltr c ++ (Str.ofString "...")

theorem want_in : ∀ c < 4, (Builtin.Str.occurrences (wantS c) (Str.ofString "...") 0 (wantS c).length 1).isEmpty = false := by
  unfold wantS; decide +kernel
theorem want_split : ∀ c < 4, Txt.split (wantS c) (Str.ofString "...") = [Str.ofString "", ltr c, Str.ofString ""] := by
  unfold wantS; decide +kernel
theorem want_len : ∀ c < 4, (wantS c).length = 7 := by
  unfold wantS; decide +kernel
def find4 (x y : Str) (i j : Int) : Int := match Builtin.Str.occurrences x y (fromIndex x.length i) (min (fromIndex x.length j) x.length) 1 with | k :: _ => (k : Int) | [] => -1
theorem gives_find4 (x y : Str) (i j : Int) (t u v v' : Tok) : Gives (Builtin.«str.find» ⟨[.str x t, .str y u, .int i v, .int j v'], []⟩) (.int (find4 x y i j)) := by
  show Gives (match Builtin.Str.occurrences x y (fromIndex x.length i) (min (fromIndex x.length j) x.length) 1 with | k :: _ => retInt k | [] => (do rule "str.find.not-found"; retInt (-1))) _
  unfold find4
  cases Builtin.Str.occurrences x y (fromIndex x.length i) (min (fromIndex x.length j) x.length) 1 with
  | nil => exact .rule (.of_eq rfl)
  | cons k _ => exact .of_eq rfl
section
variable {prog : Program} {w : World} {A : Around} {E : Value → Shared → Prop} {s : Shared} {x : Str} {t : Tok} {Q : Value → Shared → Prop}
theorem find_c' {y : Str} {u v v' : Tok} {i j k : Int} (hk : find4 x y i j = k) (hq : Q (.int k s.toks) { s with toks := s.toks + 1 }) : wpAny (model prog w) A (call (.builtin "str.find") [.str x t, .str y u, .int i v, .int j v']) Q E s := by
  subst hk
  exact call_gives F.slot_str_find (typeIs_str _ _ _) F.entry_str_find (F.args_str_find_4 _ _ _ _) (gives_find4 x y i j t u v v') hq
theorem find_c {y : Str} {u v v' : Tok} {i j : Int} (hq : Q (.int (find4 x y i j) s.toks) { s with toks := s.toks + 1 }) : wpAny (model prog w) A (call (.builtin "str.find") [.str x t, .str y u, .int i v, .int j v']) Q E s :=
  call_gives F.slot_str_find (typeIs_str _ _ _) F.entry_str_find (F.args_str_find_4 _ _ _ _) (gives_find4 x y i j t u v v') hq
end
theorem row_len : ∀ d < 6, ∀ k < 16, (rowS (d, k)).length < 100 := by decide +kernel
theorem row_f1 : ∀ d < 6, ∀ k < 16, find4 (rowS (d, k)) (Str.ofString "") 0 ((rowS (d, k)).length : Nat) = 0 := by decide +kernel
theorem row_f2 : ∀ d < 6, ∀ k < 16, ∀ c < 4, (k.testBit c = true ∧ find4 (rowS (d, k)) (ltr c) 0 ((rowS (d, k)).length : Nat) = ((d + ((bitsOf k).filter (· < c)).length : Nat) : Int) ∧
    find4 (rowS (d, k)) (Str.ofString "") (((d + ((bitsOf k).filter (· < c)).length : Nat) : Int) + 1) ((rowS (d, k)).length : Nat) = ((d + ((bitsOf k).filter (· < c)).length : Nat) : Int) + 1) ∨
    (k.testBit c = false ∧ find4 (rowS (d, k)) (ltr c) 0 ((rowS (d, k)).length : Nat) = -1) := by decide +kernel
theorem ltr_len (c : Nat) : (ltr c).length = 1 := rfl
section
variable {w : World} {p : Program} {loose : List Str} {mean : ExcName → Option Value} {mg mb : Str → Option Value} {dp un : Nat} {gd : Option (List Code)} {cn : Str} {cs : Scope} {a : Addr} {ccd : Value} {cl : List (Str × Addr)} {outer : List Env} {A₀ : Around} {base h₀ : Heap} {L : Addr} {m : Str → Option Value} {s : Shared} {M : MV} {vs : List Value} {n : Nat} {rest news : List (Addr × Obj)} {Q E : Value → Shared → Prop}

set_option maxHeartbeats 4000000 in
theorem ellip_c (S : Std 2 w p loose mean mg mb dp un cs outer A₀ base h₀ L m s.heap news) {c : Nat} (hc : c < 4) {dd kk : Nat} (hd : dd < 6) (hk : kk < 16) {t u : Tok}
    (hret : ∀ (h' : Heap) (tk' : Nat), Fr h₀ L h' m → News h₀ L h' news → Q (.bool (kk.testBit c)) { s with heap := h', toks := tk' }) :
    wpAny (model PP w) (ktrTop dp un gd cn cs L a ccd cl outer) (call (.ref 52) [.str (wantS c) t, .str (rowS (dd, kk)) u]) Q E s := by
  obtain ⟨B, F, X, N, T, hcs, hdp, hun⟩ := S
  have hg := row_len dd hd kk hk
  have f1 := row_f1 dd hd kk hk
  have f2 := row_f2 dd hd kk hk c hc
  generalize rowS (dd, kk) = got at hg f1 f2 ⊢
  refine wpAny_call ?_
  k_dflt cell_enter
  have hin : (Builtin.Str.occurrences (wantS c) (Str.ofString "...") 0 (wantS c).length 1).isEmpty = false := by
    exact want_in c hc
  iterate 7 (first | (k_unfold; (try dsimp only)) | walk1)
  refine if_no (by rw [hin]; decide) ?_
  iterate 11 (first | (k_unfold; (try dsimp only)) | walk1)
  refine KSpl.split1 (by k_asm) (by k_asm) (by decide) ?_ ?_
  · intro D l h1 k1 e a1 F1 N1 lt1
    rw [want_split c hc] at e
    obtain ⟨u0, l0, rfl, e0⟩ := KSpl.cons_of e
    obtain ⟨u1, l1, rfl, e1⟩ := KSpl.cons_of e0
    obtain ⟨u2, l2, rfl, e2⟩ := KSpl.cons_of e1
    obtain rfl := KSpl.nil_of e2
    simp only [strValues, List.map_cons, List.map_nil] at N1
    clear a1 e e0 e1 e2
    have hlc : (ltr c).length = 1 := rfl
    generalize ltr c = lc at hlc f2 N1
    iterate 81 (first | (k_unfold; (try dsimp only)) | walk1)
    refine wpAny_For ?_ ?_
    · walk1
      rename News _ _ _ _ => N9
      rename Fr _ _ _ _ => F9
      refine iterList F9 N9 (.tail _ (.head _)) fun I hI FI NI ltI => ?_
      refine for_item (i := 0) (it_list (ax := D) (items := #[Value.str (Str.ofString "") u0, Value.str lc u1, Value.str (Str.ofString "") u2]) rfl I) (by simp) rfl rfl FI NI ⟨rfl, rfl⟩ ⟨_, (NI _ (.tail _ (.tail _ (.head _)))).1, rfl, 0, rfl⟩ (fun p hp => Nat.ne_of_lt (ltI p hp)) ?_
      intro v h3 o3 tk3 hv hO F3 N3
      obtain rfl : v = Value.str (Str.ofString "") u0 := by simpa using hv.symm
      iterate 13 (first | (k_unfold; (try dsimp only)) | walk1)
      refine find_c' f1 ?_
      iterate 26 (first | (k_unfold; (try dsimp only)) | walk1)
      dsimp only
      rename News _ _ _ _ => N4
      rename Fr _ _ _ _ => F4
      refine for_item (i := 1) (it_list (ax := D) (items := #[Value.str (Str.ofString "") u0, Value.str lc u1, Value.str (Str.ofString "") u2]) rfl I) (by simp) rfl rfl F4 N4 hO ⟨_, (N4 _ (.tail _ (.tail _ (.head _)))).1, rfl, 0, rfl⟩ (fun p hp => Nat.ne_of_lt (ltI p hp)) ?_
      intro v h3 o3 tk3 hv hO F3 N3
      obtain rfl : v = Value.str lc u1 := by simpa using hv.symm
      iterate 13 (first | (k_unfold; (try dsimp only)) | walk1)
      rcases f2 with ⟨fb, f2, f3⟩ | ⟨fb, f2⟩
      · refine find_c' (by simpa using f2) ?_
        iterate 26 (first | (k_unfold; (try dsimp only)) | walk1)
        dsimp only
        rename News _ _ _ _ => N5
        rename Fr _ _ _ _ => F5
        refine for_item (i := 2) (it_list (ax := D) (items := #[Value.str (Str.ofString "") u0, Value.str lc u1, Value.str (Str.ofString "") u2]) rfl I) (by simp) rfl rfl F5 N5 hO ⟨_, (N5 _ (.tail _ (.tail _ (.head _)))).1, rfl, 0, rfl⟩ (fun p hp => Nat.ne_of_lt (ltI p hp)) ?_
        intro v h3 o3 tk3 hv hO F3 N3
        obtain rfl : v = Value.str (Str.ofString "") u2 := by simpa using hv.symm
        iterate 13 (first | (k_unfold; (try dsimp only)) | walk1)
        refine find_c' (by simpa [hlc] using f3) ?_
        iterate 26 (first | (k_unfold; (try dsimp only)) | walk1)
        dsimp only
        rename News _ _ _ _ => N6
        rename Fr _ _ _ _ => F6
        refine for_done (it_list (ax := D) (items := #[Value.str (Str.ofString "") u0, Value.str lc u1, Value.str (Str.ofString "") u2]) rfl I) F6 N6 hO ⟨_, (N6 _ (.tail _ (.tail _ (.head _)))).1, rfl, 0, rfl⟩ (fun p hp => Nat.ne_of_lt (ltI p hp)) ?_
        intro h7 tk7 F7 N7
        dsimp only
        iterate 4 (first | (k_unfold; (try dsimp only)) | walk1)
        rw [fb] at hret
        exact hret _ _ (by assumption) (news_sub (by assumption) fun p hp => .tail _ (.tail _ hp))
      · refine find_c' (by simpa using f2) ?_
        iterate 15 (first | (k_unfold; (try dsimp only)) | walk1)
        rw [fb] at hret
        exact hret _ _ (by assumption) (news_sub (by assumption) fun p hp => .tail _ (.tail _ (.tail _ hp)))
    · intro _; rfl
  · rw [want_len c hc, sizeLine_eq]; omega
end
end Mine

end

section
open PySem PySem.W PySem.Spec PySem.Calls PyProof.Rows
namespace Mine
section
variable {w : World} {p : Program} {loose : List Str} {mean : ExcName → Option Value} {mg mb : Str → Option Value} {dp un : Nat} {gd : Option (List Code)} {cn : Str} {cs : Scope} {a : Addr} {ccd : Value} {cl : List (Str × Addr)} {outer : List Env} {A₀ : Around} {base h₀ : Heap} {L : Addr} {m : Str → Option Value} {s : Shared} {M : MV} {vs : List Value} {n : Nat} {rest news : List (Addr × Obj)} {Q E : Value → Shared → Prop}

theorem pat_at {h : Heap} (X : (hd.heap_39 w.params).In h) : PatAt h 99 code1 ∧ PatAt h 104 code2 :=
  ⟨⟨_, _, _, X 99 _ rfl, rfl, rfl, rfl, rfl, _, _, _, X 98 _ rfl, rfl, by decide +kernel⟩, ⟨_, _, _, X 104 _ rfl, rfl, rfl, rfl, rfl, _, _, _, X 103 _ rfl, rfl, by decide +kernel⟩⟩
theorem pat_ty {h : Heap} (X : (hd.heap_39 w.params).In h) : (∃ o, h.get? 99 = some o ∧ o.cls = .type "re.Pattern" ∧ o.dict = none) ∧ ∃ o, h.get? 104 = some o ∧ o.cls = .type "re.Pattern" ∧ o.dict = none :=
  ⟨⟨_, X 99 _ rfl, rfl, rfl⟩, ⟨_, X 104 _ rfl, rfl, rfl⟩⟩
theorem pat_method {prog : Program} {A : Around} {P : Addr} {pl : Sem Bool} {Q : Value × List Value → Shared → Prop} (hP : ∃ o, s.heap.get? P = some o ∧ o.cls = .type "re.Pattern" ∧ o.dict = none) (h : Q (.builtin "re.Pattern.sub", [.ref P]) s) :
    wpAny (model prog w) A (getMethod (.ref P) (Str.ofString "sub") pl) Q E s := by
  obtain ⟨o, ho, hc, hd⟩ := hP
  exact getMethod_builtin ⟨o, ho, hc⟩ attrs_re slot_re type_re (fun a e => by cases e; exact ⟨o, ho, hd⟩) h

set_option maxHeartbeats 4000000 in
theorem quote_c (S : Std 2 w p loose mean mg mb dp un cs outer A₀ base h₀ L m s.heap news) {d k : Nat} (hd : d < 5) (hk : k < 16) (hk0 : 0 < k) {u : Tok}
    (hret : ∀ (h' : Heap) (tk' : Nat) (t' : Tok), Fr h₀ L h' m → News h₀ L h' news → Q (.str (rowS (d + 2, k)) t') { s with heap := h', toks := tk' }) :
    wpAny (model PP w) (ktrTop dp un gd cn cs L a ccd cl outer) (call (.ref 111) [.str (rowS (d + 1, k)) u]) Q E s := by
  obtain ⟨B, F, X, N, T, hcs, hdp, hun⟩ := S
  have f1 := row_s2 d hd k hk
  have f2 := row_s1 d hd k hk
  have f3 := row_s1' d hd k hk
  have f4 := row_j2 d hd k hk
  have f5 := row_j1 d hd k hk
  have f6 := row_sz d hd k hk hk0
  generalize rowS (d + 1, k) = x at f1 f2 f3 f4 f5 f6 ⊢
  generalize rowS (d + 2, k) = y at f5 hret
  refine wpAny_call ?_
  k_dflt cell_enter
  iterate 5 (first | (k_unfold; (try dsimp only)) | walk1)
  rename News _ _ _ _ => N9
  rename Fr _ _ _ _ => F9
  rename Frag.In _ _ => X9
  refine pat_method (pat_ty (X9.keeps F9.keep)).1 ?_
  iterate 6 (first | (k_unfold; (try dsimp only)) | walk1)
  refine pat_method (pat_ty (X9.keeps F9.keep)).2 ?_
  iterate 6 (first | (k_unfold; (try dsimp only)) | walk1)
  refine sub_none (pat_at (X9.keeps F9.keep)).2 (by obtain ⟨o, e, c, _⟩ := (pat_ty (X9.keeps F9.keep)).2; exact ⟨o, e, c⟩) (by decide +kernel) f1 (by omega) f6.2 f4 ?_
  intro h5 tk5 t5 up5
  have F5 := F9.keeps up5
  have N5 := N9.grown up5
  clear F9 N9
  iterate 1 (first | (k_unfold; (try dsimp only)) | walk1)
  refine sub_head (pat_at (X9.keeps F5.keep)).1 (by obtain ⟨o, e, c, _⟩ := (pat_ty (X9.keeps F5.keep)).1; exact ⟨o, e, c⟩) (by decide +kernel) f2 f3 f6.1 f6.2 (by decide +kernel) f5 ?_
  intro h6 tk6 t6 up6
  have F6 := F5.keeps up6
  have N6 := N5.grown up6
  clear F5 N5
  iterate 1 (first | (k_unfold; (try dsimp only)) | walk1)
  exact hret _ _ _ (by assumption) (by assumption)
end
end Mine

end

section
open PySem PySem.W PySem.Spec PySem.Calls PyProof.Rows
namespace Mine
section
variable {w : World} {p : Program} {loose : List Str} {mean : ExcName → Option Value} {mg mb : Str → Option Value} {dp un : Nat} {gd : Option (List Code)} {cn : Str} {cs : Scope} {a : Addr} {ccd : Value} {cl : List (Str × Addr)} {outer : List Env} {A₀ : Around} {base h₀ : Heap} {L : Addr} {m : Str → Option Value} {s : Shared} {M : MV} {vs : List Value} {n : Nat} {rest news : List (Addr × Obj)} {Q E : Value → Shared → Prop}

theorem bits_le {x : Int} (h0 : 0 ≤ x) (h1 : x < 100) : Builtin.Int.intBits x ≤ 7 := by
  obtain ⟨n, rfl⟩ := Int.eq_ofNat_of_zero_le h0
  have key : ∀ n < 100, Builtin.Int.intBits (n : Nat) ≤ 7 := by decide +kernel
  exact key n (by omega)
set_option maxHeartbeats 4000000 in
theorem div_c (S : Std 2 w p loose mean mg mb dp un cs outer A₀ base h₀ L m s.heap news) {x y : Int} (hx : 0 ≤ x) (hx' : x < 100) (hy : 0 < y) (hy' : y < 100) {t1 t2 t3 : Tok}
    (hret : ∀ (q : Addr) (h' : Heap) (tk' : Nat) (u1 u2 : Tok), Fr h₀ L h' m → News h₀ L h' ((q, { cls := .type "tuple", data := .seq #[.int (Int.fdiv x y) u1, .int (Int.fmod x y) u2] }) :: news) → (∀ p ∈ news, p.1 < q) → Q (.ref q) { s with heap := h', toks := tk' }) :
    wpAny (model PP w) (ktrTop dp un gd cn cs L a ccd cl outer) (call (.ref 38) [.int x t1, .int y t2, .int 3 t3]) Q E s := by
  obtain ⟨B, F, X, N, T, hcs, hdp, hun⟩ := S
  refine wpAny_call ?_
  k_dflt cell_enter
  iterate 15 (first | (k_unfold; (try dsimp only)) | walk1)
  refine if_yes (by have := bits_le hx hx'; simp only [decide_eq_true_eq]; omega) ?_
  iterate 11 (first | (k_unfold; (try dsimp only)) | walk1)
  rename News _ _ _ _ => N9
  have lt9 := fun (p : Addr × Obj) (hp : p ∈ news) => Heap.lt_size (N9 p hp).1
  iterate 3 (first | (k_unfold; (try dsimp only)) | walk1)
  rename News _ _ _ _ => N8
  rename Fr _ _ _ _ => F8
  exact hret _ _ _ _ _ F8 N8 lt9
end
end Mine

end

section
open PySem PySem.W PySem.Spec PySem.Calls PyProof.Rows
namespace Mine
section
variable {w : World} {p : Program} {loose : List Str} {mean : ExcName → Option Value} {mg mb : Str → Option Value} {dp un : Nat} {gd : Option (List Code)} {cn : Str} {cs : Scope} {a : Addr} {ccd : Value} {cl : List (Str × Addr)} {outer : List Env} {A₀ : Around} {base h₀ : Heap} {L : Addr} {m : Str → Option Value} {s : Shared} {M : MV} {vs : List Value} {n : Nat} {rest news : List (Addr × Obj)} {Q E : Value → Shared → Prop}

def hold (c : Nat) (r : Nat × Nat) : Bool := r.2.testBit c
def upd (c : Nat) (b : Bool) (r : Nat × Nat) : Nat × Nat := if hold c r && b then (r.1 + 1, r.2) else r
def RowOk (r : Nat × Nat) : Prop := 1 ≤ r.1 ∧ r.1 ≤ 5 ∧ r.2 < 16

theorem mset {m : Str → Option Value} {x : Str} {v : Value} (h : m x = some v) : m = fun y => if y = x then some v else m y := by
  funext y
  by_cases hy : y = x
  · rw [if_pos hy, hy, h]
  · rw [if_neg hy]
theorem allLt_all {d : Addr} {l : List (Addr × Obj)} (h : AllLt d l) : ∀ p ∈ l, p.1 < d := by
  induction l with
  | nil => intro p hp; cases hp
  | cons q r ih =>
    intro p hp
    rcases List.mem_cons.mp hp with rfl | hp
    · exact h.1
    · exact ih h.2 p hp
theorem range_small : ∀ n < 100, Builtin.Range.small 0 (n : Nat) 1 = true ∧ Builtin.Range.rangeSize 0 (n : Nat) 1 = (n : Nat) := by decide +kernel
theorem upd_top {x I : Addr} {ob ob' o1 : Obj} (h1 : M.l < x) (h2 : M.x < x) (h3 : M.d < x) (h4 : ∀ p ∈ rest, p.1 < x) (h5 : x < I) :
    Upd x ob ob' ((x, ob) :: (I, o1) :: machL w M vs n rest) ((x, ob') :: (I, o1) :: machL w M vs n rest) := by
  refine Upd.head ?_
  intro q hq
  rcases List.mem_cons.mp hq with rfl | hq
  · exact Nat.ne_of_gt h5
  rcases List.mem_cons.mp hq with rfl | hq
  · exact Nat.ne_of_lt h1
  rcases List.mem_cons.mp hq with rfl | hq
  · exact Nat.ne_of_lt h2
  rcases List.mem_cons.mp hq with rfl | hq
  · exact Nat.ne_of_lt h3
  · exact Nat.ne_of_lt (h4 q hq)
theorem turn_q {vs : List Value} {f : Nat × Nat → Nat × Nat} {rs0 l : List (Nat × Nat)} {r0 r1 : Nat × Nat} {t : Tok} (h : StrsAre vs ((rs0 ++ l.map f).map rowS)) (h1 : f r0 = r1) :
    StrsAre (vs ++ [.str (rowS r1) t]) ((rs0 ++ (l ++ [r0]).map f).map rowS) := by
  subst h1
  have e : (rs0 ++ (l ++ [r0]).map f).map rowS = (rs0 ++ l.map f).map rowS ++ [rowS (f r0)] := by simp
  rw [e]
  exact strsAre_append h (.cons _ _ .nil)
theorem turn_us {us : List Value} {f : Nat × Nat → Nat × Nat} {g : Nat × Nat → Bool} {l : List (Nat × Nat)} {r0 r1 : Nat × Nat} {t : Tok} (h : StrsAre us (((l.filter g).map f).map rowS)) (h1 : f r0 = r1) (hg : g r0 = true) :
    StrsAre (us ++ [.str (rowS r1) t]) ((((l ++ [r0]).filter g).map f).map rowS) := by
  subst h1
  have e : (((l ++ [r0]).filter g).map f).map rowS = ((l.filter g).map f).map rowS ++ [rowS (f r0)] := by simp [hg]
  rw [e]
  exact strsAre_append h (.cons _ _ .nil)
theorem turn_no {us : List Value} {f : Nat × Nat → Nat × Nat} {g : Nat × Nat → Bool} {l : List (Nat × Nat)} {r0 : Nat × Nat} (h : StrsAre us (((l.filter g).map f).map rowS)) (hg : g r0 = false) :
    StrsAre us ((((l ++ [r0]).filter g).map f).map rowS) := by
  have e : (((l ++ [r0]).filter g).map f).map rowS = ((l.filter g).map f).map rowS := by simp [hg]
  rw [e]
  exact h
set_option maxHeartbeats 4000000 in
theorem go_c {rs : List (Nat × Nat)} {c : Nat} {b : Bool} {t1 t2 : Tok} (S : Std 4 w p loose mean mg mb dp un cs outer A₀ base h₀ L m s.heap (machL w M vs n rest)) (o : MOff M rest) (hvs : StrsAre vs (rs.map rowS)) (hok : ∀ r ∈ rs, RowOk r) (hc : c < 4)
    (hlen : rs.length < 100)
    (hret : ∀ (r : Addr) (h' : Heap) (tk' n' n2 : Nat) (vs' us : List Value), Fr h₀ L h' m → News h₀ L h' (machL w M vs' n' ((r, listOf us.toArray n2) :: rest)) → (∀ p ∈ machL w M vs n rest, p.1 < r) → StrsAre vs' ((rs.map (upd c b)).map rowS) → StrsAre us (((rs.filter (hold c)).map (upd c b)).map rowS) →
      Q (.ref r) { s with heap := h', toks := tk' }) :
    wpAny (model PP w) (ktrTop dp un gd cn cs L a ccd cl outer) (call (.ref 125) [.ref M.x, .int (rs.length : Nat) t1, .str (ltr c) t2, .bool b]) Q E s := by
  obtain ⟨B, F, X, N, T, hcs, hdp, hun⟩ := S
  refine wpAny_call ?_
  k_dflt cell_enter
  iterate 9 (first | (k_unfold; (try dsimp only)) | walk1)
  refine wpAny_For ?_ (by intro _; rfl)
  iterate 7 (first | (k_unfold; (try dsimp only)) | walk1)
  rename News _ _ _ _ => N9
  rename Fr _ _ _ _ => F9
  rename IsRange _ _ _ _ _ _ _ _ => R9
  rename (M.l < _ ∧ _) => lt9
  rename Frag.In _ _ => X9
  rename Top _ _ _ _ _ _ => T9
  rename Below _ _ _ _ => B9
  refine iterRange F9 N9 R9 (range_small _ hlen).1 fun I hI FI NI ltI => ?_
  refine for_inv (it_range (a := 0) (c := 1) (n := rs.length) rfl I) rfl rfl (fun i m₁ led₁ => ∃ vs' n' us n2, led₁ = (_, listOf us.toArray n2) :: machL w M vs' n' rest ∧ StrsAre vs' ((rs.drop i ++ (rs.take i).map (upd c b)).map rowS) ∧ StrsAre us ((((rs.take i).filter (hold c)).map (upd c b)).map rowS) ∧
    m₁ (Str.ofString "machine") = some (.ref M.x) ∧ m₁ (Str.ofString "name") = some (.str (ltr c) t2) ∧ m₁ (Str.ofString "sending") = some (.bool b) ∧ m₁ (Str.ofString "rows") = some (.ref _)) (fun _ _ _ _ _ _ => trivial) ?_ ?_ ?_ FI NI ?_ ⟨_, _, _, _, rfl, ?_, .nil, rfl, rfl, rfl, rfl⟩
  · rintro i m₁ led₁ ⟨vs', n', us, n2, rfl, _⟩ p hp
    have ltl := ltI (_, listOf #[] 0) (.head _)
    have ltM := mach_lt ltI (fun p hp => .tail _ hp)
    refine Nat.ne_of_lt ?_
    rcases List.mem_cons.mp hp with rfl | hp
    · exact ltl
    rcases List.mem_cons.mp hp with rfl | hp
    · exact ltM.1
    rcases List.mem_cons.mp hp with rfl | hp
    · exact ltM.2.1
    rcases List.mem_cons.mp hp with rfl | hp
    · exact ltM.2.2.1
    · exact ltM.2.2.2 p hp
  · rintro i v m₁ led₁ h1 o1 tk1 hi ⟨tv, rfl⟩ ⟨vs', n', us, n2, rfl, hv', hu', e1, e2, e3, e4⟩ hO F1 N1
    rw [mset e1, mset e2, mset e3, mset e4] at F1
    iterate 6 (first | (k_unfold; (try dsimp only)) | walk1)
    obtain ⟨r0, rs0, hr0⟩ : ∃ r0 rs0, rs.drop i = r0 :: rs0 := ⟨rs[i], rs.drop (i + 1), List.drop_eq_getElem_cons hi⟩
    rw [hr0, List.cons_append, List.map_cons] at hv'
    cases hv' with
    | cons _ tr hv' =>
    have ltl := ltI (_, listOf #[] 0) (.head _)
    have ltM := mach_lt ltI (fun p hp => .tail _ hp)
    dsimp only at ltl
    have l95 := allLt_all lt9.2.2.2
    have N2 := mach_push2 N1
    have o2 : MOff M ((I, o1) :: (_, listOf us.toArray n2) :: rest) := (o.cons lt9.1 lt9.2.1 lt9.2.2.1).cons ltM.1 ltM.2.1 ltM.2.2.1
    refine pop_c ⟨B9, F1, X9, N2, T9, rfl, ?_, ?_⟩ o2 ?_ ?_
    · show dp + 1 + 2 < recursionLimit; omega
    · show un + 3 + 20 * 2 < cLine; omega
    · have := strsAre_length hv'; simp at this; have h3 := congrArg List.length hr0; simp at h3; omega
    · intro h2 tk2 n3 F2 N3
      clear N2 N1 F1
      iterate 19 (first | (k_unfold; (try dsimp only)) | walk1)
      have hr0m : r0 ∈ rs := by
        have : r0 ∈ rs.drop i := by rw [hr0]; exact .head _
        exact List.mem_of_mem_drop this
      obtain ⟨hk1, hk2, hk3⟩ := hok r0 hr0m
      have e5 : Str.ofString "..." ++ ltr c ++ Str.ofString "..." = wantS c := by unfold wantS; rfl
      rw [e5]
      rename News _ _ _ _ => N3
      rename Fr _ _ _ _ => F3
      refine ellip_c (dd := r0.1) (kk := r0.2) ⟨B9, F3, X9, N3, T9, rfl, ?_, ?_⟩ hc (by omega) hk3 ?_
      · show dp + 1 + 2 < recursionLimit; omega
      · show un + 3 + 20 * 2 < cLine; omega
      intro h4 tk4 F4 N4
      clear N3 F3
      rename News _ _ _ _ => N4
      rename Fr _ _ _ _ => F4
      have hrow : rowS r0 = rowS (r0.1, r0.2) := rfl
      have hrow : rowS r0 = rowS (r0.1, r0.2) := rfl
      have hd1 : rs.drop (i + 1) = rs0 := by rw [← List.tail_drop, hr0]; rfl
      have hd2 : rs.take (i + 1) = rs.take i ++ [r0] := by
        have h0 : rs[i]? = some r0 := by rw [← List.head?_drop, hr0]; rfl
        rw [List.take_add_one, h0]; rfl
      have hul : us.length < 1000 := by
        have := strsAre_length hu'
        rw [List.length_map, List.length_map] at this
        have h3 := List.length_filter_le (hold c) (rs.take i)
        rw [List.length_take] at h3
        omega
      cases hb : r0.2.testBit c with
      | false =>
        have hup : upd c b r0 = r0 := by simp [upd, hold, hb]
        iterate 13 (first | (k_unfold; (try dsimp only)) | walk1)
        rename News _ _ _ _ => N5
        rename Fr _ _ _ _ => F5
        refine push_c ⟨B9, F5, X9, N5, T9, rfl, ?_, ?_⟩ o2 ?_ ?_
        · show dp + 1 + 2 < recursionLimit; omega
        · show un + 3 + 20 * 2 < cLine; omega
        · have := strsAre_length hv'; simp at this; have h3 := congrArg List.length hr0; simp at h3; omega
        intro h8 tk8 n8 F8 N8
        clear N5 F5
        iterate 1 (first | (k_unfold; (try dsimp only)) | walk1)
        refine ⟨_, _, _, _, rfl, F8, mach_pull2 N8, _, _, us, n2, rfl, ?_, ?_, rfl, rfl, rfl, rfl⟩
        · rw [hd1, hd2]; exact turn_q hv' hup
        · rw [hd2]; exact turn_no hu' hb
      | true =>
        cases b with
        | false =>
          have hup : upd c false r0 = r0 := by simp [upd]
          iterate 18 (first | (k_unfold; (try dsimp only)) | walk1)
          rename News _ _ _ _ => N6
          rename Fr _ _ _ _ => F6
          have N7 := cons_swap (mach_pull2 N6)
          refine append_K F6 N7 (upd_top lt9.1 lt9.2.1 lt9.2.2.1 l95 ltl) ?_ ?_
          · intro h7 F7 N7'
            clear N7 N6 F6
            rw [List.push_toArray] at N7'
            have N8 := mach_push2 (cons_swap N7')
            clear N7'
            iterate 11 (first | (k_unfold; (try dsimp only)) | walk1)
            rename News _ _ _ _ => N5
            rename Fr _ _ _ _ => F5
            refine push_c ⟨B9, F5, X9, N5, T9, rfl, ?_, ?_⟩ ((o.cons lt9.1 lt9.2.1 lt9.2.2.1).cons ltM.1 ltM.2.1 ltM.2.2.1) ?_ ?_
            · show dp + 1 + 2 < recursionLimit; omega
            · show un + 3 + 20 * 2 < cLine; omega
            · have := strsAre_length hv'; simp at this; have h3 := congrArg List.length hr0; simp at h3; omega
            intro h8 tk8 n8 F8 N8
            clear N5 F5
            iterate 1 (first | (k_unfold; (try dsimp only)) | walk1)
            refine ⟨_, _, _, _, rfl, F8, mach_pull2 N8, _, _, _, _, rfl, ?_, ?_, rfl, rfl, rfl, rfl⟩
            · rw [hd1, hd2]; exact turn_q hv' hup
            · rw [hd2]; exact turn_us hu' hup hb
          · rw [sizeLine_eq]; simp; omega
        | true => 
          have hup : upd c true r0 = (r0.1 + 1, r0.2) := by simp [upd, hold, hb]
          obtain ⟨dd, hdd⟩ : ∃ dd, r0 = (dd + 1, r0.2) := ⟨r0.1 - 1, by rw [Nat.sub_add_cancel hk1]⟩
          have hk0 : 0 < r0.2 := by
            rcases Nat.eq_zero_or_pos r0.2 with h0 | h0
            · rw [h0, Nat.zero_testBit] at hb; cases hb
            · exact h0
          have hdd1 : r0.1 = dd + 1 := congrArg Prod.fst hdd
          rw [hdd1] at hup
          iterate 17 (first | (k_unfold; (try dsimp only)) | walk1)
          rename News _ _ _ _ => N5
          rename Fr _ _ _ _ => F5
          rw [show rowS r0 = rowS (dd + 1, r0.2) from congrArg rowS hdd]
          refine quote_c ⟨B9, F5, X9, N5, T9, rfl, ?_, ?_⟩ (d := dd) (k := r0.2) (by omega) hk3 hk0 ?_
          · show dp + 1 + 2 < recursionLimit; omega
          · show un + 3 + 20 * 2 < cLine; omega
          intro h9 tk9 t9 F9' N9'
          clear N5 F5
          iterate 12 (first | (k_unfold; (try dsimp only)) | walk1)
          rename News _ _ _ _ => N6
          rename Fr _ _ _ _ => F6
          have N7 := cons_swap (mach_pull2 N6)
          refine append_K F6 N7 (upd_top lt9.1 lt9.2.1 lt9.2.2.1 l95 ltl) ?_ ?_
          · intro h7 F7 N7'
            clear N7 N6 F6
            rw [List.push_toArray] at N7'
            have N8 := mach_push2 (cons_swap N7')
            clear N7'
            iterate 11 (first | (k_unfold; (try dsimp only)) | walk1)
            rename News _ _ _ _ => N5
            rename Fr _ _ _ _ => F5
            refine push_c ⟨B9, F5, X9, N5, T9, rfl, ?_, ?_⟩ ((o.cons lt9.1 lt9.2.1 lt9.2.2.1).cons ltM.1 ltM.2.1 ltM.2.2.1) ?_ ?_
            · show dp + 1 + 2 < recursionLimit; omega
            · show un + 3 + 20 * 2 < cLine; omega
            · have := strsAre_length hv'; simp at this; have h3 := congrArg List.length hr0; simp at h3; omega
            intro h8 tk8 n8 F8 N8
            clear N5 F5
            iterate 1 (first | (k_unfold; (try dsimp only)) | walk1)
            refine ⟨_, _, _, _, rfl, F8, mach_pull2 N8, _, _, _, _, rfl, ?_, ?_, rfl, rfl, rfl, rfl⟩
            · rw [hd1, hd2]; exact turn_q hv' hup
            · rw [hd2]; exact turn_us hu' hup hb
          · rw [sizeLine_eq]; simp; omega
  · rintro m₁ led₁ h1 tk1 ⟨vs', n', us, n2, rfl, hv', hu', e1, e2, e3, e4⟩ F1 N1
    rw [mset e4] at F1
    dsimp only
    iterate 4 (first | (k_unfold; (try dsimp only)) | walk1)
    rename News _ _ _ _ => N2
    rename Fr _ _ _ _ => F2
    rw [List.drop_length, List.nil_append, List.take_length] at hv'
    rw [List.take_length] at hu'
    refine hret _ _ _ _ _ _ _ F2 (mach_push N2) ?_ hv' hu'
    have l95 := allLt_all lt9.2.2.2
    intro p hp
    rcases List.mem_cons.mp hp with rfl | hp
    · exact lt9.1
    rcases List.mem_cons.mp hp with rfl | hp
    · exact lt9.2.1
    rcases List.mem_cons.mp hp with rfl | hp
    · exact lt9.2.2.1
    · exact l95 p hp
  · rw [(range_small _ hlen).2]; simp
  · simpa using hvs
end
end Mine

end

section
open PySem PySem.W PySem.Spec PySem.Calls PyProof.Rows
namespace Mine
section
variable {w : World} {p : Program} {loose : List Str} {mean : ExcName → Option Value} {mg mb : Str → Option Value} {dp un : Nat} {gd : Option (List Code)} {cn : Str} {cs : Scope} {a : Addr} {ccd : Value} {cl : List (Str × Addr)} {outer : List Env} {A₀ : Around} {base h₀ : Heap} {L : Addr} {m : Str → Option Value} {s : Shared} {M : MV} {vs : List Value} {n : Nat} {rest news : List (Addr × Obj)} {Q E : Value → Shared → Prop}

end
theorem for_turn_raw {prog : Program} {w : World} {A : Around} {s : Shared} {env : Env} {h₀ : Heap} {R : Result → Shared → Prop} {tg : Expr} {body : List Stmt} {I : Addr} {n i : Nat} {P : Nat → Value → Prop} {O : Nat → Obj → Prop} {C : Heap → Prop} {o : Obj} {m : Str → Option Value} {led : List (Addr × Obj)}
    (T : It prog w A I n P O C) (hi : i < n) (hlet : ∀ v, letOwnedTupleGo tg (.ref I) v = pure ())
    (F : Fr h₀ env.locals s.heap m) (N : News h₀ env.locals s.heap ((I, o) :: led)) (hO : O i o) (hC : C s.heap) (off : ∀ p ∈ led, p.1 ≠ I)
    (h : ∀ v h' o' tk, P i v → O (i + 1) o' → Fr h₀ env.locals h' m → News h₀ env.locals h' ((I, o') :: led) →
      wpAny (model prog w) A (assign tg env v) (fun _ s₂ => wpAny (model prog w) A (execs body env) (fun f s₃ => match f with
            | .next | .cont => codeAny (model prog w) A (.forLoop tg (.ref I) body [] env) R s₃
            | .brk => R (.ok .next) s₃
            | .ret v => R (.ok (.ret v)) s₃) (notedBy (model prog w) A env fun e s' => R (.error e) s') s₂) (notedBy (model prog w) A env fun e s' => R (.error e) s') { s with heap := h', toks := tk }) :
    codeAny (model prog w) A (.forLoop tg (.ref I) body [] env) R s := by
  have zI := N (I, o) (.head _)
  refine for_turn (T.item i s o _ _ hi zI.1 hO hC fun v h₁ o' tk hP ho' hO' hs => ?_)
  show wpAny _ A (letOwnedTupleGo tg (.ref I) v) _ _ _
  rw [hlet]
  refine wpAny_pure ?_
  have F₁ : Fr h₀ env.locals h₁ m := fr_ext F hs.extBut zI.2.1 zI.2.2
  have N₁ : News h₀ env.locals h₁ led := news_ext (fun p hp => N p (.tail _ hp)) hs.extBut off
  refine h v h₁ o' _ hP hO' F₁ fun p hp => ?_
  rcases List.mem_cons.mp hp with rfl | hp
  · exact ⟨ho', zI.2⟩
  · exact N₁ p hp

theorem for_done_raw {prog : Program} {w : World} {A : Around} {s : Shared} {env : Env} {h₀ : Heap} {R : Result → Shared → Prop} {tg : Expr} {body : List Stmt} {I : Addr} {n : Nat} {P : Nat → Value → Prop} {O : Nat → Obj → Prop} {C : Heap → Prop} {o : Obj} {m : Str → Option Value} {led : List (Addr × Obj)}
    (T : It prog w A I n P O C) (F : Fr h₀ env.locals s.heap m) (N : News h₀ env.locals s.heap ((I, o) :: led)) (hO : O n o) (hC : C s.heap) (off : ∀ p ∈ led, p.1 ≠ I)
    (h : ∀ h' tk, Fr h₀ env.locals h' m → News h₀ env.locals h' led → R (.ok .next) { s with heap := h', toks := tk }) :
    codeAny (model prog w) A (.forLoop tg (.ref I) body [] env) R s := by
  have zI := N (I, o) (.head _)
  refine for_turn (T.done s o _ _ zI.1 hO hC fun h₁ tk hs => ?_)
  exact wpAny_execs_nil (h h₁ tk (fr_ext F hs zI.2.1 zI.2.2) (news_ext (fun p hp => N p (.tail _ hp)) hs off))

/-- a loop by an invariant, any target -/
theorem for_inv_raw {prog : Program} {w : World} {A : Around} {s : Shared} {env : Env} {h₀ : Heap} {R : Result → Shared → Prop} {tg : Expr} {body : List Stmt} {I : Addr} {n : Nat} {P : Nat → Value → Prop} {O : Nat → Obj → Prop} {C : Heap → Prop} {o : Obj} {m : Str → Option Value} {led : List (Addr × Obj)}
    (T : It prog w A I n P O C) (hlet : ∀ v, letOwnedTupleGo tg (.ref I) v = pure ())
    (J : Nat → (Str → Option Value) → List (Addr × Obj) → Prop) (hJC : ∀ i m led h, J i m led → News h₀ env.locals h led → C h) (hJI : ∀ i m led, J i m led → ∀ p ∈ led, p.1 ≠ I)
    (step : ∀ i v m₁ led₁ h' o' tk, i < n → P i v → J i m₁ led₁ → O (i + 1) o' → Fr h₀ env.locals h' m₁ → News h₀ env.locals h' ((I, o') :: led₁) →
      wpAny (model prog w) A (assign tg env v) (fun _ s₂ => wpAny (model prog w) A (execs body env) (fun f s₃ => match f with
            | .next | .cont => ∃ h'' tk' m₂ led₂, s₃ = { s with heap := h'', toks := tk' } ∧ Fr h₀ env.locals h'' m₂ ∧ News h₀ env.locals h'' ((I, o') :: led₂) ∧ J (i + 1) m₂ led₂
            | .brk => R (.ok .next) s₃
            | .ret v => R (.ok (.ret v)) s₃) (notedBy (model prog w) A env fun e s' => R (.error e) s') s₂) (notedBy (model prog w) A env fun e s' => R (.error e) s') { s with heap := h', toks := tk })
    (done : ∀ m₁ led₁ h' tk, J n m₁ led₁ → Fr h₀ env.locals h' m₁ → News h₀ env.locals h' led₁ → R (.ok .next) { s with heap := h', toks := tk })
    (F : Fr h₀ env.locals s.heap m) (N : News h₀ env.locals s.heap ((I, o) :: led)) (hO : O 0 o) (hJ : J 0 m led) :
    codeAny (model prog w) A (.forLoop tg (.ref I) body [] env) R s := by
  have go : ∀ k i, i + k = n → ∀ h tk m₁ led₁ o₁, J i m₁ led₁ → O i o₁ → Fr h₀ env.locals h m₁ → News h₀ env.locals h ((I, o₁) :: led₁) →
      codeAny (model prog w) A (.forLoop tg (.ref I) body [] env) R { s with heap := h, toks := tk } := by
    intro k
    induction k with
    | zero =>
      intro i hi h tk m₁ led₁ o₁ hJ hO F N
      obtain rfl : i = n := by omega
      have N' : News h₀ env.locals h led₁ := fun p hp => N p (.tail _ hp)
      exact for_done_raw T F N hO (hJC _ _ _ _ hJ N') (hJI _ _ _ hJ) fun h' tk' F' N'' => done _ _ h' tk' hJ F' N''
    | succ k ih =>
      intro i hi h tk m₁ led₁ o₁ hJ hO F N
      have N' : News h₀ env.locals h led₁ := fun p hp => N p (.tail _ hp)
      refine for_turn_raw T (by omega) hlet F N hO (hJC _ _ _ _ hJ N') (hJI _ _ _ hJ) fun v h' o' tk' hP hO' F' N'' => ?_
      refine wpAny_mono (step i v m₁ led₁ h' o' tk' (by omega) hP hJ hO' F' N'') (fun _ s₂ h₂ => wpAny_mono h₂ (fun f s₃ h₃ => ?_) fun _ _ e => e) fun _ _ e => e
      cases f with
      | ret v => exact h₃
      | brk => exact h₃
      | next =>
        obtain ⟨h₄, tk₄, m₂, led₂, rfl, F₂, N₂, hJ₂⟩ := h₃
        exact ih (i + 1) (by omega) h₄ tk₄ m₂ led₂ o' hJ₂ hO' F₂ N₂
      | cont =>
        obtain ⟨h₄, tk₄, m₂, led₂, rfl, F₂, N₂, hJ₂⟩ := h₃
        exact ih (i + 1) (by omega) h₄ tk₄ m₂ led₂ o' hJ₂ hO' F₂ N₂
  exact go n 0 (by omega) s.heap s.toks m led o hJ hO F N
section
open LCg LCt
/-- a comprehension with one test over things a (as values by IsA), texts out by f -/
theorem comp_texts {prog : Program} {w : World} {A : Around} {h₀ : Heap} {L : Addr} {m : Str → Option Value} {env : Env} {ct elt : Expr} {x : Str} {scope : Scope} {cl : List (Str × Addr)} {s : Shared} {S : List (Addr × Obj) → Prop} {P : Nat → Value → Prop} {Fin : List Value → List (Addr × Obj) → Prop} {news : List (Addr × Obj)}
    {α : Type} {as : List α} {n : Nat} (IsA : α → Value → Prop) (f : α → Option Str) (hn : as.length = n) (hP : ∀ i v, i < n → P i v → ∃ a, as[i]? = some a ∧ IsA a v)
    (turn : ∀ a v I oI C oC D m₂ ys h tk (E' : Value → Shared → Prop), a ∈ as → IsA a v → NsObj oC m₂ → m₂ x = some v → Fr h₀ L h m → News h₀ L h ((I, oI) :: (C, oC) :: (D, lst ys) :: news) → Off3 I C D news → ((@Ne Nat I C) ∧ (@Ne Nat I D) ∧ (@Ne Nat C D)) →
      wpAny (model prog w) A (isTrue ct (compEnvC scope cl C env) (eval ct (compEnvC scope cl C env))) (fun ok s' => if ok = true then
        wpAny (model prog w) A (eval elt (compEnvC scope cl C env)) (CompEnd h₀ L m { s with heap := h, toks := tk } I oI C oC D (lst ys) S (fun y news' => news' = news ∧ ∃ b t, f a = some b ∧ y = .str b t)) E' s'
        else CompEnd h₀ L m { s with heap := h, toks := tk } I oI C oC D (lst ys) S (fun _ news' => news' = news ∧ f a = none) Value.none s') E' { s with heap := h, toks := tk })
    (fin : ∀ ys, StrsAre ys (as.filterMap f) → Fin ys news) : CompRestT prog w A h₀ L m env ct elt x scope cl s S P Fin n 0 [] news := by
  have key : ∀ (j i : Nat) (ys : List Value), i + j = n → StrsAre ys ((as.take i).filterMap f) → CompRestT prog w A h₀ L m env ct elt x scope cl s S P Fin j i ys news := by
    intro j
    induction j with
    | zero =>
      intro i ys hi hy
      have e : i = as.length := by omega
      subst e
      rw [List.take_length] at hy
      exact CompRestT.zero (fin ys hy)
    | succ j ih =>
      intro i ys hi hy
      refine CompRestT.succ ?_
      intro v I oI C oC D m₂ h tk E' hv hC hx F N off ne
      obtain ⟨a, ha, hav⟩ := hP i v (by omega) hv
      refine wpAny_mono (turn a v I oI C oC D m₂ ys h tk E' (List.mem_of_getElem? ha) hav hC hx F N off ne) (fun ok s₂ hq => ?_) fun _ _ e => e
      cases ok with
      | true =>
        simp only [if_true] at hq ⊢
        refine wpAny_mono hq (fun y s₂ hq => ?_) fun _ _ e => e
        obtain ⟨h', tk', nw, e, F', N', off', hS, hn, b, t', hb, hy'⟩ := hq
        rw [hn] at N' off' hS
        refine ⟨h', tk', news, e, F', N', off', hS, ?_⟩
        rw [hy']
        refine ih (i + 1) _ (by omega) ?_
        rw [List.take_add_one, ha, List.filterMap_append]
        have : List.filterMap f (some a).toList = [b] := by simp [hb]
        rw [this]
        exact kct_snoc hy
      | false =>
        simp only [Bool.false_eq_true, if_false] at hq ⊢
        obtain ⟨h', tk', nw, e, F', N', off', hS, hn, hb⟩ := hq
        rw [hn] at N' off' hS
        refine ⟨h', tk', news, e, F', N', off', hS, ?_⟩
        refine ih (i + 1) _ (by omega) ?_
        rw [List.take_add_one, ha, List.filterMap_append]
        have : List.filterMap f (some a).toList = [] := by simp [hb]
        rw [this, List.append_nil]
        exact hy
  exact key n 0 [] (by omega) (by simp only [List.take_zero, List.filterMap_nil]; exact .nil)
end
section
variable {w : World} {p : Program} {loose : List Str} {mean : ExcName → Option Value} {mg mb : Str → Option Value} {dp un : Nat} {gd : Option (List Code)} {cn : Str} {cs : Scope} {a : Addr} {ccd : Value} {cl : List (Str × Addr)} {outer : List Env} {A₀ : Around} {base h₀ : Heap} {L : Addr} {m : Str → Option Value} {s : Shared} {M : MV} {vs : List Value} {n : Nat} {rest news : List (Addr × Obj)} {Q E : Value → Shared → Prop}
theorem go_c' {rs : List (Nat × Nat)} {sz : Nat} (hsz : rs.length = sz) {c : Nat} {b : Bool} {t1 t2 : Tok} (S : Std 4 w p loose mean mg mb dp un cs outer A₀ base h₀ L m s.heap (machL w M vs n rest)) (o : MOff M rest) (hvs : StrsAre vs (rs.map rowS)) (hok : ∀ r ∈ rs, RowOk r) (hc : c < 4)
    (hlen : rs.length < 100)
    (hret : ∀ (r : Addr) (h' : Heap) (tk' n' n2 : Nat) (vs' us : List Value), Fr h₀ L h' m → News h₀ L h' (machL w M vs' n' ((r, listOf us.toArray n2) :: rest)) → (∀ p ∈ machL w M vs n rest, p.1 < r) → StrsAre vs' ((rs.map (upd c b)).map rowS) → StrsAre us (((rs.filter (hold c)).map (upd c b)).map rowS) →
      Q (.ref r) { s with heap := h', toks := tk' }) :
    wpAny (model PP w) (ktrTop dp un gd cn cs L a ccd cl outer) (call (.ref 125) [.ref M.x, .int (sz : Nat) t1, .str (ltr c) t2, .bool b]) Q E s := by
  subst hsz
  exact go_c S o hvs hok hc hlen hret
def rowsOf (bs ch : List Nat) : List (Nat × Nat) := bs.map fun k => (1 + (ch.filter k.testBit).length, k)
def backs (bs ch : List Nat) (lv c : Nat) : List (Nat × Nat) := ((rowsOf bs ch).filter (hold c)).filter fun r => decide (r.1 ≤ lv)
def pick (bs : List Nat) (st lv : Nat) (ch : List Nat) (c : Nat) : List Nat := if c ∈ ch then ch else if lv * bs.length ≤ st * (backs bs ch lv c).length then ch ++ [c] else ch
def passLv (bs : List Nat) (st : Nat) (os : List Nat) (lv : Nat) (ch : List Nat) : List Nat := os.foldl (pick bs st lv) ch
def chooseN (bs os : List Nat) (st : Nat) : Nat → List Nat
  | 0 => []
  | i + 1 => passLv bs st os (st - i) (chooseN bs os st i)
def ChOk (ch : List Nat) : Prop := ch.Nodup ∧ ∀ c ∈ ch, c < 4
theorem mach_sink {q1 q2 q3 : Addr × Obj} {h : Heap} (N : News h₀ L h (q1 :: q2 :: q3 :: machL w M vs n rest)) : News h₀ L h (q2 :: q3 :: machL w M vs n (q1 :: rest)) := fun p hp => N p (by
  simp only [machL, List.mem_cons] at hp ⊢
  rcases hp with h | h | h | h | h | h | h <;> simp only [h, true_or, or_true])
theorem mach_unsink {q1 q2 q3 : Addr × Obj} {h : Heap} (N : News h₀ L h (q2 :: q3 :: machL w M vs n (q1 :: rest))) : News h₀ L h (q1 :: q2 :: q3 :: machL w M vs n rest) := fun p hp => N p (by
  simp only [machL, List.mem_cons] at hp ⊢
  rcases hp with h | h | h | h | h | h | h <;> simp only [h, true_or, or_true])
theorem strsAre_get : ∀ {vs : List Value} {ys : List Str} (_ : StrsAre vs ys) {j : Nat} {v : Value}, vs.toArray[j]? = some v → ∃ y t, ys[j]? = some y ∧ v = .str y t
  | _, _, .nil, j, v, h => by simp at h
  | _, _, .cons y t r, 0, v, h => ⟨y, t, rfl, by simpa using h.symm⟩
  | _, _, .cons y t r, j + 1, v, h => by
    obtain ⟨z, t, e, e'⟩ := strsAre_get r (j := j) (v := v) (by simpa using h)
    exact ⟨z, t, by simpa using e, e'⟩
theorem ltr_inj {x y : Nat} (h : ltr x = ltr y) : x = y := by
  simp only [ltr, Str.mk.injEq, Array.mk.injEq, List.cons.injEq, and_true] at h
  omega
theorem any_ltr (ch : List Nat) (c : Nat) : ((ch.map ltr).any fun x => x == ltr c) = decide (c ∈ ch) := by
  rw [Bool.eq_iff_iff, List.any_eq_true, decide_eq_true_eq]
  constructor
  · rintro ⟨x, hx, e⟩
    obtain ⟨y, hy, rfl⟩ := List.mem_map.mp hx
    rwa [ltr_inj (eq_of_beq e)] at hy
  · intro h
    exact ⟨_, List.mem_map_of_mem h, by simp⟩
theorem take_foldl {α β : Type} {f : α → β → α} {l : List β} {j : Nat} {x : β} {a : α} (h : l[j]? = some x) : (l.take (j + 1)).foldl f a = f ((l.take j).foldl f a) x := by
  rw [List.take_add_one, h, List.foldl_append]; rfl
theorem mach_push3 {h : Heap} {q q' q'' : Addr × Obj} (N : News h₀ L h (q :: q' :: q'' :: machL w M vs n rest)) : News h₀ L h (machL w M vs n (q :: q' :: q'' :: rest)) := fun p hp => N p (by
  simp only [machL, List.mem_cons] at hp ⊢
  rcases hp with h | h | h | h | h | h | h <;> simp only [h, true_or, or_true])
theorem upd_false (rs : List (Nat × Nat)) (c : Nat) : rs.map (upd c false) = rs := by
  induction rs with
  | nil => rfl
  | cons r rs ih => rw [List.map_cons, ih]; simp [upd]
theorem rowsOf_length (bs ch : List Nat) : (rowsOf bs ch).length = bs.length := List.length_map ..
theorem rowsOf_ok {bs ch : List Nat} (hok : ∀ k ∈ bs, k < 16) (hch : ChOk ch) : ∀ r ∈ rowsOf bs ch, RowOk r := by
  intro r hr
  obtain ⟨k, hk, rfl⟩ := List.mem_map.mp hr
  have h1 := List.length_filter_le k.testBit ch
  have h2 : ch.length ≤ 4 := by
    have := hch.1.length_le_of_subset (l₂ := List.range 4) (fun c hc => List.mem_range.mpr (hch.2 c hc))
    rwa [List.length_range] at this
  exact ⟨by omega, by show 1 + _ ≤ 5; omega, hok k hk⟩
theorem sw_row' : ∀ d < 6, ∀ k < 16, ∀ lv < 4, Txt.startswith (rowS (d, k)) (Txt.mul (Str.ofString ".") ((lv : Nat) + 1 : Int)) = !decide (d ≤ lv) := by decide +kernel
theorem sw_row {r : Nat × Nat} (h : RowOk r) {st i : Nat} (hi : i < st) (hst : st < 4) : Txt.startswith (rowS r) (Txt.mul (Str.ofString ".") ((st : Int) + (i : Int) * -1 + 1)) = !decide (r.1 ≤ st - i) := by
  rw [show (st : Int) + (i : Int) * -1 + 1 = (((st - i : Nat) : Int) + 1) by omega]
  exact sw_row' r.1 (by have := h.2.1; omega) r.2 h.2.2 (st - i) (by omega)
theorem filterMap_len {α β : Type} {p : α → Prop} [DecidablePred p] {g : α → β} : ∀ {l : List α}, (l.filterMap fun r => if p r then some (g r) else none).length = (l.filter fun r => decide (p r)).length
  | [] => rfl
  | x :: l => by
    by_cases hx : p x <;> simp [hx, filterMap_len (l := l)]
theorem rowsOf_snoc (bs ch : List Nat) (c : Nat) : (rowsOf bs ch).map (upd c true) = rowsOf bs (ch ++ [c]) := by
  rw [rowsOf, List.map_map]
  refine List.map_congr_left fun k _ => ?_
  cases hk : k.testBit c <;> simp [upd, hold, hk, List.filter_append, Nat.add_assoc]
theorem chOk_snoc {ch : List Nat} {c : Nat} (h : ChOk ch) (hc : c < 4) (hm : c ∉ ch) : ChOk (ch ++ [c]) := by
  refine ⟨List.nodup_append.mpr ⟨h.1, by simp, ?_⟩, ?_⟩
  · intro a ha b hb e
    rw [List.mem_singleton.mp hb] at e
    exact hm (e ▸ ha)
  · intro x hx
    rcases List.mem_append.mp hx with hx | hx
    · exact h.2 x hx
    · rw [List.mem_singleton.mp hx]; exact hc
theorem le_fdiv {st i cnt n : Nat} (hi : i < st) (hn : 0 < n) : ((st : Int) + (i : Int) * -1 ≤ ((st : Int) * (cnt : Int)).fdiv (n : Int)) ↔ (st - i) * n ≤ st * cnt := by
  rw [Int.fdiv_eq_ediv_of_nonneg _ (by omega), Int.le_ediv_iff_mul_le (by omega), show (st : Int) + (i : Int) * -1 = ((st - i : Nat) : Int) by omega, ← Int.natCast_mul, ← Int.natCast_mul]
  exact Int.ofNat_le
theorem range_down : ∀ n < 4, Builtin.Range.small (n : Nat) 0 (-1) = true ∧ Builtin.Range.rangeSize (n : Nat) 0 (-1) = (n : Nat) := by decide +kernel
set_option maxHeartbeats 4000000 in
theorem choose_c {bs os : List Nat} {st : Nat} {t1 t2 : Tok} {ao : Addr} {ov : List Value} {no : Nat} (S : Std 6 w p loose mean mg mb dp un cs outer A₀ base h₀ L m s.heap (machL w M vs n rest)) (o : MOff M rest) (hao : (ao, listOf ov.toArray no) ∈ rest)
    (hvs : StrsAre vs ((rowsOf bs []).map rowS)) (hok : ∀ k ∈ bs, k < 16) (hlen : bs.length ≤ 7) (hl0 : 0 < bs.length) (hst : st < 4) (hov : StrsAre ov (os.map ltr)) (hos : ∀ c ∈ os, c < 4)
    (hret : ∀ (r : Addr) (h' : Heap) (tk' n' nr : Nat) (vs' cvs : List Value), Fr h₀ L h' m → News h₀ L h' (machL w M vs' n' ((r, listOf cvs.toArray nr) :: rest)) → (∀ p ∈ machL w M vs n rest, p.1 < r) → ChOk (chooseN bs os st st) →
      StrsAre vs' ((rowsOf bs (chooseN bs os st st)).map rowS) → StrsAre cvs ((chooseN bs os st st).map ltr) → Q (.ref r) { s with heap := h', toks := tk' }) :
    wpAny (model PP w) (ktrTop dp un gd cn cs L a ccd cl outer) (call (.ref 130) [.ref M.x, .int bs.length t1, .int st t2, .ref ao]) Q E s := by
  obtain ⟨B, F, X, N, T, hcs, hdp, hun⟩ := S
  refine wpAny_call ?_
  k_dflt (refine' code_defC ?k1 ?k2 ?k3 ?k4 ?k5 ?kA ?kF ?kK ?k6 ?k7 ?k8 ?k9 ?kB ?kD ?_ ?c2 ?c3 ?c4; (case kA => exact rfl); (case kF => exact rfl); (case kK => assumption); (case k1 => k_asm); (case k2 => k_asm); (case k3 => k_asm); (case k4 => k_asm); (case k5 => k_asm); (case k6 => k_is); (case k7 => k_is); (case k8 => ktr_room); (case k9 => exact BindsTo.of_eq rfl); (case kB => exact rfl); (case kD => decide +kernel); (case c2 => exact rfl); (case c3 => exact rfl); (case c4 => exact rfl); k_whole; intro g' L' h' tk' cells' FG' F' N' Y' B' X' T' l1; (try k_lt l1); k_cells Y'; (try simp only [List.cons_append, List.nil_append] at N'); (try dsimp only); (try k_lift B'); (try k_fold))
  iterate 5 (first | (k_unfold; (try dsimp only)) | walk1)
  rename Addr => cA
  iterate 3 (first | (k_unfold; (try dsimp only)) | walk1)
  refine wpAny_For ?_ (by intro _; rfl)
  iterate 13 (first | (k_unfold; (try dsimp only)) | walk1)
  rename News _ _ _ _ => N9
  rename Fr _ _ _ _ => F9
  rename IsRange _ _ _ _ _ _ _ _ => R9
  rename (M.l < L' ∧ _) => lt0
  rename (L' + 1 < _ ∧ _) => lt9
  rename Frag.In _ _ => X9
  rename Top _ _ _ _ _ _ => T9
  rename Below _ _ _ _ => B9
  refine iterRange F9 N9 R9 (range_down _ hst).1 fun I hI FI NI ltI => ?_
  refine for_inv_raw (it_range (a := st) (c := -1) (n := st) rfl I) (fun _ => rfl) (fun i m₁ led₁ => ∃ cvs n1 o1 vs' n', led₁ = (cA, listOf cvs.toArray n1) :: (L' + 1, o1) :: machL w M vs' n' rest ∧ ChOk (chooseN bs os st i) ∧ StrsAre vs' ((rowsOf bs (chooseN bs os st i)).map rowS) ∧ StrsAre cvs ((chooseN bs os st i).map ltr) ∧ (∃ ov, o1.data = .cell ov) ∧
    m₁ (Str.ofString "machine") = some (.ref M.x) ∧ m₁ (Str.ofString "size") = some (.int bs.length t1) ∧ m₁ (Str.ofString "seats") = some (.int st t2) ∧ m₁ (Str.ofString "order") = some (.ref ao) ∧ m₁ (Str.ofString "chosen") = some (.ref _)) (fun _ _ _ _ _ _ => trivial) ?_ ?_ ?_ FI NI ?_ ⟨_, _, _, _, _, rfl, ⟨List.nodup_nil, fun c hc => nomatch hc⟩, hvs, .nil, ⟨_, by assumption⟩, rfl, rfl, rfl, rfl, rfl⟩
  · rintro i m₁ led₁ ⟨cvs, n1, o1, vs', n', rfl, _⟩ p hp
    have lt1 := ltI (_, listOf #[] 0) (.head _)
    have lt2 := ltI (L' + 1, _) (.tail _ (.head _))
    have ltM := mach_lt ltI (fun p hp => .tail _ (.tail _ hp))
    refine Nat.ne_of_lt ?_
    rcases List.mem_cons.mp hp with rfl | hp
    · exact lt1
    rcases List.mem_cons.mp hp with rfl | hp
    · exact lt2
    rcases List.mem_cons.mp hp with rfl | hp
    · exact ltM.1
    rcases List.mem_cons.mp hp with rfl | hp
    · exact ltM.2.1
    rcases List.mem_cons.mp hp with rfl | hp
    · exact ltM.2.2.1
    · exact ltM.2.2.2 p hp
  · rintro i v m₁ led₁ h1 oi tk1 hi ⟨tv, rfl⟩ ⟨cvs, n1, o1, vs', n', rfl, hch, hv', hc', ⟨ov1, hd1⟩, e1, e2, e3, e4, e5⟩ hO F1 N1
    rw [mset e1, mset e2, mset e3, mset e4, mset e5] at F1
    generalize hch0 : chooseN bs os st i = ch0 at hch hv' hc'
    have lt1 := ltI (_, listOf #[] 0) (.head _)
    have lt2 := ltI (L' + 1, _) (.tail _ (.head _))
    have ltM := mach_lt ltI (fun p hp => .tail _ (.tail _ hp))
    have l95 := allLt_all lt9.2.2.2.2
    have l05 := allLt_all lt0.2.2.2
    iterate 1 (first | (k_unfold; (try dsimp only)) | walk1)
    refine' storeX_C ?F ?N ?c ?U ?d ?_ ?a ?b
    case a => rfl
    case b => rfl
    case F => exact F1
    case N => exact N1
    case c => rfl
    case d => exact hd1
    case U =>
      refine .tail (Nat.ne_of_gt lt2) (.tail (Nat.ne_of_gt lt9.1) (.head ?_))
      intro p hp
      refine Nat.ne_of_lt (Nat.lt_succ_of_lt ?_)
      rcases List.mem_cons.mp hp with rfl | hp
      · exact lt0.1
      rcases List.mem_cons.mp hp with rfl | hp
      · exact lt0.2.1
      rcases List.mem_cons.mp hp with rfl | hp
      · exact lt0.2.2.1
      · exact l05 p hp
    intro h2 o2 F2 N2 hd2
    have N3 := mach_sink N2
    clear N1 N2 F1
    iterate 1 (first | (k_unfold; (try dsimp only)) | walk1)
    refine wpAny_For ?_ (by intro _; rfl)
    iterate 1 (first | (k_unfold; (try dsimp only)) | walk1)
    refine iterList (by assumption) (by assumption) (.tail _ (.tail _ (.tail _ (.tail _ (.tail _ (.tail _ hao)))))) fun Jt hJ FJ NJ ltJ => ?_
    refine for_inv (it_list (ax := ao) (items := ov.toArray) rfl Jt) rfl rfl (fun j m₁ led₁ => ∃ cvs n1 vs' n', led₁ = (cA, listOf cvs.toArray n1) :: (L' + 1, o2) :: machL w M vs' n' ((I, oi) :: rest) ∧ ChOk ((os.take j).foldl (pick bs st (st - i)) ch0) ∧ StrsAre vs' ((rowsOf bs ((os.take j).foldl (pick bs st (st - i)) ch0)).map rowS) ∧ StrsAre cvs (((os.take j).foldl (pick bs st (st - i)) ch0).map ltr) ∧
      m₁ (Str.ofString "machine") = some (.ref M.x) ∧ m₁ (Str.ofString "size") = some (.int bs.length t1) ∧ m₁ (Str.ofString "seats") = some (.int st t2) ∧ m₁ (Str.ofString "order") = some (.ref ao) ∧ m₁ (Str.ofString "chosen") = some (.ref _)) ?_ ?_ ?_ ?_ FJ NJ ⟨rfl, rfl⟩ ⟨_, _, _, _, rfl, hch, hv', hc', rfl, rfl, rfl, rfl, rfl⟩
    · rintro j m₁ led₁ h ⟨cvs, n1, vs', n', rfl, _⟩ N
      exact ⟨_, (N _ (.tail _ (.tail _ (.tail _ (.tail _ (.tail _ (.tail _ hao))))))).1, rfl, _, rfl⟩
    · rintro j m₁ led₁ ⟨cvs, n1, vs', n', rfl, _⟩ p hp
      have lt1 := ltJ _ (.head _)
      have lt2 := ltJ (L' + 1, _) (.tail _ (.head _))
      have ltM := mach_lt ltJ (fun p hp => .tail _ (.tail _ hp))
      refine Nat.ne_of_lt ?_
      rcases List.mem_cons.mp hp with rfl | hp
      · exact lt1
      rcases List.mem_cons.mp hp with rfl | hp
      · exact lt2
      rcases List.mem_cons.mp hp with rfl | hp
      · exact ltM.1
      rcases List.mem_cons.mp hp with rfl | hp
      · exact ltM.2.1
      rcases List.mem_cons.mp hp with rfl | hp
      · exact ltM.2.2.1
      · exact ltM.2.2.2 p hp
    · have ltMJ := mach_lt ltJ (fun p hp => .tail _ (.tail _ hp))
      rintro j v m₁ led₁ h1 oj tk1 hj hv ⟨cvs, n1, vs', n', rfl, hch, hv', hc', e1, e2, e3, e4, e5⟩ hOj F1 N1
      rw [mset e1, mset e2, mset e3, mset e4, mset e5] at F1
      obtain ⟨nm, tn, hnm, rfl⟩ := strsAre_get hov hv
      generalize hch1 : (os.take j).foldl (pick bs st (st - i)) ch0 = ch1 at hch hv' hc'
      obtain ⟨c, hc, rfl⟩ : ∃ c, os[j]? = some c ∧ ltr c = nm := by
        rw [List.getElem?_map] at hnm
        cases hoc : os[j]? with
        | none => rw [hoc] at hnm; cases hnm
        | some c => rw [hoc] at hnm; exact ⟨c, rfl, Option.some.inj hnm⟩
      have hc4 : c < 4 := hos c (List.mem_of_getElem? hc)
      have htk : (os.take (j + 1)).foldl (pick bs st (st - i)) ch0 = pick bs st (st - i) ch1 c := by rw [take_foldl hc, hch1]
      iterate 8 (first | (k_unfold; (try dsimp only)) | walk1)
      rw [any_ltr]
      by_cases hmem : c ∈ ch1
      · refine if_yes (decide_eq_true hmem) ?_
        have hpk : pick bs st (st - i) ch1 c = ch1 := if_pos hmem
        iterate 2 (first | (k_unfold; (try dsimp only)) | walk1)
        refine ⟨_, _, _, _, rfl, F1, N1, _, _, _, _, rfl, ?_, ?_, ?_, rfl, rfl, rfl, rfl, rfl⟩
        · rw [htk, hpk]; exact hch
        · rw [htk, hpk]; exact hv'
        · rw [htk, hpk]; exact hc'
      · refine if_no (by simpa using hmem) ?_
        iterate 15 (first | (k_unfold; (try dsimp only)) | walk1)
        rename Fr _ _ _ _ => F2
        have N2 := mach_push3 N1
        have o9 : MOff M ((Jt, oj) :: (cA, listOf cvs.toArray n1) :: (L' + 1, o2) :: (I, oi) :: rest) := (((o.cons ltM.1 ltM.2.1 ltM.2.2.1).cons (Nat.lt_succ_of_lt lt0.1) (Nat.lt_succ_of_lt lt0.2.1) (Nat.lt_succ_of_lt lt0.2.2.1)).cons lt9.2.1 lt9.2.2.1 lt9.2.2.2.1).cons ltMJ.1 ltMJ.2.1 ltMJ.2.2.1
        refine go_c' (rowsOf_length bs ch1) ⟨B9, F2, X9, N2, T9, rfl, ?_, ?_⟩ o9 hv' (rowsOf_ok hok hch) hc4 (by rw [rowsOf_length]; omega) ?_
        · show dp + 1 + 4 < recursionLimit; omega
        · show un + 3 + 20 * 4 < cLine; omega
        intro r h3 tk3 n3 n4 vs3 us F3 N3 fr3 hv3 hu3
        rw [upd_false] at hv3 hu3
        clear F2 N2 N1 hv'
        iterate 3 (first | (k_unfold; (try dsimp only)) | walk1)
        rename Fr _ _ _ _ => F3
        rename News _ _ _ _ => N3
        refine LCt.Assign_ListComp_T (F₀ := F3) (by rfl) (by with_unfolding_all rfl) (by with_unfolding_all rfl) (by decide) (by rfl) (by decide) (by rfl) (by rfl) (by rfl) ?_
        iterate 1 (first | (k_unfold; (try dsimp only)) | walk1)
        refine LCt.CompSrcT.ledger rfl F3 N3 (.tail _ (.tail _ (.tail _ (.head _)))) ?_ fun g4 => ?_
        · rw [sizeLine_eq]
          have := strsAre_length hu3
          rw [List.length_map] at this
          have h3 := List.length_filter_le (hold c) (rowsOf bs ch1)
          rw [rowsOf_length] at h3
          rw [List.size_toArray, this]; omega
        refine comp_texts (as := ((rowsOf bs ch1).filter (hold c))) (fun a v => ∃ t, v = .str (rowS a) t) (fun r => if r.1 ≤ st - i then some (rowS r) else none) ?_ ?_ ?_ ?_
        · have := strsAre_length hu3
          rw [List.length_map] at this
          rw [List.size_toArray, this]
        · intro q v hq hv
          obtain ⟨y, t, e, e'⟩ := strsAre_get hu3 hv
          rw [List.getElem?_map] at e
          cases hoc : ((rowsOf bs ch1).filter (hold c))[q]? with
          | none => rw [hoc] at e; cases e
          | some a => rw [hoc] at e; exact ⟨a, rfl, t, by rw [e', ← Option.some.inj e]⟩
        · intro r0 v I3 oI C3 oC D3 m₂ ys h4 tk4 E' hr0 hv0 hC hx F4 N4 off ne
          obtain ⟨t4, rfl⟩ := hv0
          have hS : LCg.SrcAt g' r us.toArray (machL w M vs3 n3 ((r, listOf us.toArray n4) :: (Jt, oj) :: (cA, listOf cvs.toArray n1) :: (L' + 1, o2) :: (I, oi) :: rest)) := .inr ⟨_, .tail _ (.tail _ (.tail _ (.head _))), rfl, _, rfl⟩
          have hr1 := rowsOf_ok hok hch r0 (List.mem_filter.mp hr0).1
          iterate 20 (first | (k_unfold; (try dsimp only)) | walk1)
          rw [sw_row hr1 hi hst]
          by_cases hle : r0.1 ≤ st - i
          · refine if_no (by simp [hle]) ?_
            iterate 1 (first | (k_unfold; (try dsimp only)) | walk1)
            exact ⟨h4, _, _, rfl, F4, N4, off, hS, rfl, _, _, if_pos hle, rfl⟩
          · refine if_yes (by simp [hle]) ?_
            exact ⟨h4, _, _, rfl, F4, N4, off, hS, rfl, if_neg hle⟩
        · intro ys hys D5 h5 tk5 F5 N5 off5
          have hyl : ys.length = (backs bs ch1 (st - i) c).length := by
            rw [strsAre_length hys, filterMap_len]; rfl
          clear F3 N3
          replace N5 : News g' L' h5 ((D5, listOf ys.toArray ys.length) :: _) := N5
          generalize hcnt : (backs bs ch1 (st - i) c).length = cnt at hyl
          have hcb : cnt ≤ bs.length := by
            rw [← hcnt, ← rowsOf_length bs ch1]
            exact Nat.le_trans (List.length_filter_le _ _) (List.length_filter_le _ _)
          iterate 16 (first | (k_unfold; (try dsimp only)) | walk1)
          refine kst_len N5 (.head _) hyl (by omega) ?_
          iterate 7 (first | (k_unfold; (try dsimp only)) | walk1)
          have hsc : st * cnt ≤ 3 * 7 := Nat.mul_le_mul (by omega) (by omega)
          refine div_c ⟨B9, F5, X9, N5, T9, rfl, ?_, ?_⟩ (by omega) (by rw [← Int.natCast_mul]; omega) (by omega) (by omega) ?_
          · show dp + 1 + 2 < recursionLimit; omega
          · show un + 3 + 20 * 2 < cLine; omega
          intro q h6 tk6 u1 u2 F6 N6 lt6
          iterate 5 (first | (k_unfold; (try dsimp only)) | walk1)
          by_cases hge : (st - i) * bs.length ≤ st * cnt
          · refine if_yes (decide_eq_true ((le_fdiv hi hl0).mpr hge)) ?_
            have hpk : pick bs st (st - i) ch1 c = ch1 ++ [c] := by rw [pick, if_neg hmem, hcnt, if_pos hge]
            iterate 9 (first | (k_unfold; (try dsimp only)) | walk1)
            rename Fr _ _ _ _ => F6
            have N7 : News g' L' h6 ((cA, listOf cvs.toArray n1) :: (Jt, oj) :: machL w M vs3 n3 ((L' + 1, o2) :: (I, oi) :: rest)) := news_sub N6 fun p hp => by
              simp only [machL, List.mem_cons] at hp ⊢
              rcases hp with h | h | h | h | h | h | h | h <;> simp only [h, true_or, or_true]
            have U : Upd cA (listOf cvs.toArray n1) (listOf (cvs.toArray.push (.str (ltr c) tn)) (n1 + 1)) ((cA, listOf cvs.toArray n1) :: (Jt, oj) :: machL w M vs3 n3 ((L' + 1, o2) :: (I, oi) :: rest)) ((cA, listOf (cvs.toArray.push (.str (ltr c) tn)) (n1 + 1)) :: (Jt, oj) :: machL w M vs3 n3 ((L' + 1, o2) :: (I, oi) :: rest)) := by
              refine Upd.head fun p hp => ?_
              rcases List.mem_cons.mp hp with rfl | hp
              · exact Nat.ne_of_gt (ltJ _ (.head _))
              rcases List.mem_cons.mp hp with rfl | hp
              · exact Nat.ne_of_lt lt9.2.1
              rcases List.mem_cons.mp hp with rfl | hp
              · exact Nat.ne_of_lt lt9.2.2.1
              rcases List.mem_cons.mp hp with rfl | hp
              · exact Nat.ne_of_lt lt9.2.2.2.1
              rcases List.mem_cons.mp hp with rfl | hp
              · exact Nat.ne_of_lt lt9.1
              rcases List.mem_cons.mp hp with rfl | hp
              · exact Nat.ne_of_gt lt1
              · exact Nat.ne_of_lt (l95 p hp)
            have hcl : cvs.length < 1000 := by
              have := strsAre_length hc'
              have h2 := hch.1.length_le_of_subset (l₂ := List.range 4) (fun c hc => List.mem_range.mpr (hch.2 c hc))
              rw [List.length_map] at this
              rw [List.length_range] at h2
              omega
            refine append_K F6 N7 U ?_ ?_
            · intro h7 F7 N8
              rw [List.push_toArray] at N8
              clear N7 U N6 F6
              iterate 16 (first | (k_unfold; (try dsimp only)) | walk1)
              rename Fr _ _ _ _ => F7
              have N9' := mach_push2 N8
              refine go_c' (rowsOf_length bs ch1) ⟨B9, F7, X9, N9', T9, rfl, ?_, ?_⟩ ((((o.cons ltM.1 ltM.2.1 ltM.2.2.1).cons (Nat.lt_succ_of_lt lt0.1) (Nat.lt_succ_of_lt lt0.2.1) (Nat.lt_succ_of_lt lt0.2.2.1)).cons ltMJ.1 ltMJ.2.1 ltMJ.2.2.1).cons lt9.2.1 lt9.2.2.1 lt9.2.2.2.1) hv3 (rowsOf_ok hok hch) hc4 (by rw [rowsOf_length]; omega) ?_
              · show dp + 1 + 4 < recursionLimit; omega
              · show un + 3 + 20 * 4 < cLine; omega
              intro r' h8 tk8 n8 n8' vs8 us8 F8 N10 fr8 hv8 hu8
              rw [rowsOf_snoc] at hv8
              clear N9' N8 F7
              iterate 3 (first | (k_unfold; (try dsimp only)) | walk1)
              refine ⟨_, _, _, _, rfl, F8, (news_sub N10 fun p hp => ?_ : News g' L' h8 ((Jt, oj) :: (cA, listOf (cvs ++ [Value.str (ltr c) tn]).toArray (n1 + 1)) :: (L' + 1, o2) :: machL w M vs8 n8 ((I, oi) :: rest))), _, _, _, _, rfl, ?_, ?_, ?_, rfl, rfl, rfl, rfl, rfl⟩
              · simp only [machL, List.mem_cons] at hp ⊢
                rcases hp with h | h | h | h | h | h | h | h <;> simp only [h, true_or, or_true]
              · rw [htk, hpk]; exact chOk_snoc hch hc4 hmem
              · rw [htk, hpk]; exact hv8
              · rw [htk, hpk, List.map_append]; exact strsAre_append hc' (.cons _ _ .nil)
            · rw [sizeLine_eq]; simp; omega
          · refine if_no (by rw [decide_eq_true_eq, le_fdiv hi hl0]; exact hge) ?_
            have hpk : pick bs st (st - i) ch1 c = ch1 := by rw [pick, if_neg hmem, hcnt, if_neg hge]
            iterate 3 (first | (k_unfold; (try dsimp only)) | walk1)
            refine ⟨_, _, _, _, rfl, F6, (news_sub N6 fun p hp => ?_ : News g' L' h6 ((Jt, oj) :: (cA, listOf cvs.toArray n1) :: (L' + 1, o2) :: machL w M vs3 n3 ((I, oi) :: rest))), _, _, _, _, rfl, ?_, ?_, ?_, rfl, rfl, rfl, rfl, rfl⟩
            · simp only [machL, List.mem_cons] at hp ⊢
              rcases hp with h | h | h | h | h | h | h | h <;> simp only [h, true_or, or_true]
            · rw [htk, hpk]; exact hch
            · rw [htk, hpk]; exact hv3
            · rw [htk, hpk]; exact hc'
    · rintro m₁ led₁ h3 tk3 ⟨cvs, n1, vs', n', rfl, hch, hv', hc', e1, e2, e3, e4, e5⟩ F3 N3
      have hol' : os.take ov.toArray.size = os := by
        have := strsAre_length hov
        rw [List.length_map] at this
        rw [List.size_toArray, this, List.take_length]
      rw [hol'] at hch hv' hc'
      dsimp only
      iterate 1 (first | (k_unfold; (try dsimp only)) | walk1)
      refine ⟨_, _, _, _, rfl, F3, mach_unsink N3, _, _, _, _, _, rfl, ?_, ?_, ?_, ⟨_, hd2⟩, e1, e2, e3, e4, e5⟩
      · show ChOk (passLv bs st os (st - i) (chooseN bs os st i)); rw [hch0]; exact hch
      · show StrsAre _ ((rowsOf bs (passLv bs st os (st - i) (chooseN bs os st i))).map rowS); rw [hch0]; exact hv'
      · show StrsAre _ ((passLv bs st os (st - i) (chooseN bs os st i)).map ltr); rw [hch0]; exact hc'
  · rintro m₁ led₁ h3 tk3 ⟨cvs, n1, o1, vs', n', rfl, hch, hv', hc', hd1, e1, e2, e3, e4, e5⟩ F3 N3
    rw [mset e5] at F3
    dsimp only
    iterate 4 (first | (k_unfold; (try dsimp only)) | walk1)
    rename News _ _ _ _ => N4
    rename Fr _ _ _ _ => F4
    refine hret cA _ _ n' n1 vs' cvs F4 (news_sub (mach_push2 N4) fun p hp => ?_) ?_ hch hv' hc'
    · simp only [machL, List.mem_cons] at hp ⊢
      rcases hp with h | h | h | h | h <;> simp only [h, true_or, or_true]
    · intro p hp
      have l95 := allLt_all lt9.2.2.2.2
      rcases List.mem_cons.mp hp with rfl | hp
      · exact lt9.2.1
      rcases List.mem_cons.mp hp with rfl | hp
      · exact lt9.2.2.1
      rcases List.mem_cons.mp hp with rfl | hp
      · exact lt9.2.2.2.1
      · exact l95 p hp
  · rw [(range_down _ hst).2]; simp
end
end Mine

end

section
open PySem PySem.W PySem.Spec PySem.Calls PyProof.Rows
namespace Mine
section
variable {prog : Program} {w : World} {A : Around}

/-- what a loop draws from: next, and what a tuple's owner lets go -/
structure Src (prog : Program) (w : World) (A : Around) (it : Value) (tg : Expr) (n : Nat) (fp fr : List Addr) (P : Nat → Value → Heap → Prop) (St : Nat → Heap → Prop) : Prop where
  frame : ∀ i h h', St i h → (∀ b ∈ fp, ∀ o, h.get? b = some o → h'.get? b = some o) → St i h'
  live : ∀ i h, St i h → ∀ b ∈ fr, ∃ o, h.get? b = some o
  item : ∀ i (s : Shared) (Rn : Shared → Prop) (Q : Value → Shared → Prop) (E : Value → Shared → Prop), i < n → St i s.heap →
    (∀ v h' tk, P i v h' → St (i + 1) h' → (∀ b o, b ∉ fr → s.heap.get? b = some o → h'.get? b = some o) → Q v { s with heap := h', toks := tk }) →
    wpAny (model prog w) A (pyNext it) (fun r s₁ => match r with
      | none => Rn s₁
      | some v => wpAny (model prog w) A (letOwnedTupleGo tg it v) (fun _ s₂ => Q v s₂) E s₁) E s
  done : ∀ (s : Shared) (Q : Option Value → Shared → Prop) (E : Value → Shared → Prop), St n s.heap →
    (∀ h' tk, (∀ b o, b ∉ fr → s.heap.get? b = some o → h'.get? b = some o) → Q none { s with heap := h', toks := tk }) → wpAny (model prog w) A (pyNext it) Q E s
  self : ∀ i (s : Shared) (Q : Value → Shared → Prop) (E : Value → Shared → Prop), St i s.heap → Q it s → wpAny (model prog w) A (pyIter it) Q E s

theorem Src.ofWalks {I : Addr} {fp wr fr : List Addr} {n : Nat} {P : Nat → Value → Prop} {St : Nat → Heap → Prop} {tg : Expr} (W : Walks prog w A I fp wr n P St) (hwf : ∀ b ∈ wr, b ∈ fr)
    (live : ∀ i h, St i h → ∀ b ∈ fr, ∃ o, h.get? b = some o) (hlet : ∀ v, letOwnedTupleGo tg (.ref I) v = pure ()) : Src prog w A (.ref I) tg n fp fr (fun i v _ => P i v) St where
  frame := W.frame
  live := live
  item := fun i s Rn Q E hi st hQ => W.item i s _ E hi st fun v h' tk hP st' hk => by
    show wpAny _ A (letOwnedTupleGo tg (.ref I) v) _ _ _
    rw [hlet]
    exact wpAny_pure (hQ v h' tk hP st' fun b o hb e => hk b o (fun q => hb (hwf b q)) e)
  done := fun s Q E st hQ => W.done s Q E st fun h' tk hk => hQ h' tk fun b o hb e => hk b o (fun q => hb (hwf b q)) e
  self := W.self

theorem Src.ofT {I : Addr} {fp wr fr : List Addr} {n : Nat} {Pt : Nat → Array Value → Prop} {St : Nat → Heap → Prop} {Mid : Nat → Addr → Heap → Prop} {elts : List Expr} {k : Nat} {pos : Pos} (W : WalksT prog w A I fp wr n Pt St Mid) (hwf : ∀ b ∈ wr, b ∈ fr)
    (live : ∀ i h, St i h → ∀ b ∈ fr, ∃ o, h.get? b = some o) : Src prog w A (.ref I) (.Tuple elts k pos) n fp fr (fun i v h => ∃ T vals, v = .ref T ∧ Pt i vals ∧ h.IsTuple T vals) St where
  frame := W.frame
  live := live
  item := fun i s Rn Q E hi st hQ => W.item i s _ E hi st fun T vals h' tk hP _ hT hM hk => by
    show wpAny _ A (letOwnedTupleGo (.Tuple elts k pos) (.ref I) (.ref T)) _ _ _
    refine W.go elts k pos i T _ _ _ hM fun h'' st' hk' => hQ _ h'' tk ⟨T, vals, rfl, hP, hT.at fun o e => hk' T o (W.apart i T _ hM) e⟩ st' fun b o hb e => hk' b o (fun q => hb (hwf b q)) (hk b o (fun q => hb (hwf b q)) e)
  done := fun s Q E st hQ => W.done s Q E st fun h' tk hk => hQ h' tk fun b o hb e => hk b o (fun q => hb (hwf b q)) e
  self := W.self

theorem compLoop_gen {R : Result → Shared → Prop} {s : Shared} {elt target iter : Expr} {ifs : List Expr} {scope : Scope} {pos : Pos} {it acc : Value} {env : Env} (I : Nat → Shared → Prop)
    (turn : ∀ n s, I n s → wpAny (model prog w) A (pyNext it) (fun r s₁ => match r with
      | none => R (.ok .next) s₁
      | some v => wpAny (model prog w) A (letOwnedTupleGo target it v) (fun _ s₁' => wpAny (model prog w) A (assign target env v) (fun _ s₂ =>
          wpAny (model prog w) A (forIn ifs true fun c r => if r = true then do let ok ← isTrue c env (eval c env); pure (ForInStep.yield ok) else pure (ForInStep.yield r)) (fun ok s₃ =>
            if ok = true then wpAny (model prog w) A (eval elt env) (fun x s₄ =>
              wpAny (model prog w) A (call (.builtin "list.append") [acc, x]) (fun _ s₅ => ∃ m, m < n ∧ I m s₅) (notedBy (model prog w) A env fun e s' => R (.error e) s') s₄) (notedBy (model prog w) A env fun e s' => R (.error e) s') s₃
            else ∃ m, m < n ∧ I m s₃) (notedBy (model prog w) A env fun e s' => R (.error e) s') s₂) (notedBy (model prog w) A env fun e s' => R (.error e) s') s₁') (notedBy (model prog w) A env fun e s' => R (.error e) s') s₁) (notedBy (model prog w) A env fun e s' => R (.error e) s') s)
    (n : Nat) (h : I n s) :
    codeAny (model prog w) A (.compLoop (.ListComp elt [⟨target, iter, ifs, 0⟩] scope pos) 0 it acc env) R s := by
  refine codeAny_loop rfl I (fun n s hI => ?_) n h
  show wpAny _ A ((compTurn (.ListComp elt [⟨target, iter, ifs, 0⟩] scope pos) 0 it acc env).onRaise (fun x => do noteFrame x env; theTreesLotGoes x)) _ _ s
  refine wpAny_noted ?_
  rw [compTurn_list]
  refine wpAny_bind (wpAny_standAt (wpAny_bind (wpAny_mono (turn n s hI) (fun r s₁ h₁ => ?_) fun _ _ h' => h')))
  cases r with
  | none => exact wpAny_pure h₁
  | some v =>
    refine wpAny_bind (wpAny_mono h₁ (fun _ s₁' h₁' => ?_) fun _ _ h' => h')
    refine wpAny_bind (wpAny_mono h₁' (fun _ s₂ h₂ => wpAny_bind (wpAny_mono h₂ (fun ok s₃ h₃ => ?_) fun _ _ h' => h')) fun _ _ h' => h')
    cases ok with
    | false => exact wpAny_pure ⟨rfl, h₃⟩
    | true =>
      exact wpAny_bind (wpAny_bind (wpAny_mono h₃ (fun x s₄ h₄ => wpAny_bind (wpAny_mono h₄ (fun _ s₅ h₅ => wpAny_pure (wpAny_pure ⟨rfl, h₅⟩)) fun _ _ h' => h')) fun _ _ h' => h'))

theorem its_of {h : Heap} : ∀ {fr : List Addr}, (∀ b ∈ fr, ∃ o, h.get? b = some o) → ∃ its : List (Addr × Obj), its.map (·.1) = fr ∧ ∀ p ∈ its, h.get? p.1 = some p.2
  | [], _ => ⟨[], rfl, fun _ hp => nomatch hp⟩
  | b :: fr, hl => by
    obtain ⟨o, ho⟩ := hl b (.head _)
    obtain ⟨its, e, hi⟩ := its_of (fr := fr) fun b hb => hl b (.tail _ hb)
    refine ⟨(b, o) :: its, by rw [List.map_cons, e], fun p hp => ?_⟩
    rcases List.mem_cons.mp hp with rfl | hp
    · exact ho
    · exact hi p hp

abbrev CLed (C : Addr) (oC : Obj) (D : Addr) (ys : List Value) (ce led its : List (Addr × Obj)) : List (Addr × Obj) := (C, oC) :: (D, listOf ys.toArray ys.length) :: (ce ++ (led ++ its))

def Asg (prog : Program) (w : World) (A : Around) (tg : Expr) (cenv : Env) (h₀ : Heap) (L : Addr) (m : Str → Option Value) (C : Addr) (ca : List Addr) (P : Nat → Value → Heap → Prop) (CeOk : List (Addr × Obj) → Prop) (After : Nat → Obj → List (Addr × Obj) → Prop) : Prop :=
  ∀ i v (s : Shared) oC m₂ ce D oD rest (Q : Unit → Shared → Prop) (E : Value → Shared → Prop), P i v s.heap → LCg.NsObj oC m₂ → CeOk ce → Fr h₀ L s.heap m → News h₀ L s.heap ((C, oC) :: (D, oD) :: (ce ++ rest)) →
    D ≠ C → D ∉ ca → (∀ p ∈ rest, p.1 ≠ C ∧ p.1 ∉ ca) →
    (∀ h' tk oC' m₂' ce', Fr h₀ L h' m → News h₀ L h' ((C, oC') :: (D, oD) :: (ce' ++ rest)) → LCg.NsObj oC' m₂' → CeOk ce' → After i oC' ce' → Q () { s with heap := h', toks := tk }) →
    wpAny (model prog w) A (assign tg cenv v) Q E s

theorem comp_loop {s : Shared} {R : Result → Shared → Prop} {it : Value} {tg elt iter : Expr} {ifs : List Expr} {scope : Scope} {pos : Pos} {cenv : Env} {D C lim L : Addr} {h₀ : Heap} {m : Str → Option Value} {n : Nat} {fp fr ca : List Addr} {P : Nat → Value → Heap → Prop} {St : Nat → Heap → Prop}
    {CeOk : List (Addr × Obj) → Prop} {After : Nat → Obj → List (Addr × Obj) → Prop} {keep : List (Addr × Obj)}
    (W : Src prog w A it tg n fp fr P St) (hsz : n ≤ sizeLine)
    (hfp : ∀ b ∈ fp, b ∈ fr ∨ (∃ o, h₀.get? b = some o) ∨ ∃ o, (b, o) ∈ keep)
    (hfr : ∀ b ∈ fr, lim ≤ b ∧ b ≠ D ∧ b ≠ C ∧ b ∉ ca ∧ b ≠ L ∧ h₀.get? b = none) (hDf : D ∉ fp) (hCf : C ∉ fp)
    (hDC : D ≠ C) (hD : lim ≤ D ∧ D ∉ ca) (hC : lim ≤ C ∧ C ∉ ca) (hca : ∀ b ∈ ca, lim ≤ b)
    (hce : ∀ ce, CeOk ce → ∀ p ∈ ce, p.1 ∈ ca)
    (hasg : Asg prog w A tg cenv h₀ L m C ca P CeOk After)
    (J : Nat → List Value → List (Addr × Obj) → Prop) (hJ : ∀ i ys led, J i ys led → (∀ p ∈ keep, p ∈ led) ∧ ∀ p ∈ led, p.1 < lim)
    (turn : ∀ i ys led its oC m₂ ce h tk (E' : Value → Shared → Prop), i < n → J i ys led → After i oC ce → LCg.NsObj oC m₂ → its.map (·.1) = fr → Fr h₀ L h m → News h₀ L h (CLed C oC D ys ce led its) →
      wpAny (model prog w) A (forIn ifs true fun c r => if r = true then do let ok ← isTrue c cenv (eval c cenv); pure (ForInStep.yield ok) else pure (ForInStep.yield r)) (fun ok s₃ =>
        if ok = true then wpAny (model prog w) A (eval elt cenv) (fun y s₄ => ∃ h' tk' led', s₄ = { s with heap := h', toks := tk' } ∧ Fr h₀ L h' m ∧ News h₀ L h' (CLed C oC D ys ce led' its) ∧ J (i + 1) (ys ++ [y]) led') E' s₃
        else ∃ h' tk' led', s₃ = { s with heap := h', toks := tk' } ∧ Fr h₀ L h' m ∧ News h₀ L h' (CLed C oC D ys ce led' its) ∧ J (i + 1) ys led') E' { s with heap := h, toks := tk })
    (done : ∀ ys led oC m₂ h tk, J n ys led → LCg.NsObj oC m₂ → Fr h₀ L h m → News h₀ L h ((C, oC) :: (D, listOf ys.toArray ys.length) :: led) → R (.ok .next) { s with heap := h, toks := tk })
    {oC : Obj} {m₂ : Str → Option Value} {ce led its : List (Addr × Obj)} (F : Fr h₀ L s.heap m) (N : News h₀ L s.heap (CLed C oC D [] ce led its)) (hN : LCg.NsObj oC m₂) (hc0 : CeOk ce) (hi0 : its.map (·.1) = fr) (hst : St 0 s.heap) (hJ0 : J 0 [] led) :
    codeAny (model prog w) A (.compLoop (.ListComp elt [⟨tg, iter, ifs, 0⟩] scope pos) 0 it (.ref D) cenv) R s := by
  have stk : ∀ {i h h' oC oC' ys ys' ce ce' led led' its}, St i h → its.map (·.1) = fr → News h₀ L h (CLed C oC D ys ce led its) → News h₀ L h' (CLed C oC' D ys' ce' led' its) → (∀ p ∈ keep, p ∈ led) → (∀ p ∈ keep, p ∈ led') →
      (∀ b o, h₀.get? b = some o → h.get? b = some o) → (∀ b o, h₀.get? b = some o → h'.get? b = some o) → St i h' := by
    intro i h h' oC oC' ys ys' ce ce' led led' its st hi N N' hk hk' k0 k0'
    refine W.frame i h h' st fun b hb o e => ?_
    rcases hfp b hb with hb | ⟨o', e'⟩ | ⟨o', hm⟩
    · rw [← hi] at hb
      obtain ⟨p, hp, rfl⟩ := List.mem_map.mp hb
      have z := (N p (.tail _ (.tail _ (List.mem_append_right _ (List.mem_append_right _ hp))))).1
      have z' := (N' p (.tail _ (.tail _ (List.mem_append_right _ (List.mem_append_right _ hp))))).1
      rw [z] at e; rw [z', e]
    · rw [k0 b o' e'] at e; rw [k0' b o' e', e]
    · have z := (N _ (.tail _ (.tail _ (List.mem_append_right _ (List.mem_append_left _ (hk _ hm)))))).1
      have z' := (N' _ (.tail _ (.tail _ (List.mem_append_right _ (List.mem_append_left _ (hk' _ hm)))))).1
      rw [z] at e; rw [z', e]
  have hDN := N (D, _) (.tail _ (.head _))
  have hDL := hDN.2.1
  have hD0 := hDN.2.2
  refine compLoop_gen (fun k s' => ∃ h tk i ys led its oC m₂ ce, s' = { s with heap := h, toks := tk } ∧ i ≤ n ∧ k = n + 1 - i ∧ ys.length ≤ i ∧ St i h ∧ its.map (·.1) = fr ∧ Fr h₀ L h m ∧ LCg.NsObj oC m₂ ∧ CeOk ce ∧ News h₀ L h (CLed C oC D ys ce led its) ∧ J i ys led) ?_ (n + 1)
    ⟨s.heap, s.toks, 0, [], led, its, oC, m₂, ce, rfl, Nat.zero_le _, rfl, Nat.le_refl _, hst, hi0, F, hN, hc0, N, hJ0⟩
  rintro k s' ⟨h, tk, i, ys, led, its, oC, m₂, ce, rfl, hi, rfl, hyl, st, hits, F, hN, hc, N, hj⟩
  have hle := hJ i ys led hj
  have ledfr : ∀ p ∈ led, p.1 ∉ fr := fun p hp hq => Nat.lt_irrefl _ (Nat.lt_of_lt_of_le (hle.2 p hp) (hfr _ hq).1)
  have frk : ∀ {h₂ : Heap}, (∀ b o, b ∉ fr → h.get? b = some o → h₂.get? b = some o) → Fr h₀ L h₂ m := fun hk =>
    ⟨F.ns.at' fun o e => hk L o (fun q => (hfr L q).2.2.2.2.1 rfl) e, fun b o e => hk b o (fun q => by rw [(hfr b q).2.2.2.2.2] at e; cases e) (F.keep b o e), F.above⟩
  have nwk : ∀ {h₂ : Heap}, (∀ b o, b ∉ fr → h.get? b = some o → h₂.get? b = some o) → News h₀ L h₂ ((C, oC) :: (D, listOf ys.toArray ys.length) :: (ce ++ led)) := fun hk p hp => by
    have hm : p ∈ CLed C oC D ys ce led its := by
      rcases List.mem_cons.mp hp with rfl | hp
      · exact .head _
      rcases List.mem_cons.mp hp with rfl | hp
      · exact .tail _ (.head _)
      rcases List.mem_append.mp hp with hp | hp
      · exact .tail _ (.tail _ (List.mem_append_left _ hp))
      · exact .tail _ (.tail _ (List.mem_append_right _ (List.mem_append_left _ hp)))
    refine ⟨hk _ _ (fun q => ?_) (N p hm).1, (N p hm).2⟩
    rcases List.mem_cons.mp hp with rfl | hp
    · exact (hfr _ q).2.2.1 rfl
    rcases List.mem_cons.mp hp with rfl | hp
    · exact (hfr _ q).2.1 rfl
    rcases List.mem_append.mp hp with hp | hp
    · exact (hfr _ q).2.2.2.1 (hce ce hc p hp)
    · exact ledfr p hp q
  by_cases hlt : i < n
  · refine W.item i { s with heap := h, toks := tk } _ _ _ hlt st fun v h₂ tk₂ hP st₂ hk => ?_
    · obtain ⟨its₂, hit₂, hg₂⟩ := its_of (W.live _ _ st₂)
      have F₂ := frk hk
      have N₂ : News h₀ L h₂ (CLed C oC D ys ce led its₂) := fun p hp => by
        rcases List.mem_cons.mp hp with rfl | hp
        · exact nwk hk _ (.head _)
        rcases List.mem_cons.mp hp with rfl | hp
        · exact nwk hk _ (.tail _ (.head _))
        rcases List.mem_append.mp hp with hp | hp
        · exact nwk hk _ (.tail _ (.tail _ (List.mem_append_left _ hp)))
        rcases List.mem_append.mp hp with hp | hp
        · exact nwk hk _ (.tail _ (.tail _ (List.mem_append_right _ hp)))
        · have hb : p.1 ∈ fr := hit₂ ▸ List.mem_map_of_mem hp
          exact ⟨hg₂ p hp, (hfr _ hb).2.2.2.2⟩
      refine hasg i v _ oC m₂ ce D _ (led ++ its₂) _ _ hP hN hc F₂ N₂ hDC hD.2 (fun p hp => ?_) fun h₃ tk₃ oC' m₂' ce' F₃ N₃ hN' hc' hA => ?_
      · rcases List.mem_append.mp hp with hp | hp
        · exact ⟨Nat.ne_of_lt (Nat.lt_of_lt_of_le (hle.2 p hp) hC.1), fun q => Nat.lt_irrefl _ (Nat.lt_of_lt_of_le (hle.2 p hp) (hca _ q))⟩
        · have hb : p.1 ∈ fr := hit₂ ▸ List.mem_map_of_mem hp
          exact ⟨(hfr _ hb).2.2.1, (hfr _ hb).2.2.2.1⟩
      have st₃ : St (i + 1) h₃ := stk st₂ hit₂ N₂ N₃ hle.1 hle.1 F₂.keep F₃.keep
      refine wpAny_mono (turn i ys led its₂ oC' m₂' ce' h₃ tk₃ _ hlt hj hA hN' hit₂ F₃ N₃) (fun ok s₃ h₃' => ?_) fun _ _ e => e
      cases ok with
      | true =>
        simp only [if_true] at h₃' ⊢
        refine wpAny_mono h₃' (fun y s₄ h₄' => ?_) fun _ _ e => e
        obtain ⟨h₄, tk₄, led₄, rfl, F₄, N₄, hj₄⟩ := h₄'
        have hle₄ := hJ _ _ _ hj₄
        have st₄ : St (i + 1) h₄ := stk st₃ hit₂ N₃ N₄ hle.1 hle₄.1 F₃.keep F₄.keep
        have zD := (N₄ (D, _) (.tail _ (.head _))).1
        refine append_at (hsz := by rw [List.size_toArray]; exact Nat.le_trans (Nat.le_trans hyl hi) hsz) zD fun h₅ hs₅ hD₅ => ?_
        refine ⟨n + 1 - (i + 1), by omega, h₅, tk₄, i + 1, ys ++ [y], led₄, its₂, oC', m₂', ce', rfl, hlt, rfl, by rw [List.length_append, List.length_singleton]; exact Nat.succ_le_succ hyl,
          W.frame _ _ _ st₄ fun b hb o e => hs₅.extBut b o (fun q => hDf (q ▸ hb)) e, hit₂, F₄.change hs₅ hDL hD0, hN', hc', fun p hp => ?_, hj₄⟩
        have hcp := N₄ p
        rcases List.mem_cons.mp hp with rfl | hp'
        · exact ⟨hs₅.extBut _ _ (Ne.symm hDC) (N₄ _ (.head _)).1, (N₄ _ (.head _)).2⟩
        rcases List.mem_cons.mp hp' with rfl | hp'
        · refine ⟨hD₅.trans (congrArg some ?_), hDL, hD0⟩
          simp [List.push_toArray]
        · have z := N₄ p (.tail _ (.tail _ hp'))
          refine ⟨hs₅.extBut _ _ ?_ z.1, z.2⟩
          rcases List.mem_append.mp hp' with hp' | hp'
          · exact fun q => hD.2 (q ▸ hce _ hc' p hp')
          rcases List.mem_append.mp hp' with hp' | hp'
          · exact Nat.ne_of_lt (Nat.lt_of_lt_of_le (hle₄.2 p hp') hD.1)
          · have hb : p.1 ∈ fr := hit₂ ▸ List.mem_map_of_mem hp'
            exact (hfr _ hb).2.1
      | false =>
        simp only [Bool.false_eq_true, if_false] at h₃' ⊢
        obtain ⟨h₄, tk₄, led₄, rfl, F₄, N₄, hj₄⟩ := h₃'
        have hle₄ := hJ _ _ _ hj₄
        exact ⟨n + 1 - (i + 1), by omega, h₄, tk₄, i + 1, ys, led₄, its₂, oC', m₂', ce', rfl, hlt, rfl, Nat.le_succ_of_le hyl, stk st₃ hit₂ N₃ N₄ hle.1 hle₄.1 F₃.keep F₄.keep, hit₂, F₄, hN', hc', N₄, hj₄⟩
  · obtain rfl : i = n := Nat.le_antisymm hi (Nat.not_lt.mp hlt)
    refine W.done _ _ _ st fun h₂ tk₂ hk => ?_
    refine done ys led oC m₂ h₂ tk₂ hj hN (frk hk) fun p hp => nwk hk p ?_
    rcases List.mem_cons.mp hp with rfl | hp
    · exact .head _
    rcases List.mem_cons.mp hp with rfl | hp
    · exact .tail _ (.head _)
    · exact .tail _ (.tail _ (List.mem_append_right _ hp))
end
end Mine

end

section
open PySem PySem.W PySem.Spec PySem.Calls PyProof.Rows
namespace Mine
section
variable {prog : Program} {w : World} {A : Around} {E : Value → Shared → Prop} {s : Shared} {yo : Option (Str × Pos)}

def useOf (env : Env) : Option (Str × Pos) → Option (Value → Sem Unit)
  | none => none
  | some (y, py) => some (assign (.Name y py) env)
abbrev mOf : Option (Str × Pos) → Addr → (Str → Option Value) → Str → Option Value
  | none, _, m => m
  | some (y, _), D, m => fun z => if z = y then some (.ref D) else m z
abbrev retOf : Option (Str × Pos) → Addr → Value
  | none, D => .ref D
  | some _, _ => .none
def YoOk (env : Env) (L : Addr) (yo : Option (Str × Pos)) : Prop := ∀ y py, yo = some (y, py) → env.locals = L ∧ env.kindOf y = some .local ∧ (env.scope.kind == .class || (env.scope.kind == .module && env.locals != env.globals)) = false
theorem yo_none {env : Env} {L : Addr} : YoOk env L none := fun _ _ e => nomatch e
theorem yo_some {env : Env} {L : Addr} {y : Str} {py : Pos} (h1 : env.locals = L) (h2 : env.kindOf y = some .local) (h3 : (env.scope.kind == .class || (env.scope.kind == .module && env.locals != env.globals)) = false) : YoOk env L (some (y, py)) :=
  fun _ _ e => by cases e; exact ⟨h1, h2, h3⟩

def CompGo (prog : Program) (w : World) (A : Around) (yo : Option (Str × Pos)) (env : Env) (tg elt iter : Expr) (ifs : List Expr) (scope : Scope) (pos : Pos) (cl : List (Str × Addr)) (Q E : Value → Shared → Prop) (it : Value) (s₂ : Shared) : Prop :=
  wpAny (model prog w) A (newList []) (fun acc s₃ => wpAny (model prog w) A (newFunctionEnv scope env.globals cl [] env.qual none .none (some env)) (fun cenv s₄ =>
    codeAny (model prog w) A (.compStart (.ListComp elt [⟨tg, iter, ifs, 0⟩] scope pos) 0 it acc { cenv with scope := relabel scope env }) (compPost (model prog w) A E (useOf env yo) Q acc cenv.locals) s₄) E s₃) E s₂

theorem comp_open {env : Env} {tg elt iter : Expr} {ifs : List Expr} {scope : Scope} {pos : Pos} {cl : List (Str × Addr)} {Q : Value → Shared → Prop}
    (hclos : closureFor scope env = pure cl) (hkind : scope.kind = .function) (hnames : ∀ y ∈ scope.names, y.2 = .local → scope.names.lookup y.1 = some .local)
    (h : wpAny (model prog w) A (eval iter env) (fun xv s₁ => wpAny (model prog w) A (pyIter xv) (fun it s₂ => CompGo prog w A none env tg elt iter ifs scope pos cl Q E it s₂) E s₁) E s)
    (hs : ∀ x, foldedSetIterable iter env x = pure x := by intro _; rfl) :
    wpAny (model prog w) A (eval (.ListComp elt [⟨tg, iter, ifs, 0⟩] scope pos) env) Q E s := by
  rw [eval_ListComp]
  exact wpAny_comprehension_free (use := none) rfl hs hclos hkind hnames h

theorem comp_assign {env : Env} {tg elt iter : Expr} {ifs : List Expr} {scope : Scope} {pos spos py : Pos} {y : Str} {cl : List (Str × Addr)} {Q : Flow → Shared → Prop}
    (hsw : swapsWith (.ListComp elt [⟨tg, iter, ifs, 0⟩] scope pos) (some (.Name y py)) spos.line env = pure true)
    (hclos : closureFor scope env = pure cl) (hkind : scope.kind = .function) (hnames : ∀ y ∈ scope.names, y.2 = .local → scope.names.lookup y.1 = some .local)
    (h : wpAny (model prog w) A (eval iter env) (fun xv s₁ => wpAny (model prog w) A (pyIter xv) (fun it s₂ => CompGo prog w A (some (y, py)) env tg elt iter ifs scope pos cl (fun _ s' => Q .next s') E it s₂) E s₁) E s)
    (hs : ∀ x, foldedSetIterable iter env x = pure x := by intro _; rfl) :
    wpAny (model prog w) A (exec (.Assign [.Name y py] (.ListComp elt [⟨tg, iter, ifs, 0⟩] scope pos) spos) env) Q E s := by
  rw [exec_Assign_Name_used _ _ _ _ hsw]
  refine wpAny_bind (wpAny_standAt (wpAny_bind ?_))
  show wpAny _ A (do let _ ← comprehension (.ListComp elt [⟨tg, iter, ifs, 0⟩] scope pos) scope env _ (newList []) false (eval iter env) (some (assign (.Name y py) env))) _ _ s
  exact wpAny_bind (wpAny_mono (wpAny_comprehension_free (use := some (assign (.Name y py) env)) (Q := fun _ s' => Q .next s') rfl hs hclos hkind hnames h) (fun _ s' hq => wpAny_pure (wpAny_pure hq)) fun _ _ e => e)

theorem nfe_cells {scope : Scope} {globals : Addr} {cl : List (Str × Addr)} {qual : Str} {outer : Env} {Q : Env → Shared → Prop}
    (h : Q (newEnv scope s.heap.objs.size globals (cellsFrom (s.heap.objs.size + 1) scope.names cl) qual none .none (some outer) builtinsNs) { s with heap := pushCells (s.heap.push { cls := .type "dict", data := .dict #[] }) scope.names }) :
    wpAny (model prog w) A (newFunctionEnv scope globals cl [] qual none .none (some outer)) Q E s := by
  simp only [newFunctionEnv, Option.isSome_some, if_true]
  refine wpAny_bind (wpAny_alloc ?_)
  refine wpAny_bind (wpAny_layCells _ (fun name kind cells => by cases hkc : kind == NameKind.cell <;> simp [hkc]) _ _ _ _ ?_)
  rw [show ({ s with heap := s.heap.push { cls := .type "dict", data := .dict #[] } } : Shared).heap.objs.size = s.heap.objs.size + 1 from Heap.size_push ..]
  refine wpAny_bind ?_
  rw [List.forIn_nil]
  exact wpAny_pure (wpAny_pure h)

theorem comp_go {env : Env} {tg elt iter : Expr} {ifs : List Expr} {scope : Scope} {pos : Pos} {cl : List (Str × Addr)} {Q : Value → Shared → Prop} {it : Value}
    {lim L : Addr} {h₀ : Heap} {m : Str → Option Value} {n : Nat} {fp fr : List Addr} {P : Nat → Value → Heap → Prop} {St : Nat → Heap → Prop}
    {keep led its : List (Addr × Obj)}
    (cl' : Addr → List (Str × Addr)) (ce0 : Addr → List (Addr × Obj)) (CeOk : Addr → List (Addr × Obj) → Prop) (After : Addr → Nat → Obj → List (Addr × Obj) → Prop)
    (hcl : ∀ a, cellsFrom (a + 1) scope.names cl = cl' a) (hce0 : ∀ (h : Heap) a, h.objs.size = a + 1 → ∀ p ∈ ce0 a, (pushCells h scope.names).get? p.1 = some p.2 ∧ a < p.1)
    (hok0 : ∀ a, CeOk a (ce0 a)) (hok : ∀ a ce, CeOk a ce → ∀ p ∈ ce, p.1 ∈ (ce0 a).map (·.1))
    (W : Src prog w A it tg n fp fr P St) (hsz : n ≤ sizeLine) (hyo : YoOk env L yo) (F : Fr h₀ L s.heap m) (N : News h₀ L s.heap (led ++ its)) (hi0 : its.map (·.1) = fr) (hst : St 0 s.heap)
    (hfp : ∀ b ∈ fp, b ∈ fr ∨ (∃ o, h₀.get? b = some o) ∨ ∃ o, (b, o) ∈ keep) (hlim : ∀ b ∈ fr, lim ≤ b) (hls : lim ≤ s.heap.objs.size)
    (hasg : ∀ C, s.heap.objs.size < C → Asg prog w A tg (compEnvC scope (cl' C) C env) h₀ L m C ((ce0 C).map (·.1)) P (CeOk C) (After C))
    (J : Nat → List Value → List (Addr × Obj) → Prop) (hJ : ∀ i ys led, J i ys led → (∀ p ∈ keep, p ∈ led) ∧ ∀ p ∈ led, p.1 < lim) (hJ0 : J 0 [] led)
    (turn : ∀ C D, lim ≤ D → D < C → ∀ i ys led its oC m₂ ce h tk (E' : Value → Shared → Prop), i < n → J i ys led → After C i oC ce → LCg.NsObj oC m₂ → its.map (·.1) = fr → Fr h₀ L h m → News h₀ L h (CLed C oC D ys ce led its) →
      wpAny (model prog w) A (forIn ifs true fun c r => if r = true then do let ok ← isTrue c (compEnvC scope (cl' C) C env) (eval c (compEnvC scope (cl' C) C env)); pure (ForInStep.yield ok) else pure (ForInStep.yield r)) (fun ok s₃ =>
        if ok = true then wpAny (model prog w) A (eval elt (compEnvC scope (cl' C) C env)) (fun y s₄ => ∃ h' tk' led', s₄ = { s with heap := h', toks := tk' } ∧ Fr h₀ L h' m ∧ News h₀ L h' (CLed C oC D ys ce led' its) ∧ J (i + 1) (ys ++ [y]) led') E' s₃
        else ∃ h' tk' led', s₃ = { s with heap := h', toks := tk' } ∧ Fr h₀ L h' m ∧ News h₀ L h' (CLed C oC D ys ce led' its) ∧ J (i + 1) ys led') E' { s with heap := h, toks := tk })
    (fin : ∀ D ys led h tk, J n ys led → lim ≤ D → Fr h₀ L h (mOf yo D m) → News h₀ L h ((D, listOf ys.toArray ys.length) :: led) → Q (retOf yo D) { s with heap := h, toks := tk }) :
    CompGo prog w A yo env tg elt iter ifs scope pos cl Q E it s := by
  unfold CompGo
  refine wpAny_newObj_type (nfe_cells ?_)
  rw [hcl]
  generalize hH2 : s.heap.push { cls := .type "list", dict := none, data := .seq ([] : List Value).toArray } = H2
  dsimp only
  have hC : H2.objs.size = s.heap.objs.size + 1 := by rw [← hH2, Heap.size_push]
  generalize hH3 : H2.push { cls := .type "dict", data := .dict #[] } = H3
  have hs3 : H3.objs.size = H2.objs.size + 1 := by rw [← hH3, Heap.size_push]
  generalize hH4 : pushCells H3 scope.names = H4
  have up2 : ∀ b o, s.heap.get? b = some o → H2.get? b = some o := fun b o e => hH2 ▸ Heap.get?_push_of_some _ e
  have up3 : ∀ b o, H2.get? b = some o → H3.get? b = some o := fun b o e => hH3 ▸ Heap.get?_push_of_some _ e
  have up4 : ∀ b o, H3.get? b = some o → H4.get? b = some o := fun b o e => hH4 ▸ pushCells_keeps _ _ b o e
  have old : ∀ b o, s.heap.get? b = some o → H4.get? b = some o := fun b o e => up4 _ _ (up3 _ _ (up2 _ _ e))
  have hdo : H4.get? s.heap.objs.size = some (listOf ([] : List Value).toArray 0) := up4 _ _ (up3 _ _ (hH2 ▸ Heap.get?_push_size _ rfl))
  have hco : H4.get? H2.objs.size = some { cls := .type "dict", data := .dict #[] } := up4 _ _ (hH3 ▸ Heap.get?_push_size _ rfl)
  have hceo := hce0 H3 H2.objs.size hs3
  rw [hH4] at hceo
  have fresh₀ : ∀ a, s.heap.objs.size ≤ a → h₀.get? a = none := fun a ha => by
    cases e : h₀.get? a with
    | none => rfl
    | some o' => exact absurd (Heap.lt_size (F.keep a o' e)) (Nat.not_lt.mpr ha)
  have hLlt : L < s.heap.objs.size := F.ns.lt
  have itl : ∀ b ∈ fr, b < s.heap.objs.size ∧ b ≠ L ∧ h₀.get? b = none := fun b hb => by
    rw [← hi0] at hb
    obtain ⟨p, hp, rfl⟩ := List.mem_map.mp hb
    have z := N p (List.mem_append_right _ hp)
    exact ⟨Heap.lt_size z.1, z.2⟩
  have fpl : ∀ b ∈ fp, b < s.heap.objs.size := fun b hb => by
    rcases hfp b hb with hb | ⟨o, e⟩ | ⟨o, hm⟩
    · exact (itl b hb).1
    · exact Heap.lt_size (F.keep b o e)
    · exact Heap.lt_size (N _ (List.mem_append_left _ ((hJ _ _ _ hJ0).1 _ hm))).1
  have hDCl : s.heap.objs.size < H2.objs.size := by rw [hC]; exact Nat.lt_succ_self _
  have cel : ∀ b ∈ (ce0 H2.objs.size).map (·.1), H2.objs.size < b := fun b hb => by
    obtain ⟨p, hp, rfl⟩ := List.mem_map.mp hb
    exact (hceo p hp).2
  have N4 : News h₀ L H4 (CLed H2.objs.size { cls := .type "dict", data := .dict #[] } s.heap.objs.size [] (ce0 H2.objs.size) led its) := fun p hp => by
    rcases List.mem_cons.mp hp with rfl | hp
    · exact ⟨hco, Nat.ne_of_gt (Nat.lt_trans hLlt hDCl), fresh₀ _ (Nat.le_of_lt hDCl)⟩
    rcases List.mem_cons.mp hp with rfl | hp
    · exact ⟨hdo, Nat.ne_of_gt hLlt, fresh₀ _ (Nat.le_refl _)⟩
    rcases List.mem_append.mp hp with hp | hp
    · have z := hceo p hp
      exact ⟨z.1, Nat.ne_of_gt (Nat.lt_trans (Nat.lt_trans hLlt hDCl) z.2), fresh₀ _ (Nat.le_of_lt (Nat.lt_trans hDCl z.2))⟩
    · have z := N p hp
      exact ⟨old _ _ z.1, z.2⟩
  have loop : ∀ s₃ : Shared, s₃ = { s with heap := H4 } →
      codeAny (model prog w) A (.compLoop (.ListComp elt [⟨tg, iter, ifs, 0⟩] scope pos) 0 it (.ref s.heap.objs.size) (compEnvC scope (cl' H2.objs.size) H2.objs.size env)) (compPost (model prog w) A E (useOf env yo) Q (.ref s.heap.objs.size) H2.objs.size) s₃ := by
    rintro s₃ rfl
    refine comp_loop (s := { s with heap := H4 }) (lim := lim) (ca := (ce0 H2.objs.size).map (·.1)) (CeOk := CeOk H2.objs.size) (After := After H2.objs.size) W hsz hfp
      (fun b hb => ⟨hlim b hb, Nat.ne_of_lt (itl b hb).1, Nat.ne_of_lt (Nat.lt_trans (itl b hb).1 hDCl), fun q => Nat.lt_irrefl _ (Nat.lt_trans (Nat.lt_trans (itl b hb).1 hDCl) (cel b q)), (itl b hb).2⟩)
      (fun q => Nat.lt_irrefl _ (fpl _ q)) (fun q => Nat.lt_irrefl _ (Nat.lt_trans (fpl _ q) hDCl)) (Nat.ne_of_lt hDCl) ⟨hls, fun q => Nat.lt_irrefl _ (Nat.lt_trans hDCl (cel _ q))⟩
      ⟨Nat.le_trans hls (Nat.le_of_lt hDCl), fun q => Nat.lt_irrefl _ (cel _ q)⟩ (fun b hb => Nat.le_trans hls (Nat.le_of_lt (Nat.lt_trans hDCl (cel b hb)))) (hok _) (hasg _ hDCl) J hJ
      (turn _ _ hls hDCl) (fun ys led oC m₂ h tk hj hN F' N' => ?_) (F.keeps old) N4 ⟨#[], 0, rfl, fun e he => by simp at he, fun _ => rfl⟩ (hok0 _) hi0 (W.frame _ _ _ hst fun b _ o e => old b o e) hJ0
    have zC := N' _ (.head _)
    have hlow : ∀ p ∈ (s.heap.objs.size, listOf ys.toArray ys.length) :: led, p.1 ≠ H2.objs.size := fun p hp => by
      rcases List.mem_cons.mp hp with rfl | hp
      · exact Nat.ne_of_lt hDCl
      · exact Nat.ne_of_lt (Nat.lt_of_lt_of_le ((hJ _ _ _ hj).2 p hp) (Nat.le_trans hls (Nat.le_of_lt hDCl)))
    match yo, hyo, fin with
    | none, _, fin =>
      refine ⟨m₂, hN.ns zC.1, fun h'' hs'' => fin _ ys led h'' tk hj hls (F'.change hs'' zC.2.1 zC.2.2) fun p hp => ?_⟩
      have z := N' p (.tail _ hp)
      exact ⟨hs''.extBut _ _ (hlow p hp) z.1, z.2⟩
    | some (y, py), hyo, fin =>
      obtain ⟨hL, hy, hp⟩ := hyo y py rfl
      subst hL
      show wpAny _ A (assign (.Name y py) env (.ref s.heap.objs.size)) _ _ _
      refine wpAny_assign_Name (wpAny_storeName_local hy F'.ns (fun h₂ hn₂ hs₂ => ?_) hp)
      refine ⟨m₂, (hN.ns zC.1).sameBut hs₂ zC.2.1, fun h'' hs'' => fin _ ys led h'' _ hj hls ((F'.set hn₂ hs₂).change hs'' zC.2.1 zC.2.2) fun p hp => ?_⟩
      have z := N' p (.tail _ hp)
      exact ⟨hs''.extBut _ _ (hlow p hp) (hs₂.extBut _ _ z.2.1 z.1), z.2⟩
  exact codeAny_compStart_list (loop _ rfl) (W.self 0 _ _ _ (W.frame _ _ _ hst fun b _ o e => old b o e) (loop _ rfl))
end
end Mine

end

section
open PySem PySem.W PySem.Spec PySem.Calls PyProof.Rows
namespace Mine
section
variable {prog : Program} {w : World} {A : Around} {E : Value → Shared → Prop} {s : Shared} {yo : Option (Str × Pos)}

theorem asg_name {x : Str} {px : Pos} {scope : Scope} {cl : List (Str × Addr)} {C L : Addr} {env : Env} {h₀ : Heap} {m : Str → Option Value} {P' : Nat → Value → Prop} (hkind : scope.kind = .function) (hx : scope.names.lookup x = some .local) :
    Asg prog w A (.Name x px) (compEnvC scope cl C env) h₀ L m C [] (fun i v _ => P' i v) (fun ce => ce = []) (fun i oC ce => ce = [] ∧ ∃ v m₂, P' i v ∧ LCg.NsObj oC m₂ ∧ m₂ x = some v) := by
  intro i v s oC m₂ ce D oD rest Q E hP hN hce F N hDC _ hr hQ
  subst hce
  have zC := N _ (.head _)
  refine wpAny_assign_Name (wpAny_storeName_local (lookup_relabel_local hx) (hN.ns zC.1) (fun h' hn' hs' => ?_) (by simp [compEnvC, relabel, hkind]))
  obtain ⟨oC', e', hN'⟩ := LCg.ns_obj hn'
  refine hQ h' _ oC' _ [] (F.change hs' zC.2.1 zC.2.2) (fun p hp => ?_) hN' rfl ⟨rfl, v, _, hP, hN', by simp⟩
  rcases List.mem_cons.mp hp with rfl | hp
  · exact ⟨e', zC.2⟩
  · have z := N p (.tail _ hp)
    refine ⟨hs'.extBut _ _ ?_ z.1, z.2⟩
    rcases List.mem_cons.mp hp with rfl | hp
    · exact hDC
    · exact (hr p hp).1

theorem asg_cell {x : Str} {px : Pos} {scope : Scope} {cl : List (Str × Addr)} {C L : Addr} {env : Env} {h₀ : Heap} {m : Str → Option Value} {P' : Nat → Value → Prop} (hkind : scope.kind = .function) (hx : (compEnvC scope ((x, C + 1) :: cl) C env).kindOf x = some .cell) :
    Asg prog w A (.Name x px) (compEnvC scope ((x, C + 1) :: cl) C env) h₀ L m C [C + 1] (fun i v _ => P' i v) (fun ce => ∃ o ov, ce = [(C + 1, o)] ∧ o.data = .cell ov) (fun i oC ce => ∃ v o, P' i v ∧ ce = [(C + 1, o)] ∧ o.data = .cell (some v)) := by
  intro i v s oC m₂ ce D oD rest Q E hP hN hce F N hDC hDca hr hQ
  obtain ⟨o, ov, rfl, hd⟩ := hce
  have zc := N (C + 1, o) (.tail _ (.tail _ (.head _)))
  refine wpAny_assign_Name (wpAny_storeName_cell (by simp [compEnvC, relabel, hkind]) hx (by simp [compEnvC]) ⟨o, zc.1, hd⟩ fun h' hv hs' => ?_)
  obtain ⟨o', ho', hd'⟩ := hv
  refine hQ h' _ oC _ [(C + 1, o')] (F.change hs' zc.2.1 zc.2.2) (fun p hp => ?_) hN ⟨o', _, rfl, hd'⟩ ⟨v, o', hP, rfl, hd'⟩
  rcases List.mem_cons.mp hp with rfl | hp
  · have z := N _ (.head _)
    exact ⟨hs'.extBut _ _ (Nat.ne_of_lt (Nat.lt_succ_self C)) z.1, z.2⟩
  rcases List.mem_cons.mp hp with rfl | hp
  · have z := N _ (.tail _ (.head _))
    exact ⟨hs'.extBut _ _ (fun q => hDca (List.mem_singleton.mpr q)) z.1, z.2⟩
  rcases List.mem_cons.mp hp with rfl | hp
  · exact ⟨ho', zc.2⟩
  · have z := N p (.tail _ (.tail _ (.tail _ hp)))
    exact ⟨hs'.extBut _ _ (fun q => (hr p hp).2 (List.mem_singleton.mpr q)) z.1, z.2⟩

theorem asg_pair {x x₂ : Str} {px px₂ tp : Pos} {k : Nat} {scope : Scope} {cl : List (Str × Addr)} {C L : Addr} {env : Env} {h₀ : Heap} {m : Str → Option Value} {Pt : Nat → Array Value → Prop} {P2 : Nat → Value → Value → Prop} (hh : A.handled = none) (hkind : scope.kind = .function) (hx : scope.names.lookup x = some .local) (hx₂ : scope.names.lookup x₂ = some .local) (hxx : x ≠ x₂)
    (h2 : ∀ i vals, Pt i vals → ∃ v₁ v₂, vals = #[v₁, v₂] ∧ P2 i v₁ v₂) :
    Asg prog w A (.Tuple [.Name x px, .Name x₂ px₂] k tp) (compEnvC scope cl C env) h₀ L m C [] (fun i v h => ∃ T vals, v = .ref T ∧ Pt i vals ∧ h.IsTuple T vals) (fun ce => ce = [])
      (fun i oC ce => ce = [] ∧ ∃ v₁ v₂ m₂, P2 i v₁ v₂ ∧ LCg.NsObj oC m₂ ∧ m₂ x = some v₁ ∧ m₂ x₂ = some v₂) := by
  rintro i v s oC m₂ ce D oD rest Q E ⟨T, vals, rfl, hP, hT⟩ hN hce F N hDC _ hr hQ
  subst hce
  obtain ⟨v₁, v₂, rfl, hP2⟩ := h2 i vals hP
  have zC := N _ (.head _)
  have ht : IsTup s.heap T #[v₁, v₂] := hT
  refine assign_Tuple_tuple hh ht rfl rfl fun h₅ he => ?_
  have he' : ∀ b o, s.heap.get? b = some o → h₅.get? b = some o := fun b o e => he b o (Nat.ne_of_lt (Heap.lt_size e)) e
  refine assignInOrder_cons (wpAny_assign_Name (wpAny_storeName_local (lookup_relabel_local hx) ((hN.ns zC.1).at' fun o e => he' _ o e) (fun h₆ hn₆ hs₆ => ?_) (by simp [compEnvC, relabel, hkind])))
  refine assignInOrder_cons (wpAny_assign_Name (wpAny_storeName_local (lookup_relabel_local hx₂) hn₆ (fun h₃ hn₃ hs₃ => ?_) (by simp [compEnvC, relabel, hkind])))
  refine assignInOrder_nil ?_
  obtain ⟨oC', e', hN'⟩ := LCg.ns_obj hn₃
  refine hQ h₃ _ oC' _ [] (((F.keeps he').change hs₆ zC.2.1 zC.2.2).change hs₃ zC.2.1 zC.2.2) (fun p hp => ?_) hN' rfl ⟨rfl, v₁, v₂, _, hP2, hN', by simp [hxx], by simp⟩
  rcases List.mem_cons.mp hp with rfl | hp
  · exact ⟨e', zC.2⟩
  · have z := N p (.tail _ hp)
    have hne : p.1 ≠ C := by
      rcases List.mem_cons.mp hp with rfl | hp
      · exact hDC
      · exact (hr p hp).1
    exact ⟨hs₃.extBut _ _ hne (hs₆.extBut _ _ hne (he' _ _ z.1)), z.2⟩

abbrev TurnEnd (h₀ : Heap) (L : Addr) (m : Str → Option Value) (s : Shared) (led : List (Addr × Obj)) (G : Prop) (s' : Shared) : Prop :=
  ∃ h' tk', s' = { s with heap := h', toks := tk' } ∧ Fr h₀ L h' m ∧ News h₀ L h' led ∧ G

abbrev testsOf (ifs : List Expr) (env : Env) : Sem Bool := forIn ifs true fun c r => if r = true then do let ok ← isTrue c env (eval c env); pure (ForInStep.yield ok) else pure (ForInStep.yield r)

theorem comp_out {env : Env} {tg elt iter : Expr} {ifs : List Expr} {scope : Scope} {pos : Pos} {cl : List (Str × Addr)} {Q : Value → Shared → Prop} {it : Value}
    {lim L : Addr} {h₀ : Heap} {m : Str → Option Value} {fp fr : List Addr} {P : Nat → Value → Heap → Prop} {St : Nat → Heap → Prop}
    {keep led its : List (Addr × Obj)} {α β : Type} {as : List α} (f : α → Option β) (Out : List Value → List β → Prop) (IsB : β → Value → Prop) (hnil : Out [] []) (hsnoc : ∀ ys bs y b, Out ys bs → IsB b y → Out (ys ++ [y]) (bs ++ [b]))
    (cl' : Addr → List (Str × Addr)) (ce0 : Addr → List (Addr × Obj)) (CeOk : Addr → List (Addr × Obj) → Prop) (After : Addr → Nat → Obj → List (Addr × Obj) → Prop) (Aft : Addr → α → Obj → List (Addr × Obj) → Prop)
    (hAft : ∀ C i oC ce, i < as.length → After C i oC ce → ∃ a, as[i]? = some a ∧ Aft C a oC ce)
    (hcl : ∀ a, cellsFrom (a + 1) scope.names cl = cl' a) (hce0 : ∀ (h : Heap) a, h.objs.size = a + 1 → ∀ p ∈ ce0 a, (pushCells h scope.names).get? p.1 = some p.2 ∧ a < p.1)
    (hok0 : ∀ a, CeOk a (ce0 a)) (hok : ∀ a ce, CeOk a ce → ∀ p ∈ ce, p.1 ∈ (ce0 a).map (·.1))
    (W : Src prog w A it tg as.length fp fr P St) (hsz : as.length ≤ sizeLine) (hyo : YoOk env L yo) (F : Fr h₀ L s.heap m) (N : News h₀ L s.heap (led ++ its)) (hi0 : its.map (·.1) = fr) (hst : St 0 s.heap)
    (hfp : ∀ b ∈ fp, b ∈ fr ∨ (∃ o, h₀.get? b = some o) ∨ ∃ o, (b, o) ∈ keep) (hlim : ∀ b ∈ fr, lim ≤ b) (hls : lim ≤ s.heap.objs.size)
    (hasg : ∀ C, s.heap.objs.size < C → Asg prog w A tg (compEnvC scope (cl' C) C env) h₀ L m C ((ce0 C).map (·.1)) P (CeOk C) (After C))
    (hkeep : ∀ p ∈ keep, p ∈ led) (hled : ∀ p ∈ led, p.1 < lim)
    (turn : ∀ C D, lim ≤ D → D < C → ∀ a ys its oC m₂ ce h tk (E' : Value → Shared → Prop), a ∈ as → Aft C a oC ce → LCg.NsObj oC m₂ → Fr h₀ L h m → News h₀ L h (CLed C oC D ys ce led its) →
      wpAny (model prog w) A (testsOf ifs (compEnvC scope (cl' C) C env)) (fun ok s₃ =>
        if ok = true then wpAny (model prog w) A (eval elt (compEnvC scope (cl' C) C env)) (fun y s₄ => TurnEnd h₀ L m s (CLed C oC D ys ce led its) (∃ b, f a = some b ∧ IsB b y) s₄) E' s₃
        else TurnEnd h₀ L m s (CLed C oC D ys ce led its) (f a = none) s₃) E' { s with heap := h, toks := tk })
    (fin : ∀ D ys h tk, Out ys (as.filterMap f) → lim ≤ D → Fr h₀ L h (mOf yo D m) → News h₀ L h ((D, listOf ys.toArray ys.length) :: led) → Q (retOf yo D) { s with heap := h, toks := tk }) :
    CompGo prog w A yo env tg elt iter ifs scope pos cl Q E it s := by
  refine comp_go (lim := lim) cl' ce0 CeOk After hcl hce0 hok0 hok W hsz hyo F N hi0 hst hfp hlim hls hasg (fun i ys led' => led' = led ∧ Out ys ((as.take i).filterMap f)) (fun i ys led' hj => by rw [hj.1]; exact ⟨hkeep, hled⟩) ⟨rfl, by simpa using hnil⟩
    (fun C D hl hDC i ys led' its oC m₂ ce h tk E' hi hj hA hN _ F' N' => ?_) fun D ys led' h tk hj hl F' N' => ?_
  · obtain ⟨rfl, hO⟩ := hj
    obtain ⟨a, ha, hA'⟩ := hAft C i oC ce hi hA
    have e1 : (as.take (i + 1)).filterMap f = (as.take i).filterMap f ++ (f a).toList := by
      rw [List.take_add_one, ha, List.filterMap_append]
      cases hf : f a <;> simp [hf]
    refine wpAny_mono (turn C D hl hDC a ys its oC m₂ ce h tk E' (List.mem_of_getElem? ha) hA' hN F' N') (fun ok s₃ h₃ => ?_) fun _ _ e => e
    cases ok with
    | true =>
      simp only [if_true] at h₃ ⊢
      refine wpAny_mono h₃ (fun y s₄ h₄ => ?_) fun _ _ e => e
      obtain ⟨h', tk', rfl, F₄, N₄, b, hb, hy⟩ := h₄
      refine ⟨h', tk', _, rfl, F₄, N₄, rfl, ?_⟩
      rw [e1, hb]
      exact hsnoc _ _ _ _ hO hy
    | false =>
      simp only [Bool.false_eq_true, if_false] at h₃ ⊢
      obtain ⟨h', tk', rfl, F₄, N₄, hb⟩ := h₃
      refine ⟨h', tk', _, rfl, F₄, N₄, rfl, ?_⟩
      rw [e1, hb]
      simpa using hO
  · obtain ⟨rfl, hO⟩ := hj
    rw [List.take_length] at hO
    exact fin D ys h tk hO hl F' N'
end
end Mine

end

section
open PySem PySem.W PySem.Spec PySem.Calls PyProof.Rows
namespace Mine
section
variable {prog : Program} {w : World} {A : Around} {E : Value → Shared → Prop} {s : Shared} {yo : Option (Str × Pos)}
variable {env : Env} {elt iter : Expr} {ifs : List Expr} {scope : Scope} {pos : Pos} {cl : List (Str × Addr)} {Q : Value → Shared → Prop} {L : Addr} {h₀ : Heap} {m : Str → Option Value} {led : List (Addr × Obj)} {α β : Type} {as : List α}

theorem cells_none {scope : Scope} {cl : List (Str × Addr)} (hc : ∀ y ∈ scope.names, y.2 ≠ .cell) : ∀ a, cellsFrom (a + 1) scope.names cl = cl := by
  intro a
  generalize scope.names = l at hc
  induction l with
  | nil => rfl
  | cons y l ih =>
    obtain ⟨x, k⟩ := y
    have hk : (k == NameKind.cell) = false := by simpa using hc _ (.head _)
    unfold cellsFrom
    rw [if_neg (by rw [hk]; exact Bool.false_ne_true)]
    exact ih fun y hy => hc y (.tail _ hy)

/-- over a list, a local name -/
theorem comp_list {x : Str} {px : Pos} {ax : Addr} {items : Array Value} {k : Nat} (IsA : α → Value → Prop) (f : α → Option β) (Out : List Value → List β → Prop) (IsB : β → Value → Prop) (hnil : Out [] []) (hsnoc : ∀ ys bs y b, Out ys bs → IsB b y → Out (ys ++ [y]) (bs ++ [b]))
    (hh : A.handled = none) (F : Fr h₀ L s.heap m) (N : News h₀ L s.heap led) (hm : (ax, listOf items k) ∈ led) (hlen : items.size = as.length) (hitem : ∀ (i : Nat) v, items[i]? = some v → ∃ a, as[i]? = some a ∧ IsA a v) (hsz : as.length ≤ sizeLine) (hyo : YoOk env L yo)
    (hcell : ∀ y ∈ scope.names, y.2 ≠ .cell) (hkind : scope.kind = .function) (hx : scope.names.lookup x = some .local)
    (turn : ∀ C D, (∀ p ∈ led, p.1 < D) → D < C → ∀ a v (ys : List Value) its oC m₂ h tk (E' : Value → Shared → Prop), a ∈ as → IsA a v → LCg.NsObj oC m₂ → m₂ x = some v → Fr h₀ L h m → News h₀ L h ((C, oC) :: (D, listOf ys.toArray ys.length) :: (led ++ its)) →
      wpAny (model prog w) A (testsOf ifs (compEnvC scope cl C env)) (fun ok s₃ =>
        if ok = true then wpAny (model prog w) A (eval elt (compEnvC scope cl C env)) (fun y s₄ => TurnEnd h₀ L m s ((C, oC) :: (D, listOf ys.toArray ys.length) :: (led ++ its)) (∃ b, f a = some b ∧ IsB b y) s₄) E' s₃
        else TurnEnd h₀ L m s ((C, oC) :: (D, listOf ys.toArray ys.length) :: (led ++ its)) (f a = none) s₃) E' { s with heap := h, toks := tk })
    (fin : ∀ D ys h tk, Out ys (as.filterMap f) → (∀ p ∈ led, p.1 < D) → Fr h₀ L h (mOf yo D m) → News h₀ L h ((D, listOf ys.toArray ys.length) :: led) → Q (retOf yo D) { s with heap := h, toks := tk }) :
    wpAny (model prog w) A (pyIter (.ref ax)) (fun it s₂ => CompGo prog w A yo env (.Name x px) elt iter ifs scope pos cl Q E it s₂) E s := by
  have hl : s.heap.IsList ax items := ⟨_, (N _ hm).1, rfl, k, rfl⟩
  have hlt : ax < s.heap.objs.size := Heap.lt_size (N _ hm).1
  have ledlt : ∀ p ∈ led, p.1 < s.heap.objs.size := fun p hp => Heap.lt_size (N p hp).1
  refine wpAny_pyIter_list hl ?_
  have W := Src.ofWalks (prog := prog) (w := w) (tg := .Name x px) (fr := [s.heap.objs.size]) (Walks.list hh s.heap.objs.size ax (Nat.ne_of_lt hlt) items) (fun b hb => hb)
    (fun i h st b hb => by obtain ⟨o, e, _⟩ := st.1; rw [List.mem_singleton.mp hb]; exact ⟨o, e⟩) (fun _ => rfl)
  rw [hlen] at W
  refine comp_out (s := { s with heap := s.heap.push _ }) (lim := s.heap.objs.size) (keep := led) (led := led) (its := [(s.heap.objs.size, { cls := .type "list_iterator", data := .fields #[.ref ax, .int 0 0] })]) f Out IsB hnil hsnoc (fun _ => cl) (fun _ => []) (fun _ ce => ce = []) _
    (fun _ a oC ce => ce = [] ∧ ∃ v m₂, IsA a v ∧ LCg.NsObj oC m₂ ∧ m₂ x = some v) ?_ (cells_none hcell) (fun _ _ _ p hp => nomatch hp) (fun _ => rfl) (fun _ ce hce p hp => by rw [hce] at hp; cases hp)
    W hsz hyo (F.push _) ?_ rfl ⟨⟨_, Heap.get?_push_size _ rfl, rfl, rfl⟩, hl.push _⟩ ?_ ?_ ?_ (fun C _ => asg_name (P' := fun i v => items[i]? = some v) hkind hx) (fun _ hp => hp) ledlt ?_ ?_
  · rintro C i oC ce hi ⟨rfl, v, m₂, hv, hN, hmx⟩
    obtain ⟨a, ha, hA⟩ := hitem i v hv
    exact ⟨a, ha, rfl, v, m₂, hA, hN, hmx⟩
  · intro p hp
    have N' := N.push F { cls := .type "list_iterator", data := .fields #[.ref ax, .int 0 0] }
    rcases List.mem_append.mp hp with hp | hp
    · exact N' p (.tail _ hp)
    · rw [List.mem_singleton.mp hp]; exact N' _ (.head _)
  · intro b hb
    rcases List.mem_cons.mp hb with rfl | hb
    · exact .inl (.head _)
    · rw [List.mem_singleton.mp hb]; exact .inr (.inr ⟨_, hm⟩)
  · intro b hb; rw [List.mem_singleton.mp hb]; exact Nat.le_refl _
  · show s.heap.objs.size ≤ (s.heap.push _).objs.size
    rw [Heap.size_push]; exact Nat.le_succ _
  · rintro C D hl hDC a ys its oC m₂ ce h tk E' ha ⟨rfl, v, m₃, hA, hN', hmx⟩ hN F' N'
    exact turn C D (fun p hp => Nat.lt_of_lt_of_le (ledlt p hp) hl) hDC a v ys its oC m₃ h tk E' ha hA hN' hmx F' N'
  · intro D ys h tk hO hl F' N'
    exact fin D ys h tk hO (fun p hp => Nat.lt_of_lt_of_le (ledlt p hp) hl) F' N'

/-- over a list, a name that an inner text reads (a cell of its own) -/
theorem comp_list_cell {x : Str} {px : Pos} {ax : Addr} {items : Array Value} {k : Nat} (IsA : α → Value → Prop) (f : α → Option β) (Out : List Value → List β → Prop) (IsB : β → Value → Prop) (hnil : Out [] []) (hsnoc : ∀ ys bs y b, Out ys bs → IsB b y → Out (ys ++ [y]) (bs ++ [b]))
    (hh : A.handled = none) (F : Fr h₀ L s.heap m) (N : News h₀ L s.heap led) (hm : (ax, listOf items k) ∈ led) (hlen : items.size = as.length) (hitem : ∀ (i : Nat) v, items[i]? = some v → ∃ a, as[i]? = some a ∧ IsA a v) (hsz : as.length ≤ sizeLine) (hyo : YoOk env L yo)
    (hkind : scope.kind = .function) (hcl : ∀ a, cellsFrom (a + 1) scope.names cl = (x, a + 1) :: cl) (hpush : ∀ h, pushCells h scope.names = h.push { cls := .type "cell", data := .cell none }) (hx : ∀ C, (compEnvC scope ((x, C + 1) :: cl) C env).kindOf x = some .cell)
    (turn : ∀ C D, (∀ p ∈ led, p.1 < D) → D < C → ∀ a v (ys : List Value) its oC m₂ o h tk (E' : Value → Shared → Prop), a ∈ as → IsA a v → LCg.NsObj oC m₂ → o.data = .cell (some v) → Fr h₀ L h m → News h₀ L h ((C, oC) :: (D, listOf ys.toArray ys.length) :: (C + 1, o) :: (led ++ its)) →
      wpAny (model prog w) A (testsOf ifs (compEnvC scope ((x, C + 1) :: cl) C env)) (fun ok s₃ =>
        if ok = true then wpAny (model prog w) A (eval elt (compEnvC scope ((x, C + 1) :: cl) C env)) (fun y s₄ => TurnEnd h₀ L m s ((C, oC) :: (D, listOf ys.toArray ys.length) :: (C + 1, o) :: (led ++ its)) (∃ b, f a = some b ∧ IsB b y) s₄) E' s₃
        else TurnEnd h₀ L m s ((C, oC) :: (D, listOf ys.toArray ys.length) :: (C + 1, o) :: (led ++ its)) (f a = none) s₃) E' { s with heap := h, toks := tk })
    (fin : ∀ D ys h tk, Out ys (as.filterMap f) → (∀ p ∈ led, p.1 < D) → Fr h₀ L h (mOf yo D m) → News h₀ L h ((D, listOf ys.toArray ys.length) :: led) → Q (retOf yo D) { s with heap := h, toks := tk }) :
    wpAny (model prog w) A (pyIter (.ref ax)) (fun it s₂ => CompGo prog w A yo env (.Name x px) elt iter ifs scope pos cl Q E it s₂) E s := by
  have hl : s.heap.IsList ax items := ⟨_, (N _ hm).1, rfl, k, rfl⟩
  have hlt : ax < s.heap.objs.size := Heap.lt_size (N _ hm).1
  have ledlt : ∀ p ∈ led, p.1 < s.heap.objs.size := fun p hp => Heap.lt_size (N p hp).1
  refine wpAny_pyIter_list hl ?_
  have W := Src.ofWalks (prog := prog) (w := w) (tg := .Name x px) (fr := [s.heap.objs.size]) (Walks.list hh s.heap.objs.size ax (Nat.ne_of_lt hlt) items) (fun b hb => hb)
    (fun i h st b hb => by obtain ⟨o, e, _⟩ := st.1; rw [List.mem_singleton.mp hb]; exact ⟨o, e⟩) (fun _ => rfl)
  rw [hlen] at W
  refine comp_out (s := { s with heap := s.heap.push _ }) (lim := s.heap.objs.size) (keep := led) (led := led) (its := [(s.heap.objs.size, { cls := .type "list_iterator", data := .fields #[.ref ax, .int 0 0] })]) f Out IsB hnil hsnoc (fun a => (x, a + 1) :: cl) (fun a => [(a + 1, { cls := .type "cell", data := .cell none })])
    (fun C ce => ∃ o ov, ce = [(C + 1, o)] ∧ o.data = .cell ov) _
    (fun C a oC ce => ∃ v o, IsA a v ∧ ce = [(C + 1, o)] ∧ o.data = .cell (some v)) ?_ hcl ?_ (fun _ => ⟨_, _, rfl, rfl⟩) ?_
    W hsz hyo (F.push _) ?_ rfl ⟨⟨_, Heap.get?_push_size _ rfl, rfl, rfl⟩, hl.push _⟩ ?_ ?_ ?_ (fun C _ => asg_cell (P' := fun i v => items[i]? = some v) hkind (hx C)) (fun _ hp => hp) ledlt ?_ ?_
  · rintro C i oC ce hi ⟨v, o, hv, hce, hd⟩
    obtain ⟨a, ha, hA⟩ := hitem i v hv
    exact ⟨a, ha, v, o, hA, hce, hd⟩
  · intro h a ha p hp
    rw [List.mem_singleton.mp hp, hpush]
    refine ⟨?_, Nat.lt_succ_self _⟩
    have := Heap.get?_push_size h (o := { cls := .type "cell", data := .cell none }) rfl
    rw [ha] at this; exact this
  · rintro C ce ⟨o, ov, rfl, _⟩ p hp
    rw [List.mem_singleton.mp hp]; exact .head _
  · intro p hp
    have N' := N.push F { cls := .type "list_iterator", data := .fields #[.ref ax, .int 0 0] }
    rcases List.mem_append.mp hp with hp | hp
    · exact N' p (.tail _ hp)
    · rw [List.mem_singleton.mp hp]; exact N' _ (.head _)
  · intro b hb
    rcases List.mem_cons.mp hb with rfl | hb
    · exact .inl (.head _)
    · rw [List.mem_singleton.mp hb]; exact .inr (.inr ⟨_, hm⟩)
  · intro b hb; rw [List.mem_singleton.mp hb]; exact Nat.le_refl _
  · show s.heap.objs.size ≤ (s.heap.push _).objs.size
    rw [Heap.size_push]; exact Nat.le_succ _
  · rintro C D hl hDC a ys its oC m₂ ce h tk E' ha ⟨v, o, hA, rfl, hd⟩ hN F' N'
    exact turn C D (fun p hp => Nat.lt_of_lt_of_le (ledlt p hp) hl) hDC a v ys its oC m₂ o h tk E' ha hA hN hd F' N'
  · intro D ys h tk hO hl F' N'
    exact fin D ys h tk hO (fun p hp => Nat.lt_of_lt_of_le (ledlt p hp) hl) F' N'

/-- over a text's signs, a local name -/
theorem comp_str {x : Str} {px : Pos} {u : Str} {tu : Tok} (IsA : α → Value → Prop) (f : α → Option β) (Out : List Value → List β → Prop) (IsB : β → Value → Prop) (hnil : Out [] []) (hsnoc : ∀ ys bs y b, Out ys bs → IsB b y → Out (ys ++ [y]) (bs ++ [b]))
    (hh : A.handled = none) (F : Fr h₀ L s.heap m) (N : News h₀ L s.heap led) (hlen : u.cps.size = as.length) (hitem : ∀ (i : Nat) c t, u.cps[i]? = some c → ∃ a, as[i]? = some a ∧ IsA a (.str ⟨#[c]⟩ t)) (hsz : as.length ≤ sizeLine) (hyo : YoOk env L yo) (hasc : u.cps.all (· < 128) = true)
    (hcell : ∀ y ∈ scope.names, y.2 ≠ .cell) (hkind : scope.kind = .function) (hx : scope.names.lookup x = some .local)
    (turn : ∀ C D, (∀ p ∈ led, p.1 < D) → D < C → ∀ a v (ys : List Value) its oC m₂ h tk (E' : Value → Shared → Prop), a ∈ as → IsA a v → LCg.NsObj oC m₂ → m₂ x = some v → Fr h₀ L h m → News h₀ L h ((C, oC) :: (D, listOf ys.toArray ys.length) :: (led ++ its)) →
      wpAny (model prog w) A (testsOf ifs (compEnvC scope cl C env)) (fun ok s₃ =>
        if ok = true then wpAny (model prog w) A (eval elt (compEnvC scope cl C env)) (fun y s₄ => TurnEnd h₀ L m s ((C, oC) :: (D, listOf ys.toArray ys.length) :: (led ++ its)) (∃ b, f a = some b ∧ IsB b y) s₄) E' s₃
        else TurnEnd h₀ L m s ((C, oC) :: (D, listOf ys.toArray ys.length) :: (led ++ its)) (f a = none) s₃) E' { s with heap := h, toks := tk })
    (fin : ∀ D ys h tk, Out ys (as.filterMap f) → (∀ p ∈ led, p.1 < D) → Fr h₀ L h (mOf yo D m) → News h₀ L h ((D, listOf ys.toArray ys.length) :: led) → Q (retOf yo D) { s with heap := h, toks := tk }) :
    wpAny (model prog w) A (pyIter (.str u tu)) (fun it s₂ => CompGo prog w A yo env (.Name x px) elt iter ifs scope pos cl Q E it s₂) E s := by
  have ledlt : ∀ p ∈ led, p.1 < s.heap.objs.size := fun p hp => Heap.lt_size (N p hp).1
  have hty : strIterType u = "str_ascii_iterator" := by unfold strIterType; rw [if_pos hasc]
  refine wpAny_pyIter_strU ?_
  rw [hty]
  have W := Src.ofWalks (prog := prog) (w := w) (tg := .Name x px) (fr := [s.heap.objs.size]) (Walks.strAscii hh s.heap.objs.size u tu) (fun b hb => hb)
    (fun i h st b hb => by obtain ⟨o, e, _⟩ := st; rw [List.mem_singleton.mp hb]; exact ⟨o, e⟩) (fun _ => rfl)
  rw [hlen] at W
  refine comp_out (s := { s with heap := s.heap.push _ }) (lim := s.heap.objs.size) (keep := led) (led := led) (its := [(s.heap.objs.size, { cls := .type "str_ascii_iterator", data := .fields #[.str u tu, .int 0 0] })]) f Out IsB hnil hsnoc (fun _ => cl) (fun _ => []) (fun _ ce => ce = []) _
    (fun _ a oC ce => ce = [] ∧ ∃ v m₂, IsA a v ∧ LCg.NsObj oC m₂ ∧ m₂ x = some v) ?_ (cells_none hcell) (fun _ _ _ p hp => nomatch hp) (fun _ => rfl) (fun _ ce hce p hp => by rw [hce] at hp; cases hp)
    W hsz hyo (F.push _) ?_ rfl ⟨_, Heap.get?_push_size _ rfl, rfl, rfl⟩ ?_ ?_ ?_ (fun C _ => asg_name (P' := fun i v => SignAt u i v) hkind hx) (fun _ hp => hp) ledlt ?_ ?_
  · rintro C i oC ce hi ⟨rfl, v, m₂, ⟨c, t, hc, hv⟩, hN, hmx⟩
    obtain ⟨a, ha, hA⟩ := hitem i c t hc
    exact ⟨a, ha, rfl, v, m₂, hv ▸ hA, hN, hmx⟩
  · intro p hp
    have N' := N.push F { cls := .type "str_ascii_iterator", data := .fields #[.str u tu, .int 0 0] }
    rcases List.mem_append.mp hp with hp | hp
    · exact N' p (.tail _ hp)
    · rw [List.mem_singleton.mp hp]; exact N' _ (.head _)
  · intro b hb
    exact .inl hb
  · intro b hb; rw [List.mem_singleton.mp hb]; exact Nat.le_refl _
  · show s.heap.objs.size ≤ (s.heap.push _).objs.size
    rw [Heap.size_push]; exact Nat.le_succ _
  · rintro C D hl hDC a ys its oC m₂ ce h tk E' ha ⟨rfl, v, m₃, hA, hN', hmx⟩ hN F' N'
    exact turn C D (fun p hp => Nat.lt_of_lt_of_le (ledlt p hp) hl) hDC a v ys its oC m₃ h tk E' ha hA hN' hmx F' N'
  · intro D ys h tk hO hl F' N'
    exact fin D ys h tk hO (fun p hp => Nat.lt_of_lt_of_le (ledlt p hp) hl) F' N'
end
end Mine

end

section
open PySem PySem.W PySem.Spec PySem.Calls PyProof.Rows
namespace Mine
section
variable {prog : Program} {w : World} {A : Around} {E : Value → Shared → Prop} {s : Shared} {yo : Option (Str × Pos)}
variable {env : Env} {elt iter : Expr} {ifs : List Expr} {scope : Scope} {pos : Pos} {cl : List (Str × Addr)} {Q : Value → Shared → Prop} {L : Addr} {h₀ : Heap} {m : Str → Option Value} {led : List (Addr × Obj)} {α β : Type} {as : List α}

theorem fr_fresh {h : Heap} {a : Addr} (F : Fr h₀ L h m) (ha : h.objs.size ≤ a) : a ≠ L ∧ h₀.get? a = none := by
  refine ⟨Nat.ne_of_gt (Nat.lt_of_lt_of_le F.ns.lt ha), ?_⟩
  cases e : h₀.get? a with
  | none => rfl
  | some o' => exact absurd (Heap.lt_size (F.keep a o' e)) (Nat.not_lt.mpr ha)

theorem zapart (n l1 l2 : Nat) (h1 : l1 < n) (h2 : l2 < n) : ZipApart (n + 4) (n + 2) (n + 3) n (n + 1) l1 l2 := by
  constructor <;> (intro e; exact absurd (show @Eq Nat _ _ from e) (by omega))
/-- over zip of two lists, two local names -/
theorem comp_zip {x x₂ : Str} {px px₂ tp : Pos} {kt : Nat} {l1 l2 : Addr} {xs zs : Array Value} {k1 k2 : Nat} (IsA : α → Value → Value → Prop) (f : α → Option β) (Out : List Value → List β → Prop) (IsB : β → Value → Prop) (hnil : Out [] []) (hsnoc : ∀ ys bs y b, Out ys bs → IsB b y → Out (ys ++ [y]) (bs ++ [b]))
    (hh : A.handled = none) (F : Fr h₀ L s.heap m) (N : News h₀ L s.heap led) (hm1 : (l1, listOf xs k1) ∈ led) (hm2 : (l2, listOf zs k2) ∈ led) (hlen : min xs.size zs.size = as.length) (hitem : ∀ (i : Nat) v v', xs[i]? = some v → zs[i]? = some v' → ∃ a, as[i]? = some a ∧ IsA a v v') (hsz : as.length ≤ sizeLine) (hyo : YoOk env L yo)
    (hcell : ∀ y ∈ scope.names, y.2 ≠ .cell) (hkind : scope.kind = .function) (hx : scope.names.lookup x = some .local) (hx₂ : scope.names.lookup x₂ = some .local) (hxx : x ≠ x₂)
    (turn : ∀ C D, (∀ p ∈ led, p.1 < D) → D < C → ∀ a v v' (ys : List Value) its oC m₂ h tk (E' : Value → Shared → Prop), a ∈ as → IsA a v v' → LCg.NsObj oC m₂ → m₂ x = some v → m₂ x₂ = some v' → Fr h₀ L h m → News h₀ L h ((C, oC) :: (D, listOf ys.toArray ys.length) :: (led ++ its)) →
      wpAny (model prog w) A (testsOf ifs (compEnvC scope cl C env)) (fun ok s₃ =>
        if ok = true then wpAny (model prog w) A (eval elt (compEnvC scope cl C env)) (fun y s₄ => TurnEnd h₀ L m s ((C, oC) :: (D, listOf ys.toArray ys.length) :: (led ++ its)) (∃ b, f a = some b ∧ IsB b y) s₄) E' s₃
        else TurnEnd h₀ L m s ((C, oC) :: (D, listOf ys.toArray ys.length) :: (led ++ its)) (f a = none) s₃) E' { s with heap := h, toks := tk })
    (fin : ∀ D ys h tk, Out ys (as.filterMap f) → (∀ p ∈ led, p.1 < D) → Fr h₀ L h (mOf yo D m) → News h₀ L h ((D, listOf ys.toArray ys.length) :: led) → Q (retOf yo D) { s with heap := h, toks := tk }) :
    wpAny (model prog w) A (call (.type "zip") [.ref l1, .ref l2]) (fun xv s₁ => wpAny (model prog w) A (pyIter xv) (fun it s₂ => CompGo prog w A yo env (.Tuple [.Name x px, .Name x₂ px₂] kt tp) elt iter ifs scope pos cl Q E it s₂) E s₁) E s := by
  have hl1 : s.heap.IsList l1 xs := ⟨_, (N _ hm1).1, rfl, k1, rfl⟩
  have hl2 : s.heap.IsList l2 zs := ⟨_, (N _ hm2).1, rfl, k2, rfl⟩
  have lt1 : l1 < s.heap.objs.size := Heap.lt_size (N _ hm1).1
  have lt2 : l2 < s.heap.objs.size := Heap.lt_size (N _ hm2).1
  have ledlt : ∀ p ∈ led, p.1 < s.heap.objs.size := fun p hp => Heap.lt_size (N p hp).1
  refine call_zip_2 hl1 hl2 fun h' hz hTI hTO ⟨o1, e1, c1, d1⟩ ⟨o2, e2, c2, d2⟩ hs' up => ?_
  generalize hn : s.heap.objs.size = n at *
  have D : ZipApart (n + 4) (n + 2) (n + 3) n (n + 1) l1 l2 := zapart n l1 l2 lt1 lt2
  have W := Src.ofT (prog := prog) (w := w) (elts := [.Name x px, .Name x₂ px₂]) (k := kt) (pos := tp) (fr := [n + 4, n + 2, n + 3, n, n + 1]) (WalksT.zip2 hh (n + 4) (n + 2) (n + 3) n (n + 1) l1 l2 D xs zs) (fun b hb => by simp at hb ⊢; rcases hb with rfl | rfl | rfl | rfl <;> simp)
    (fun i h st b hb => by
      obtain ⟨a1, a2, ⟨_, _, a3⟩, ⟨q1, a4, _⟩, ⟨q2, a5, _⟩, _⟩ := st
      simp only [List.mem_cons, List.not_mem_nil, or_false] at hb
      rcases hb with rfl | rfl | rfl | rfl | rfl
      · exact ⟨_, a1⟩
      · exact ⟨_, a2⟩
      · exact ⟨_, a3⟩
      · exact ⟨_, a4⟩
      · exact ⟨_, a5⟩)
  rw [hlen] at W
  have st0 : IsZip h' (n + 4) (n + 2) (n + 3) .none ∧ IsPair h' (n + 2) (.ref n) (.ref (n + 1)) ∧ (∃ a b, IsPair h' (n + 3) a b) ∧ h'.IsListIter n l1 0 ∧ h'.IsListIter (n + 1) l2 0 ∧ h'.IsList l1 xs ∧ h'.IsList l2 zs :=
    ⟨hz, hTI, ⟨_, _, hTO⟩, ⟨o1, e1, c1, d1⟩, ⟨o2, e2, c2, d2⟩, hl1.at fun o e => up _ o e, hl2.at fun o e => up _ o e⟩
  refine W.self 0 _ _ _ st0 ?_
  refine comp_out (s := { s with heap := h' }) (lim := n) (keep := led) (led := led) (its := [(n + 4, { cls := .type "zip", dict := none, data := .fields #[.none, .bool false, .bool false, .ref (n + 2), .ref (n + 3)], slots := #[] }), (n + 2, { cls := .type "tuple", data := .seq #[.ref n, .ref (n + 1)] }), (n + 3, { cls := .type "tuple", data := .seq #[.none, .none] }), (n, o1), (n + 1, o2)]) f Out IsB hnil hsnoc (fun _ => cl) (fun _ => []) (fun _ ce => ce = []) _
    (fun _ a oC ce => ce = [] ∧ ∃ v v' m₂, IsA a v v' ∧ LCg.NsObj oC m₂ ∧ m₂ x = some v ∧ m₂ x₂ = some v') ?_ (cells_none hcell) (fun _ _ _ p hp => nomatch hp) (fun _ => rfl) (fun _ ce hce p hp => by rw [hce] at hp; cases hp)
    W hsz hyo (F.keeps up) ?_ rfl st0 ?_ ?_ ?_ (fun C _ => asg_pair (P2 := fun i v v' => xs[i]? = some v ∧ zs[i]? = some v') hh hkind hx hx₂ hxx (fun i vals ⟨a, b, h1, h2, h3⟩ => ⟨a, b, h3, h1, h2⟩)) (fun _ hp => hp) ledlt ?_ ?_
  · rintro C i oC ce hi ⟨rfl, v, v', m₂, ⟨hv, hv'⟩, hN, hmx, hmx'⟩
    obtain ⟨a, ha, hA⟩ := hitem i v v' hv hv'
    exact ⟨a, ha, rfl, v, v', m₂, hA, hN, hmx, hmx'⟩
  · intro p hp
    rcases List.mem_append.mp hp with hp | hp
    · exact ⟨up _ _ (N p hp).1, (N p hp).2⟩
    · simp only [List.mem_cons, List.not_mem_nil, or_false] at hp
      have fz := fun (a : Addr) (ha : n ≤ a) => fr_fresh (a := a) F (by rw [hn]; exact ha)
      rcases hp with rfl | rfl | rfl | rfl | rfl
      · exact ⟨hz, fz _ (by first | exact Nat.le_add_right _ _ | exact Nat.le_refl _)⟩
      · exact ⟨hTI, fz _ (by first | exact Nat.le_add_right _ _ | exact Nat.le_refl _)⟩
      · exact ⟨hTO, fz _ (by first | exact Nat.le_add_right _ _ | exact Nat.le_refl _)⟩
      · exact ⟨e1, fz _ (by first | exact Nat.le_add_right _ _ | exact Nat.le_refl _)⟩
      · exact ⟨e2, fz _ (by first | exact Nat.le_add_right _ _ | exact Nat.le_refl _)⟩
  · intro b hb
    simp only [List.mem_cons, List.not_mem_nil, or_false] at hb
    rcases hb with rfl | rfl | rfl | rfl | rfl | rfl | rfl
    · exact .inl (by simp)
    · exact .inl (by simp)
    · exact .inl (by simp)
    · exact .inl (by simp)
    · exact .inl (by simp)
    · exact .inr (.inr ⟨_, hm1⟩)
    · exact .inr (.inr ⟨_, hm2⟩)
  · intro b hb
    simp only [List.mem_cons, List.not_mem_nil, or_false] at hb
    rcases hb with rfl | rfl | rfl | rfl | rfl <;> first | exact Nat.le_add_right _ _ | exact Nat.le_refl _
  · show n ≤ h'.objs.size
    rw [hs']; exact Nat.le_add_right _ _
  · rintro C D hl hDC a ys its oC m₂ ce h tk E' ha ⟨rfl, v, v', m₃, hA, hN', hmx, hmx'⟩ hN F' N'
    exact turn C D (fun p hp => Nat.lt_of_lt_of_le (ledlt p hp) hl) hDC a v v' ys its oC m₃ h tk E' ha hA hN' hmx hmx' F' N'
  · intro D ys h tk hO hl F' N'
    exact fin D ys h tk hO (fun p hp => Nat.lt_of_lt_of_le (ledlt p hp) hl) F' N'

/-- over enumerate of a text, two local names -/
theorem comp_enum {x x₂ : Str} {px px₂ tp : Pos} {kt : Nat} {u : Str} {tu : Tok} (IsA : α → Value → Value → Prop) (f : α → Option β) (Out : List Value → List β → Prop) (IsB : β → Value → Prop) (hnil : Out [] []) (hsnoc : ∀ ys bs y b, Out ys bs → IsB b y → Out (ys ++ [y]) (bs ++ [b]))
    (hh : A.handled = none) (F : Fr h₀ L s.heap m) (N : News h₀ L s.heap led) (hlen : u.cps.size = as.length) (hitem : ∀ (i : Nat) c t t', u.cps[i]? = some c → ∃ a, as[i]? = some a ∧ IsA a (.int i t) (.str ⟨#[c]⟩ t')) (hsz : as.length ≤ sizeLine) (hyo : YoOk env L yo) (hasc : u.cps.all (· < 128) = true)
    (hcell : ∀ y ∈ scope.names, y.2 ≠ .cell) (hkind : scope.kind = .function) (hx : scope.names.lookup x = some .local) (hx₂ : scope.names.lookup x₂ = some .local) (hxx : x ≠ x₂)
    (turn : ∀ C D, (∀ p ∈ led, p.1 < D) → D < C → ∀ a v v' (ys : List Value) its oC m₂ h tk (E' : Value → Shared → Prop), a ∈ as → IsA a v v' → LCg.NsObj oC m₂ → m₂ x = some v → m₂ x₂ = some v' → Fr h₀ L h m → News h₀ L h ((C, oC) :: (D, listOf ys.toArray ys.length) :: (led ++ its)) →
      wpAny (model prog w) A (testsOf ifs (compEnvC scope cl C env)) (fun ok s₃ =>
        if ok = true then wpAny (model prog w) A (eval elt (compEnvC scope cl C env)) (fun y s₄ => TurnEnd h₀ L m s ((C, oC) :: (D, listOf ys.toArray ys.length) :: (led ++ its)) (∃ b, f a = some b ∧ IsB b y) s₄) E' s₃
        else TurnEnd h₀ L m s ((C, oC) :: (D, listOf ys.toArray ys.length) :: (led ++ its)) (f a = none) s₃) E' { s with heap := h, toks := tk })
    (fin : ∀ D ys h tk, Out ys (as.filterMap f) → (∀ p ∈ led, p.1 < D) → Fr h₀ L h (mOf yo D m) → News h₀ L h ((D, listOf ys.toArray ys.length) :: led) → Q (retOf yo D) { s with heap := h, toks := tk }) :
    wpAny (model prog w) A (call (.type "enumerate") [.str u tu]) (fun xv s₁ => wpAny (model prog w) A (pyIter xv) (fun it s₂ => CompGo prog w A yo env (.Tuple [.Name x px, .Name x₂ px₂] kt tp) elt iter ifs scope pos cl Q E it s₂) E s₁) E s := by
  have ledlt : ∀ p ∈ led, p.1 < s.heap.objs.size := fun p hp => Heap.lt_size (N p hp).1
  have hty : strIterType u = "str_ascii_iterator" := by unfold strIterType; rw [if_pos hasc]
  refine call_enumerate_str fun h' he hit hs' up => ?_
  rw [hty] at hit
  obtain ⟨o1, e1, c1, d1⟩ := hit
  generalize hn : s.heap.objs.size = n at *
  have Dr := Draws.strAscii (prog := prog) (w := w) (A := A.in1) (show A.in1.handled = none from hh) n u tu
  have W := Src.ofT (prog := prog) (w := w) (elts := [.Name x px, .Name x₂ px₂]) (k := kt) (pos := tp) (fr := [n + 1, n]) (WalksT.enumerateD Dr (n + 1) (Nat.succ_ne_self n) (by simp) (by simp)) (fun b hb => hb)
    (fun i h st b hb => by
      obtain ⟨⟨old, a1⟩, ⟨q, a2, _⟩⟩ := st
      simp only [List.mem_cons, List.not_mem_nil, or_false] at hb
      rcases hb with rfl | rfl
      · exact ⟨_, a1⟩
      · exact ⟨_, a2⟩)
  rw [hlen] at W
  have st0 : (∃ old, IsEnum h' (n + 1) n ((0 : Nat) : Int) old) ∧ h'.IsStrIter n "str_ascii_iterator" u tu 0 := ⟨⟨_, he⟩, ⟨o1, e1, c1, d1⟩⟩
  refine W.self 0 _ _ _ st0 ?_
  refine comp_out (s := { s with heap := h' }) (lim := n) (keep := led) (led := led) (its := [(n + 1, { cls := .type "enumerate", dict := none, data := .fields #[.none, .bool false, .ref n, rawInt 0, .none, .none], slots := #[] }), (n, o1)]) f Out IsB hnil hsnoc (fun _ => cl) (fun _ => []) (fun _ ce => ce = []) _
    (fun _ a oC ce => ce = [] ∧ ∃ v v' m₂, IsA a v v' ∧ LCg.NsObj oC m₂ ∧ m₂ x = some v ∧ m₂ x₂ = some v') ?_ (cells_none hcell) (fun _ _ _ p hp => nomatch hp) (fun _ => rfl) (fun _ ce hce p hp => by rw [hce] at hp; cases hp)
    W hsz hyo (F.keeps up) ?_ rfl st0 ?_ ?_ ?_ (fun C _ => asg_pair (P2 := fun i v v' => ∃ t c t', v = .int i t ∧ u.cps[i]? = some c ∧ v' = .str ⟨#[c]⟩ t') hh hkind hx hx₂ hxx (fun i vals ⟨t, x, ⟨c, t', h1, h2⟩, h3⟩ => ⟨_, _, h3, t, c, t', rfl, h1, h2⟩)) (fun _ hp => hp) ledlt ?_ ?_
  · rintro C i oC ce hi ⟨rfl, v, v', m₂, ⟨t, c, t', rfl, hc, rfl⟩, hN, hmx, hmx'⟩
    obtain ⟨a, ha, hA⟩ := hitem i c t t' hc
    exact ⟨a, ha, rfl, _, _, m₂, hA, hN, hmx, hmx'⟩
  · intro p hp
    rcases List.mem_append.mp hp with hp | hp
    · exact ⟨up _ _ (N p hp).1, (N p hp).2⟩
    · simp only [List.mem_cons, List.not_mem_nil, or_false] at hp
      have fz := fun (a : Addr) (ha : n ≤ a) => fr_fresh (a := a) F (by rw [hn]; exact ha)
      rcases hp with rfl | rfl
      · exact ⟨he, fz _ (by first | exact Nat.le_add_right _ _ | exact Nat.le_refl _)⟩
      · exact ⟨e1, fz _ (by first | exact Nat.le_add_right _ _ | exact Nat.le_refl _)⟩
  · intro b hb
    exact .inl (by simpa using hb)
  · intro b hb
    simp only [List.mem_cons, List.not_mem_nil, or_false] at hb
    rcases hb with rfl | rfl <;> first | exact Nat.le_add_right _ _ | exact Nat.le_refl _
  · show n ≤ h'.objs.size
    rw [hs']; exact Nat.le_add_right _ _
  · rintro C D hl hDC a ys its oC m₂ ce h tk E' ha ⟨rfl, v, v', m₃, hA, hN', hmx, hmx'⟩ hN F' N'
    exact turn C D (fun p hp => Nat.lt_of_lt_of_le (ledlt p hp) hl) hDC a v v' ys its oC m₃ h tk E' ha hA hN' hmx hmx' F' N'
  · intro D ys h tk hO hl F' N'
    exact fin D ys h tk hO (fun p hp => Nat.lt_of_lt_of_le (ledlt p hp) hl) F' N'

/-- over a range, a local name, by an invariant -/
theorem comp_range {x : Str} {px : Pos} {r : Addr} {a b : Int} {n : Nat} {t u v : Tok} (J : Nat → List Value → List (Addr × Obj) → Prop)
    (hh : A.handled = none) (F : Fr h₀ L s.heap m) (N : News h₀ L s.heap led) (hr : IsRange s.heap r a b 1 t u v) (hsm : Builtin.Range.small a b 1 = true) (hn : Builtin.Range.rangeSize a b 1 = ((n : Nat) : Int)) (hsz : n ≤ sizeLine) (hyo : YoOk env L yo)
    (hcell : ∀ y ∈ scope.names, y.2 ≠ .cell) (hkind : scope.kind = .function) (hx : scope.names.lookup x = some .local)
    (hJ : ∀ i ys led', J i ys led' → ∀ p ∈ led', p.1 < s.heap.objs.size) (hJ0 : J 0 [] led)
    (turn : ∀ C D, s.heap.objs.size ≤ D → D < C → ∀ i ti (ys : List Value) led' its oC m₂ h tk (E' : Value → Shared → Prop), i < n → J i ys led' → LCg.NsObj oC m₂ → m₂ x = some (.int (a + (i : Nat)) ti) → its.map (·.1) = [s.heap.objs.size] → Fr h₀ L h m → News h₀ L h ((C, oC) :: (D, listOf ys.toArray ys.length) :: (led' ++ its)) →
      wpAny (model prog w) A (testsOf ifs (compEnvC scope cl C env)) (fun ok s₃ =>
        if ok = true then wpAny (model prog w) A (eval elt (compEnvC scope cl C env)) (fun y s₄ => ∃ led'', TurnEnd h₀ L m s ((C, oC) :: (D, listOf ys.toArray ys.length) :: (led'' ++ its)) (J (i + 1) (ys ++ [y]) led'') s₄) E' s₃
        else ∃ led'', TurnEnd h₀ L m s ((C, oC) :: (D, listOf ys.toArray ys.length) :: (led'' ++ its)) (J (i + 1) ys led'') s₃) E' { s with heap := h, toks := tk })
    (fin : ∀ D ys led' h tk, J n ys led' → (∀ p ∈ led', p.1 < D) → Fr h₀ L h (mOf yo D m) → News h₀ L h ((D, listOf ys.toArray ys.length) :: led') → Q (retOf yo D) { s with heap := h, toks := tk }) :
    wpAny (model prog w) A (pyIter (.ref r)) (fun it s₂ => CompGo prog w A yo env (.Name x px) elt iter ifs scope pos cl Q E it s₂) E s := by
  refine wpAny_pyIter_range hr hsm ?_
  have W := Src.ofWalks (prog := prog) (w := w) (tg := .Name x px) (fr := [s.heap.objs.size]) (LCg.range_walks (A := A) (prog := prog) (w := w) (I := s.heap.objs.size) hh a n) (fun b hb => hb)
    (fun i h st b hb => by rw [List.mem_singleton.mp hb]; exact ⟨_, st⟩) (fun _ => rfl)
  refine comp_go (s := { s with heap := s.heap.push _ }) (lim := s.heap.objs.size) (keep := []) (led := led) (its := [(s.heap.objs.size, { cls := .type "range_iterator", data := .fields #[rawInt a, rawInt (Builtin.Range.rangeSize a b 1), rawInt 1] })]) (fun _ => cl) (fun _ => []) (fun _ ce => ce = []) _
    (cells_none hcell) (fun _ _ _ p hp => nomatch hp) (fun _ => rfl) (fun _ ce hce p hp => by rw [hce] at hp; cases hp)
    W hsz hyo (F.push _) ?_ rfl ?_ ?_ ?_ ?_ (fun C _ => asg_name (P' := fun i v => ∃ t, v = .int (a + (i : Int)) t) hkind hx) J (fun i ys led' hj => ⟨(fun _ hp => nomatch hp), hJ i ys led' hj⟩) hJ0 ?_ ?_
  · intro p hp
    have N' := N.push F { cls := .type "range_iterator", data := .fields #[rawInt a, rawInt (Builtin.Range.rangeSize a b 1), rawInt 1] }
    rcases List.mem_append.mp hp with hp | hp
    · exact N' p (.tail _ hp)
    · rw [List.mem_singleton.mp hp]; exact N' _ (.head _)
  · show IsRangeIter _ _ _ _ _
    rw [hn]
    simpa using Heap.get?_push_size _ rfl
  · intro b hb
    exact .inl hb
  · intro b hb; rw [List.mem_singleton.mp hb]; exact Nat.le_refl _
  · show s.heap.objs.size ≤ (s.heap.push _).objs.size
    rw [Heap.size_push]; exact Nat.le_succ _
  · rintro C D hl hDC i ys led' its oC m₂ ce h tk E' hi hj ⟨rfl, v, m₃, ⟨ti, rfl⟩, hN', hmx⟩ hN hits F' N'
    refine wpAny_mono (turn C D hl hDC i ti ys led' its oC m₃ h tk E' hi hj hN' hmx hits F' N') (fun ok s₃ h₃ => ?_) fun _ _ e => e
    cases ok with
    | true =>
      simp only [if_true] at h₃ ⊢
      refine wpAny_mono h₃ (fun y s₄ h₄ => ?_) fun _ _ e => e
      obtain ⟨led'', h', tk', e, F₄, N₄, hj₄⟩ := h₄
      exact ⟨h', tk', led'', e, F₄, N₄, hj₄⟩
    | false =>
      simp only [Bool.false_eq_true, if_false] at h₃ ⊢
      obtain ⟨led'', h', tk', e, F₄, N₄, hj₄⟩ := h₃
      exact ⟨h', tk', led'', e, F₄, N₄, hj₄⟩
  · intro D ys led' h tk hj hl F' N'
    exact fin D ys led' h tk hj (fun p hp => Nat.lt_of_lt_of_le (hJ _ _ _ hj p hp) hl) F' N'
end
end Mine

end

section
open PySem PySem.W PySem.Spec PySem.Calls PyProof.Rows PyProof.V
namespace Mine
theorem es_canLayAll0 : ∀ {ns : List Str} (_ : ∀ x ∈ ns, PyData.strOk x = true), PyData.canLayAll0 (ns.map PyData.str) = true
  | [], _ => rfl
  | n :: ns, h => by
    simp only [List.map_cons, PyData.canLayAll0, PyData.canLay0, es_canLayAll0 fun x hx => h x (.tail _ hx), h n (.head _), Bool.and_true]
theorem es_depthAll : ∀ ns : List Str, PyData.depthAll (ns.map PyData.str) = 0
  | [] => rfl
  | n :: ns => by simp [PyData.depthAll, PyData.depth, es_depthAll ns]
theorem es_shaped {ns : List Str} (h : ∀ x ∈ ns, PyData.strOk x = true) : SeqAt.shaped (.list (ns.map PyData.str)) = true := by
  simp [SeqAt.shaped, PyData.canLay0, PyData.depth, es_canLayAll0 h, es_depthAll]
theorem es_sameAll : ∀ ns ms : List Str, PySem.Spec.sameAll (ns.map PyData.str) (ms.map PyData.str) = decide (ns = ms)
  | [], [] => rfl
  | [], _ :: _ => rfl
  | _ :: _, [] => rfl
  | n :: ns, m :: ms => by
    have e : PySem.Spec.same (.str n) (.str m) = (n == m) := rfl
    simp only [List.map_cons, PySem.Spec.sameAll, e, es_sameAll ns ms, List.cons.injEq]
    by_cases h1 : n = m <;> by_cases h2 : ns = ms <;> simp [h1, h2]
theorem es_same (ns ms : List Str) : PySem.Spec.same (.list (ns.map PyData.str)) (.list (ms.map PyData.str)) = decide (ns = ms) := by
  rw [← es_sameAll]; rfl
section
variable {prog : Program} {w : World} {A : Around} {E : Value → Shared → Prop} {s : Shared} {Q : Value → Shared → Prop} {a b : Addr} {xs ys : List Value} {ns ms : List Str}
theorem es_eq (ha : s.heap.IsList a xs.toArray) (hb : s.heap.IsList b ys.toArray) (hi : StrsAre xs ns) (hj : StrsAre ys ms) (h1 : ∀ x ∈ ns, PyData.strOk x = true) (h2 : ∀ x ∈ ms, PyData.strOk x = true) (hu : A.units + 64 < cLine) (h : Q (.bool (decide (ns = ms))) s) :
    wpAny (model prog w) A (compareOp .Eq (.ref a) (.ref b)) Q E s :=
  eq_dataH_same (reads_newData ha hi.carried) (reads_newData hb hj.carried) (es_shaped h1) (es_shaped h2) hu (SeqAt.noMix_of_shape (.list .str) rfl _ _ (list_map_has fun _ => rfl) (list_map_has fun _ => rfl)) (by rw [es_same]; exact h)
theorem es_ne (ha : s.heap.IsList a xs.toArray) (hb : s.heap.IsList b ys.toArray) (hi : StrsAre xs ns) (hj : StrsAre ys ms) (h1 : ∀ x ∈ ns, PyData.strOk x = true) (h2 : ∀ x ∈ ms, PyData.strOk x = true) (hu : A.units + 64 < cLine) (h : Q (.bool (!decide (ns = ms))) s) :
    wpAny (model prog w) A (compareOp .NotEq (.ref a) (.ref b)) Q E s :=
  ne_dataH_same (reads_newData ha hi.carried) (reads_newData hb hj.carried) (es_shaped h1) (es_shaped h2) hu (SeqAt.noMix_of_shape (.list .str) rfl _ _ (list_map_has fun _ => rfl) (list_map_has fun _ => rfl)) (by rw [es_same]; exact h)
end
end Mine

end

section
open PySem PySem.W PySem.Spec PySem.Calls PyProof.Rows
namespace Mine
section
variable {w : World} {p : Program} {loose : List Str} {mean : ExcName → Option Value} {mg mb : Str → Option Value} {dp un : Nat} {gd : Option (List Code)} {cn : Str} {cs : Scope} {a : Addr} {ccd : Value} {cl : List (Str × Addr)} {outer : List Env} {A₀ : Around} {base h₀ : Heap} {L : Addr} {m : Str → Option Value} {s : Shared} {news : List (Addr × Obj)} {Q E : Value → Shared → Prop}

def agreed (bs : List Nat) (wish : Nat) : List Nat := bs.filter fun k => (bitsOf wish).all k.testBit
def held (ch : List Nat) (k : Nat) : Nat := ((bitsOf k).filter fun c => decide (c ∈ ch)).length
def shorts (bs ch : List Nat) (wish : Nat) : List Nat := (agreed bs wish).filter fun k => decide (held ch k < (bitsOf wish).length)
theorem occ_fact : ∀ c < 4, ∀ k < 16, (Builtin.Str.occurrences (rowS (0, k)) (ltr c) 0 (rowS (0, k)).length 1).isEmpty = !k.testBit c := by decide +kernel
theorem ok_ltr : ∀ c < 4, PyData.strOk (ltr c) = true := by decide +kernel
theorem ok_row : ∀ d < 7, ∀ k < 16, PyData.strOk (rowS (d, k)) = true := by decide +kernel
theorem row0_size (k : Nat) : (rowS (0, k)).cps.size = (bitsOf k).length := by simp [rowS]
theorem row0_get {k i c : Nat} (h : (rowS (0, k)).cps[i]? = some c) : ∃ a, (bitsOf k)[i]? = some a ∧ c = 97 + a := by
  simp only [rowS, List.replicate_zero, List.nil_append, List.getElem?_toArray, List.getElem?_map] at h
  cases hb : (bitsOf k)[i]? with
  | none => rw [hb] at h; cases h
  | some a => rw [hb] at h; exact ⟨a, rfl, (Option.some.inj h).symm⟩
theorem row0_asc : ∀ k < 16, (rowS (0, k)).cps.all (· < 128) = true := by decide +kernel
theorem none_all {wish k : Nat} : decide ((bitsOf wish).filterMap (fun c => if k.testBit c then none else some (ltr c)) = []) = (bitsOf wish).all k.testBit := by
  generalize bitsOf wish = l
  induction l with
  | nil => rfl
  | cons x l ih => cases hx : k.testBit x <;> simp [hx] <;> simpa using ih
theorem agreed_fm {bs : List Nat} {wish : Nat} : bs.filterMap (fun k => if (bitsOf wish).all k.testBit then some (rowS (0, k)) else none) = (agreed bs wish).map fun k => rowS (0, k) := by
  unfold agreed
  induction bs with
  | nil => rfl
  | cons x l ih => cases hx : (bitsOf wish).all x.testBit <;> simp only [List.filterMap_cons, List.filter_cons, hx, ih, if_true, Bool.false_eq_true, if_false, List.map_cons]
theorem held_fm {ch : List Nat} {k : Nat} : (bitsOf k).filterMap (fun c => if c ∈ ch then some (ltr c) else none) = ((bitsOf k).filter fun c => decide (c ∈ ch)).map ltr := by
  generalize bitsOf k = l
  induction l with
  | nil => rfl
  | cons x l ih => by_cases hx : x ∈ ch <;> simp [hx, ih]
theorem shorts_fm {bs ch : List Nat} {wish : Nat} : ((agreed bs wish).filterMap (fun k => if held ch k < (bitsOf wish).length then some (rowS (0, k)) else none)).length = (shorts bs ch wish).length := filterMap_len
theorem bit_fact : ∀ wish < 16, ∀ c < 4, (Builtin.bitAnd (((wish : Nat) : Int).fdiv (2 ^ ((c : Nat) : Int).toNat)) 1 != 0) = wish.testBit c := by decide +kernel
theorem bits_fm (wish : Nat) : (List.range 4).filterMap (fun c => if wish.testBit c then some (ltr c) else none) = (bitsOf wish).map ltr := by
  unfold bitsOf
  generalize List.range 4 = l
  induction l with
  | nil => rfl
  | cons x l ih => cases hx : wish.testBit x <;> simp [hx, ih]
set_option maxHeartbeats 400000 in
theorem passed_c {bs ch : List Nat} {st nb nc : Nat} {ab ac : Addr} {bvs cvs : List Value} {t3 : Tok} (S : Std 4 w p loose mean mg mb dp un cs outer A₀ base h₀ L m s.heap news) (hab : (ab, listOf bvs.toArray nb) ∈ news) (hac : (ac, listOf cvs.toArray nc) ∈ news)
    (hb : StrsAre bvs (bs.map fun k => rowS (0, k))) (hc : StrsAre cvs (ch.map ltr)) (hok : ∀ k ∈ bs, k < 16) (hlen : bs.length ≤ 7) (hch : ChOk ch) (hst : st < 4)
    (hno : ∀ wish, 1 ≤ wish → wish < 16 → st * (shorts bs ch wish).length < (bitsOf wish).length * bs.length)
    (hret : ∀ (h' : Heap) (tk' : Nat), Fr h₀ L h' m → News h₀ L h' news → Q (.bool false) { s with heap := h', toks := tk' }) :
    wpAny (model PP w) (ktrTop dp un gd cn cs L a ccd cl outer) (call (.ref 135) [.ref ab, .ref ac, .int st t3]) Q E s := by
  obtain ⟨B, F, X, N, T, hcs, hdp, hun⟩ := S
  refine wpAny_call ?_
  k_dflt (refine' code_defC ?k1 ?k2 ?k3 ?k4 ?k5 ?kA ?kF ?kK ?k6 ?k7 ?k8 ?k9 ?kB ?kD ?_ ?c2 ?c3 ?c4; (case kA => exact rfl); (case kF => exact rfl); (case kK => assumption); (case k1 => k_asm); (case k2 => k_asm); (case k3 => k_asm); (case k4 => k_asm); (case k5 => k_asm); (case k6 => k_is); (case k7 => k_is); (case k8 => ktr_room); (case k9 => exact BindsTo.of_eq rfl); (case kB => exact rfl); (case kD => decide +kernel); (case c2 => exact rfl); (case c3 => exact rfl); (case c4 => exact rfl); k_whole; intro g' L' h' tk' cells' FG' F' N' Y' B' X' T' l1; (try k_lt l1); k_cells Y'; (try simp only [List.cons_append, List.nil_append] at N'); (try dsimp only); (try k_lift B'); (try k_fold))
  iterate 1 (first | (k_unfold; (try dsimp only)) | walk1)
  refine wpAny_For ?_ (by intro _; rfl)
  iterate 9 (first | (k_unfold; (try dsimp only)) | walk1)
  rename News _ _ _ _ => N9
  rename Fr _ _ _ _ => F9
  rename IsRange _ _ _ _ _ _ _ _ => R9
  rename Frag.In _ _ => X9
  rename Top _ _ _ _ _ _ => T9
  rename Below _ _ _ _ => B9
  rename_i _ oN oW oC dN dW dC _ _ _ _ _ _ _
  replace dC : oC.data = .cell (some (.ref ac)) := dC
  replace dW : oW.data = .cell none := dW
  replace dN : oN.data = .cell none := dN
  refine iterRange F9 N9 R9 (by decide +kernel) fun I hI FI NI ltI => ?_
  refine for_inv_raw (it_range (a := 1) (c := 1) (n := 15) rfl I) (fun _ => rfl) (fun i m₁ led₁ => ∃ oN oW, led₁ = (L' + 1 + 1 + 1, oN) :: (L' + 1 + 1, oW) :: (L' + 1, oC) :: news ∧ (∃ ov, oN.data = .cell ov) ∧ (∃ ov, oW.data = .cell ov) ∧
    m₁ (Str.ofString "ballots") = some (.ref ab) ∧ m₁ (Str.ofString "seats") = some (.int st t3)) (fun _ _ _ _ _ _ => trivial) ?_ ?_ ?_ FI NI (by rw [show Builtin.Range.rangeSize 1 16 1 = 15 by decide +kernel]; rfl) ⟨_, _, rfl, ⟨_, dN⟩, ⟨_, dW⟩, rfl, rfl⟩
  · rintro i m₁ led₁ ⟨oN1, oW1, rfl, _⟩ p hp
    refine Nat.ne_of_lt ?_
    rcases List.mem_cons.mp hp with rfl | hp
    · exact ltI (_, oN) (.head _)
    rcases List.mem_cons.mp hp with rfl | hp
    · exact ltI (_, oW) (.tail _ (.head _))
    · exact ltI p (.tail _ (.tail _ hp))
  · rintro i v m₁ led₁ h1 oi tk1 hi ⟨tv, rfl⟩ ⟨oN1, oW1, rfl, ⟨ovN, dN1⟩, ⟨ovW, dW1⟩, e1, e2⟩ hO F1 N1
    rw [mset e1, mset e2] at F1
    have ltN := ltI (L' + 1 + 1 + 1, _) (.head _)
    have ltW := ltI (L' + 1 + 1, _) (.tail _ (.head _))
    have lt0 : ∀ p ∈ (L' + 1, oC) :: news, p.1 < L' + 1 + 1 := fun p hp => by
      rcases List.mem_cons.mp hp with rfl | hp
      · exact Nat.lt_succ_self _
      · exact Nat.lt_succ_of_lt (Nat.lt_succ_of_lt (l1 p hp))
    iterate 1 (first | (k_unfold; (try dsimp only)) | walk1)
    refine' storeX_C ?F ?N ?c ?U ?d ?_ ?a ?b
    case a => rfl
    case b => rfl
    case F => exact F1
    case N => exact N1
    case c => rfl
    case d => exact dW1
    case U => exact .tail (Nat.ne_of_gt ltW) (.tail (Nat.ne_of_gt (Nat.lt_succ_self _)) (.head fun p hp => Nat.ne_of_lt (lt0 p hp)))
    intro h2 oW2 F2 N2 dW2
    clear N1 F1
    generalize hwish : i + 1 = wish
    have hw1 : 1 ≤ wish := by omega
    have hw2 : wish < 16 := by omega
    replace dW2 : oW2.data = .cell (some (.int (wish : Nat) tv)) := by rw [dW2, ← hwish]; congr 3; omega
    iterate 1 (first | (k_unfold; (try dsimp only)) | walk1)
    refine wpAny_Assign_Name ?_
    refine comp_open (by with_unfolding_all rfl) (by rfl) (by decide) ?_
    iterate 6 (first | (k_unfold; (try dsimp only)) | walk1)
    refine comp_enum (led := (I, oi) :: (L' + 1 + 1 + 1, oN1) :: (L' + 1 + 1, oW2) :: (L' + 1, oC) :: news) (as := List.range 4) (fun c v v' => (∃ t, v = .int (c : Nat) t) ∧ ∃ t, v' = .str (ltr c) t) (fun c => if wish.testBit c then some (ltr c) else none) StrsAre (fun b y => ∃ t, y = .str b t) .nil
      (fun ys bs y b h ⟨t, e⟩ => e ▸ kct_snoc h) rfl F2 N2 (by decide +kernel) ?_ (by rw [sizeLine_eq]; decide) yo_none (by decide +kernel) (by decide) (by rfl) (by rfl) (by rfl) (by decide) ?_ ?_
    · intro i c t t' hc
      have h4 : i < 4 := by
        obtain ⟨h, _⟩ := Array.getElem?_eq_some_iff.mp hc
        exact h
      have h5 : ∀ i < 4, ∀ c, (Str.ofString "abcd").cps[i]? = some c → c = 97 + i := by decide +kernel
      rw [h5 i h4 c hc]
      exact ⟨i, by rw [List.getElem?_range h4], ⟨t, rfl⟩, t', rfl⟩
    · intro C3 D3 hD3 hDC3 c v v' ys its oC3 m₂ h3 tk3 E' hc4 ⟨⟨t, hv⟩, ⟨t', hv'⟩⟩ hN3 hx hx' F3 N3
      subst hv hv'
      simp only [List.cons_append] at N3
      refine wpAny_tests_one ?_
      iterate 9 (first | (k_unfold; (try dsimp only)) | walk1)
      rw [bit_fact wish hw2 c (by simpa using hc4)]
      cases hbit : wish.testBit c with
      | true =>
        refine if_yes rfl ?_
        iterate 1 (first | (k_unfold; (try dsimp only)) | walk1)
        exact ⟨h3, _, rfl, F3, N3, _, if_pos rfl, _, rfl⟩
      | false =>
        refine if_no Bool.false_ne_true ?_
        exact ⟨h3, _, rfl, F3, N3, if_neg Bool.false_ne_true⟩
    · intro nl ys h3 tk3 hys hnl F3 N3
      dsimp only [mOf] at F3
      dsimp only [retOf]
      rw [bits_fm] at hys
      clear N2 F2
      refine' storeX_C ?F ?N ?c ?U ?d ?_ ?a ?b
      case a => rfl
      case b => rfl
      case F => exact F3
      case N => exact N3
      case c => rfl
      case d => exact dN1
      case U =>
        exact .tail (Nat.ne_of_gt (hnl (L' + 1 + 1 + 1, oN1) (.tail _ (.head _)))) (.tail (Nat.ne_of_gt ltN) (.head fun p hp => by
          rcases List.mem_cons.mp hp with rfl | hp
          · exact Nat.ne_of_lt (Nat.lt_succ_self _)
          · exact Nat.ne_of_lt (Nat.lt_succ_of_lt (lt0 p hp))))
      intro h4 oN2 F4 N4 dN2
      clear N3 F3
      iterate 2 (first | (k_unfold; (try dsimp only)) | walk1)
      refine comp_assign (by with_unfolding_all rfl) (by with_unfolding_all rfl) (by rfl) (by decide) ?_
      iterate 1 (first | (k_unfold; (try dsimp only)) | walk1)
      refine comp_list_cell (led := (nl, listOf ys.toArray ys.length) :: (I, oi) :: (L' + 1 + 1 + 1, oN2) :: (L' + 1 + 1, oW2) :: (L' + 1, oC) :: news) (as := bs) (fun k v => ∃ t, v = .str (rowS (0, k)) t) (fun k => if (bitsOf wish).all k.testBit then some (rowS (0, k)) else none) StrsAre (fun b y => ∃ t, y = .str b t) .nil
        (fun ys bs y b h ⟨t, e⟩ => e ▸ kct_snoc h) rfl F4 N4 (.tail _ (.tail _ (.tail _ (.tail _ (.tail _ hab))))) ?_ ?_ ?_ (yo_some rfl rfl rfl) (by rfl) (fun _ => rfl) (fun _ => rfl) (fun _ => rfl) ?_ ?_
      · have := strsAre_length hb
        rw [List.length_map] at this
        rw [List.size_toArray, this]
      · intro q v hv
        obtain ⟨y, t, e, e'⟩ := strsAre_get hb hv
        rw [List.getElem?_map] at e
        cases hoc : bs[q]? with
        | none => rw [hoc] at e; cases e
        | some a => rw [hoc] at e; exact ⟨a, rfl, t, by rw [e', ← Option.some.inj e]⟩
      · rw [sizeLine_eq]; omega
      · intro C5 D5 hD5 hDC5 k v ys5 its5 oC5 m₅ o5 h5 tk5 E5 hk ⟨t5, hv5⟩ hN5 ho5 F5 N5
        subst hv5
        simp only [List.cons_append] at N5
        refine wpAny_tests_one ?_
        iterate 1 (first | (k_unfold; (try dsimp only)) | walk1)
        refine comp_open (by with_unfolding_all rfl) (by rfl) (by decide) ?_
        iterate 1 (first | (k_unfold; (try dsimp only)) | walk1)
        refine comp_list (led := (C5, oC5) :: (D5, listOf ys5.toArray ys5.length) :: (C5 + 1, o5) :: (nl, listOf ys.toArray ys.length) :: (I, oi) :: (L' + 1 + 1 + 1, oN2) :: (L' + 1 + 1, oW2) :: (L' + 1, oC) :: (news ++ its5)) (as := bitsOf wish) (fun c v => ∃ t, v = .str (ltr c) t) (fun c => if k.testBit c then none else some (ltr c)) StrsAre (fun b y => ∃ t, y = .str b t) .nil
          (fun ys bs y b h ⟨t, e⟩ => e ▸ kct_snoc h) rfl F5 N5 (.tail _ (.tail _ (.tail _ (.head _)))) ?_ ?_ ?_ yo_none (by decide) (by rfl) (by rfl) ?_ ?_
        · have := strsAre_length hys
          rw [List.length_map] at this
          rw [List.size_toArray, this]
        · intro q v hv
          obtain ⟨y, t, e, e'⟩ := strsAre_get hys hv
          rw [List.getElem?_map] at e
          cases hoc : (bitsOf wish)[q]? with
          | none => rw [hoc] at e; cases e
          | some a => rw [hoc] at e; exact ⟨a, rfl, t, by rw [e', ← Option.some.inj e]⟩
        · rw [sizeLine_eq]
          have := List.length_filter_le (fun x => wish.testBit x) (List.range 4)
          rw [List.length_range] at this
          exact Nat.le_trans this (by decide)
        · intro C6 D6 hD6 hDC6 c v ys6 its6 oC6 m₆ h6 tk6 E6 hcw ⟨t6, hv6⟩ hN6 hx6 F6 N6
          subst hv6
          simp only [List.cons_append] at N6
          refine wpAny_tests_one ?_
          iterate 7 (first | (k_unfold; (try dsimp only)) | walk1)
          have hc4 : c < 4 := by
            have := (List.mem_filter.mp hcw).1
            simpa using this
          rw [occ_fact c hc4 k (hok k hk)]
          cases hbit : k.testBit c with
          | false =>
            refine if_yes rfl ?_
            iterate 1 (first | (k_unfold; (try dsimp only)) | walk1)
            exact ⟨h6, _, rfl, F6, N6, _, if_neg Bool.false_ne_true, _, rfl⟩
          | true =>
            refine if_no Bool.false_ne_true ?_
            exact ⟨h6, _, rfl, F6, N6, if_pos rfl⟩
        · intro D6 ys6 h6 tk6 hys6 hD6 F6 N6
          dsimp only [mOf] at F6
          dsimp only [retOf]
          iterate 3 (first | (k_unfold; (try dsimp only)) | walk1)
          rename News _ _ _ _ => N7
          rename Fr _ _ _ _ => F7
          refine es_eq (xs := ys6) (ys := []) ⟨_, (N7 _ (.tail _ (.head _))).1, rfl, _, rfl⟩ ⟨_, (N7 _ (.head _)).1, rfl, _, rfl⟩ hys6 .nil (fun x hx => ?_) (fun x hx => nomatch hx) ?_ ?_
          · obtain ⟨c, hc, e⟩ := List.mem_filterMap.mp hx
            have hc4 : c < 4 := by
              have := (List.mem_filter.mp hc).1
              simpa using this
            cases hbit : k.testBit c <;> rw [hbit] at e <;> simp at e
            rw [← e]; exact ok_ltr c hc4
          · show un + 3 + 64 < cLine; omega
          rw [none_all]
          have N8 := news_sub N7 (led' := (C5, oC5) :: (D5, listOf ys5.toArray ys5.length) :: (C5 + 1, o5) :: (nl, listOf ys.toArray ys.length) :: (I, oi) :: (L' + 1 + 1 + 1, oN2) :: (L' + 1 + 1, oW2) :: (L' + 1, oC) :: (news ++ its5)) fun p hp => .tail _ (.tail _ hp)
          iterate 1 (first | (k_unfold; (try dsimp only)) | walk1)
          cases hall : (bitsOf wish).all k.testBit with
          | true =>
            refine if_yes rfl ?_
            clear N7
            iterate 1 (first | (k_unfold; (try dsimp only)) | walk1)
            exact ⟨_, _, rfl, F7, N8, _, if_pos rfl, _, rfl⟩
          | false =>
            refine if_no Bool.false_ne_true ?_
            exact ⟨_, _, rfl, F7, N8, if_neg Bool.false_ne_true⟩
      · intro al ys5 h5 tk5 hys5 hal F5 N5
        dsimp only [mOf] at F5
        dsimp only
        rw [agreed_fm] at hys5
        have hag : ∀ k ∈ agreed bs wish, k < 16 := fun k hk => hok k (List.mem_filter.mp hk).1
        have hagl : (agreed bs wish).length ≤ bs.length := List.length_filter_le _ _
        iterate 1 (first | (k_unfold; (try dsimp only)) | walk1)
        refine comp_assign (by with_unfolding_all rfl) (by with_unfolding_all rfl) (by rfl) (by decide) ?_
        iterate 1 (first | (k_unfold; (try dsimp only)) | walk1)
        refine comp_list (led := (al, listOf ys5.toArray ys5.length) :: (nl, listOf ys.toArray ys.length) :: (I, oi) :: (L' + 1 + 1 + 1, oN2) :: (L' + 1 + 1, oW2) :: (L' + 1, oC) :: news) (as := agreed bs wish) (fun k v => ∃ t, v = .str (rowS (0, k)) t) (fun k => if held ch k < (bitsOf wish).length then some (rowS (0, k)) else none) StrsAre (fun b y => ∃ t, y = .str b t) .nil
          (fun ys bs y b h ⟨t, e⟩ => e ▸ kct_snoc h) rfl F5 N5 (.head _) ?_ ?_ ?_ (yo_some rfl rfl rfl) (by decide) (by rfl) (by rfl) ?_ ?_
        · have := strsAre_length hys5
          rw [List.length_map] at this
          rw [List.size_toArray, this]
        · intro q v hv
          obtain ⟨y, t, e, e'⟩ := strsAre_get hys5 hv
          rw [List.getElem?_map] at e
          cases hoc : (agreed bs wish)[q]? with
          | none => rw [hoc] at e; cases e
          | some a => rw [hoc] at e; exact ⟨a, rfl, t, by rw [e', ← Option.some.inj e]⟩
        · rw [sizeLine_eq]; omega
        · intro C7 D7 hD7 hDC7 k v ys7 its7 oC7 m₇ h7 tk7 E7 hk ⟨t7, hv7⟩ hN7 hx7 F7 N7
          subst hv7
          simp only [List.cons_append] at N7
          refine wpAny_tests_one ?_
          have hk16 := hag k hk
          iterate 5 (first | (k_unfold; (try dsimp only)) | walk1)
          refine comp_open (by with_unfolding_all rfl) (by rfl) (by decide) ?_
          iterate 1 (first | (k_unfold; (try dsimp only)) | walk1)
          refine comp_str (led := (C7, oC7) :: (D7, listOf ys7.toArray ys7.length) :: (al, listOf ys5.toArray ys5.length) :: (nl, listOf ys.toArray ys.length) :: (I, oi) :: (L' + 1 + 1 + 1, oN2) :: (L' + 1 + 1, oW2) :: (L' + 1, oC) :: (news ++ its7)) (as := bitsOf k) (fun c v => ∃ t, v = .str (ltr c) t) (fun c => if c ∈ ch then some (ltr c) else none) StrsAre (fun b y => ∃ t, y = .str b t) .nil
            (fun ys bs y b h ⟨t, e⟩ => e ▸ kct_snoc h) rfl F7 N7 (row0_size k) ?_ ?_ yo_none (row0_asc k hk16) (by decide) (by rfl) (by rfl) ?_ ?_
          · intro i c t hc
            obtain ⟨a, ha, rfl⟩ := row0_get hc
            exact ⟨a, ha, t, rfl⟩
          · rw [sizeLine_eq]
            have := List.length_filter_le (fun x => k.testBit x) (List.range 4)
            rw [List.length_range] at this
            exact Nat.le_trans this (by decide)
          · intro C8 D8 hD8 hDC8 c v ys8 its8 oC8 m₈ h8 tk8 E8 hcw ⟨t8, hv8⟩ hN8 hx8 F8 N8
            subst hv8
            simp only [List.cons_append] at N8
            refine wpAny_tests_one ?_
            iterate 3 (first | (k_unfold; (try dsimp only)) | walk1)
            refine in_list_strs (vs := cvs) (ys := ch.map ltr) ⟨_, (N8 (ac, listOf cvs.toArray nc) ?_).1, rfl, _, rfl⟩ hc ?_
            · simp only [List.mem_cons, List.mem_append, hac, true_or, or_true]
            rw [any_ltr]
            iterate 1 (first | (k_unfold; (try dsimp only)) | walk1)
            by_cases hcc : c ∈ ch
            · refine if_yes (decide_eq_true hcc) ?_
              iterate 1 (first | (k_unfold; (try dsimp only)) | walk1)
              exact ⟨_, _, rfl, F8, N8, _, if_pos hcc, _, rfl⟩
            · refine if_no (by simpa using hcc) ?_
              exact ⟨_, _, rfl, F8, N8, if_neg hcc⟩
          · intro D8 ys8 h8 tk8 hys8 hD8 F8 N8
            rw [held_fm] at hys8
            have hl8 : ys8.length = held ch k := by rw [strsAre_length hys8, List.length_map]; rfl
            have hlh : held ch k ≤ 4 := by
              have h1 := List.length_filter_le (fun x => k.testBit x) (List.range 4)
              have h2 := List.length_filter_le (fun c => decide (c ∈ ch)) (bitsOf k)
              rw [List.length_range] at h1
              exact Nat.le_trans h2 h1
            dsimp only [mOf] at F8
            dsimp only [retOf]
            iterate 1 (first | (k_unfold; (try dsimp only)) | walk1)
            refine kst_len N8 (.head _) hl8 (by omega) ?_
            iterate 6 (first | (k_unfold; (try dsimp only)) | walk1)
            refine kst_len N8 (.tail _ (.tail _ (.tail _ (.tail _ (.head _))))) (k := (bitsOf wish).length) (by rw [strsAre_length hys, List.length_map]) ?_ ?_
            · have h1 := List.length_filter_le (fun x => wish.testBit x) (List.range 4)
              rw [List.length_range] at h1
              have h2 : (bitsOf wish).length ≤ 4 := h1
              omega
            iterate 2 (first | (k_unfold; (try dsimp only)) | walk1)
            have N9' := news_sub N8 (led' := (C7, oC7) :: (D7, listOf ys7.toArray ys7.length) :: (al, listOf ys5.toArray ys5.length) :: (nl, listOf ys.toArray ys.length) :: (I, oi) :: (L' + 1 + 1 + 1, oN2) :: (L' + 1 + 1, oW2) :: (L' + 1, oC) :: (news ++ its7)) fun p hp => .tail _ hp
            by_cases hsh : held ch k < (bitsOf wish).length
            · refine if_yes (decide_eq_true (by omega)) ?_
              clear N8
              iterate 1 (first | (k_unfold; (try dsimp only)) | walk1)
              exact ⟨_, _, rfl, F8, N9', _, if_pos hsh, _, rfl⟩
            · refine if_no (by rw [decide_eq_true_eq]; omega) ?_
              exact ⟨_, _, rfl, F8, N9', if_neg hsh⟩
        · intro sl ys7 h7 tk7 hys7 hsl F7 N7
          dsimp only [mOf] at F7
          dsimp only
          have hl7 : ys7.length = (shorts bs ch wish).length := by rw [strsAre_length hys7, shorts_fm]
          have hls : (shorts bs ch wish).length ≤ 7 := Nat.le_trans (List.length_filter_le _ _) (by omega)
          have hlb : bvs.length = bs.length := by rw [strsAre_length hb, List.length_map]
          have hln : ys.length = (bitsOf wish).length := by rw [strsAre_length hys, List.length_map]
          have hnw := hno wish hw1 hw2
          generalize (shorts bs ch wish).length = sn at hl7 hls hnw
          generalize (bitsOf wish).length = bn at hln hnw
          iterate 11 (first | (k_unfold; (try dsimp only)) | walk1)
          refine kst_len N7 (.head _) hl7 (by omega) ?_
          iterate 8 (first | (k_unfold; (try dsimp only)) | walk1)
          have hbn : bn ≤ 4 := by
            have h1 := List.length_filter_le (fun x => wish.testBit x) (List.range 4)
            rw [List.length_range] at h1
            have h2 : (bitsOf wish).length ≤ 4 := h1
            rw [strsAre_length hys, List.length_map] at hln
            omega
          refine kst_len N7 (.tail _ (.tail _ (.head _))) hln (by omega) ?_
          iterate 6 (first | (k_unfold; (try dsimp only)) | walk1)
          refine kst_len N7 (.tail _ (.tail _ (.tail _ (.tail _ (.tail _ (.tail _ (.tail _ hab))))))) hlb (by omega) ?_
          iterate 3 (first | (k_unfold; (try dsimp only)) | walk1)
          refine if_no (by rw [decide_eq_true_eq, ← Int.natCast_mul, ← Int.natCast_mul]; omega) ?_
          iterate 2 (first | (k_unfold; (try dsimp only)) | walk1)
          iterate 1 (first | (k_unfold; (try dsimp only)) | walk1)
          refine ⟨_, _, _, _, rfl, F7, (news_sub N7 fun p hp => ?_ : News g' L' h7 ((I, oi) :: (L' + 1 + 1 + 1, oN2) :: (L' + 1 + 1, oW2) :: (L' + 1, oC) :: news)), _, _, rfl, ⟨_, dN2⟩, ⟨_, dW2⟩, rfl, rfl⟩
          exact .tail _ (.tail _ (.tail _ hp))
  · rintro m₁ led₁ h3 tk3 ⟨oN1, oW1, rfl, _⟩ F3 N3
    dsimp only
    iterate 4 (first | (k_unfold; (try dsimp only)) | walk1)
    exact hret _ _ (by assumption) (news_sub (by assumption) fun p hp => .tail _ (.tail _ (.tail _ hp)))
end
end Mine

end

section
open PySem PySem.W PySem.Spec PySem.Calls PyProof.Rows
open Builtin Builtin.ObjectAttr
namespace Mine
theorem slot_fset : Slot "function" "__setattr__" "object.__setattr__" :=
  .of (owner := "object") (n := "__setattr__") (by rw [typeLookup_type, builtinLookup_eq_fast]; kernel_rfl) (by decide +kernel) (by decide +kernel) (by decide +kernel)
    (by first | exact .inl (by decide +kernel) | exact .inr (by decide +kernel)) (by rw [isSubtype_type]; kernel_rfl)
theorem entry_oset : entryFor table "object.__setattr__" = some Builtin.«object.__setattr__» := entryFor_of_tree (by kernel_rfl)
theorem args_oset (a b c : Value) : argsOk "object.__setattr__" ⟨[a, b, c], []⟩ := by
  unfold argsOk; kernel_rfl
theorem mro_fn : mroOf (.type "function") = pure [.type "function", .type "object"] := by rw [mroOf_type]; kernel_rfl
theorem look_read : typeLookup (.type "function") (Str.ofString "read") = pure none := by rw [typeLookup_type, builtinLookup_eq_fast]; kernel_rfl
theorem pass_fn (self : Value) : refuseLoop self "__setattr__" [.type "function", .type "object"] = pure () := by
  first | rfl | (unfold refuseLoop; simp only [List.forIn_cons]; rfl)
section
variable {prog : Program} {w : World} {A : Around} {E : Value → Shared → Prop}
set_option maxHeartbeats 1000000 in
theorem fn_entry {x : Addr} {o : Obj} {v : Value} {tk : Tok} {h : Heap} {g : Array GenState} {d : Drawn} {t : Nat} {os : OsState} {Q : Fin → Shared → Prop} (hx : h.get? x = some o) (hc : o.cls = .type "function") (hd : o.dict = none) (hcd : ∀ c, o.data ≠ .cls c)
    (hq : ∀ h' tk', h'.get? x = some { o with dict := some h.objs.size } → h'.Ns1 h.objs.size (fun y => if y = Str.ofString "read" then some v else none) → (∀ b ob, b ≠ x → h.get? b = some ob → h'.get? b = some ob) → Q (.done (.ret .none)) ⟨h', g, d, tk', os⟩) :
    wpAny (model prog w) A (Builtin.«object.__setattr__» ⟨[.ref x, .str (Str.ofString "read") tk, v], []⟩) Q E ⟨h, g, d, t, os⟩ := by
  unfold Builtin.«object.__setattr__»
  repeat (first | rw [refuse_eq] | rw [pass_fn] | rw [mro_fn] | rw [look_read] | (with_reducible refine wpAny_loadPart_at hx ?_; rw [hc]) | wp_step)
  rw [hd]
  dsimp only
  rw [if_neg (by decide +kernel)]
  split
  · rename_i c hcd'
    exact absurd hcd' (hcd c)
  have hx₁ : (h.push { cls := .type "dict", data := .dict #[] }).get? x = some o := Heap.get?_push_of_some _ hx
  have hxs : x ≠ h.objs.size := Nat.ne_of_lt (Heap.lt_size hx)
  refine wpAny_bind (wpAny_alloc' ?_)
  refine wpAny_bind (wpAny_update' hx₁ ?_)
  rw [show dictMade (Value.type "function") x h.objs.size = pure (some h.objs.size) from by first | rfl | (unfold dictMade; simp [finalisedInACycleAlone])]
  refine wpAny_pure ?_
  have hgd : ((h.push { cls := .type "dict", data := .dict #[] }).update x fun o => { cls := o.cls, dict := some h.objs.size, data := o.data, slots := o.slots }).get? h.objs.size
      = some { cls := .type "dict", data := .dict #[] } :=
    (Heap.get?_update_ne _ _ _ _ hxs.symm).trans (Heap.get?_push_at rfl rfl)
  have hnd : ((h.push { cls := .type "dict", data := .dict #[] }).update x fun o => { cls := o.cls, dict := some h.objs.size, data := o.data, slots := o.slots }).Ns h.objs.size (fun _ => none) :=
    ⟨_, #[], _, hgd, rfl, fun e he => absurd he (by simp), fun _ => rfl⟩
  show wpAny _ _ (storeInDict h.objs.size (.str (Str.ofString "read") tk) (Str.ofString "read") v) _ _ _
  unfold storeInDict newKeyGuard
  refine wpAny_bind (wpAny_pure (wpAny_bind (wpAny_nsSet1 (Heap.Ns1.of_empty hnd) fun h' hn' hs => ?_)))
  obtain ⟨oD, esD, epD, hoD, hdD, hcD⟩ := hn'.count (Within.cons (Str.ofString "read") v Within.nil)
  refine wpAny_bind (wpAny_lookBehind hoD (by rw [hdD]; exact pastItsLine_dict (Nat.le_trans hcD (by rw [List.length_cons, List.length_nil, sizeLine_eq]; omega))) ?_)
  wp_walk
  refine hq h' _ ?_ ?_ fun b ob hbx hb => ?_
  · refine (hs.2 x hxs).trans (Heap.get?_update_self _ hx₁ ?_)
    have hfr := (Heap.get?_some_iff.mp hx).2
    obtain ⟨oc, od, odt, osl⟩ := o
    cases odt <;> first | rfl | exact hfr
  · obtain ⟨o', es, ep, e1, e2, e3, eu, e4⟩ := hn'
    exact ⟨o', es, ep, e1, e2, e3, eu, fun y => by rw [e4 y]⟩
  · exact (hs.2 b (Nat.ne_of_lt (Heap.lt_size hb))).trans ((Heap.get?_update_ne _ _ _ _ hbx).trans (Heap.get?_push_of_some _ hb))

theorem fn_store {s : Shared} {x : Addr} {o : Obj} {v : Value} {Q : Unit → Shared → Prop} (hx : s.heap.get? x = some o) (hc : o.cls = .type "function") (hd : o.dict = none) (hcd : ∀ c, o.data ≠ .cls c)
    (hq : ∀ h' tk', h'.get? x = some { o with dict := some s.heap.objs.size } → h'.Ns1 s.heap.objs.size (fun y => if y = Str.ofString "read" then some v else none) → (∀ b ob, b ≠ x → s.heap.get? b = some ob → h'.get? b = some ob) → Q () { s with heap := h', toks := tk' }) :
    wpAny (model prog w) A (setAttr (.ref x) (Str.ofString "read") v) Q E s := by
  obtain ⟨h, g, d, t, os⟩ := s
  unfold setAttr
  refine wpAny_bind (wpAny_mkText ?_)
  refine wpAny_bind (wpAny_callSpecial?_slot (T := "function") ⟨o, hx, hc⟩ slot_fset (wpAny_call_entry slot_fset ⟨o, hx, hc⟩ entry_oset ?_ (args_oset _ _ _)))
  exact fn_entry hx hc hd hcd fun h' tk' a b c => ⟨_, rfl, wpAny_pure (hq h' tk' a b c)⟩

def ReadDict (oD : Obj) (fR : Addr) : Prop := ∃ es ep, oD.data = .dict es ep ∧ StrKeys es ∧ UniqKeys es ∧ ∀ y, nsFind es y = if y = Str.ofString "read" then some (.ref fR) else none
theorem fn_store_K {s : Shared} {h₀ : Heap} {L : Addr} {m : Str → Option Value} {led : List (Addr × Obj)} {x fR : Addr} {o : Obj} {Q : Unit → Shared → Prop} (F : Fr h₀ L s.heap m) (N : News h₀ L s.heap ((x, o) :: led)) (off : ∀ p ∈ led, p.1 ≠ x) (hc : o.cls = .type "function") (hd : o.dict = none) (hcd : ∀ c, o.data ≠ .cls c)
    (hq : ∀ h' tk' D oD, ReadDict oD fR → Fr h₀ L h' m → News h₀ L h' ((D, oD) :: (x, { o with dict := some D }) :: led) → (∀ p ∈ (x, o) :: led, p.1 < D) → Q () { s with heap := h', toks := tk' }) :
    wpAny (model prog w) A (setAttr (.ref x) (Str.ofString "read") (.ref fR)) Q E s := by
  have zx := N _ (.head _)
  refine fn_store zx.1 hc hd hcd fun h' tk' hx' hns hk => ?_
  obtain ⟨oD, es, ep, hoD, hdd, hst, hu, hf⟩ := hns
  refine hq h' tk' s.heap.objs.size oD ⟨es, ep, hdd, hst, hu, hf⟩ (fr_ext F (I := x) (fun b o hb e => hk b o hb e) zx.2.1 zx.2.2) (fun p hp => ?_) fun p hp => Heap.lt_size (N p hp).1
  rcases List.mem_cons.mp hp with rfl | hp
  · exact ⟨hoD, fr_fresh F (Nat.le_refl _)⟩
  rcases List.mem_cons.mp hp with rfl | hp
  · exact ⟨hx', zx.2⟩
  · have z := N p (.tail _ hp)
    exact ⟨hk _ _ (off p hp) z.1, z.2⟩
end
end Mine

end

section
open PySem PySem.W PySem.Spec PySem.Calls PyProof.Rows
open Builtin Builtin.ObjectAttr
namespace Mine
theorem slot_fga : Slot "function" "__getattribute__" "object.__getattribute__" :=
  .of (owner := "object") (n := "__getattribute__") (by rw [typeLookup_type, builtinLookup_eq_fast]; kernel_rfl) (by decide +kernel) (by decide +kernel) (by decide +kernel)
    (by first | exact .inl (by decide +kernel) | exact .inr (by decide +kernel)) (by rw [isSubtype_type]; kernel_rfl)
theorem entry_oga : entryFor table "object.__getattribute__" = some Builtin.«object.__getattribute__» := entryFor_of_tree (by kernel_rfl)
theorem args_oga (a b : Value) : argsOk "object.__getattribute__" ⟨[a, b], []⟩ := by
  unfold argsOk; kernel_rfl
theorem look_fga : typeLookup (.type "function") "__getattr__" = pure none := by rw [typeLookup_type, builtinLookup_eq_fast]; kernel_rfl
section
variable {prog : Program} {w : World} {A : Around} {E : Value → Shared → Prop} {h : Heap} {g : Array GenState} {d : Drawn} {t : Nat} {os : OsState} {x D fR : Addr} {o oD : Obj}
set_option maxHeartbeats 1000000 in
theorem fg_entry {tk : Tok} {Q : Fin → Shared → Prop} (hx : h.get? x = some o) (hc : o.cls = .type "function") (hd : o.dict = some D) (hcd : ∀ c, o.data ≠ .cls c) (hD : h.get? D = some oD) (R : ReadDict oD fR) (hq : Q (.done (.ret (.ref fR))) ⟨h, g, d, t, os⟩) :
    wpAny (model prog w) A (Builtin.«object.__getattribute__» ⟨[.ref x, .str (Str.ofString "read") tk], []⟩) Q E ⟨h, g, d, t, os⟩ := by
  have hT : (⟨h, g, d, t, os⟩ : Shared).TypeIs (.ref x) "function" := ⟨_, hx, hc⟩
  have f4 := look_read
  obtain ⟨es, ep, hdd, hst, hu, hf⟩ := R
  have hns : h.Ns D (fun y => if y = Str.ofString "read" then some (.ref fR) else none) := ⟨oD, es, ep, hD, hdd, hst, hf⟩
  repeat (any_goals (first | assumption | wp_step))
  split
  · rename_i c hcd'
    exact absurd hcd' (hcd c)
  unfold instanceDict
  refine wpAny_bind (wpAny_loadPart_at hx ?_)
  rw [hc, hd]
  refine wpAny_pure ?_
  dsimp only
  show wpAny _ _ (nsGet D (Str.ofString "read")) _ _ _
  refine wpAny_nsGet hns ?_
  rw [if_pos rfl]
  repeat (any_goals (first | assumption | wp_step))

theorem fg_call {tk : Tok} {R' : Result → Shared → Prop} (hx : h.get? x = some o) (hc : o.cls = .type "function") (hd : o.dict = some D) (hcd : ∀ c, o.data ≠ .cls c) (hD : h.get? D = some oD) (R : ReadDict oD fR) (hq : R' (.ok (.ret (.ref fR))) ⟨h, g, d, t, os⟩) :
    codeAny (model prog w) A (.call (.builtin "object.__getattribute__") ⟨[.ref x, .str (Str.ofString "read") tk], []⟩) R' ⟨h, g, d, t, os⟩ :=
  codeAny_call_builtin slot_fga.plain entry_oga (slot_fga.check _ _ _ _ _ _ _ _ (show (⟨h, g, d, t, os⟩ : Shared).TypeIs (.ref x) "function" from ⟨_, hx, hc⟩) (args_oga _ _) (fg_entry hx hc hd hcd hD R hq))
theorem fg_attr {tk : Tok} {ex : Bool} {Q : Value → Shared → Prop} (hx : h.get? x = some o) (hc : o.cls = .type "function") (hd : o.dict = some D) (hcd : ∀ c, o.data ≠ .cls c) (hD : h.get? D = some oD) (R : ReadDict oD fR) (hq : Q (.ref fR) ⟨h, g, d, t, os⟩) :
    wpAny (model prog w) A (getAttrBy (.ref x) (.str (Str.ofString "read") tk) true ex) Q E ⟨h, g, d, t, os⟩ := by
  have hT : (⟨h, g, d, t, os⟩ : Shared).TypeIs (.ref x) "function" := ⟨_, hx, hc⟩
  have f2 := slot_fga.lookup
  have f3 := slot_fga.bind (.ref x)
  repeat (any_goals (first | assumption | wp_step))
  rw [if_neg (by cases ex <;> decide)]
  repeat (any_goals (first | assumption | wp_step))
  refine fg_call hx hc hd hcd hD R ?_
  repeat (any_goals (first | assumption | wp_step))

theorem fn_method {s : Shared} {pl : Sem Bool} {Q : Value × List Value → Shared → Prop} (hx : s.heap.get? x = some o) (hc : o.cls = .type "function") (hd : o.dict = some D) (hcd : ∀ c, o.data ≠ .cls c) (hD : s.heap.get? D = some oD) (R : ReadDict oD fR)
    (hq : ∀ tk', Q (.ref fR, []) { s with toks := tk' }) : wpAny (model prog w) A (getMethod (.ref x) (Str.ofString "read") pl) Q E s := by
  obtain ⟨h, g, d, t, os⟩ := s
  have hT : (⟨h, g, d, t, os⟩ : Shared).TypeIs (.ref x) "function" := ⟨_, hx, hc⟩
  unfold getMethod
  refine wpAny_bind (wpAny_specialOf hT slot_fga.lookup ?_)
  dsimp only
  rw [if_neg (by decide +kernel)]
  refine wpAny_bind (wpAny_specialOf hT look_fga ?_)
  rw [if_neg (by decide)]
  refine wpAny_bind (wpAny_specialOf hT look_read ?_)
  dsimp only
  unfold getAttr
  refine wpAny_bind (wpAny_bind (wpAny_mkText (fg_attr hx hc hd hcd hD R ?_)))
  exact wpAny_pure (hq _)
end
end Mine

end

section
open PySem PySem.W PySem.Spec PySem.Calls PyProof.Rows
namespace Mine
/-- what the nested reader does, called with size 1 from anywhere: it hands out the sign at the place that its list keeps, and moves on -/
def ReadC (w : World) (text : Str) (fR aL : Addr) (own : List (Addr × Obj)) : Prop :=
  ∀ {p : Program} {loose : List Str} {mean : ExcName → Option Value} {mg mb : Str → Option Value} {dp un : Nat} {gd : Option (List Code)} {cn : Str} {cs : Scope} {a : Addr} {ccd : Value} {cl : List (Str × Addr)} {outer : List Env} {A₀ : Around} {base h₀ : Heap} {L : Addr} {m : Str → Option Value} {s : Shared} {led : List (Addr × Obj)} {Q E : Value → Shared → Prop} {pos k : Nat} {tp t1 : Tok},
    Std 2 w p loose mean mg mb dp un cs outer A₀ base h₀ L m s.heap ((aL, W.listOf #[.int (pos : Nat) tp] k) :: led) → (∀ p ∈ own, p ∈ led) → (∀ p ∈ led, p.1 ≠ aL) → (Txt.slice text (some (pos : Int)) (some ((pos : Int) + 1))).length ≤ 1 →
    (∀ (h' : Heap) (tk' k' : Nat) (t' tp' : Tok), Fr h₀ L h' m → News h₀ L h' ((aL, W.listOf #[.int ((pos + (Txt.slice text (some (pos : Int)) (some ((pos : Int) + 1))).length : Nat) : Int) tp'] k') :: led) → Q (.str (Txt.slice text (some (pos : Int)) (some ((pos : Int) + 1))) t') { s with heap := h', toks := tk' }) →
    wpAny (model PP w) (ktrTop dp un gd cn cs L a ccd cl outer) (call (.ref fR) [.int 1 t1]) Q E s
section
variable {w : World} {p : Program} {loose : List Str} {mean : ExcName → Option Value} {mg mb : Str → Option Value} {dp un : Nat} {gd : Option (List Code)} {cn : Str} {cs : Scope} {a : Addr} {ccd : Value} {cl : List (Str × Addr)} {outer : List Env} {A₀ : Around} {base h₀ : Heap} {L : Addr} {m : Str → Option Value} {s : Shared} {rest : List (Addr × Obj)} {Q E : Value → Shared → Prop}
set_option maxHeartbeats 1000000 in
theorem machine_c {text : Str} {t : Tok} (htl : text.length ≤ 1000) (S : Std 4 w p loose mean mg mb dp un cs outer A₀ base h₀ L m s.heap ((113, tabObj #[]) :: rest)) (codeHd : CodeHd h₀ 117 113) (hoff : ∀ p ∈ rest, p.1 ≠ 113)
    (hret : ∀ (M : MV) (h' : Heap) (tk' n' : Nat) (fS D cS fR cR aL cA cT : Addr) (k : Nat) (oD oS ocS oR ocR oA oT oP : Obj) (tp tl : Tok), Fr h₀ L h' m →
      News h₀ L h' (machL w M [] n' ((D, oD) :: (fS, oS) :: (cS, ocS) :: (fR, oR) :: (cR, ocR) :: (aL, W.listOf #[.int 0 tp] k) :: (cA, oA) :: (cT, oT) :: (113, oP) :: rest)) →
      M.st = .ref fS → M.ln = .int 1 tl → ReadDict oD fR → (oS.cls = .type "function" ∧ oS.dict = some D ∧ ∀ c, oS.data ≠ .cls c) → ReadC w text fR aL [(fR, oR), (cR, ocR), (cA, oA), (cT, oT)] → (∃ fd, oR = { cls := .type "function", data := .func fd }) → (∃ ps, oP = tabObj ps) →
      (113 < cT ∧ (∀ p ∈ rest, p.1 < cT) ∧ cT < cA ∧ cA < aL ∧ aL < cR ∧ cR < fR ∧ fR < cS ∧ cS < fS ∧ fS < D ∧ D < M.d ∧ M.d < M.x ∧ M.x < M.l) → Q (.ref M.x) { s with heap := h', toks := tk' }) :
    wpAny (model PP w) (ktrTop dp un gd cn cs L a ccd cl outer) (call (.ref 118) [.str text t]) Q E s := by
  obtain ⟨B, F, X, N, T, hcs, hdp, hun⟩ := S
  refine wpAny_call ?_
  k_dflt (refine' code_defC ?k1 ?k2 ?k3 ?k4 ?k5 ?kA ?kF ?kK ?k6 ?k7 ?k8 ?k9 ?kB ?kD ?_ ?c2 ?c3 ?c4; (case kA => exact rfl); (case kF => exact rfl); (case kK => assumption); (case k1 => k_asm); (case k2 => k_asm); (case k3 => k_asm); (case k4 => k_asm); (case k5 => k_asm); (case k6 => k_is); (case k7 => k_is); (case k8 => ktr_room); (case k9 => exact BindsTo.of_eq rfl); (case kB => exact rfl); (case kD => decide +kernel); (case c2 => exact rfl); (case c3 => exact rfl); (case c4 => exact rfl); k_whole; intro g' L' h' tk' cells' FG' F' N' Y' B' X' T' l1; (try k_lt l1); k_cells Y'; (try simp only [List.cons_append, List.nil_append] at N'); (try dsimp only); (try k_lift B'); (try k_fold))
  have codeHd' : CodeHd g' 117 113 := codeHd.keeps FG'.keep
  rename_i oA oT dA dT
  replace dA : oA.data = .cell none := dA
  replace dT : oT.data = .cell (some (.str text t)) := dT
  iterate 7 (first | (k_unfold; (try dsimp only)) | walk1)
  rename Addr => aL
  rename News _ _ _ _ => N1
  rename Fr _ _ _ _ => F1
  rename (L' + 1 + 1 < aL ∧ _) => lt1
  have lt1r := allLt_all lt1.2.2.2
  have lt0r := allLt_all l1.2
  refine' storeX_C ?F ?N ?c ?U ?d ?_ ?a ?b
  case a => rfl
  case b => rfl
  case F => exact F1
  case N => exact N1
  case c => rfl
  case d => exact dA
  case U =>
    exact .tail (Nat.ne_of_gt lt1.1) (.head fun p hp => by
      rcases List.mem_cons.mp hp with rfl | hp
      · exact Nat.ne_of_lt (Nat.lt_succ_self _)
      rcases List.mem_cons.mp hp with rfl | hp
      · exact Nat.ne_of_lt (Nat.lt_succ_of_lt (Nat.lt_succ_of_lt l1.1))
      · exact Nat.ne_of_lt (Nat.lt_succ_of_lt (Nat.lt_succ_of_lt (lt0r p hp))))
  intro h2 oA2 F2 N2 dA2
  iterate 2 (first | (k_unfold; (try dsimp only)) | walk1)
  refine' nestDef_K ?d0 ?k0 ?a0 ?_
  case d0 => exact rfl
  case k0 => exact rfl
  case a0 => exact rfl
  refine' nest_K ?F ?N ?T ?C ?cd ?U ?t ?n ?cl ?_
  case F => exact F2
  case N => exact N2
  case T => exact T'
  case cd => exact rfl
  case C => exact codeHd'
  case U => exact .tail (Nat.ne_of_gt lt1.2.2.1) (.tail (Nat.ne_of_gt (Nat.lt_succ_of_lt (Nat.lt_succ_of_lt l1.1))) (.tail (Nat.ne_of_gt (Nat.lt_succ_of_lt l1.1)) (.head hoff)))
  case t => kn_triples
  case n => kn_among
  case cl => exact rfl
  intro fR cR ocR vsR tR ctR dcR h3 tk3 F3 N3 dR dR2 ltR ltR2
  dsimp only at N3
  clear N2 F2 N1 F1
  iterate 3 (first | (k_unfold; (try dsimp only)) | walk1)
  rename News _ _ _ _ => N4
  rename Fr _ _ _ _ => F4
  refine' kla_eval ?d0 ?_
  case d0 => exact rfl
  refine' kla_nest ?F ?N ?T ?C ?cd ?U ?t ?n ?cl ?_
  case F => exact F4
  case N => exact N4
  case T => exact T'
  case cd => exact rfl
  case C => exact codeHd'
  case U => exact .tail (Nat.ne_of_gt (Nat.lt_trans (ltR (113, tabObj #[]) (.tail _ (.tail _ (.tail _ (.head _))))) ltR2)) (.tail (Nat.ne_of_gt (ltR (113, tabObj #[]) (.tail _ (.tail _ (.tail _ (.head _)))))) (.tail (Nat.ne_of_gt lt1.2.2.1) (.tail (Nat.ne_of_gt (Nat.lt_succ_of_lt (Nat.lt_succ_of_lt l1.1))) (.tail (Nat.ne_of_gt (Nat.lt_succ_of_lt l1.1)) (.head hoff)))))
  case t => kn_triples
  case n => kn_among
  case cl => exact rfl
  intro fS cS ocS vsS tS ctS h5 tk5 F5 N5 dS dS2 ltS ltS2
  dsimp only at N5
  clear N4 F4
  iterate 5 (first | (k_unfold; (try dsimp only)) | walk1)
  rename News _ _ _ _ => N6
  rename Fr _ _ _ _ => F6

  refine fn_store_K F6 N6 (fun p hp => ?_) rfl rfl (fun c e => by cases e) fun h6 tk6 D oD hD F7 N7 ltD => ?_
  · refine Nat.ne_of_lt ?_
    rcases List.mem_cons.mp hp with rfl | hp
    · exact ltS2
    refine Nat.lt_trans ?_ ltS2
    rcases List.mem_cons.mp hp with rfl | hp
    · exact ltS _ (.head _)
    rcases List.mem_cons.mp hp with rfl | hp
    · exact ltS _ (.tail _ (.head _))
    rcases List.mem_cons.mp hp with rfl | hp
    · exact ltS _ (.tail _ (.tail _ (.head _)))
    rcases List.mem_cons.mp hp with rfl | hp
    · exact ltS _ (.tail _ (.tail _ (.tail _ (.head _))))
    rcases List.mem_cons.mp hp with rfl | hp
    · exact ltS _ (.tail _ (.tail _ (.tail _ (.tail _ (.head _)))))
    rcases List.mem_cons.mp hp with rfl | hp
    · have h113 := ltS _ (List.Mem.tail _ (.tail _ (.tail _ (.tail _ (.tail _ (.head _))))))
      exact h113
    · exact ltS p (.tail _ (.tail _ (.tail _ (.tail _ (.tail _ (.tail _ hp))))))
  clear N6
  iterate 9 (first | (k_unfold; (try dsimp only)) | walk1)
  refine' call_cls (fI := 66) ?kF ?kX ?kN ?k1 ?k2 ?k3 ?_
  case kF => exact F7
  case kX => exact X'
  case kN => exact N7
  case k1 => k_is
  case k2 => k_is
  case k3 => k_is
  intro x dx h7 F8 N8 ltx1 ltx2
  k_lt ltx1
  k_lt2 ltx2
  k_dflt (refine' code_def ?k1 ?k2 ?k3 ?k4 ?k5 ?kA ?kF ?kK ?k6 ?k7 ?k8 ?k9 ?kB ?_ ?c2 ?c3 ?c4 ?c5; (case kA => exact rfl); (case kF => exact rfl); (case kK => exact rfl); (case k1 => k_asm); (case k2 => k_asm); (case k3 => k_asm); (case k4 => k_asm); (case k5 => k_asm); (case k6 => k_is); (case k7 => k_is); (case k8 => ktr_room); (case k9 => exact BindsTo.of_eq rfl); (case c5 => decide); (case kB => exact locs rfl); (case c2 => exact rfl); (case c3 => exact rfl); (case c4 => exact rfl); k_whole; intro g2 L2 h8 FG2 F9 N9 B9 X9 T9; (try dsimp only); (try k_lift B9); (try k_fold))
  iterate 28 (first | (k_unfold; (try dsimp only)) | walk1)
  rename (x < _ ∧ _) => ltl
  refine hret ⟨_, x, dx, _, _, _, _, _, _, _, _⟩ _ _ 0 fS D cS fR cR aL (L' + 1 + 1) (L' + 1) _ oD _ ocS _ ocR oA2 oT _ _ _ (by assumption) (by assumption) rfl rfl hD ⟨rfl, rfl, fun c e => by cases e⟩ ?_ ⟨_, rfl⟩ ⟨_, rfl⟩ ?_
  · intro p loose mean mg mb dp un gd cn cs a ccd cl outer A₀ base h₀ L m s led Q E pos k tp t1 S hown hoff hpos hret
    obtain ⟨B, F, X, N, T, hcs, hdp, hun⟩ := S
    have m1 := hown _ (.head _)
    have m2 := hown _ (.tail _ (.head _))
    have m3 := hown _ (.tail _ (.tail _ (.head _)))
    have m4 := hown _ (.tail _ (.tail _ (.tail _ (.head _))))
    refine wpAny_call ?_
    refine' code_nest ?k1 ?k2 ?k3 ?k4 ?k5 ?kA ?kF ?kK ?k6 ?k7 ?k8 ?k9 ?kB ?_ ?c2 ?c3 ?c4 ?c5
    case kA => exact rfl
    case kF => exact rfl
    case kK => exact hcs
    case k1 => exact B
    case k2 => exact F
    case k3 => exact X
    case k4 => exact N
    case k5 => exact T
    case k6 => exact .tail _ m1
    case k7 => exact codeRec_news N (.tail _ m2) dR dR2
    case k8 => ktr_room
    case k9 => exact BindsTo.of_eq rfl
    case c5 => decide
    case kB => exact locs rfl
    case c2 => exact rfl
    case c3 => exact rfl
    case c4 => exact rfl
    intro g3 L3 h9 FG3 F3 N3 B3 X3 T3
    (try dsimp only)
    (try k_lift B3)
    (try k_fold)
    clear N F X B T
    iterate 4 (first | (k_unfold; (try dsimp only)) | walk1)
    refine nameX_F N3 rfl (.tail _ m4) dT ?_
    iterate 3 (first | (k_unfold; (try dsimp only)) | walk1)
    refine nameX_F N3 rfl (.tail _ m3) dA2 ?_
    iterate 5 (first | (k_unfold; (try dsimp only)) | walk1)
    refine nameX_F N3 rfl (.tail _ m3) dA2 ?_
    iterate 5 (first | (k_unfold; (try dsimp only)) | walk1)
    refine slice_strN_ss (hsz := ?hsz) (s := ⟨_, _, _, _, _⟩) F3 N3 ?_
    case hsz => rw [sizeLine_eq]; omega
    intro h10 t10 k10 F5 N5
    rw [show ([(pos : Int)].getD (Int.toNat 0) 0) = (pos : Int) from rfl]
    generalize Txt.slice text (some (pos : Int)) (some ((pos : Int) + 1)) = sg at hret hpos ⊢
    clear N3 F3
    iterate 5 (first | (k_unfold; (try dsimp only)) | walk1)
    rename News g3 L3 _ _ => N6
    refine nameX_F N6 rfl (.tail _ m3) dA2 ?_
    iterate 10 (first | (k_unfold; (try dsimp only)) | walk1)
    refine nameX_F N6 rfl (.tail _ m3) dA2 ?_
    iterate 1 (first | (k_unfold; (try dsimp only)) | walk1)
    rename Fr g3 L3 _ _ => F6
    refine ki_set F6 N6 (by decide) (by decide) rfl (Upd.head hoff) fun h11 F7 N7 => ?_
    clear F6 N6
    iterate 4 (first | (k_unfold; (try dsimp only)) | walk1)
    refine leaveK_ F7 N7 fun kF kN => ?_
    exact hret _ _ _ _ _ kF (by rw [Int.natCast_add]; exact kN)
  · exact ⟨Nat.lt_succ_of_lt l1.1, fun p hp => Nat.lt_succ_of_lt (lt0r p hp), Nat.lt_succ_self _, lt1.1, ltR _ (.head _), ltR2, ltS _ (.head _), ltS2, ltD _ (.head _), ltx1.1, ltx2, ltl.1⟩
end
end Mine

end

section
open PySem PySem.W PySem.Spec PySem.Calls PyProof.Rows
namespace Mine
structure LX where
  D : Addr
  fS : Addr
  cS : Addr
  fR : Addr
  cR : Addr
  aL : Addr
  cA : Addr
  cT : Addr
  oD : Obj
  oS : Obj
  ocS : Obj
  oR : Obj
  ocR : Obj
  oA : Obj
  oT : Obj
abbrev lexL (Y : LX) (pos : Nat) (tp : Tok) (k : Nat) (rest : List (Addr × Obj)) : List (Addr × Obj) :=
  (Y.D, Y.oD) :: (Y.fS, Y.oS) :: (Y.cS, Y.ocS) :: (Y.fR, Y.oR) :: (Y.cR, Y.ocR) :: (Y.aL, W.listOf #[.int (pos : Nat) tp] k) :: (Y.cA, Y.oA) :: (Y.cT, Y.oT) :: rest
structure LexOk (w : World) (text : Str) (M : MV) (Y : LX) (rest : List (Addr × Obj)) : Prop where
  st : M.st = .ref Y.fS
  dict : ReadDict Y.oD Y.fR
  cls : Y.oS.cls = .type "function"
  own : Y.oS.dict = some Y.D
  data : ∀ c, Y.oS.data ≠ .cls c
  read : ReadC w text Y.fR Y.aL [(Y.fR, Y.oR), (Y.cR, Y.ocR), (Y.cA, Y.oA), (Y.cT, Y.oT)]
  fn : ∃ fd, Y.oR = { cls := .type "function", data := .func fd }
  off : ∀ p ∈ rest, p.1 < Y.cT ∨ M.l < p.1
  o1 : Y.cT < Y.cA
  o2 : Y.cA < Y.aL
  o3 : Y.aL < Y.cR
  o4 : Y.cR < Y.fR
  o5 : Y.fR < Y.cS
  o6 : Y.cS < Y.fS
  o7 : Y.fS < Y.D
  o8 : Y.D < M.d
  o9 : M.d < M.x
  o10 : M.x < M.l
section
variable {w : World} {p : Program} {loose : List Str} {mean : ExcName → Option Value} {mg mb : Str → Option Value} {dp un : Nat} {gd : Option (List Code)} {cn : Str} {cs : Scope} {a : Addr} {ccd : Value} {cl : List (Str × Addr)} {outer : List Env} {A₀ : Around} {base h₀ : Heap} {L : Addr} {m : Str → Option Value} {s : Shared} {M : MV} {Y : LX} {n k pos : Nat} {tp : Tok} {rest : List (Addr × Obj)} {Q E : Value → Shared → Prop}
set_option maxHeartbeats 400000 in
theorem char_c {text : Str} {ln : Nat} {tl : Tok} (O : LexOk w text M Y rest) (hln : M.ln = .int (ln : Nat) tl) (S : Std 4 w p loose mean mg mb dp un cs outer A₀ base h₀ L m s.heap (machL w M [] n (lexL Y pos tp k rest)))
    (hsl : (Txt.slice text (some (pos : Int)) (some ((pos : Int) + 1))).length ≤ 1)
    (hret : ∀ (M' : MV) (h' : Heap) (tk' k' : Nat) (t' tp' tl' : Tok), M'.l = M.l → M'.x = M.x → M'.d = M.d → LexOk w text M' Y rest → M'.ln = .int ((if (Txt.slice text (some (pos : Int)) (some ((pos : Int) + 1)) == Str.ofString "\n") then ln + 1 else ln : Nat) : Int) tl' → Fr h₀ L h' m →
      News h₀ L h' (machL w M' [] n (lexL Y (pos + (Txt.slice text (some (pos : Int)) (some ((pos : Int) + 1))).length) tp' k' rest)) → Q (.str (Txt.slice text (some (pos : Int)) (some ((pos : Int) + 1))) t') { s with heap := h', toks := tk' }) :
    codeAny (model PP w) (ktrTop dp un gd cn cs L a ccd cl outer) (.call (.ref 73) ⟨[.ref M.x], []⟩) (fun r s' => match r with | .ok (.ret v) => Q v s' | .ok _ => False | .error e => E e s') s := by
  obtain ⟨B, F, X, N, T, hcs, hdp, hun⟩ := S
  obtain ⟨Ml, Mx, Md, m1, m2, m3, m4, m5, Mln, Mst, Mk⟩ := M
  obtain ⟨hst, hdict, hcls, hown, hdata, hread, ⟨fd, hfn⟩, hoff, o1, o2, o3, o4, o5, o6, o7, o8, o9, o10⟩ := O
  dsimp only at *
  subst hst hln
  have hlt : ∀ p ∈ [(Y.D, Y.oD), (Y.fS, Y.oS), (Y.cS, Y.ocS), (Y.fR, Y.oR), (Y.cR, Y.ocR), (Y.aL, Y.oA), (Y.cA, Y.oA), (Y.cT, Y.oT)], p.1 < Md := by
    have a7 := Nat.lt_trans o7 o8
    have a6 := Nat.lt_trans o6 a7
    have a5 := Nat.lt_trans o5 a6
    have a4 := Nat.lt_trans o4 a5
    have a3 := Nat.lt_trans o3 a4
    have a2 := Nat.lt_trans o2 a3
    have a1 := Nat.lt_trans o1 a2
    intro p hp
    rcases List.mem_cons.mp hp with rfl | hp
    · exact o8
    rcases List.mem_cons.mp hp with rfl | hp
    · exact a7
    rcases List.mem_cons.mp hp with rfl | hp
    · exact a6
    rcases List.mem_cons.mp hp with rfl | hp
    · exact a5
    rcases List.mem_cons.mp hp with rfl | hp
    · exact a4
    rcases List.mem_cons.mp hp with rfl | hp
    · exact a3
    rcases List.mem_cons.mp hp with rfl | hp
    · exact a2
    rcases List.mem_cons.mp hp with rfl | hp
    · exact a1
    · cases hp
  have hAM : Y.aL < Md := hlt (Y.aL, Y.oA) (.tail _ (.tail _ (.tail _ (.tail _ (.tail _ (.head _))))))
  have hrA : ∀ p ∈ rest, p.1 ≠ Y.aL := fun p hp => (hoff p hp).elim (fun e => Nat.ne_of_lt (Nat.lt_trans e (Nat.lt_trans o1 o2))) fun e => Nat.ne_of_gt (Nat.lt_trans hAM (Nat.lt_trans o9 (Nat.lt_trans o10 e)))
  have hrD : ∀ p ∈ rest, p.1 ≠ Md := fun p hp => (hoff p hp).elim (fun e => Nat.ne_of_lt (Nat.lt_trans e (hlt (Y.cT, Y.oT) (by simp)))) fun e => Nat.ne_of_gt (Nat.lt_trans o9 (Nat.lt_trans o10 e))
  have hoffA : ∀ p ∈ (Ml, W.listOf ([] : List Value).toArray n) :: (Mx, instObj 90 Md) :: (Md, instObj 90 Md) :: (Y.D, Y.oD) :: (Y.fS, Y.oS) :: (Y.cS, Y.ocS) :: (Y.fR, Y.oR) :: (Y.cR, Y.ocR) :: (Y.cA, Y.oA) :: (Y.cT, Y.oT) :: rest, p.1 ≠ Y.aL := by
    have b4 := Nat.lt_trans o3 o4
    have b5 := Nat.lt_trans b4 o5
    have b6 := Nat.lt_trans b5 o6
    have b7 := Nat.lt_trans b6 o7
    intro p hp
    rcases List.mem_cons.mp hp with rfl | hp
    · exact Nat.ne_of_gt (Nat.lt_trans hAM (Nat.lt_trans o9 o10))
    rcases List.mem_cons.mp hp with rfl | hp
    · exact Nat.ne_of_gt (Nat.lt_trans hAM o9)
    rcases List.mem_cons.mp hp with rfl | hp
    · exact Nat.ne_of_gt hAM
    rcases List.mem_cons.mp hp with rfl | hp
    · exact Nat.ne_of_gt b7
    rcases List.mem_cons.mp hp with rfl | hp
    · exact Nat.ne_of_gt b6
    rcases List.mem_cons.mp hp with rfl | hp
    · exact Nat.ne_of_gt b5
    rcases List.mem_cons.mp hp with rfl | hp
    · exact Nat.ne_of_gt b4
    rcases List.mem_cons.mp hp with rfl | hp
    · exact Nat.ne_of_gt o3
    rcases List.mem_cons.mp hp with rfl | hp
    · exact Nat.ne_of_lt o2
    rcases List.mem_cons.mp hp with rfl | hp
    · exact Nat.ne_of_lt (Nat.lt_trans o1 o2)
    · exact hrA p hp
  have hltD : ∀ p ∈ (Y.D, Y.oD) :: (Y.fS, Y.oS) :: (Y.cS, Y.ocS) :: (Y.fR, Y.oR) :: (Y.cR, Y.ocR) :: (Y.cA, Y.oA) :: (Y.cT, Y.oT) :: rest, p.1 ≠ Md := fun p hp => by
    rcases (show p ∈ [(Y.D, Y.oD), (Y.fS, Y.oS), (Y.cS, Y.ocS), (Y.fR, Y.oR), (Y.cR, Y.ocR), (Y.cA, Y.oA), (Y.cT, Y.oT)] ∨ p ∈ rest by
      simp only [List.mem_cons, List.not_mem_nil, or_false] at hp ⊢
      rcases hp with h | h | h | h | h | h | h | h <;> simp only [h, true_or, or_true]) with hp | hp
    · exact Nat.ne_of_lt (hlt p (by
        simp only [List.mem_cons, List.not_mem_nil, or_false] at hp ⊢
        rcases hp with h | h | h | h | h | h | h <;> simp only [h, true_or, or_true]))
    · exact hrD p hp
  k_lt hlt
  k_dflt cell_enter
  iterate 7 (first | (k_unfold; (try dsimp only)) | walk1)
  rename News _ _ _ _ => N9
  rename Fr _ _ _ _ => F9
  rename Frag.In _ _ => X9
  rename Top _ _ _ _ _ _ => T9
  rename Below _ _ _ _ => B9
  refine fn_method (D := Y.D) (o := Y.oS) (oD := Y.oD) (N9 _ (.tail _ (.tail _ (.tail _ (.tail _ (.head _)))))).1 hcls hown hdata (N9 _ (.tail _ (.tail _ (.tail _ (.head _))))).1 hdict fun tk3 => ?_
  have hFn : ∀ {h : Heap} {L : Addr} {h₀ : Heap} {led : List (Addr × Obj)}, News h₀ L h led → (Y.fR, Y.oR) ∈ led → FnAt Y.fR h := fun N hm => by
    rw [hfn] at hm
    exact FnAt.of N hm
  refine callWith_F (hFn N9 (.tail _ (.tail _ (.tail _ (.tail _ (.tail _ (.tail _ (.head _)))))))) ?_
  iterate 3 (first | (k_unfold; (try dsimp only)) | walk1)
  rename News _ _ _ _ => N9
  rename Fr _ _ _ _ => F9
  refine ⟨hFn N9 (.tail _ (.tail _ (.tail _ (.tail _ (.tail _ (.tail _ (.head _))))))), ?_⟩
  have NR := news_sub N9 (led' := (Y.aL, W.listOf #[.int (pos : Nat) tp] k) :: (Ml, W.listOf ([] : List Value).toArray n) :: (Mx, instObj 90 Md) :: (Md, dictOf [ent w (Str.ofString "lineno") m1 (.int (ln : Nat) tl), ent w (Str.ofString "instream") m2 (.ref Y.fS), ent w (Str.ofString "whitespace") m3 (.str (Str.ofString "\n\t\r ") m5), ent w (Str.ofString "pushback") m4 (.ref Ml)] Mk) ::
    (Y.D, Y.oD) :: (Y.fS, Y.oS) :: (Y.cS, Y.ocS) :: (Y.fR, Y.oR) :: (Y.cR, Y.ocR) :: (Y.cA, Y.oA) :: (Y.cT, Y.oT) :: rest) (fun p hp => by
      simp only [machL, lexL, List.mem_cons] at hp ⊢
      rcases hp with h | h | h | h | h | h | h | h | h | h | h | h <;> simp only [h, true_or, or_true])
  refine hread ⟨B9, F9, X9, NR, T9, rfl, ?_, ?_⟩ ?_ ?_ hsl ?_
  · show dp + 1 + 2 < recursionLimit; omega
  · show un + 3 + 20 * 2 < cLine; omega
  · intro p hp
    simp only [List.mem_cons, List.not_mem_nil, or_false] at hp ⊢
    rcases hp with h | h | h | h <;> simp only [h, true_or, or_true]
  · intro p hp
    rcases List.mem_cons.mp hp with rfl | hp
    · exact hoffA (Ml, _) (.head _)
    rcases List.mem_cons.mp hp with rfl | hp
    · exact hoffA (Mx, _) (.tail _ (.head _))
    rcases List.mem_cons.mp hp with rfl | hp
    · exact hoffA (Md, instObj 90 Md) (.tail _ (.tail _ (.head _)))
    · exact hoffA p (.tail _ (.tail _ (.tail _ hp)))
  intro h9 tk9 k9 t9 tp9 F10 N10
  iterate 9 (first | (k_unfold; (try dsimp only)) | walk1)
  cases hnl : (Txt.slice text (some (pos : Int)) (some ((pos : Int) + 1)) == Str.ofString "\n") with
  | true =>
    refine if_yes rfl ?_
    iterate 7 (first | (k_unfold; (try dsimp only)) | walk1)
    rename News _ _ _ _ => N11
    rename Fr _ _ _ _ => F11
    refine' set_dict ?k1 ?k2 ?k3 ?k4 ?k5 ?k6 ?k7 ?k8 ?k9 ?k10 ?k11 ?k12 ?k13 ?_
    case k1 => exact F11
    case k2 => exact X9
    case k3 => exact N11
    case k4 => k_inst
    case k5 => exact rfl
    case k6 => k_is
    case k7 => k_is
    case k8 => k_is
    case k9 => k_is
    case k10 => k_get
    case k11 => exact rfl
    case k12 => exact .tail (Nat.ne_of_lt hAM) (.tail (Nat.ne_of_gt (Nat.lt_trans o9 o10)) (.tail (Nat.ne_of_gt o9) (.head hltD)))
    case k13 => exact Nat.le_of_ble_eq_true rfl
    intro h12 F12 N12
    rw [hnl] at hret
    obtain ⟨tx, N13⟩ : ∃ tx : Tok, News _ _ h12 ((Y.aL, W.listOf #[.int ((pos + (Txt.slice text (some (pos : Int)) (some ((pos : Int) + 1))).length : Nat) : Int) tp9] k9) :: (Ml, W.listOf ([] : List Value).toArray n) :: (Mx, instObj 90 Md) :: (Md, dictOf [ent w (Str.ofString "lineno") m1 (.int ((ln + 1 : Nat) : Int) tx), ent w (Str.ofString "instream") m2 (.ref Y.fS), ent w (Str.ofString "whitespace") m3 (.str (Str.ofString "\n\t\r ") m5), ent w (Str.ofString "pushback") m4 (.ref Ml)] Mk) ::
      (Y.D, Y.oD) :: (Y.fS, Y.oS) :: (Y.cS, Y.ocS) :: (Y.fR, Y.oR) :: (Y.cR, Y.ocR) :: (Y.cA, Y.oA) :: (Y.cT, Y.oT) :: rest) := ⟨_, N12⟩
    clear N12 N11 F11
    iterate 5 (first | (k_unfold; (try dsimp only)) | walk1)
    refine hret ⟨Ml, Mx, Md, m1, m2, m3, m4, m5, .int ((ln + 1 : Nat) : Int) tx, .ref Y.fS, Mk⟩ _ _ k9 _ tp9 tx rfl rfl rfl ⟨rfl, hdict, hcls, hown, hdata, hread, ⟨fd, hfn⟩, hoff, o1, o2, o3, o4, o5, o6, o7, o8, o9, o10⟩ rfl (by assumption) (news_sub (by assumption) fun p hp => ?_)
    simp only [machL, lexL, List.mem_cons] at hp ⊢
    rcases hp with h | h | h | h | h | h | h | h | h | h | h | h <;> first | (simp only [h, true_or, or_true]; done) | (subst h; exact .inr (.inr (.inr (.inl rfl))))
  | false =>
    refine if_no Bool.false_ne_true ?_
    rw [hnl] at hret
    iterate 6 (first | (k_unfold; (try dsimp only)) | walk1)
    refine hret ⟨Ml, Mx, Md, m1, m2, m3, m4, m5, .int (ln : Nat) tl, .ref Y.fS, Mk⟩ _ _ k9 _ tp9 tl rfl rfl rfl ⟨rfl, hdict, hcls, hown, hdata, hread, ⟨fd, hfn⟩, hoff, o1, o2, o3, o4, o5, o6, o7, o8, o9, o10⟩ rfl (by assumption) (news_sub (by assumption) fun p hp => ?_)
    simp only [machL, lexL, List.mem_cons] at hp ⊢
    rcases hp with h | h | h | h | h | h | h | h | h | h | h | h <;> simp only [h, true_or, or_true]
end
end Mine

end

section
open PySem PySem.W PySem.Spec PySem.Calls PyProof.Rows
namespace Mine
theorem slot_ci_next : Slot "callable_iterator" "__next__" "callable_iterator.__next__" :=
  .of (owner := "callable_iterator") (n := "__next__") (by rw [typeLookup_type, builtinLookup_eq_fast]; kernel_rfl) (by decide +kernel) (by decide +kernel) (by decide +kernel)
    (by first | exact .inl (by decide +kernel) | exact .inr (by decide +kernel)) (by rw [isSubtype_type]; kernel_rfl)
theorem slot_ci_iter : Slot "callable_iterator" "__iter__" "callable_iterator.__iter__" :=
  .of (owner := "callable_iterator") (n := "__iter__") (by rw [typeLookup_type, builtinLookup_eq_fast]; kernel_rfl) (by decide +kernel) (by decide +kernel) (by decide +kernel)
    (by first | exact .inl (by decide +kernel) | exact .inr (by decide +kernel)) (by rw [isSubtype_type]; kernel_rfl)
theorem entry_ci_next : entryFor table "callable_iterator.__next__" = some Builtin.«callable_iterator.__next__» := entryFor_of_tree (by kernel_rfl)
theorem entry_ci_iter : entryFor table "callable_iterator.__iter__" = some Builtin.«dict_keyiterator.__iter__» :=
  entryFor_alias (id' := "dict_keyiterator.__iter__") (by kernel_rfl) rfl (by decide +kernel) (by kernel_rfl)
theorem args_ci_next (a : Value) : argsOk "callable_iterator.__next__" ⟨[a], []⟩ := by unfold argsOk; kernel_rfl
theorem args_ci_iter (a : Value) : argsOk "callable_iterator.__iter__" ⟨[a], []⟩ := by unfold argsOk; kernel_rfl
section
variable {M : Model} {A : Around} {E : Value → Shared → Prop} {s : Shared}
theorem callB {f : Value} {pos : List Value} {Q : Value → Shared → Prop}
    (hc : codeAny M A (.call f ⟨pos, []⟩) (fun r s' => match r with | .ok (.ret v) => Q v s' | .ok _ => False | .error e => E e s') s) :
    wpAny M A (callBorrowed f pos) Q E s := fun Γ p hΓ => by
  unfold callBorrowed
  rw [Sem.wp_call]
  have h := hc _ p rfl (hΓ.enter (.call f ⟨pos, []⟩) none p (by intro x; cases x))
  refine cast (congrArg (fun R => wpCode M _ R p s) ?_) h
  funext r s'
  cases r with
  | error e => rfl
  | ok f => cases f <;> rfl
theorem callSlot {prog : Program} {w : World} {p f : Addr} {self : Value} {o : Obj} {fd : FuncData} {Q : Value → Shared → Prop} (hp : s.heap.get? p = some (methodObj (.ref f) self)) (hf : s.heap.get? f = some o) (hfd : o.data = .func fd)
    (hc : codeAny (model prog w) A (.call (.ref f) ⟨[self], []⟩) (fun r s' => match r with | .ok (.ret v) => Q v s' | .ok _ => False | .error e => E e s') s) :
    wpAny (model prog w) A (callOutOfASlot (.ref p)) Q E s := by
  unfold callOutOfASlot borrowsExactly
  refine wpAny_bind (wpAny_bind (wpAny_load hp ?_))
  dsimp only
  rw [if_pos (by decide)]
  refine wpAny_bind (wpAny_load hf ?_)
  rw [hfd]
  refine wpAny_pure ?_
  rw [if_pos rfl]
  exact callB (method_call hp hc)
abbrev ciObj (p : Addr) (tS : Tok) : Obj := { cls := .type "callable_iterator", data := .fields #[.ref p, .str (Str.ofString "") tS, .bool false] }
def CiPost (I p f : Addr) (self : Value) (o : Obj) (tS : Tok) (Q : Option Value → Shared → Prop) (v : Value) (s' : Shared) : Prop :=
  ∃ x t, v = .str x t ∧ s'.heap.get? I = some (ciObj p tS) ∧ s'.heap.get? p = some (methodObj (.ref f) self) ∧ s'.heap.get? f = some o ∧ ((Str.ofString "" == x) = false → Q (some v) s') ∧ ((Str.ofString "" == x) = true → ∀ h', Heap.ExtBut I s'.heap h' → Q none { s' with heap := h' })
theorem ci_borrows {prog : Program} {w : World} {p f : Addr} {self : Value} {o : Obj} {fd : FuncData} {Q : Bool → Shared → Prop} (hp : s.heap.get? p = some (methodObj (.ref f) self)) (hf : s.heap.get? f = some o) (hfd : o.data = .func fd) (h : Q true s) :
    wpAny (model prog w) A (borrowsExactly (.ref p)) Q E s := by
  unfold borrowsExactly
  refine wpAny_bind (wpAny_load hp ?_)
  dsimp only
  rw [if_pos (by decide)]
  refine wpAny_bind (wpAny_load hf ?_)
  rw [hfd]
  exact wpAny_pure h
theorem ci_next {prog : Program} {w : World} {I p f : Addr} {self : Value} {o : Obj} {fd : FuncData} {tS : Tok} {Q : Option Value → Shared → Prop} (hh : A.handled = none) (hI : s.heap.get? I = some (ciObj p tS)) (hp : s.heap.get? p = some (methodObj (.ref f) self)) (hf : s.heap.get? f = some o) (hfd : o.data = .func fd)
    (hc : codeAny (model prog w) A.in1 (.call (.ref f) ⟨[self], []⟩) (fun r s' => match r with
      | .ok (.ret v) => CiPost I p f self o tS Q v s'
      | .ok _ => False | .error _ => False) s) :
    wpAny (model prog w) A (pyNext (.ref I)) Q E s := by
  have hT : s.TypeIs (.ref I) "callable_iterator" := ⟨_, hI, rfl⟩
  unfold pyNext
  refine wpAny_bind (wpAny_attempt (wpAny_callSpecial?_slot (name := Str.ofString "__next__") hT slot_ci_next (wpAny_call_entry slot_ci_next hT entry_ci_next ?_ (args_ci_next _))))
  show wpAny _ _ (field (.ref I) 2 >>= _) _ _ _
  refine wpAny_bind (wpAny_field hI rfl (x := .bool false) rfl ?_)
  rw [if_neg (by decide)]
  refine wpAny_bind (wpAny_field hI rfl (x := .ref p) rfl ?_)
  refine wpAny_bind (wpAny_attempt (callSlot hp hf hfd (codeAny_mono hc fun r s' hr => ?_)))
  cases r with
  | error e => exact hr.elim
  | ok fin =>
    cases fin with
    | ret v =>
      obtain ⟨x, t, rfl, hI', hp', hf', hq1, hq2⟩ := hr
      dsimp only
      refine wpAny_bind (wpAny_field hI' rfl (x := .bool false) rfl ?_)
      rw [if_neg (by decide)]
      refine wpAny_bind (wpAny_field hI' rfl (x := .str (Str.ofString "") tS) rfl ?_)
      refine wpAny_bind (wpAny_holding (eqBool_str ?_))
      cases hx : (Str.ofString "" == x) with
      | false =>
        rw [if_pos (by decide)]
        exact wpAny_bind (wpAny_pure (wpAny_pure ⟨_, rfl, wpAny_pure (hq1 hx)⟩))
      | true =>
        rw [if_neg (by decide)]
        refine wpAny_bind (wpAny_rule (wpAny_bind ?_))
        show wpAny _ _ (field (.ref I) 0 >>= _) _ _ _
        refine wpAny_bind (wpAny_field hI' rfl (x := .ref p) rfl (wpAny_bind ?_))
        unfold slotLetsGo
        dsimp only
        refine wpAny_bind (ci_borrows hp' hf' hfd ?_)
        rw [if_pos rfl]
        refine wpAny_pure ?_
        refine wpAny_bind (wpAny_setField hI' rfl (by simp) ?_)
        have e1 : (s'.heap.update I (Obj.mapFields (·.setIfInBounds 0 .none))).get? I = some { cls := .type "callable_iterator", data := .fields #[.none, .str (Str.ofString "") tS, .bool false] } := Heap.get?_update_self _ hI' rfl
        refine wpAny_bind (wpAny_setField e1 rfl (by simp) ?_)
        have e2 : ((s'.heap.update I (Obj.mapFields (·.setIfInBounds 0 .none))).update I (Obj.mapFields (·.setIfInBounds 1 .none))).get? I = some { cls := .type "callable_iterator", data := .fields #[.none, .none, .bool false] } := Heap.get?_update_self _ e1 rfl
        refine wpAny_setField e2 rfl (by simp) ?_
        show wpAny _ _ (newExc (.type "StopIteration") [] >>= _) _ _ _
        refine wpAny_bind ?_
        simp only [newExc, newTuple]
        refine wpAny_bind (wpAny_newObj_type ?_ (by size_fits))
        refine wpAny_bind (m := firstArgMember _ _) (wpAny_of_eq (a := Value.none) (by first | rfl | (simp only [firstArgMember]; rfl)) ?_)
        refine wpAny_newObj_type ?_ (by size_fits)
        simp only [raiseNew]
        refine wpAny_bind (wpAny_handled ?_)
        rw [show A.in1.handled = none from hh]
        refine wpAny_bind (wpAny_pure (wpAny_throw ?_))
        refine wpAny_bind (wpAny_isInstance (T := "StopIteration") (b := true) ⟨_, Heap.get?_push_size _ rfl, rfl⟩ isSubtype_stop ?_)
        exact wpAny_pure (hq2 hx _ ((((((Heap.SameBut.update ..).trans (Heap.SameBut.update ..)).trans (Heap.SameBut.update ..)).extBut.push _).push _)))
    | _ => exact hr.elim
theorem args_iter2 (a b : Value) : argsOk "iter" ⟨[a, b], []⟩ := by unfold argsOk; kernel_rfl
theorem look_method_call : typeLookup (.type "method") "__call__" = pure (some (.builtin "method.__call__")) := by rw [typeLookup_type, builtinLookup_eq_fast]; kernel_rfl
theorem iter_sent {prog : Program} {w : World} {p : Addr} {f self : Value} {tS : Tok} {Q : Value → Shared → Prop} (hp : s.heap.get? p = some (methodObj f self))
    (h : Q (.ref s.heap.objs.size) { s with heap := s.heap.push (ciObj p tS) }) :
    wpAny (model prog w) A (call (.builtin "iter") [.ref p, .str (Str.ofString "") tS]) Q E s := by
  refine call_function_entry (by decide +kernel) (by decide +kernel) kdk_entry_iter (args_iter2 _ _) ?_
  unfold Builtin.«iter»
  refine wpAny_bind (m := someArgs "iter" 1 2 _) (wpAny_of_eq (a := [Value.ref p, Value.str (Str.ofString "") tS]) (by first | rfl | kernel_rfl!) ?_)
  dsimp only
  refine wpAny_bind (wpAny_specialOf (T := "method") ⟨_, hp, rfl⟩ look_method_call ?_)
  dsimp only [Option.isNone]
  rw [if_neg Bool.false_ne_true]
  refine wpAny_bind (wpAny_rule (wpAny_bind (wpAny_newObj_type ?_ (by size_fits))))
  exact wpAny_pure ⟨_, rfl, h⟩
theorem ci_pyIter {prog : Program} {w : World} {I p : Addr} {tS : Tok} {Q : Value → Shared → Prop} (hI : s.heap.get? I = some (ciObj p tS)) (h : Q (.ref I) s) :
    wpAny (model prog w) A (pyIter (.ref I)) Q E s := by
  have hT : s.TypeIs (.ref I) "callable_iterator" := ⟨_, hI, rfl⟩
  refine wpAny_pyIter_slot hT slot_ci_iter (wpAny_call_entry slot_ci_iter hT entry_ci_iter ?_ (args_ci_iter _))
  show wpAny _ _ (ret (.ref I)) _ _ s
  exact wpAny_pure ⟨_, rfl, "callable_iterator", _, hT, slot_ci_next.lookup, h⟩
theorem iter_sentK {prog : Program} {w : World} {h₀ : Heap} {L : Addr} {m : Str → Option Value} {led : List (Addr × Obj)} {p : Addr} {f self : Value} {tS : Tok} {Q : Value → Shared → Prop} (F : Fr h₀ L s.heap m) (N : News h₀ L s.heap led) (hp : (p, methodObj f self) ∈ led)
    (h : ∀ I h', Fr h₀ L h' m → News h₀ L h' ((I, ciObj p tS) :: led) → (∀ z ∈ led, z.1 < I) → Q (.ref I) { s with heap := h' }) :
    wpAny (model prog w) A (call (.builtin "iter") [.ref p, .str (Str.ofString "") tS]) Q E s :=
  iter_sent (N _ hp).1 (h _ _ (F.push _) (N.push F _) fun z hz => Heap.lt_size (N z hz).1)
end
end Mine

end

section
open PySem PySem.W PySem.Spec PySem.Calls PyProof.Rows
namespace Mine
section
variable {w : World} {p : Program} {loose : List Str} {mean : ExcName → Option Value} {mg mb : Str → Option Value} {dp un : Nat} {gd : Option (List Code)} {cn : Str} {cs : Scope} {a : Addr} {ccd : Value} {cl : List (Str × Addr)} {outer : List Env} {A₀ : Around} {base h₀ : Heap} {L : Addr} {m : Str → Option Value} {s : Shared} {M : MV} {Y : LX} {n k pos : Nat} {tp : Tok} {rest : List (Addr × Obj)} {Q E : Value → Shared → Prop}
theorem slice_at {text : Str} {pos c : Nat} (hc : text.cps[pos]? = some c) : Txt.slice text (some (pos : Int)) (some ((pos : Int) + 1)) = ⟨#[c]⟩ := by
  have hlt : pos < text.cps.size := by
    rcases Nat.lt_or_ge pos text.cps.size with h | h
    · exact h
    · rw [Array.getElem?_eq_none h] at hc; cases hc
  rw [eq_of_beq (slice_closes (x := text) (i := (pos : Int)) (j := (pos : Int) + 1) ⟨by omega, by omega, by rw [Array.length_toList]; omega⟩)]
  have h1 : ((pos : Int) + 1 - (pos : Int)).toNat = 1 := by omega
  have hc' : text.cps.toList[pos]? = some c := by rw [Array.getElem?_toList]; exact hc
  rw [h1, Int.toNat_natCast, List.take_one, List.head?_drop, hc']
  rfl
theorem slice_end {text : Str} {pos : Nat} (hc : text.cps.size ≤ pos) : Txt.slice text (some (pos : Int)) (some ((pos : Int) + 1)) = Str.ofString "" := by
  have h0 : ¬ ((pos : Int) < 0) := by omega
  have h0' : ¬ ((pos : Int) + 1 < 0) := by omega
  have h2 : (1 : Int) > 0 := by decide
  have hl : text.length = text.cps.size := rfl
  have e : Builtin.Str.strSliceIndices (some (pos : Int)) (some ((pos : Int) + 1)) 1 text.length = [] := by
    simp only [Builtin.Str.strSliceIndices, h0, h0', h2, if_false, if_true, Int.min_eq_right (show ((text.length : Nat) : Int) ≤ (pos : Int) by omega), Int.min_eq_right (show ((text.length : Nat) : Int) ≤ (pos : Int) + 1 by omega)]
    unfold sliceRange
    rw [if_pos h2, if_neg (by omega)]
    rfl
  unfold Txt.slice
  rw [e]
  by_cases hz : text.length = 0
  · have hx : text = Str.ofString "" := by
      obtain ⟨c⟩ := text
      have : c = #[] := Array.eq_empty_of_size_eq_zero hz
      rw [this]; rfl
    rw [hx]; rfl
  · rw [if_neg]
    · rfl
    · simp
      omega
abbrev chS : Str := Str.ofString "ch"
theorem read_fn : ∃ o fd, (hd.heap_39 w.params).lookup 73 = some o ∧ o.data = .func fd := ⟨_, _, by k_is, rfl⟩
theorem lex_item {text : Str} {ln : Nat} {tl : Tok} {I q c : Nat} {tS : Tok} {Q : Option Value → Shared → Prop} {E : Value → Shared → Prop} (O : LexOk w text M Y rest) (hln : M.ln = .int (ln : Nat) tl) (S : Std 5 w p loose mean mg mb dp un cs outer A₀ base h₀ L m s.heap (machL w M [] n (lexL Y pos tp k rest)))
    (hq : (q, methodObj (.ref 73) (.ref M.x)) ∈ rest) (hI : (I, ciObj q tS) ∈ rest) (hc : text.cps[pos]? = some c)
    (hret : ∀ (M' : MV) (h' : Heap) (tk' k' : Nat) (t' tp' tl' : Tok), M'.l = M.l → M'.x = M.x → M'.d = M.d → LexOk w text M' Y rest → M'.ln = .int ((if c = 10 then ln + 1 else ln : Nat) : Int) tl' → Fr h₀ L h' m →
      News h₀ L h' (machL w M' [] n (lexL Y (pos + 1) tp' k' rest)) → Q (some (.str ⟨#[c]⟩ t')) { s with heap := h', toks := tk' }) :
    wpAny (model PP w) (ktrTop dp un gd cn cs L a ccd cl outer) (pyNext (.ref I)) Q E s := by
  have hsl := slice_at hc
  obtain ⟨o, fd, ho, hfd⟩ := read_fn (w := w)
  obtain ⟨B, F, X, N, T, hcs, hdp, hun⟩ := S
  have mem : ∀ z ∈ rest, z ∈ machL w M [] n (lexL Y pos tp k rest) := fun z hz => by simp [machL, lexL, hz]
  have up0 := X _ _ ho
  refine ci_next rfl (N _ (mem _ hI)).1 (N _ (mem _ hq)).1 (F.keep _ _ up0) hfd ?_
  refine codeAny_mono (char_c (Q := CiPost I q 73 (.ref M.x) o tS Q) (E := fun _ _ => False) O hln ⟨B, F, X, N, T, hcs, ?_, ?_⟩ (by rw [hsl]; exact Nat.le_refl _) ?_) fun r s' hr => ?_
  · show dp + 4 < recursionLimit; omega
  · show un + 1 + 20 * 4 < cLine; omega
  · intro M' h' tk' k' t' tp' tl' e1 e2 e3 O' hln' F' N'
    rw [hsl] at hln' N' ⊢
    have mem' : ∀ z ∈ rest, z ∈ machL w M' [] n (lexL Y (pos + 1) tp' k' rest) := fun z hz => by simp [machL, lexL, hz]
    refine ⟨⟨#[c]⟩, t', rfl, (N' _ (mem' _ hI)).1, (N' _ (mem' _ hq)).1, F'.keep _ _ up0, fun _ => hret M' h' tk' k' t' tp' tl' e1 e2 e3 O' ?_ F' N', fun e => ?_⟩
    · have e0 : ((⟨#[c]⟩ : Str) == Str.ofString "\n") = decide (c = 10) := by
        rw [Bool.eq_iff_iff, beq_iff_eq, decide_eq_true_eq, show Str.ofString "\n" = ⟨#[10]⟩ from rfl]
        simp
      rw [hln', e0]
      simp only [decide_eq_true_eq]
    · exfalso
      have := eq_of_beq e
      rw [show Str.ofString "" = ⟨#[]⟩ from rfl] at this
      simp at this
  · cases r with
    | error e => exact hr
    | ok f => cases f <;> exact hr

theorem lex_end {text : Str} {ln : Nat} {tl : Tok} {I q : Nat} {tS : Tok} {Q : Option Value → Shared → Prop} {E : Value → Shared → Prop} (O : LexOk w text M Y rest) (hln : M.ln = .int (ln : Nat) tl) (S : Std 5 w p loose mean mg mb dp un cs outer A₀ base h₀ L m s.heap (machL w M [] n (lexL Y pos tp k rest)))
    (hq : (q, methodObj (.ref 73) (.ref M.x)) ∈ rest) (hI : (I, ciObj q tS) ∈ rest) (hc : text.cps.size ≤ pos)
    (hret : ∀ (M' : MV) (h' h'' : Heap) (tk' k' : Nat) (tp' tl' : Tok), M'.l = M.l → M'.x = M.x → M'.d = M.d → LexOk w text M' Y rest → M'.ln = .int (ln : Nat) tl' → Fr h₀ L h' m →
      News h₀ L h' (machL w M' [] n (lexL Y pos tp' k' rest)) → Heap.ExtBut I h' h'' → Q none { s with heap := h'', toks := tk' }) :
    wpAny (model PP w) (ktrTop dp un gd cn cs L a ccd cl outer) (pyNext (.ref I)) Q E s := by
  have hsl := slice_end hc
  obtain ⟨o, fd, ho, hfd⟩ := read_fn (w := w)
  obtain ⟨B, F, X, N, T, hcs, hdp, hun⟩ := S
  have mem : ∀ z ∈ rest, z ∈ machL w M [] n (lexL Y pos tp k rest) := fun z hz => by simp [machL, lexL, hz]
  have up0 := X _ _ ho
  refine ci_next rfl (N _ (mem _ hI)).1 (N _ (mem _ hq)).1 (F.keep _ _ up0) hfd ?_
  refine codeAny_mono (char_c (Q := CiPost I q 73 (.ref M.x) o tS Q) (E := fun _ _ => False) O hln ⟨B, F, X, N, T, hcs, ?_, ?_⟩ (by rw [hsl]; decide) ?_) fun r s' hr => ?_
  · show dp + 4 < recursionLimit; omega
  · show un + 1 + 20 * 4 < cLine; omega
  · intro M' h' tk' k' t' tp' tl' e1 e2 e3 O' hln' F' N'
    rw [hsl] at hln' N' ⊢
    have mem' : ∀ z ∈ rest, z ∈ machL w M' [] n (lexL Y (pos + 0) tp' k' rest) := fun z hz => by simp [machL, lexL, hz]
    refine ⟨Str.ofString "", t', rfl, (N' _ (mem' _ hI)).1, (N' _ (mem' _ hq)).1, F'.keep _ _ up0, fun e => ?_, fun _ h'' hx => hret M' h' h'' tk' k' tp' tl' e1 e2 e3 O' ?_ F' N' hx⟩
    · exact absurd e (by decide)
    · rw [hln']; rfl
  · cases r with
    | error e => exact hr
    | ok f => cases f <;> exact hr
end
end Mine

end

section
open PySem PySem.W PySem.Spec PySem.Calls PyProof.Rows
namespace Mine
section
variable {w : World} {p : Program} {loose : List Str} {mean : ExcName → Option Value} {mg mb : Str → Option Value} {dp un : Nat} {gd : Option (List Code)} {cn : Str} {cs : Scope} {a : Addr} {ccd : Value} {cl : List (Str × Addr)} {outer : List Env} {A₀ : Around} {base h₀ : Heap} {L : Addr} {m : Str → Option Value} {s : Shared} {M : MV} {Y : LX} {n k pos : Nat} {tp : Tok} {rest : List (Addr × Obj)} {R : Result → Shared → Prop}
theorem ch_turn {text : Str} {ln : Nat} {tl : Tok} {I q c : Nat} {tS : Tok} {px : Pos} {body : List Stmt} (O : LexOk w text M Y rest) (hln : M.ln = .int (ln : Nat) tl) (S : Std 5 w p loose mean mg mb dp un cs outer A₀ base h₀ L m s.heap (machL w M [] n (lexL Y pos tp k rest)))
    (hq : (q, methodObj (.ref 73) (.ref M.x)) ∈ rest) (hI : (I, ciObj q tS) ∈ rest) (hc : text.cps[pos]? = some c) (hx : (envX cn cs L a ccd cl).kindOf chS = some .local)
    (h : ∀ (M' : MV) (h' : Heap) (tk' k' : Nat) (t' tp' tl' : Tok), M'.l = M.l → M'.x = M.x → M'.d = M.d → LexOk w text M' Y rest → M'.ln = .int ((if c = 10 then ln + 1 else ln : Nat) : Int) tl' → Fr h₀ L h' (fun y => if y = chS then some (.str ⟨#[c]⟩ t') else m y) →
      News h₀ L h' (machL w M' [] n (lexL Y (pos + 1) tp' k' rest)) → wpAny (model PP w) (ktrTop dp un gd cn cs L a ccd cl outer) (execs body (envX cn cs L a ccd cl)) (fun f s₃ => match f with
            | .next | .cont => codeAny (model PP w) (ktrTop dp un gd cn cs L a ccd cl outer) (.forLoop (.Name chS px) (.ref I) body [] (envX cn cs L a ccd cl)) R s₃
            | .brk => R (.ok .next) s₃
            | .ret v => R (.ok (.ret v)) s₃) (notedBy (model PP w) (ktrTop dp un gd cn cs L a ccd cl outer) (envX cn cs L a ccd cl) fun e s' => R (.error e) s') { s with heap := h', toks := tk' }) :
    codeAny (model PP w) (ktrTop dp un gd cn cs L a ccd cl outer) (.forLoop (.Name chS px) (.ref I) body [] (envX cn cs L a ccd cl)) R s := by
  refine for_turn (lex_item O hln S hq hI hc fun M' h' tk' k' t' tp' tl' e1 e2 e3 O' hln' F' N' => ?_)
  show wpAny _ _ (letOwnedTupleGo (.Name chS px) (.ref I) _) _ _ _
  refine wpAny_of_eq (a := ()) rfl ?_
  have hk := S.hk
  refine wpAny_assign_Name (wpAny_storeName_local hx F'.ns (fun h₂ hn₂ hs₂ => ?_) (by show (cs.kind == .class || (cs.kind == .module && _)) = false; rw [hk]; rfl))
  exact h M' h₂ _ k' t' tp' tl' e1 e2 e3 O' hln' (F'.set hn₂ hs₂) (N'.set hs₂)

theorem ch_loop {text : Str} {I q c Ml Mx Md ln : Nat} {tS : Tok} {px : Pos} {body : List Stmt} {rs : List Nat}
    (B : Below A₀ base outer h₀) (X : (hd.heap_39 w.params).In h₀) (T : Top p loose mean mg mb h₀) (hk : cs.kind = .function) (hdp : dp + 5 < recursionLimit) (hun : un + 20 * 5 < cLine)
    (hq : (q, methodObj (.ref 73) (.ref Mx)) ∈ rest) (hI : (I, ciObj q tS) ∈ rest) (hx : (envX cn cs L a ccd cl).kindOf chS = some .local) (hrs : ∀ x ∈ rs, x ≠ 10)
    (J : List Nat → (Str → Option Value) → Prop)
    (N₀ : Nat) (step : ∀ pre x (M : MV) h tk k pos tp t m₁, x ∈ rs → pre.length < N₀ → J pre m₁ → M.l = Ml → M.x = Mx → M.d = Md → Fr h₀ L h (fun y => if y = chS then some (.str ⟨#[x]⟩ t) else m₁ y) → News h₀ L h (machL w M [] n (lexL Y pos tp k rest)) →
      wpAny (model PP w) (ktrTop dp un gd cn cs L a ccd cl outer) (execs body (envX cn cs L a ccd cl)) (fun f s₃ => f = .next ∧ ∃ h' tk' m₂, s₃ = { s with heap := h', toks := tk' } ∧ Fr h₀ L h' m₂ ∧ News h₀ L h' (machL w M [] n (lexL Y pos tp k rest)) ∧ J (pre ++ [x]) m₂)
        (notedBy (model PP w) (ktrTop dp un gd cn cs L a ccd cl outer) (envX cn cs L a ccd cl) fun e s' => R (.error e) s') { s with heap := h, toks := tk })
    (pre₀ : List Nat) (hN₀ : pre₀.length + rs.length ≤ N₀)
    (pe : Nat) (last : ∀ (M : MV) h tk k tp t tl m₁, J (pre₀ ++ rs) m₁ → M.l = Ml → M.x = Mx → M.d = Md → LexOk w text M Y rest → M.ln = .int ((if c = 10 then ln + 1 else ln : Nat) : Int) tl → Fr h₀ L h (fun y => if y = chS then some (.str ⟨#[c]⟩ t) else m₁ y) → News h₀ L h (machL w M [] n (lexL Y (pe + 1) tp k rest)) →
      wpAny (model PP w) (ktrTop dp un gd cn cs L a ccd cl outer) (execs body (envX cn cs L a ccd cl)) (fun f s₃ => ∃ v, f = .ret v ∧ R (.ok (.ret v)) s₃)
        (notedBy (model PP w) (ktrTop dp un gd cn cs L a ccd cl outer) (envX cn cs L a ccd cl) fun e s' => R (.error e) s') { s with heap := h, toks := tk }) :
    ∀ (M : MV) h tk k pos tp tl m₁, M.l = Ml → M.x = Mx → M.d = Md → LexOk w text M Y rest → M.ln = .int (ln : Nat) tl → (∀ i < rs.length, text.cps[pos + i]? = rs[i]?) → text.cps[pe]? = some c → pos + rs.length = pe → J pre₀ m₁ → Fr h₀ L h m₁ → News h₀ L h (machL w M [] n (lexL Y pos tp k rest)) →
      codeAny (model PP w) (ktrTop dp un gd cn cs L a ccd cl outer) (.forLoop (.Name chS px) (.ref I) body [] (envX cn cs L a ccd cl)) R { s with heap := h, toks := tk } := by
  induction rs generalizing pre₀ with
  | nil =>
    intro M h tk k pos tp tl m₁ e1 e2 e3 O hln hcs hc hpe hJ F N
    rw [← e2] at hq
    obtain rfl : pos = pe := hpe
    refine ch_turn O hln ⟨B, F, X, N, T, hk, hdp, hun⟩ hq hI hc hx fun M' h' tk' k' t' tp' tl' d1 d2 d3 O' hln' F' N' => ?_
    refine wpAny_mono (last M' h' tk' k' tp' t' tl' m₁ (by rw [List.append_nil]; exact hJ) (d1.trans e1) (d2.trans e2) (d3.trans e3) O' hln' F' N') (fun f s₃ h₃ => ?_) fun _ _ e => e
    obtain ⟨v, rfl, h₃⟩ := h₃
    exact h₃
  | cons x rs ih =>
    intro M h tk k pos tp tl m₁ e1 e2 e3 O hln hcs hc hpe hJ F N
    have hq' := hq
    rw [← e2] at hq'
    have hc0 : text.cps[pos]? = some x := by have := hcs 0 (by simp); simpa using this
    refine ch_turn O hln ⟨B, F, X, N, T, hk, hdp, hun⟩ hq' hI hc0 hx fun M' h' tk' k' t' tp' tl' d1 d2 d3 O' hln' F' N' => ?_
    refine wpAny_mono (step pre₀ x M' h' tk' k' (pos + 1) tp' t' m₁ (.head _) (by simp at hN₀; omega) hJ (d1.trans e1) (d2.trans e2) (d3.trans e3) F' N') (fun f s₃ h₃ => ?_) fun _ _ e => e
    obtain ⟨rfl, h₄, tk₄, m₂, rfl, F₂, N₂, hJ₂⟩ := h₃
    rw [if_neg (hrs x (.head _))] at hln'
    refine ih (fun y hy => hrs y (.tail _ hy)) (fun pre y M h tk k pos tp t m₁ hy => step pre y M h tk k pos tp t m₁ (.tail _ hy)) (pre₀ ++ [x]) (by simp at hN₀ ⊢; omega) (fun M h tk k tp t tl m₁ hJ => last M h tk k tp t tl m₁ (by rw [List.append_assoc] at hJ; exact hJ)) M' h₄ tk₄ k' (pos + 1) tp' tl' m₂ (d1.trans e1) (d2.trans e2) (d3.trans e3) O' hln' (fun i hi => ?_) hc ?_ hJ₂ F₂ N₂
    · have := hcs (i + 1) (by simp; omega)
      rw [show pos + 1 + i = pos + (i + 1) by omega, this]; rfl
    · rw [← hpe]; simp; omega
end
end Mine

end

section
open PySem PySem.W PySem.Spec PySem.Calls PyProof.Rows
namespace Mine
theorem lex_mem {w : World} {M : MV} {Y : LX} {n k pos : Nat} {tp : Tok} {rest : List (Addr × Obj)} {q q' : Addr × Obj} : ∀ z ∈ machL w M [] n (lexL Y pos tp k (q :: q' :: rest)), z ∈ q :: q' :: machL w M [] n (lexL Y pos tp k rest) := by
  intro z hz
  simp only [machL, lexL, List.mem_cons] at hz ⊢
  rcases hz with h | h | h | h | h | h | h | h | h | h | h | h | h | h <;> simp only [h, true_or, or_true]
theorem LexOk.cons {w : World} {text : Str} {M : MV} {Y : LX} {rest : List (Addr × Obj)} {q : Addr × Obj} (O : LexOk w text M Y rest) (h : M.l < q.1) : LexOk w text M Y (q :: rest) :=
  ⟨O.st, O.dict, O.cls, O.own, O.data, O.read, O.fn, fun p hp => by
    rcases List.mem_cons.mp hp with rfl | hp
    · exact .inr h
    · exact O.off p hp, O.o1, O.o2, O.o3, O.o4, O.o5, O.o6, O.o7, O.o8, O.o9, O.o10⟩
theorem LexOk.tail {w : World} {text : Str} {M : MV} {Y : LX} {rest : List (Addr × Obj)} {q : Addr × Obj} (O : LexOk w text M Y (q :: rest)) : LexOk w text M Y rest :=
  ⟨O.st, O.dict, O.cls, O.own, O.data, O.read, O.fn, fun p hp => O.off p (.tail _ hp), O.o1, O.o2, O.o3, O.o4, O.o5, O.o6, O.o7, O.o8, O.o9, O.o10⟩
section
variable {w : World} {p : Program} {loose : List Str} {mean : ExcName → Option Value} {mg mb : Str → Option Value} {dp un : Nat} {gd : Option (List Code)} {cn : Str} {cs : Scope} {a : Addr} {ccd : Value} {cl : List (Str × Addr)} {outer : List Env} {A₀ : Around} {base h₀ : Heap} {L : Addr} {m : Str → Option Value} {s : Shared} {M : MV} {Y : LX} {n k pos : Nat} {tp : Tok} {rest : List (Addr × Obj)} {Q E : Value → Shared → Prop}
def TokCh (x : Nat) : Prop := x = 46 ∨ x = 97 ∨ x = 98 ∨ x = 99 ∨ x = 100
def WsCh (x : Nat) : Prop := x = 32 ∨ x = 10 ∨ x = 9 ∨ x = 13
theorem ws_no {d : Nat} (h : TokCh d) : (Builtin.Str.occurrences (Str.ofString "\n\t\r ") ⟨#[d]⟩ 0 (Str.ofString "\n\t\r ").length 1).isEmpty = true := by
  rcases h with rfl | rfl | rfl | rfl | rfl <;> decide +kernel
theorem ws_yes {d : Nat} (h : WsCh d) : (Builtin.Str.occurrences (Str.ofString "\n\t\r ") ⟨#[d]⟩ 0 (Str.ofString "\n\t\r ").length 1).isEmpty = false := by
  rcases h with rfl | rfl | rfl | rfl <;> decide +kernel
theorem qt_no {d : Nat} (h : TokCh d) : ((⟨#[d]⟩ : Str) == Str.ofString "\"") = false := by
  rcases h with rfl | rfl | rfl | rfl | rfl <;> decide +kernel
theorem bs_no {d : Nat} (h : TokCh d) : ((⟨#[d]⟩ : Str) == Str.ofString "\\") = false := by
  rcases h with rfl | rfl | rfl | rfl | rfl <;> decide +kernel
theorem tok_nl {d : Nat} (h : TokCh d) : d ≠ 10 := by
  rcases h with rfl | rfl | rfl | rfl | rfl <;> decide
theorem app1 (l : List Nat) (x : Nat) : (⟨l.toArray⟩ : Str) ++ (⟨#[x]⟩ : Str) = ⟨(l ++ [x]).toArray⟩ := by
  refine Str.ext' ?_
  rw [Str.cps_append]
  simp
set_option maxHeartbeats 400000 in
theorem tok_c {text : Str} {ln c d0 : Nat} {ds : List Nat} {tl : Tok} (O : LexOk w text M Y rest) (hln : M.ln = .int (ln : Nat) tl) (S : Std 8 w p loose mean mg mb dp un cs outer A₀ base h₀ L m s.heap (machL w M [] n (lexL Y pos tp k rest)))
    (hd0 : text.cps[pos]? = some d0) (hds : ∀ i < ds.length, text.cps[pos + 1 + i]? = ds[i]?) (hc : text.cps[pos + 1 + ds.length]? = some c) (h0 : TokCh d0) (hok : ∀ x ∈ ds, TokCh x) (hws : WsCh c) (hdl : ds.length < 50)
    (hret : ∀ (M' : MV) (h' : Heap) (tk' k' : Nat) (t' tp' tl' : Tok), M'.l = M.l → M'.x = M.x → M'.d = M.d → LexOk w text M' Y rest → M'.ln = .int ((if c = 10 then ln + 1 else ln : Nat) : Int) tl' → Fr h₀ L h' m →
      News h₀ L h' (machL w M' [] n (lexL Y (pos + 1 + ds.length + 1) tp' k' rest)) → Q (.str ⟨(d0 :: ds).toArray⟩ t') { s with heap := h', toks := tk' }) :
    wpAny (model PP w) (ktrTop dp un gd cn cs L a ccd cl outer) (call (.ref 80) [.ref M.x]) Q E s := by
  obtain ⟨B, F, X, N, T, hcs, hdp, hun⟩ := S
  refine wpAny_call ?_
  k_dflt cell_enter
  iterate 27 (first | (k_unfold; (try dsimp only)) | walk1)
  rename Addr => q
  rename News _ _ _ _ => N9
  rename Fr _ _ _ _ => F9
  rename Frag.In _ _ => X9
  rename Top _ _ _ _ _ _ => T9
  rename Below _ _ _ _ => B9
  rename (M.l < q ∧ _) => ltq
  refine iter_sentK F9 N9 (.head _) fun I hI F10 N10 ltI => ?_
  clear F9 N9
  iterate 3 (first | (k_unfold; (try dsimp only)) | walk1)
  refine wpAny_For ?_ (by intro _; rfl)
  iterate 1 (first | (k_unfold; (try dsimp only)) | walk1)
  rename News _ _ _ _ => N9
  rename Fr _ _ _ _ => F9
  obtain ⟨tI, N9⟩ : ∃ tI, News _ _ _ ((I, ciObj q tI) :: (q, methodObj (.ref 73) (.ref M.x)) :: machL w M [] n (lexL Y pos tp k rest)) := ⟨_, N9⟩
  refine ci_pyIter (N9 _ (.head _)).1 ?_
  have ltI0 : M.l < I := Nat.lt_trans ltq.1 (ltI _ (.head _))
  have O2 := (O.cons (q := (q, methodObj (.ref 73) (.ref M.x))) ltq.1).cons (q := (I, ciObj q tI)) ltI0
  refine ch_turn O2 hln ⟨B9, F9, X9, news_sub N9 lex_mem, T9, rfl, ?_, ?_⟩ (.tail _ (.head _)) (.head _) hd0 rfl fun M1 h1 tk1 k1 t1 tp1 tl1 e1 e2 e3 O1 hln1 F1 N1 => ?_
  · show dp + 1 + 5 < recursionLimit; omega
  · show un + 3 + 20 * 5 < cLine; omega
  clear N9 F9
  rw [if_neg (tok_nl h0)] at hln1
  obtain ⟨Ml, Mx, Md, mt1, mt2, mt3, mt4, mt5, Mln, Mst, Mk⟩ := M1
  dsimp only at e1 e2 e3 hln1
  subst e1 e2 e3 hln1
  iterate 9 (first | (k_unfold; (try dsimp only)) | walk1)
  refine if_no (by rw [ws_no h0]; decide) ?_
  iterate 9 (first | (k_unfold; (try dsimp only)) | walk1)
  refine if_no (by rw [qt_no h0]; decide) ?_
  iterate 8 (first | (k_unfold; (try dsimp only)) | walk1)
  refine if_no (by rw [bs_no h0]; decide) ?_
  iterate 9 (first | (k_unfold; (try dsimp only)) | walk1)
  refine wpAny_For ?_ (by intro _; rfl)
  iterate 1 (first | (k_unfold; (try dsimp only)) | walk1)
  rename News _ _ _ _ => N9
  rename Fr _ _ _ _ => F9
  refine ci_pyIter (N9 (I, ciObj q tI) (by simp [machL, lexL])).1 ?_
  refine ch_loop (q := q) (I := I) (tS := tI) (Ml := M.l) (Mx := M.x) (Md := M.d) (rs := ds) (c := c) (ln := ln) (text := text) B9 X9 T9 rfl ?_ ?_ (.tail _ (.head _)) (.head _) rfl (fun x hx => tok_nl (hok x hx))
    (fun pre m₁ => ∃ t, m₁ (Str.ofString "self") = some (.ref M.x) ∧ m₁ (Str.ofString "token") = some (.str ⟨pre.toArray⟩ t) ∧ m₁ (Str.ofString "fiter") = some (.ref I)) 100 ?_ [d0] ?_ (pos + 1 + ds.length) ?_ ⟨M.l, M.x, M.d, mt1, mt2, mt3, mt4, mt5, .int (ln : Nat) tl1, Mst, Mk⟩ _ _ _ (pos + 1) _ tl1 _ rfl rfl rfl O1 rfl hds hc rfl ?_ F9 N9
  · show dp + 1 + 5 < recursionLimit; omega
  · show un + 3 + 20 * 5 < cLine; omega
  · rintro pre x M2 h2 tk2 k2 pos2 tp2 t2 m₁ hx hl ⟨t3, j1, j2, j3⟩ d1 d2 d3 F2 N2
    have hxt := hok x hx
    rw [mset j1, mset j2, mset j3] at F2
    clear N9 F9
    obtain ⟨Ml, Mx, Md, nt1, nt2, nt3, nt4, nt5, Nln, Nst, Nk⟩ := M2
    dsimp only at d1 d2 d3
    subst d1 d2 d3
    iterate 9 (first | (k_unfold; (try dsimp only)) | walk1)
    refine if_no (by rw [ws_no hxt]; decide) ?_
    iterate 8 (first | (k_unfold; (try dsimp only)) | walk1)
    refine if_no (by rw [bs_no hxt]; decide) ?_
    iterate 10 (first | (k_unfold; (try dsimp only)) | walk1)
    rename News _ _ _ _ => N3
    rename Fr _ _ _ _ => F3
    rw [app1] at F3
    exact ⟨rfl, _, _, _, rfl, F3, N3, _, rfl, rfl, rfl⟩
  · show [d0].length + ds.length ≤ 100; rw [List.length_singleton]; omega
  · rintro M2 h2 tk2 k2 tp2 t2 tl2 m₁ ⟨t3, j1, j2, j3⟩ d1 d2 d3 O2 hln2 F2 N2
    rw [mset j1, mset j2, mset j3] at F2
    clear N9 F9
    obtain ⟨Ml, Mx, Md, nt1, nt2, nt3, nt4, nt5, Nln, Nst, Nk⟩ := M2
    dsimp only at d1 d2 d3 hln2
    subst d1 d2 d3 hln2
    iterate 9 (first | (k_unfold; (try dsimp only)) | walk1)
    refine if_yes (by rw [ws_yes hws]; rfl) ?_
    iterate 7 (first | (k_unfold; (try dsimp only)) | walk1)
    rename Fr h₀ L _ _ => F3
    rename News h₀ L _ _ => N3
    exact hret ⟨M.l, M.x, M.d, nt1, nt2, nt3, nt4, nt5, .int ((if c = 10 then ln + 1 else ln : Nat) : Int) tl2, Nst, Nk⟩ _ _ k2 _ tp2 tl2 rfl rfl rfl O2.tail.tail rfl F3 (news_sub N3 fun z hz => by
      simp only [machL, lexL, List.mem_cons] at hz ⊢
      rcases hz with h | h | h | h | h | h | h | h | h | h | h | h <;> simp only [h, true_or, or_true])
  · rw [show (⟨[d0].toArray⟩ : Str) = Str.ofString "" ++ (⟨#[d0]⟩ : Str) from (app1 [] d0).symm]
    exact ⟨_, rfl, rfl, rfl⟩
end
end Mine

end

section
open PySem PySem.W PySem.Spec PySem.Calls PyProof.Rows
namespace Mine
theorem lex_addr {w : World} {M M1 : MV} {Y : LX} {n n1 k k1 pos pos1 : Nat} {tp tp1 : Tok} {vs vs1 : List Value} {rest : List (Addr × Obj)} (e1 : M1.l = M.l) (e2 : M1.x = M.x) (e3 : M1.d = M.d) : ∀ z ∈ machL w M1 vs1 n1 (lexL Y pos1 tp1 k1 rest), ∃ z' ∈ machL w M vs n (lexL Y pos tp k rest), z'.1 = z.1 := by
  intro z hz
  simp only [machL, lexL, List.mem_cons] at hz
  rcases hz with h | h | h | h | h | h | h | h | h | h | h | h
  · exact ⟨(M.l, _), .head _, by rw [h]; exact e1.symm⟩
  · exact ⟨(M.x, _), .tail _ (.head _), by rw [h]; exact e2.symm⟩
  · exact ⟨(M.d, _), .tail _ (.tail _ (.head _)), by rw [h]; exact e3.symm⟩
  · exact ⟨(Y.D, _), .tail _ (.tail _ (.tail _ (.head _))), by rw [h]⟩
  · exact ⟨(Y.fS, _), .tail _ (.tail _ (.tail _ (.tail _ (.head _)))), by rw [h]⟩
  · exact ⟨(Y.cS, _), .tail _ (.tail _ (.tail _ (.tail _ (.tail _ (.head _))))), by rw [h]⟩
  · exact ⟨(Y.fR, _), .tail _ (.tail _ (.tail _ (.tail _ (.tail _ (.tail _ (.head _)))))), by rw [h]⟩
  · exact ⟨(Y.cR, _), .tail _ (.tail _ (.tail _ (.tail _ (.tail _ (.tail _ (.tail _ (.head _))))))), by rw [h]⟩
  · exact ⟨(Y.aL, _), .tail _ (.tail _ (.tail _ (.tail _ (.tail _ (.tail _ (.tail _ (.tail _ (.head _)))))))), by rw [h]⟩
  · exact ⟨(Y.cA, _), .tail _ (.tail _ (.tail _ (.tail _ (.tail _ (.tail _ (.tail _ (.tail _ (.tail _ (.head _))))))))), by rw [h]⟩
  · exact ⟨(Y.cT, _), .tail _ (.tail _ (.tail _ (.tail _ (.tail _ (.tail _ (.tail _ (.tail _ (.tail _ (.tail _ (.head _)))))))))), by rw [h]⟩
  · exact ⟨z, .tail _ (.tail _ (.tail _ (.tail _ (.tail _ (.tail _ (.tail _ (.tail _ (.tail _ (.tail _ (.tail _ h)))))))))), rfl⟩
section
variable {w : World} {p : Program} {loose : List Str} {mean : ExcName → Option Value} {mg mb : Str → Option Value} {dp un : Nat} {gd : Option (List Code)} {cn : Str} {cs : Scope} {a : Addr} {ccd : Value} {cl : List (Str × Addr)} {outer : List Env} {A₀ : Around} {base h₀ : Heap} {L : Addr} {m : Str → Option Value} {s : Shared} {M : MV} {Y : LX} {n k pos : Nat} {tp : Tok} {rest : List (Addr × Obj)} {Q E : Value → Shared → Prop}
set_option maxHeartbeats 400000 in
theorem tokend_c {text : Str} {ln : Nat} {tl : Tok} (O : LexOk w text M Y rest) (hln : M.ln = .int (ln : Nat) tl) (S : Std 8 w p loose mean mg mb dp un cs outer A₀ base h₀ L m s.heap (machL w M [] n (lexL Y pos tp k rest)))
    (hpos : text.cps.size ≤ pos)
    (hret : ∀ (M' : MV) (h' : Heap) (tk' k' : Nat) (t' tp' tl' : Tok), M'.l = M.l → M'.x = M.x → M'.d = M.d → LexOk w text M' Y rest → M'.ln = .int (ln : Nat) tl' → Fr h₀ L h' m →
      News h₀ L h' (machL w M' [] n (lexL Y pos tp' k' rest)) → Q (.str (Str.ofString "") t') { s with heap := h', toks := tk' }) :
    wpAny (model PP w) (ktrTop dp un gd cn cs L a ccd cl outer) (call (.ref 80) [.ref M.x]) Q E s := by
  obtain ⟨B, F, X, N, T, hcs, hdp, hun⟩ := S
  refine wpAny_call ?_
  k_dflt cell_enter
  iterate 27 (first | (k_unfold; (try dsimp only)) | walk1)
  rename Addr => q
  rename News _ _ _ _ => N9
  rename Fr _ _ _ _ => F9
  rename Frag.In _ _ => X9
  rename Top _ _ _ _ _ _ => T9
  rename Below _ _ _ _ => B9
  rename (M.l < q ∧ _) => ltq
  refine iter_sentK F9 N9 (.head _) fun I hI F10 N10 ltI => ?_
  clear F9 N9
  iterate 3 (first | (k_unfold; (try dsimp only)) | walk1)
  refine wpAny_For ?_ (by intro _; rfl)
  iterate 1 (first | (k_unfold; (try dsimp only)) | walk1)
  rename News _ _ _ _ => N9
  rename Fr _ _ _ _ => F9
  obtain ⟨tI, N9⟩ : ∃ tI, News _ _ _ ((I, ciObj q tI) :: (q, methodObj (.ref 73) (.ref M.x)) :: machL w M [] n (lexL Y pos tp k rest)) := ⟨_, N9⟩
  refine ci_pyIter (N9 _ (.head _)).1 ?_
  have ltI0 : M.l < I := Nat.lt_trans ltq.1 (ltI _ (.head _))
  have O2 := (O.cons (q := (q, methodObj (.ref 73) (.ref M.x))) ltq.1).cons (q := (I, ciObj q tI)) ltI0
  refine for_turn (lex_end O2 hln ⟨B9, F9, X9, news_sub N9 lex_mem, T9, rfl, ?_, ?_⟩ (.tail _ (.head _)) (.head _) hpos fun M1 h1 h2 tk1 k1 tp1 tl1 e1 e2 e3 O1 hln1 F1 N1 hx => ?_)
  · show dp + 1 + 5 < recursionLimit; omega
  · show un + 3 + 20 * 5 < cLine; omega
  have zI := N1 (I, ciObj q tI) (by simp [machL, lexL])
  have F2 := fr_ext F1 hx zI.2.1 zI.2.2
  have N2 : News _ _ h2 (machL w M1 [] n (lexL Y pos tp1 k1 rest)) := news_ext (news_sub N1 fun z hz => by
      simp only [machL, lexL, List.mem_cons] at hz ⊢
      rcases hz with h | h | h | h | h | h | h | h | h | h | h | h <;> simp only [h, true_or, or_true]) hx fun z hz => (by
        obtain ⟨z', hz', ez⟩ := lex_addr (M := M) (n := n) (k := k) (pos := pos) (tp := tp) (vs := []) e1 e2 e3 z hz
        rw [← ez]
        exact Nat.ne_of_lt (ltI z' (.tail _ hz')))
  clear N9 F9 F1 N1
  obtain ⟨Ml, Mx, Md, mt1, mt2, mt3, mt4, mt5, Mln, Mst, Mk⟩ := M1
  dsimp only at e1 e2 e3 hln1
  subst e1 e2 e3 hln1
  iterate 5 (first | (k_unfold; (try dsimp only)) | walk1)
  rename Fr h₀ L _ _ => F3
  rename News h₀ L _ _ => N3
  exact hret ⟨M.l, M.x, M.d, mt1, mt2, mt3, mt4, mt5, .int (ln : Nat) tl1, Mst, Mk⟩ _ _ k1 _ tp1 tl1 rfl rfl rfl O1.tail.tail rfl F3 N3
end
end Mine

end

section
open PySem PySem.W PySem.Spec PySem.Calls PyProof.Rows
namespace Mine
def baseL : List Int := [7, 3, 11, 3, 12, 9, 6, 0, 2, 0, 0]
def cellsL (ns : List Int) : List Int := List.zipWith (· + ·) baseL (ns.take 11 ++ List.replicate 11 0)
theorem intsAre_get : ∀ {vs : List Value} {ys : List Int} (_ : IntsAre vs ys) {j : Nat} {v : Value}, vs.toArray[j]? = some v → ∃ y t, ys[j]? = some y ∧ v = .int y t
  | _, _, .nil, j, v, h => by simp at h
  | _, _, .cons y t r, 0, v, h => ⟨y, t, rfl, by simpa using h.symm⟩
  | _, _, .cons y t r, j + 1, v, h => by
    obtain ⟨z, t, e, e'⟩ := intsAre_get r (j := j) (v := v) (by simpa using h)
    exact ⟨z, t, by simpa using e, e'⟩
theorem intsAre_at : ∀ {vs : List Value} {ys : List Int} (_ : IntsAre vs ys) {j : Nat} {y : Int}, ys[j]? = some y → ∃ t, vs.toArray[j]? = some (.int y t)
  | _, _, .nil, j, v, h => by simp at h
  | _, _, .cons y t r, 0, v, h => ⟨t, by simpa using h⟩
  | _, _, .cons y t r, j + 1, v, h => by
    obtain ⟨t, e⟩ := intsAre_at r (j := j) (y := v) (by simpa using h)
    exact ⟨t, by simpa using e⟩
theorem cellsL_length (ns : List Int) : (cellsL ns).length = 11 := by
  simp [cellsL, baseL]
theorem intsAre_snoc {vs : List Value} {ys : List Int} {y : Int} {t : Tok} (h : IntsAre vs ys) : IntsAre (vs ++ [.int y t]) (ys ++ [y]) := by
  induction h with
  | nil => exact .cons _ _ .nil
  | cons y t r ih => exact .cons y t ih
theorem nameE_F {M : Model} {A : Around} {E : Value → Shared → Prop} {s : Shared} {h₀ : Heap} {L c : Addr} {news : List (Addr × Obj)} {o : Obj} {env : Env} {x : Str} {pos : Pos} {v : Value} {Q : Value → Shared → Prop} (N : News h₀ L s.heap news) (hm : (c, o) ∈ news) (hd : o.data = .cell (some v)) (h : Q v s)
    (hk : env.scope.kind = .function) (hx : env.kindOf x = some .free) (hc : env.cells.lookup x = some c) (hb : (x == ("__debug__" : Str)) = false) (hn : (x == ("__classdict__" : Str)) = false) :
    wpAny M A (eval (.Name x pos) env) Q E s := wpAny_Name (wpAny_loadName_free hk hx hc ⟨o, N.get hm, hd⟩ h hn) hb
theorem nameE_C {M : Model} {A : Around} {E : Value → Shared → Prop} {s : Shared} {h₀ : Heap} {L c : Addr} {news : List (Addr × Obj)} {o : Obj} {env : Env} {x : Str} {pos : Pos} {v : Value} {Q : Value → Shared → Prop} (N : News h₀ L s.heap news) (hm : (c, o) ∈ news) (hd : o.data = .cell (some v)) (h : Q v s)
    (hk : env.scope.kind = .function) (hx : env.kindOf x = some .cell) (hc : env.cells.lookup x = some c) (hb : (x == ("__debug__" : Str)) = false) :
    wpAny M A (eval (.Name x pos) env) Q E s := wpAny_Name (wpAny_loadName_cell hk hx hc ⟨o, N.get hm, hd⟩ h) hb
theorem item_int {prog : Program} {w : World} {A : Around} {E : Value → Shared → Prop} {s : Shared} {value slice : PySem.Expr} {h₀ : Heap} {L l : Addr} {led : List (Addr × Obj)} {n : Nat} {vs : List Value} {ns : List Int} {k : Int} {u : Tok} {x : Int} {Q : Value → Shared → Prop}
    (N : News h₀ L s.heap led) (hm : (l, listOf vs.toArray n) ∈ led) (hi : IntsAre vs ns) (h0 : 0 ≤ k) (hhi : k < 2 ^ 63) (hx : ns[k.toNat]? = some x) (h : ∀ t, Q (.int x t) s)
    (hs : subscripted slice false (.ref l) (.int k u) = operate [.ref l, .int k u] (getItem (.ref l) (.int k u))) :
    wpAny (model prog w) A (subscriptTail value slice (.ref l) (.int k u)) Q E s := by
  obtain ⟨t, ht⟩ := intsAre_at hi hx
  have hl : s.heap.IsList l vs.toArray := ⟨_, (N _ hm).1, rfl, n, rfl⟩
  exact tail_any hl.typeIs slot_list_getitem.lookup (wpAny_getItem_list hl h0 hhi ht (h t)) hs
theorem fm_pos {a b : Int} (hb : 0 < b) : 0 ≤ a.fmod b ∧ a.fmod b < b := by
  rw [Int.fmod_eq_emod_of_nonneg a (Int.le_of_lt hb)]
  exact ⟨Int.emod_nonneg a (Int.ne_of_gt hb), Int.emod_lt_of_pos a hb⟩
def bal (d : Int) : Nat := (d.fmod 16).toNat
theorem bal_int (d : Int) : d.fmod 16 = ((bal d : Nat) : Int) := by
  have := fm_pos (a := d) (b := 16) (by decide)
  unfold bal; omega
theorem bal_lt (d : Int) : bal d < 16 := by
  have := fm_pos (a := d) (b := 16) (by decide)
  unfold bal; omega
def wsI (d : Int) : Nat := ((d.fdiv 16).fmod 4).toNat
theorem wsI_int (d : Int) : (d.fdiv 16).fmod 4 = ((wsI d : Nat) : Int) := by
  have := fm_pos (a := d.fdiv 16) (b := 4) (by decide)
  unfold wsI; omega
theorem wsI_lt (d : Int) : wsI d < 4 := by
  have := fm_pos (a := d.fdiv 16) (b := 4) (by decide)
  unfold wsI; omega
def wsOf (i : Nat) : Nat := [32, 10, 9, 13].getD i 32
theorem wsOf_ok : ∀ i < 4, wsOf i = 32 ∨ wsOf i = 10 ∨ wsOf i = 9 ∨ wsOf i = 13 := by decide
def pieceL (k i : Nat) : List Nat := 46 :: ((bitsOf k).map (97 + ·) ++ [wsOf i])
def pieceS (k i : Nat) : Str := ⟨(pieceL k i).toArray⟩
theorem row0_len : ∀ k < 16, (rowS (0, k)).length ≤ 4 := by decide +kernel
theorem join_my {prog : Program} {w : World} {A : Around} {E : Value → Shared → Prop} {s : Shared} {h₀ : Heap} {L D : Addr} {led : List (Addr × Obj)} {n : Nat} {vs : List Value} {ys : List Str} {x : Str} {t : Tok} {Q : Value → Shared → Prop}
    (N : News h₀ L s.heap led) (hm : (D, listOf vs.toArray n) ∈ led) (hi : StrsAre vs ys) (hok : (ys.map (·.length)).sum + ys.length * x.length ≤ 16777216)
    (h : ∀ t' k, Q (.str (Txt.join x ys) t') { s with toks := k }) : wpAny (model prog w) A (call (.builtin "str.join") [.str x t, .ref D]) Q E s :=
  join_list (items := vs.toArray) ⟨_, (N _ hm).1, rfl, n, rfl⟩ hi hok h
theorem join_bal : ∀ k < 16, Txt.join (Str.ofString "") ((bitsOf k).map ltr) = rowS (0, k) := by decide +kernel
theorem join_bal_ok : ∀ k < 16, (((bitsOf k).map ltr).map (·.length)).sum + ((bitsOf k).map ltr).length * (Str.ofString "").length ≤ 16777216 := by decide +kernel
theorem piece_eq : ∀ k < 16, ∀ i < 4, Str.ofString "." ++ rowS (0, k) ++ Txt.item (Str.ofString " \n\t\r") ((i : Nat) : Int) = pieceS k i := by decide +kernel
theorem piece_len : ∀ k < 16, ∀ i < 4, (pieceS k i).length ≤ 6 := by decide +kernel
def pcs (ds : List Int) : List Str := ds.map fun d => pieceS (bal d) (wsI d)
def textL (ds : List Int) : List Nat := ds.flatMap fun d => pieceL (bal d) (wsI d)
def textS (ds : List Int) : Str := ⟨(textL ds).toArray⟩
theorem pcs_sum (ds : List Int) : ((pcs ds).map (·.length)).sum ≤ 6 * ds.length := by
  induction ds with
  | nil => decide
  | cons d ds ih =>
    have h1 := piece_len _ (bal_lt d) _ (wsI_lt d)
    simp only [pcs, List.map_cons, List.sum_cons, List.length_cons] at ih ⊢
    omega
theorem join_text (ds : List Int) : Txt.join (Str.ofString "") (pcs ds) = textS ds := by
  rw [Txt.join, StrLaws.glued_eq_join]
  induction ds with
  | nil => rfl
  | cons d ds ih =>
    cases ds with
    | nil =>
      show pieceS (bal d) (wsI d) = _
      simp [textS, textL, pieceS]
    | cons d' ds =>
      have e : Str.join (Str.ofString "") (pcs (d :: d' :: ds)) = pieceS (bal d) (wsI d) ++ Str.ofString "" ++ Str.join (Str.ofString "") (pcs (d' :: ds)) := rfl
      rw [e, ih]
      refine Str.ext' ?_
      rw [Str.cps_append, Str.cps_append]
      simp [textS, textL, pieceS, show (Str.ofString "").cps = #[] from rfl]
theorem textL_len (ds : List Int) : (textL ds).length ≤ 6 * ds.length := by
  induction ds with
  | nil => decide
  | cons d ds ih =>
    have h1 := piece_len _ (bal_lt d) _ (wsI_lt d)
    have h2 : (pieceS (bal d) (wsI d)).length = (pieceL (bal d) (wsI d)).length := by simp [pieceS, Str.length]
    simp only [textL, List.flatMap_cons, List.length_append, List.length_cons] at ih ⊢
    omega
theorem lex_ge {w : World} {text : Str} {M M1 : MV} {Y : LX} {n k pos : Nat} {tp : Tok} {vs : List Value} {rest : List (Addr × Obj)} (O : LexOk w text M Y rest) (e1 : M1.l = M.l) (e2 : M1.x = M.x) (e3 : M1.d = M.d) : ∀ z ∈ machL w M1 vs n (lexL Y pos tp k []), Y.cT ≤ z.1 := by
  have b1 := Nat.le_of_lt O.o1
  have b2 := Nat.le_trans b1 (Nat.le_of_lt O.o2)
  have b3 := Nat.le_trans b2 (Nat.le_of_lt O.o3)
  have b4 := Nat.le_trans b3 (Nat.le_of_lt O.o4)
  have b5 := Nat.le_trans b4 (Nat.le_of_lt O.o5)
  have b6 := Nat.le_trans b5 (Nat.le_of_lt O.o6)
  have b7 := Nat.le_trans b6 (Nat.le_of_lt O.o7)
  have b8 := Nat.le_trans b7 (Nat.le_of_lt O.o8)
  have b9 := Nat.le_trans b8 (Nat.le_of_lt O.o9)
  have b10 := Nat.le_trans b9 (Nat.le_of_lt O.o10)
  intro z hz
  simp only [machL, lexL, List.mem_cons, List.not_mem_nil, or_false] at hz
  rcases hz with h | h | h | h | h | h | h | h | h | h | h <;> rw [h]
  · show Y.cT ≤ M1.l; rw [e1]; exact b10
  · show Y.cT ≤ M1.x; rw [e2]; exact b9
  · show Y.cT ≤ M1.d; rw [e3]; exact b8
  · exact b7
  · exact b6
  · exact b5
  · exact b4
  · exact b3
  · exact b2
  · exact b1
  · exact Nat.le_refl _
theorem lex_split {w : World} {M1 : MV} {Y : LX} {n k pos : Nat} {tp : Tok} {vs : List Value} {rest : List (Addr × Obj)} {z : Addr × Obj} : z ∈ machL w M1 vs n (lexL Y pos tp k rest) ↔ z ∈ machL w M1 vs n (lexL Y pos tp k []) ∨ z ∈ rest := by
  simp only [machL, lexL, List.mem_cons, List.not_mem_nil, or_false, or_assoc]
theorem lex_shuffle {w : World} {M1 : MV} {Y : LX} {n k pos : Nat} {tp : Tok} {vs : List Value} {R its : List (Addr × Obj)} {a b z : Addr × Obj} : z ∈ machL w M1 vs n (lexL Y pos tp k (a :: b :: (R ++ its))) ↔ z ∈ a :: b :: (machL w M1 vs n (lexL Y pos tp k R) ++ its) := by
  constructor
  · intro h
    rcases lex_split.mp h with h | h
    · exact .tail _ (.tail _ (List.mem_append_left _ (lex_split.mpr (.inl h))))
    rcases List.mem_cons.mp h with rfl | h
    · exact .head _
    rcases List.mem_cons.mp h with rfl | h
    · exact .tail _ (.head _)
    rcases List.mem_append.mp h with h | h
    · exact .tail _ (.tail _ (List.mem_append_left _ (lex_split.mpr (.inr h))))
    · exact .tail _ (.tail _ (List.mem_append_right _ h))
  · intro h
    rcases List.mem_cons.mp h with rfl | h
    · exact lex_split.mpr (.inr (.head _))
    rcases List.mem_cons.mp h with rfl | h
    · exact lex_split.mpr (.inr (.tail _ (.head _)))
    rcases List.mem_append.mp h with h | h
    · rcases lex_split.mp h with h | h
      · exact lex_split.mpr (.inl h)
      · exact lex_split.mpr (.inr (.tail _ (.tail _ (List.mem_append_left _ h))))
    · exact lex_split.mpr (.inr (.tail _ (.tail _ (List.mem_append_right _ h))))
def posOf (ds : List Int) (i : Nat) : Nat := (textL (ds.take i)).length
def lnOf (ds : List Int) (i : Nat) : Nat := 1 + ((ds.take i).filter fun d => decide (wsOf (wsI d) = 10)).length
theorem textL_append (a b : List Int) : textL (a ++ b) = textL a ++ textL b := List.flatMap_append
theorem text_cut {ds : List Int} {i : Nat} {d : Int} (h : ds[i]? = some d) : textL ds = textL (ds.take i) ++ (46 :: ((bitsOf (bal d)).map (97 + ·) ++ (wsOf (wsI d) :: textL (ds.drop (i + 1))))) := by
  have hlt : i < ds.length := by
    rcases Nat.lt_or_ge i ds.length with q | q
    · exact q
    · rw [List.getElem?_eq_none q] at h; cases h
  have e : ds = ds.take i ++ (d :: ds.drop (i + 1)) := by
    have e1 := List.drop_eq_getElem_cons hlt
    have e2 : ds[i] = d := by
      have := List.getElem?_eq_getElem hlt
      rw [this] at h; exact Option.some.inj h
    rw [e2] at e1
    rw [← e1, List.take_append_drop]
  conv => lhs; rw [e, textL_append]
  simp [textL, pieceL]
theorem posOf_succ {ds : List Int} {i : Nat} {d : Int} (h : ds[i]? = some d) : posOf ds (i + 1) = posOf ds i + 1 + ((bitsOf (bal d)).map (97 + ·)).length + 1 := by
  unfold posOf
  rw [List.take_add_one, h, textL_append]
  simp [textL, pieceL]
  omega
theorem lnOf_succ {ds : List Int} {i : Nat} {d : Int} (h : ds[i]? = some d) : lnOf ds (i + 1) = if wsOf (wsI d) = 10 then lnOf ds i + 1 else lnOf ds i := by
  unfold lnOf
  rw [List.take_add_one, h, List.filter_append]
  by_cases hw : wsOf (wsI d) = 10 <;> simp [hw]
  omega
theorem text_at {ds : List Int} {i : Nat} {d : Int} (h : ds[i]? = some d) : (textS ds).cps[posOf ds i]? = some 46 ∧ (∀ j < ((bitsOf (bal d)).map (97 + ·)).length, (textS ds).cps[posOf ds i + 1 + j]? = ((bitsOf (bal d)).map (97 + ·))[j]?) ∧
    (textS ds).cps[posOf ds i + 1 + ((bitsOf (bal d)).map (97 + ·)).length]? = some (wsOf (wsI d)) := by
  have e : (textS ds).cps = (textL (ds.take i) ++ (46 :: ((bitsOf (bal d)).map (97 + ·) ++ (wsOf (wsI d) :: textL (ds.drop (i + 1)))))).toArray := by
    show (textL ds).toArray = _
    rw [← text_cut h]
  rw [e]
  unfold posOf
  generalize textL (ds.take i) = A
  generalize (bitsOf (bal d)).map (97 + ·) = B
  generalize textL (ds.drop (i + 1)) = C
  refine ⟨?_, fun j hj => ?_, ?_⟩
  · simp
  · rw [List.getElem?_toArray, List.getElem?_append_right (by omega), show A.length + 1 + j - A.length = j + 1 by omega, List.getElem?_cons_succ, List.getElem?_append_left hj]
  · rw [List.getElem?_toArray, List.getElem?_append_right (by omega), show A.length + 1 + B.length - A.length = B.length + 1 by omega, List.getElem?_cons_succ, List.getElem?_append_right (by omega)]
    simp
theorem posOf_end {ds : List Int} {i : Nat} (h : ds.length ≤ i) : (textS ds).cps.size ≤ posOf ds i := by
  unfold posOf
  rw [List.take_of_length_le h]
  show (textL ds).toArray.size ≤ _
  rw [List.size_toArray]
  exact Nat.le_refl _
theorem posOf_last (ds : List Int) : posOf ds (ds.length + 1) = posOf ds ds.length := by
  unfold posOf
  rw [List.take_of_length_le (by omega), List.take_of_length_le (by omega)]
theorem lnOf_last (ds : List Int) : lnOf ds (ds.length + 1) = lnOf ds ds.length := by
  unfold lnOf
  rw [List.take_of_length_le (by omega), List.take_of_length_le (by omega)]
theorem dot_row : ∀ k < 16, Str.ofString "." ++ rowS (0, k) = rowS (1, k) := by decide +kernel
theorem bits_tok (k : Nat) : ∀ x ∈ (bitsOf k).map (97 + ·), TokCh x := by
  intro x hx
  obtain ⟨c, hc, rfl⟩ := List.mem_map.mp hx
  have h4 : c < 4 := by
    have := (List.mem_filter.mp hc).1
    simpa using this
  unfold TokCh
  omega
theorem bits_len (k : Nat) : ((bitsOf k).map (97 + ·)).length < 50 := by
  have := List.length_filter_le (fun x => k.testBit x) (List.range 4)
  rw [List.length_range] at this
  rw [List.length_map]
  exact Nat.lt_of_le_of_lt this (by decide)
def heardL (ds : List Int) (i : Nat) : List Str := ((ds.take i).map fun d => rowS (1, bal d)) ++ (if i = ds.length + 1 then [Str.ofString ""] else [])
theorem heardL_succ {ds : List Int} {i : Nat} {d : Int} (h : ds[i]? = some d) : heardL ds (i + 1) = heardL ds i ++ [⟨(46 :: (bitsOf (bal d)).map (97 + ·)).toArray⟩] := by
  have hlt : i < ds.length := by
    rcases Nat.lt_or_ge i ds.length with q | q
    · exact q
    · rw [List.getElem?_eq_none q] at h; cases h
  unfold heardL
  rw [if_neg (by omega), if_neg (by omega), List.append_nil, List.append_nil, List.take_add_one, h, List.map_append]
  rfl
theorem heardL_eq (ds : List Int) : heardL ds (ds.length + 1) = (ds.map fun d => rowS (1, bal d)) ++ [Str.ofString ""] := by
  unfold heardL
  rw [if_pos rfl, List.take_of_length_le (by omega)]
theorem heardL_ok (ds : List Int) : ∀ x ∈ (ds.map fun d => rowS (1, bal d)) ++ [Str.ofString ""], PyData.strOk x = true := by
  intro x hx
  rcases List.mem_append.mp hx with hx | hx
  · obtain ⟨d, _, rfl⟩ := List.mem_map.mp hx
    exact ok_row 1 (by decide) _ (bal_lt d)
  · rw [List.mem_singleton.mp hx]; decide +kernel
theorem heardL_last (ds : List Int) : heardL ds (ds.length + 1) = heardL ds ds.length ++ [Str.ofString ""] := by
  unfold heardL
  rw [if_pos rfl, if_neg (by omega), List.append_nil, List.take_of_length_le (by omega), List.take_of_length_le (by omega)]
end Mine

end

section
open PySem PySem.W PySem.Spec PySem.Calls PyProof.Rows
namespace Mine
theorem units_law (e : Env) : (callerA.deeper e).units + 64 < cLine := by
  rw [units_deeper, units_caller, cLine_is]
  decide
theorem strsAre_snoc_inv : ∀ {vs : List Value} {xs : List Str} {x : Str}, StrsAre vs (xs ++ [x]) → ∃ ws v, vs = ws ++ [v] ∧ StrsAre ws xs
  | _, [], x, .cons _ t .nil => ⟨[], _, rfl, .nil⟩
  | _, y :: xs, x, .cons _ t r => by
    obtain ⟨ws, v, e, h⟩ := strsAre_snoc_inv (xs := xs) r
    exact ⟨_ :: ws, v, by rw [e]; rfl, .cons y t h⟩
theorem slice_init (ys : List Value) (v : Value) : (slicePick (ys ++ [v]).toArray none (some (-1)) none).toList = ys := by
  have e : sliceBounds none (some (-1)) none (ys ++ [v]).toArray.size = (((0 : Nat) : Int), ((ys.length : Nat) : Int), 1) := by
    rw [List.size_toArray, List.length_append, List.length_singleton]
    simp only [sliceBounds, Option.getD_none, show (1 : Int) > 0 by decide, if_true, if_pos (show (-1 : Int) < 0 by decide)]
    congr 1
    congr 1
    omega
  rw [kmk_pick_nat _ e]
  simp
theorem MOff.tail {M : MV} {q : Addr × Obj} {rest : List (Addr × Obj)} (o : MOff M (q :: rest)) : MOff M rest := ⟨o.lx, o.ld, o.xd, fun p hp => o.off p (.tail _ hp)⟩
theorem mach_mono {w : World} {M : MV} {vs : List Value} {n : Nat} {r r' : List (Addr × Obj)} (h : ∀ z ∈ r, z ∈ r') : ∀ z ∈ machL w M vs n r, z ∈ machL w M vs n r' := by
  intro z hz
  rcases List.mem_cons.mp hz with rfl | hz
  · exact .head _
  rcases List.mem_cons.mp hz with rfl | hz
  · exact .tail _ (.head _)
  rcases List.mem_cons.mp hz with rfl | hz
  · exact .tail _ (.tail _ (.head _))
  · exact .tail _ (.tail _ (.tail _ (h z hz)))
theorem cnt_append (c : Nat) (a b : List Nat) : cnt c (a ++ b) = cnt c a + cnt c b := by
  induction a with
  | nil => rw [List.nil_append, cnt_nil, Int.zero_add]
  | cons x a ih => rw [List.cons_append, cnt_cons, cnt_cons, ih, Int.add_assoc]
theorem cnt_piece : ∀ k < 16, ∀ i < 4, cnt 10 (pieceL k i) = if wsOf i = 10 then 1 else 0 := by decide +kernel
theorem count_text (ds : List Int) : Txt.count (textS ds) (Str.ofString "\n") = (((ds.filter fun d => decide (wsOf (wsI d) = 10)).length : Nat) : Int) := by
  rw [show Str.ofString "\n" = ⟨#[10]⟩ from rfl, count_cnt]
  show cnt 10 (textL ds).toArray.toList = _
  rw [List.toList_toArray]
  induction ds with
  | nil => rfl
  | cons d ds ih =>
    have e : textL (d :: ds) = pieceL (bal d) (wsI d) ++ textL ds := rfl
    rw [e, cnt_append, ih, cnt_piece _ (bal_lt d) _ (wsI_lt d)]
    by_cases hw : wsOf (wsI d) = 10
    · rw [if_pos hw, List.filter_cons_of_pos (by simpa using hw), List.length_cons]; omega
    · rw [if_neg hw, List.filter_cons_of_neg (by simpa using hw)]; omega
theorem ln_text (ds : List Int) : ((lnOf ds ds.length : Nat) : Int) = 1 + Txt.count (textS ds) (Str.ofString "\n") := by
  rw [count_text]
  unfold lnOf
  rw [List.take_length]
  omega
end Mine

end

section
open PySem PySem.W PySem.Spec PySem.Calls PyProof.Rows
namespace Mine
def ordN (c9 c10 : Int) (k : Nat) : Nat := ((c9 + (k : Int) * (1 + c10.fmod 2 * 2)).fmod 4).toNat
theorem ordN_lt (c9 c10 : Int) (k : Nat) : ordN c9 c10 k < 4 := by
  have := fm_pos (a := c9 + (k : Int) * (1 + c10.fmod 2 * 2)) (b := 4) (by decide)
  unfold ordN; omega
theorem ordN_int (c9 c10 : Int) (k : Nat) : (c9 + (k : Int) * (1 + c10.fmod 2 * 2)).fmod 4 = ((ordN c9 c10 k : Nat) : Int) := by
  have := fm_pos (a := c9 + (k : Int) * (1 + c10.fmod 2 * 2)) (b := 4) (by decide)
  unfold ordN; omega
def ordL (c9 c10 : Int) : List Nat := (List.range 4).map (ordN c9 c10)
theorem item_abcd : ∀ i < 4, Txt.item (Str.ofString "abcd") ((i : Nat) : Int) = ltr i := by decide +kernel
theorem ordL_lt (c9 c10 : Int) : ∀ c ∈ ordL c9 c10, c < 4 := by
  intro c hc
  obtain ⟨k, _, rfl⟩ := List.mem_map.mp hc
  exact ordN_lt _ _ _
theorem ordL_all (c9 c10 : Int) : ∀ c < 4, c ∈ ordL c9 c10 := by
  intro c hc
  have h2 := fm_pos (a := c10) (b := 2) (by decide)
  have h9 := Int.fmod_eq_emod_of_nonneg
  have hs : 1 + c10.fmod 2 * 2 = 1 ∨ 1 + c10.fmod 2 * 2 = 3 := by omega
  have key : ∃ k < 4, ordN c9 c10 k = c := by
    unfold ordN
    rcases hs with e | e <;> rw [e]
    · refine ⟨(((c : Int) - c9).fmod 4).toNat, ?_, ?_⟩
      · have := fm_pos (a := (c : Int) - c9) (b := 4) (by decide); omega
      · have h1 := fm_pos (a := (c : Int) - c9) (b := 4) (by decide)
        rw [Int.toNat_of_nonneg h1.1, h9 _ (by decide), h9 _ (by decide)]
        omega
    · refine ⟨((3 * ((c : Int) - c9)).fmod 4).toNat, ?_, ?_⟩
      · have := fm_pos (a := 3 * ((c : Int) - c9)) (b := 4) (by decide); omega
      · have h1 := fm_pos (a := 3 * ((c : Int) - c9)) (b := 4) (by decide)
        rw [Int.toNat_of_nonneg h1.1, h9 _ (by decide), h9 _ (by decide)]
        omega
  obtain ⟨k, hk, e⟩ := key
  exact List.mem_map.mpr ⟨k, List.mem_range.mpr hk, e⟩
section
variable {w : World} {p : Program} {loose : List Str} {mean : ExcName → Option Value} {mg mb : Str → Option Value} {dp un : Nat} {gd : Option (List Code)} {cn : Str} {cs : Scope} {a : Addr} {ccd : Value} {cl : List (Str × Addr)} {outer : List Env} {A₀ : Around} {base h₀ : Heap} {L : Addr} {m : Str → Option Value} {s : Shared} {M : MV} {vs : List Value} {n : Nat} {rest news : List (Addr × Obj)} {Q E : Value → Shared → Prop}
theorem choose_c' {bs os : List Nat} {st sz : Nat} {t1 t2 : Tok} {ao : Addr} {ov : List Value} {no : Nat} (hsz : bs.length = sz) (S : Std 6 w p loose mean mg mb dp un cs outer A₀ base h₀ L m s.heap (machL w M vs n rest)) (o : MOff M rest) (hao : (ao, listOf ov.toArray no) ∈ rest)
    (hvs : StrsAre vs ((rowsOf bs []).map rowS)) (hok : ∀ k ∈ bs, k < 16) (hlen : bs.length ≤ 7) (hl0 : 0 < bs.length) (hst : st < 4) (hov : StrsAre ov (os.map ltr)) (hos : ∀ c ∈ os, c < 4)
    (hret : ∀ (r : Addr) (h' : Heap) (tk' n' nr : Nat) (vs' cvs : List Value), Fr h₀ L h' m → News h₀ L h' (machL w M vs' n' ((r, listOf cvs.toArray nr) :: rest)) → (∀ p ∈ machL w M vs n rest, p.1 < r) → ChOk (chooseN bs os st st) →
      StrsAre vs' ((rowsOf bs (chooseN bs os st st)).map rowS) → StrsAre cvs ((chooseN bs os st st).map ltr) → Q (.ref r) { s with heap := h', toks := tk' }) :
    wpAny (model PP w) (ktrTop dp un gd cn cs L a ccd cl outer) (call (.ref 130) [.ref M.x, .int (sz : Nat) t1, .int st t2, .ref ao]) Q E s := by
  subst hsz
  exact choose_c S o hao hvs hok hlen hl0 hst hov hos hret
end
theorem rows0 (ds : List Int) : (rowsOf (ds.map bal) []).map rowS = ds.map fun d => rowS (1, bal d) := by
  unfold rowsOf
  rw [List.map_map, List.map_map]
  rfl
theorem bals_lt (ds : List Int) : ∀ k ∈ ds.map bal, k < 16 := by
  intro k hk
  obtain ⟨d, _, rfl⟩ := List.mem_map.mp hk
  exact bal_lt d
end Mine

end

section
open PySem PySem.W PySem.Spec PySem.Calls PyProof.Rows
namespace Mine
theorem MOff.more {M : MV} {R its : List (Addr × Obj)} {a b : Addr × Obj} (o : MOff M R) (hx : M.d < M.x) (hl : M.x < M.l) (ha : M.l < a.1) (hb : M.l < b.1) (hi : ∀ p ∈ its, M.l < p.1) : MOff M (a :: b :: (R ++ its)) := by
  have key : ∀ p : Addr × Obj, M.l < p.1 → ∀ c ∈ [M.l, M.x, M.d], p.1 ≠ c := by
    intro p hp c hc
    simp only [List.mem_cons, List.not_mem_nil, or_false] at hc
    rcases hc with rfl | rfl | rfl
    · exact Nat.ne_of_gt hp
    · exact Nat.ne_of_gt (Nat.lt_trans hl hp)
    · exact Nat.ne_of_gt (Nat.lt_trans (Nat.lt_trans hx hl) hp)
  refine ⟨o.lx, o.ld, o.xd, fun p hp => ?_⟩
  rcases List.mem_cons.mp hp with rfl | hp
  · exact key _ ha
  rcases List.mem_cons.mp hp with rfl | hp
  · exact key _ hb
  rcases List.mem_append.mp hp with hp | hp
  · exact o.off p hp
  · exact key p (hi p hp)
theorem mach_shuffle {w : World} {M : MV} {n : Nat} {vs : List Value} {R its : List (Addr × Obj)} {a b z : Addr × Obj} : z ∈ machL w M vs n (a :: b :: (R ++ its)) ↔ z ∈ a :: b :: (machL w M vs n R ++ its) := by
  constructor
  · intro h
    rcases List.mem_cons.mp h with rfl | h
    · exact .tail _ (.tail _ (.head _))
    rcases List.mem_cons.mp h with rfl | h
    · exact .tail _ (.tail _ (.tail _ (.head _)))
    rcases List.mem_cons.mp h with rfl | h
    · exact .tail _ (.tail _ (.tail _ (.tail _ (.head _))))
    rcases List.mem_cons.mp h with rfl | h
    · exact .head _
    rcases List.mem_cons.mp h with rfl | h
    · exact .tail _ (.head _)
    · exact .tail _ (.tail _ (.tail _ (.tail _ (.tail _ h))))
  · intro h
    rcases List.mem_cons.mp h with rfl | h
    · exact .tail _ (.tail _ (.tail _ (.head _)))
    rcases List.mem_cons.mp h with rfl | h
    · exact .tail _ (.tail _ (.tail _ (.tail _ (.head _))))
    rcases List.mem_cons.mp h with rfl | h
    · exact .head _
    rcases List.mem_cons.mp h with rfl | h
    · exact .tail _ (.head _)
    rcases List.mem_cons.mp h with rfl | h
    · exact .tail _ (.tail _ (.head _))
    · exact .tail _ (.tail _ (.tail _ (.tail _ (.tail _ h))))
theorem strsAre_drop {vs : List Value} {xs : List Str} {i : Nat} {x : Str} (h : StrsAre vs (xs.drop i)) (hx : xs[i]? = some x) : ∃ t ws, vs = .str x t :: ws ∧ StrsAre ws (xs.drop (i + 1)) := by
  have hlt : i < xs.length := by
    rcases Nat.lt_or_ge i xs.length with q | q
    · exact q
    · rw [List.getElem?_eq_none q] at hx; cases hx
  have e1 := List.drop_eq_getElem_cons hlt
  have e2 : xs[i] = x := by
    have := List.getElem?_eq_getElem hlt
    rw [this] at hx; exact Option.some.inj hx
  rw [e2] at e1
  rw [e1] at h
  cases h with
  | cons _ t r => exact ⟨t, _, rfl, r⟩
theorem dots_row : ∀ d < 6, ∀ k < 16, Txt.mul (Str.ofString ".") ((d : Nat) : Int) ++ rowS (0, k) = rowS (d, k) := by decide +kernel
theorem dots_len : ∀ d < 6, (Txt.mul (Str.ofString ".") ((d : Nat) : Int)).length ≤ 6 := by decide +kernel
theorem held_le (ch : List Nat) (k : Nat) : held ch k ≤ 4 := by
  have h1 := List.length_filter_le (fun x => k.testBit x) (List.range 4)
  have h2 := List.length_filter_le (fun c => decide (c ∈ ch)) (bitsOf k)
  rw [List.length_range] at h1
  exact Nat.le_trans h2 h1
theorem dots_held {ch : List Nat} (h : ChOk ch) (k : Nat) : (ch.filter k.testBit).length = held ch k := by
  unfold held
  refine List.Perm.length_eq ((List.perm_ext_iff_of_nodup (h.1.filter _) ?_).mpr fun c => ?_)
  · exact (List.nodup_range.filter _).filter _
  · simp only [List.mem_filter, bitsOf, List.mem_range, decide_eq_true_eq]
    constructor
    · rintro ⟨h1, h2⟩
      exact ⟨⟨h.2 c h1, h2⟩, h1⟩
    · rintro ⟨⟨_, h2⟩, h1⟩
      exact ⟨h1, h2⟩
theorem due_eq {ch : List Nat} (h : ChOk ch) (ds : List Int) : (rowsOf (ds.map bal) ch).map rowS = ds.map fun d => rowS (1 + held ch (bal d), bal d) := by
  unfold rowsOf
  rw [List.map_map, List.map_map]
  refine List.map_congr_left fun d _ => ?_
  show rowS (1 + (ch.filter (bal d).testBit).length, bal d) = _
  rw [dots_held h]
theorem due_ok (ch : List Nat) (ds : List Int) : ∀ x ∈ ds.map fun d => rowS (1 + held ch (bal d), bal d), PyData.strOk x = true := by
  intro x hx
  obtain ⟨d, _, rfl⟩ := List.mem_map.mp hx
  have := held_le ch (bal d)
  exact ok_row _ (by omega) _ (bal_lt d)
end Mine

end

section
open PySem PySem.W PySem.Spec PySem.Calls PyProof.Rows
namespace Mine
def dots (ch : List Nat) (k : Nat) : Nat := (ch.filter k.testBit).length
theorem backs_eq (bs ch : List Nat) (lv c : Nat) : (backs bs ch lv c).length = (bs.filter fun k => k.testBit c && decide (dots ch k < lv)).length := by
  unfold backs rowsOf
  induction bs with
  | nil => rfl
  | cons k bs ih =>
    rw [List.map_cons]
    have e : hold c (1 + (ch.filter k.testBit).length, k) = k.testBit c := rfl
    cases hk : k.testBit c with
    | false =>
      rw [List.filter_cons_of_neg (by rw [e, hk]; exact Bool.false_ne_true), ih, List.filter_cons_of_neg (by simp [hk])]
    | true =>
      rw [List.filter_cons_of_pos (by rw [e, hk])]
      by_cases hd : dots ch k < lv
      · rw [List.filter_cons_of_pos (by simp; show 1 + dots ch k ≤ lv; omega), List.length_cons, ih, List.filter_cons_of_pos (by simp [hk, hd]), List.length_cons]
      · rw [List.filter_cons_of_neg (by simp; show lv < 1 + dots ch k; omega), ih, List.filter_cons_of_neg (by simp [hd])]
theorem dots_snoc (ch : List Nat) (c k : Nat) : dots (ch ++ [c]) k = dots ch k + if k.testBit c then 1 else 0 := by
  unfold dots
  rw [List.filter_append, List.length_append]
  cases h : k.testBit c <;> simp [h]
/-- what has been paid so far: by each ballot at most a whole, and so much a chosen name -/
structure Paid (bs ch : List Nat) (st lv : Nat) (pay : Nat → Nat) : Prop where
  le : ∀ k, pay k ≤ 6
  lvl : ∀ k, lv * pay k ≤ 6 * dots ch k
  sum : 6 * bs.length * ch.length ≤ st * (bs.map pay).sum
theorem sum_le {bs : List Nat} {pay : Nat → Nat} (h : ∀ k, pay k ≤ 6) : (bs.map pay).sum ≤ 6 * bs.length := by
  induction bs with
  | nil => simp
  | cons k bs ih => rw [List.map_cons, List.sum_cons, List.length_cons]; have := h k; omega
theorem sum_add {bs : List Nat} {pay : Nat → Nat} {q : Nat → Bool} {x : Nat} : (bs.map fun k => pay k + if q k then x else 0).sum = (bs.map pay).sum + x * (bs.filter q).length := by
  induction bs with
  | nil => simp
  | cons k bs ih =>
    rw [List.map_cons, List.sum_cons, List.map_cons, List.sum_cons, ih]
    cases h : q k
    · rw [List.filter_cons_of_neg (by simp [h])]; simp; omega
    · rw [List.filter_cons_of_pos (by simp [h]), List.length_cons]; simp [Nat.mul_add]; omega
theorem paid_pick {bs ch : List Nat} {st lv c : Nat} {pay : Nat → Nat} (h1 : 1 ≤ lv) (h3 : lv ≤ 3) (P : Paid bs ch st lv pay) : ∃ pay', Paid bs (pick bs st lv ch c) st lv pay' := by
  unfold pick
  by_cases hc : c ∈ ch
  · rw [if_pos hc]; exact ⟨pay, P⟩
  rw [if_neg hc]
  by_cases hb : lv * bs.length ≤ st * (backs bs ch lv c).length
  · rw [if_pos hb]
    rw [backs_eq] at hb
    obtain ⟨x, hx⟩ : ∃ x, lv * x = 6 := by
      have : lv = 1 ∨ lv = 2 ∨ lv = 3 := by omega
      rcases this with rfl | rfl | rfl
      · exact ⟨6, rfl⟩
      · exact ⟨3, rfl⟩
      · exact ⟨2, rfl⟩
    refine ⟨fun k => pay k + if (k.testBit c && decide (dots ch k < lv)) then x else 0, fun k => ?_, fun k => ?_, ?_⟩
    · have hl := P.lvl k
      have hle := P.le k
      by_cases hk : (k.testBit c && decide (dots ch k < lv)) = true
      · rw [if_pos hk]
        have hd : dots ch k < lv := by simp at hk; exact hk.2
        have : lv = 1 ∨ lv = 2 ∨ lv = 3 := by omega
        rcases this with rfl | rfl | rfl <;> omega
      · rw [if_neg hk]; omega
    · have hl := P.lvl k
      rw [dots_snoc]
      by_cases hk : (k.testBit c && decide (dots ch k < lv)) = true
      · rw [if_pos hk]
        have ht : k.testBit c = true := by simp at hk; exact hk.1
        rw [if_pos ht, Nat.mul_add, hx]
        omega
      · rw [if_neg hk, Nat.add_zero]
        split <;> omega
    · rw [sum_add, List.length_append, List.length_singleton]
      have hs := P.sum
      generalize (bs.filter fun k => k.testBit c && decide (dots ch k < lv)).length = b at hb ⊢
      have e : x * (lv * bs.length) ≤ x * (st * b) := Nat.mul_le_mul_left x hb
      have e1 : x * (lv * bs.length) = 6 * bs.length := by rw [← Nat.mul_assoc, Nat.mul_comm x lv, hx]
      have e2 : x * (st * b) = st * (x * b) := by rw [← Nat.mul_assoc, Nat.mul_comm x st, Nat.mul_assoc]
      have e3 : 6 * bs.length ≤ st * (x * b) := by rw [← e2, ← e1]; exact e
      have g1 : 6 * bs.length * (ch.length + 1) = 6 * bs.length * ch.length + 6 * bs.length := by rw [Nat.mul_add, Nat.mul_one]
      have g2 : st * ((bs.map pay).sum + x * b) = st * (bs.map pay).sum + st * (x * b) := Nat.mul_add _ _ _
      rw [g1, g2]
      exact Nat.add_le_add hs e3
  · rw [if_neg hb]; exact ⟨pay, P⟩
theorem paid_pass {bs : List Nat} {st lv : Nat} (h1 : 1 ≤ lv) (h3 : lv ≤ 3) : ∀ (os ch : List Nat) (pay : Nat → Nat), Paid bs ch st lv pay → ∃ pay', Paid bs (passLv bs st os lv ch) st lv pay'
  | [], ch, pay, P => ⟨pay, P⟩
  | c :: os, ch, pay, P => by
    obtain ⟨pay', P'⟩ := paid_pick (c := c) h1 h3 P
    exact paid_pass h1 h3 os _ pay' P'
theorem paid_choose {bs os : List Nat} {st : Nat} (hst : st ≤ 3) : ∀ i ≤ st, ∃ pay, Paid bs (chooseN bs os st i) st (st - i) pay
  | 0, _ => ⟨fun _ => 0, fun _ => by omega, fun _ => by omega, by simp [chooseN]⟩
  | i + 1, hi => by
    obtain ⟨pay, P⟩ := paid_choose hst i (by omega)
    obtain ⟨pay', P'⟩ := paid_pass (lv := st - i) (by omega) (by omega) os _ pay P
    refine ⟨pay', P'.le, fun k => ?_, P'.sum⟩
    have := P'.lvl k
    refine Nat.le_trans (Nat.mul_le_mul_right _ ?_) this
    omega
theorem choose_le {bs os : List Nat} {st : Nat} (hst : st ≤ 3) (hb : 0 < bs.length) : (chooseN bs os st st).length ≤ st := by
  obtain ⟨pay, P⟩ := paid_choose (bs := bs) (os := os) hst st (Nat.le_refl _)
  have h1 := P.sum
  have h2 := sum_le (bs := bs) P.le
  generalize (chooseN bs os st st).length = c at h1 ⊢
  have h3 : st * (bs.map pay).sum ≤ st * (6 * bs.length) := Nat.mul_le_mul_left _ h2
  have h4 : (6 * bs.length) * c ≤ (6 * bs.length) * st := by rw [Nat.mul_comm _ st]; omega
  exact Nat.le_of_mul_le_mul_left h4 (by omega)
end Mine

end

section
open PySem PySem.W PySem.Spec PySem.Calls PyProof.Rows
namespace Mine
theorem pick_sub {bs ch : List Nat} {st lv c : Nat} : ∃ l, pick bs st lv ch c = ch ++ l := by
  unfold pick
  split
  · exact ⟨[], (List.append_nil _).symm⟩
  · split
    · exact ⟨[c], rfl⟩
    · exact ⟨[], (List.append_nil _).symm⟩
theorem pass_sub {bs : List Nat} {st lv : Nat} : ∀ (os ch : List Nat), ∃ l, passLv bs st os lv ch = ch ++ l
  | [], ch => ⟨[], (List.append_nil _).symm⟩
  | c :: os, ch => by
    obtain ⟨l1, e1⟩ := pick_sub (bs := bs) (ch := ch) (st := st) (lv := lv) (c := c)
    obtain ⟨l2, e2⟩ := pass_sub (bs := bs) (st := st) (lv := lv) os (pick bs st lv ch c)
    exact ⟨l1 ++ l2, by rw [← List.append_assoc, ← e1]; exact e2⟩
theorem choose_sub {bs os : List Nat} {st i : Nat} : ∀ j, ∃ l, chooseN bs os st (i + j) = chooseN bs os st i ++ l
  | 0 => ⟨[], (List.append_nil _).symm⟩
  | j + 1 => by
    obtain ⟨l1, e1⟩ := choose_sub (bs := bs) (os := os) (st := st) (i := i) j
    obtain ⟨l2, e2⟩ := pass_sub (bs := bs) (st := st) (lv := st - (i + j)) os (chooseN bs os st (i + j))
    exact ⟨l1 ++ l2, by rw [← List.append_assoc, ← e1]; exact e2⟩
theorem dots_mono (ch l : List Nat) (k : Nat) : dots ch k ≤ dots (ch ++ l) k := by
  unfold dots
  rw [List.filter_append, List.length_append]
  exact Nat.le_add_right _ _
theorem filter_len_mono {α : Type} {p q : α → Bool} : ∀ {l : List α}, (∀ x ∈ l, p x = true → q x = true) → (l.filter p).length ≤ (l.filter q).length
  | [], _ => Nat.le_refl _
  | x :: l, h => by
    have ih := filter_len_mono (p := p) (q := q) (l := l) fun y hy => h y (.tail _ hy)
    cases hp : p x with
    | true => rw [List.filter_cons_of_pos hp, List.filter_cons_of_pos (h x (.head _) hp)]; simpa using ih
    | false =>
      rw [List.filter_cons_of_neg (by rw [hp]; exact Bool.false_ne_true)]
      cases hq : q x with
      | true => rw [List.filter_cons_of_pos hq, List.length_cons]; omega
      | false => rw [List.filter_cons_of_neg (by rw [hq]; exact Bool.false_ne_true)]; exact ih
/-- after a pass at level lv each name of the order is chosen, or too few of the ballots that hold it have fewer than lv chosen names even at the end -/
theorem pass_has {bs : List Nat} {st lv : Nat} {fin : List Nat} : ∀ (os ch : List Nat) (l : List Nat), fin = passLv bs st os lv ch ++ l → ∀ c ∈ os, c ∈ passLv bs st os lv ch ∨ st * (bs.filter fun k => k.testBit c && decide (dots fin k < lv)).length < lv * bs.length
  | [], ch, l, _, c, hc => nomatch hc
  | o :: os, ch, l, hf, c, hc => by
    have e : passLv bs st (o :: os) lv ch = passLv bs st os lv (pick bs st lv ch o) := rfl
    rw [e] at hf ⊢
    rcases List.mem_cons.mp hc with rfl | hc
    · obtain ⟨l2, e2⟩ := pass_sub (bs := bs) (st := st) (lv := lv) os (pick bs st lv ch c)
      by_cases h1 : c ∈ pick bs st lv ch c
      · exact .inl (by rw [e2]; exact List.mem_append_left _ h1)
      · refine .inr ?_
        unfold pick at h1
        by_cases h2 : c ∈ ch
        · rw [if_pos h2] at h1; exact absurd h2 h1
        rw [if_neg h2] at h1
        by_cases h3 : lv * bs.length ≤ st * (backs bs ch lv c).length
        · rw [if_pos h3] at h1; exact absurd (List.mem_append_right _ (.head _)) h1
        · rw [backs_eq] at h3
          refine Nat.lt_of_le_of_lt (Nat.mul_le_mul_left st (filter_len_mono fun k _ hk => ?_)) (Nat.lt_of_not_le h3)
          obtain ⟨l1, e1⟩ := pick_sub (bs := bs) (ch := ch) (st := st) (lv := lv) (c := c)
          have hm : dots ch k ≤ dots fin k := by
            rw [hf, e2, e1, List.append_assoc, List.append_assoc]
            exact dots_mono ch _ k
          simp only [Bool.and_eq_true, decide_eq_true_eq] at hk ⊢
          exact ⟨hk.1, Nat.lt_of_le_of_lt hm hk.2⟩
    · exact pass_has os (pick bs st lv ch o) l hf c hc
theorem bitsOf_mem {wish c : Nat} : c ∈ bitsOf wish ↔ c < 4 ∧ wish.testBit c = true := by
  simp [bitsOf]
theorem held_of_all {ch : List Nat} {wish k : Nat} (h1 : ∀ c ∈ bitsOf wish, c ∈ ch) (h2 : (bitsOf wish).all k.testBit = true) : (bitsOf wish).length ≤ held ch k := by
  unfold held bitsOf
  rw [List.filter_filter]
  refine filter_len_mono fun c hc hw => ?_
  have hm : c ∈ bitsOf wish := bitsOf_mem.mpr ⟨List.mem_range.mp hc, hw⟩
  simp only [Bool.and_eq_true, decide_eq_true_eq]
  exact ⟨h1 c hm, List.all_eq_true.mp h2 c hm⟩
theorem bits_pos : ∀ wish < 16, 1 ≤ wish → 1 ≤ (bitsOf wish).length := by decide +kernel
theorem no_pass {bs os : List Nat} {st : Nat} (hst : st ≤ 3) (hb : 0 < bs.length) (hos : ∀ c < 4, c ∈ os) (hch : ChOk (chooseN bs os st st)) : ∀ wish, 1 ≤ wish → wish < 16 → st * (shorts bs (chooseN bs os st st) wish).length < (bitsOf wish).length * bs.length := by
  intro wish hw1 hw2
  have hm := bits_pos wish hw2 hw1
  generalize hm' : (bitsOf wish).length = m at hm ⊢
  have hsh : (shorts bs (chooseN bs os st st) wish).length ≤ bs.length := Nat.le_trans (List.length_filter_le _ _) (List.length_filter_le _ _)
  by_cases hms : st < m
  · exact Nat.lt_of_le_of_lt (Nat.mul_le_mul_left st hsh) (Nat.mul_lt_mul_of_pos_right hms hb)
  refine Nat.lt_of_not_le fun hge => ?_
  -- the pass at level m
  obtain ⟨i, hi⟩ : ∃ i, st = i + m := ⟨st - m, by omega⟩
  obtain ⟨l, hl⟩ := choose_sub (bs := bs) (os := os) (st := st) (i := i + 1) (m - 1)
  have hist : i + 1 + (m - 1) = st := by omega
  rw [hist] at hl
  have epass : chooseN bs os st (i + 1) = passLv bs st os m (chooseN bs os st i) := by
    show passLv bs st os (st - i) (chooseN bs os st i) = _
    rw [show st - i = m by omega]
  rw [epass] at hl
  have key := pass_has (bs := bs) (st := st) (lv := m) (fin := chooseN bs os st st) os (chooseN bs os st i) l hl
  generalize chooseN bs os st st = fin at *
  have hall : ∀ c ∈ bitsOf wish, c ∈ fin := by
    intro c hc
    have hc4 := (bitsOf_mem.mp hc).1
    rcases key c (hos c hc4) with h | h
    · rw [hl]; exact List.mem_append_left _ h
    · exfalso
      have hle : (shorts bs fin wish).length ≤ (bs.filter fun k => k.testBit c && decide (dots fin k < m)).length := by
        unfold shorts agreed
        rw [List.filter_filter]
        refine filter_len_mono fun k _ hk => ?_
        simp only [Bool.and_eq_true, decide_eq_true_eq] at hk ⊢
        refine ⟨List.all_eq_true.mp hk.2 c hc, ?_⟩
        show (fin.filter k.testBit).length < m
        rw [dots_held hch, ← hm']
        exact hk.1
      have := Nat.mul_le_mul_left st hle
      omega
  have hz : (shorts bs fin wish).length = 0 := by
    rw [List.length_eq_zero_iff]
    unfold shorts agreed
    rw [List.filter_eq_nil_iff]
    intro k hk
    have ha := (List.mem_filter.mp hk).2
    have := held_of_all hall ha
    simp only [decide_eq_true_eq]
    omega
  rw [hz, Nat.mul_zero] at hge
  have : 0 < m * bs.length := Nat.mul_pos (by omega) hb
  omega
end Mine

end

section
open PySem PySem.W PySem.Spec PySem.Calls PyProof.Rows
namespace Mine
set_option maxHeartbeats 40000000 in
theorem whole : PySem.Challenge.rw_sh0019_01.Holds := by
  refine hd ?_
  k_go0
  (all_goals try k_fold)
  rename News _ _ _ _ => N1
  rename Fr _ _ _ _ => F1
  rename Frag.In _ _ => X1
  rename Top _ _ _ _ _ (ghostOf _ _) => T1
  rename Below _ _ _ _ => B1
  rename IntsAre _ _ => hI
  rename (113 < _) => l113
  rename (¬ _ < _) => hlen
  rename_i w s₀ s₁ mg mb G Y fa o pm cd doc ho hcd hg XX VV TT BB TE TW ns hs hlay0 hL hr hl2 w1 w2 la vs w3 hL2 ra ww r0 hr2 hcond hD h₁ tk₁ oCh oMa oCe dCh dMa dCe XX0
  refine wpAny_mono (Q := fun f s' => f = .ret (.bool true) ∧ ∃ (h' : Heap) (tk' : Nat) (m' : Str → Option Value), s' = { s₁ with heap := h', toks := tk' } ∧ Fr (ghostOf s₁.heap [(117, 113)]) s₁.heap.objs.size h' m' ∧ GrownAt 113 h') (E := fun _ _ => False) ?_ ?_ ?_
  rotate_left 1
  · rintro f s' ⟨rfl, h', tk', m', rfl, F', hG⟩
    clear F1 N1
    refine ⟨?_, hG, trivial⟩
    (k_end; kc_close)
  · exact fun _ _ h => h.elim
  replace dCh : oCh.data = .cell none := dCh
  replace dMa : oMa.data = .cell none := dMa
  replace dCe : oCe.data = .cell none := dCe
  replace codeHd : CodeHd (ghostOf s₁.heap [(117, 113)]) 117 113 := codeHd
  have hL63 : ns.length ≤ 63 := by omega
  clear XX0 hD hcond hr2 r0 ww ra hL2 w3 w2 w1 hl2 hr hL hlay0 hs TW TE BB TT VV XX hT9 hT8 hcd ho hlen Y G hg
  generalize hg0 : ghostOf s₁.heap [(117, 113)] = g0 at *
  generalize hL0 : s₁.heap.objs.size = L0 at *
  obtain ⟨m0, hm0, F1⟩ : ∃ m0, m0 (Str.ofString "script") = some (.ref la) ∧ Fr g0 L0 h₁ m0 := ⟨_, rfl, F1⟩
  rw [mset hm0] at F1
  iterate 1 (first | (k_unfold; (try dsimp only)) | walk1)
  refine wpAny_Assign_Name ?_
  refine comp_open (by with_unfolding_all rfl) (by rfl) (by decide) ?_
  iterate 49 (first | (k_unfold; (try dsimp only)) | walk1)
  rename_i lB hB ltB D2 wT hT hIT hCT hLT ltT lZ hZ ltZ DR hR iR nR sR eR1 eR2 eR3 ltR DS wS hS F2 N2 hIS ltS
  obtain ⟨bvs, hbv, N3⟩ : ∃ bvs, IntsAre bvs baseL ∧ News g0 L0 hS [(DS, listOf wS.toArray 0), (lB, listOf bvs.toArray 0), (L0 + 1 + 1 + 1, oCh), (L0 + 1 + 1, oMa), (L0 + 1, oCe), (113, tabObj #[])] :=
    ⟨_, .cons _ _ (.cons _ _ (.cons _ _ (.cons _ _ (.cons _ _ (.cons _ _ (.cons _ _ (.cons _ _ (.cons _ _ (.cons _ _ (.cons _ _ .nil)))))))))), news_sub N2 fun z hz => by
      simp only [List.mem_cons, List.not_mem_nil, or_false] at hz ⊢
      rcases hz with h | h | h | h | h | h <;> first | (simp only [h, true_or, or_true]; done) | (rw [h]; exact .inr (.inr (.inr (.inr (.inl rfl)))))⟩
  clear N2
  replace hIS : IntsAre wS (ns.take 11 ++ List.replicate 11 0) := hIS
  refine comp_zip (as := cellsL ns) (fun c v v' => ∃ i j t t', v = .int i t ∧ v' = .int j t' ∧ c = i + j) some IntsAre (fun b y => ∃ t, y = .int b t) .nil
    (fun ys bs y b h ⟨t, e⟩ => e ▸ intsAre_snoc h) rfl F2 N3 (.tail _ (.head _)) (.head _) ?_ ?_ ?_ yo_none (by decide) (by rfl) (by rfl) (by rfl) (by decide) ?_ ?_
  · rw [List.size_toArray, List.size_toArray, hbv.length, hIS.length, cellsL_length]
    simp [baseL]
  · intro i v v' hv hv'
    obtain ⟨y, t, e, e'⟩ := intsAre_get hbv hv
    obtain ⟨y', t', e1, e1'⟩ := intsAre_get hIS hv'
    exact ⟨y + y', by rw [cellsL, List.getElem?_zipWith, e, e1], y, y', t, t', e', e1', rfl⟩
  · rw [cellsL_length, sizeLine_eq]; decide
  · intro C3 D3 hD3 hDC3 c v v' ys its oC3 m₂ h3 tk3 E' hc4 ⟨i, j, t, t', hv, hv', hcij⟩ hN3 hx hx' F3 N3'
    subst hv hv' hcij
    simp only [List.cons_append] at N3'
    refine wpAny_tests_nil ?_
    refine if_yes rfl ?_
    iterate 4 (first | (k_unfold; (try dsimp only)) | walk1)
    exact ⟨h3, _, rfl, F3, N3', _, rfl, _, rfl⟩
  intro lC vC h4 tk4 hvC hlC F4 N4
  dsimp only [mOf] at F4
  dsimp only [retOf]
  rw [List.filterMap_some] at hvC
  clear N3 F2 ltS hIS hbv
  have ltC1 := hlC (L0 + 1 + 1 + 1, oCh) (by simp)
  have ltC2 := hlC (L0 + 1 + 1, oMa) (by simp)
  have ltC3 := hlC (L0 + 1, oCe) (by simp)
  replace N4 := news_sub N4 (led' := [(lC, listOf vC.toArray vC.length), (L0 + 1 + 1 + 1, oCh), (L0 + 1 + 1, oMa), (L0 + 1, oCe), (113, tabObj #[])]) (fun z hz => by
      simp only [List.mem_cons, List.not_mem_nil, or_false] at hz ⊢
      rcases hz with h | h | h | h | h <;> simp only [h, true_or, or_true])
  refine' storeX_C ?zF1 ?zN1 ?zc1 ?zU1 ?zd1 ?_ ?za1 ?zb1
  case za1 => rfl
  case zb1 => rfl
  case zF1 => exact F4
  case zN1 => exact N4
  case zc1 => rfl
  case zd1 => exact dCe
  case zU1 =>
    exact .tail (Nat.ne_of_gt ltC3) (.tail (Nat.ne_of_gt (by omega)) (.tail (Nat.ne_of_gt (by omega)) (.head fun p hp => by
      rw [List.mem_singleton.mp hp]
      exact Nat.ne_of_lt (Nat.lt_succ_of_lt l113))))
  intro h5 oCe5 F5 N5 dCe5
  clear N4 F4
  iterate 14 (first | (k_unfold; (try dsimp only)) | walk1)
  obtain ⟨c7, hc7⟩ : ∃ c7, (cellsL ns)[7]? = some c7 := ⟨_, List.getElem?_eq_getElem (by rw [cellsL_length]; decide)⟩
  refine' item_int (s := ⟨_, _, _, _, _⟩) (k := 7) N5 (.head _) hvC (by decide) (by decide) hc7 (fun t7 => ?_) (by with_unfolding_all rfl)
  iterate 4 (first | (k_unfold; (try dsimp only)) | walk1)
  have hisC : h5.IsList lC vC.toArray := ⟨_, (N5 _ (.head _)).1, rfl, _, rfl⟩
  have fm7 := fm_pos (a := c7) (b := 3) (by decide)
  refine' kmk_slice_ints (s := ⟨_, _, _, _, _⟩) F5 N5 hisC .none (.int _ _) hvC (kmk_upto hvC ?zy1) rfl ?zq1 ?zs1 ?zt1 ?zz1
  case zs1 => with_unfolding_all rfl
  case zt1 => intro _; with_unfolding_all rfl
  case zz1 => rw [List.size_toArray, hvC.length, cellsL_length, sizeLine_eq]; decide
  case zy1 => omega
  intro lD vD h6 F6 N6 ltD hvD hD1 hD2
  clear F5 N5 hisC hD1 hD2
  obtain ⟨ds, hds, hd5, hd7⟩ : ∃ ds, IntsAre vD ds ∧ 5 ≤ ds.length ∧ ds.length ≤ 7 := ⟨_, hvD, by rw [List.length_take, cellsL_length]; omega, by rw [List.length_take, cellsL_length]; omega⟩
  clear hvD
  iterate 2 (first | (k_unfold; (try dsimp only)) | walk1)
  refine comp_assign (by with_unfolding_all rfl) (by with_unfolding_all rfl) (by rfl) (by decide) ?_
  iterate 1 (first | (k_unfold; (try dsimp only)) | walk1)
  rename News _ _ _ _ => N6
  rename Fr _ _ _ _ => F6
  refine comp_list_cell (as := ds) (fun d v => ∃ t, v = .int d t) (fun d => some (rowS (0, bal d))) StrsAre (fun b y => ∃ t, y = .str b t) .nil
    (fun ys bs y b h ⟨t, e⟩ => e ▸ kct_snoc h) rfl F6 N6 (.head _) ?_ ?_ ?_ (yo_some rfl rfl rfl) (by rfl) (fun _ => rfl) (fun _ => rfl) (fun _ => rfl) ?_ ?_
  · rw [List.size_toArray, hds.length]
  · intro q v hv
    obtain ⟨y, t, e, e'⟩ := intsAre_get hds hv
    exact ⟨y, e, t, e'⟩
  · rw [sizeLine_eq]; omega
  · intro C5 D5 hD5 hDC5 d v ys5 its5 oC5 m₅ o5 h7 tk7 E5 hk ⟨t5, hv5⟩ hN5 ho5 F7 N7
    subst hv5
    simp only [List.cons_append] at N7
    refine wpAny_tests_nil ?_
    refine if_yes rfl ?_
    iterate 6 (first | (k_unfold; (try dsimp only)) | walk1)
    refine comp_open (by with_unfolding_all rfl) (by rfl) (by decide) ?_
    iterate 6 (first | (k_unfold; (try dsimp only)) | walk1)
    rename News _ _ _ _ => N7
    rename Fr _ _ _ _ => F7
    refine comp_enum (led := (C5, oC5) :: (D5, listOf ys5.toArray ys5.length) :: (C5 + 1, o5) :: _) (as := List.range 4) (fun c v v' => (∃ t, v = .int (c : Nat) t) ∧ ∃ t, v' = .str (ltr c) t) (fun c => if (bal d).testBit c then some (ltr c) else none) StrsAre (fun b y => ∃ t, y = .str b t) .nil
      (fun ys bs y b h ⟨t, e⟩ => e ▸ kct_snoc h) rfl F7 N7 (by decide +kernel) ?_ (by rw [sizeLine_eq]; decide) yo_none (by decide +kernel) (by decide) (by rfl) (by rfl) (by rfl) (by decide) ?_ ?_
    · intro i c t t' hc
      have h4 : i < 4 := by
        obtain ⟨h, _⟩ := Array.getElem?_eq_some_iff.mp hc
        exact h
      have h5 : ∀ i < 4, ∀ c, (Str.ofString "abcd").cps[i]? = some c → c = 97 + i := by decide +kernel
      rw [h5 i h4 c hc]
      exact ⟨i, by rw [List.getElem?_range h4], ⟨t, rfl⟩, t', rfl⟩
    · intro C3 D3 hD3 hDC3 c v v' ys its oC3 m₂ h3 tk3 E' hc4 ⟨⟨t, hv⟩, ⟨t', hv'⟩⟩ hN3 hx hx' F3 N3
      subst hv hv'
      simp only [List.cons_append] at N3
      refine wpAny_tests_one ?_
      iterate 12 (first | (k_unfold; (try dsimp only)) | walk1)
      rw [bal_int, bit_fact (bal d) (bal_lt d) c (by simpa using hc4)]
      cases hbit : (bal d).testBit c with
      | true =>
        refine if_yes rfl ?_
        iterate 1 (first | (k_unfold; (try dsimp only)) | walk1)
        exact ⟨h3, _, rfl, F3, N3, _, if_pos rfl, _, rfl⟩
      | false =>
        refine if_no Bool.false_ne_true ?_
        exact ⟨h3, _, rfl, F3, N3, if_neg Bool.false_ne_true⟩
    · intro nl ys h3 tk3 hys hnl F3 N3
      dsimp only [mOf] at F3
      dsimp only [retOf]
      rw [bits_fm] at hys
      iterate 1 (first | (k_unfold; (try dsimp only)) | walk1)
      refine join_my N3 (.head _) hys (join_bal_ok _ (bal_lt d)) fun tj kj => ?_
      rw [join_bal _ (bal_lt d)]
      iterate 1 (first | (k_unfold; (try dsimp only)) | walk1)
      exact ⟨_, _, rfl, F3, news_sub N3 fun p hp => .tail _ hp, _, rfl, _, rfl⟩
  intro lA vA h7 tk7 hvA ltA F7 N7
  replace hvA : StrsAre vA (ds.map fun d => rowS (0, bal d)) := by
    rw [show (fun d => some (rowS (0, bal d))) = some ∘ (fun d => rowS (0, bal d)) from rfl, List.filterMap_eq_map] at hvA
    exact hvA
  dsimp only [mOf] at F7
  dsimp only
  clear N6 F6
  iterate 7 (first | (k_unfold; (try dsimp only)) | walk1)
  refine comp_open (by with_unfolding_all rfl) (by rfl) (by decide) ?_
  iterate 8 (first | (k_unfold; (try dsimp only)) | walk1)
  rename News _ _ _ _ => N7
  rename Fr _ _ _ _ => F7
  refine comp_zip (as := ds) (fun d v v' => ∃ t t', v = .str (rowS (0, bal d)) t ∧ v' = .int d t') (fun d => some (pieceS (bal d) (wsI d))) StrsAre (fun b y => ∃ t, y = .str b t) .nil
    (fun ys bs y b h ⟨t, e⟩ => e ▸ kct_snoc h) rfl F7 N7 (.head _) (.tail _ (.head _)) ?_ ?_ ?_ yo_none (by decide) (by rfl) (by rfl) (by rfl) (by decide) ?_ ?_
  · rw [List.size_toArray, List.size_toArray, strsAre_length hvA, hds.length, List.length_map, Nat.min_self]
  · intro i v v' hv hv'
    obtain ⟨y, t, e, e'⟩ := strsAre_get hvA hv
    obtain ⟨y', t', e1, e1'⟩ := intsAre_get hds hv'
    rw [List.getElem?_map, e1] at e
    cases e
    exact ⟨y', e1, t, t', e', e1'⟩
  · rw [sizeLine_eq]; omega
  · intro C3 D3 hD3 hDC3 d v v' ys its oC3 m₂ h3 tk3 E' hc4 ⟨t, t', hv, hv'⟩ hN3 hx hx' F3 N3
    subst hv hv'
    simp only [List.cons_append] at N3
    refine wpAny_tests_nil ?_
    refine if_yes rfl ?_
    have hrl := row0_len _ (bal_lt d)
    iterate 16 (first | (k_unfold; (try dsimp only)) | walk1)
    rw [wsI_int, piece_eq _ (bal_lt d) _ (wsI_lt d)]
    exact ⟨_, _, rfl, F3, N3, _, rfl, _, rfl⟩
  intro lP vP h8 tk8 hvP ltP F8 N8
  replace hvP : StrsAre vP (pcs ds) := by
    rw [show (fun d => some (pieceS (bal d) (wsI d))) = some ∘ (fun d => pieceS (bal d) (wsI d)) from rfl, List.filterMap_eq_map] at hvP
    exact hvP
  dsimp only [mOf] at F8
  dsimp only [retOf]
  clear N7 F7
  iterate 1 (first | (k_unfold; (try dsimp only)) | walk1)
  refine join_my N8 (.head _) hvP ?_ fun tj kj => ?_
  · have := pcs_sum ds
    rw [show (Str.ofString "").length = 0 from rfl]
    omega
  rw [join_text]
  iterate 8 (first | (k_unfold; (try dsimp only)) | walk1)
  iterate 3 (first | (k_unfold; (try dsimp only)) | walk1)
  rename News _ _ _ _ => N9
  rename Fr _ _ _ _ => F9
  have ltA1 : ∀ z ∈ [(lA, listOf vA.toArray vA.length), (lC, listOf vC.toArray vC.length), (L0 + 1 + 1 + 1, oCh), (L0 + 1 + 1, oMa), (L0 + 1, oCe5)], z.1 ≠ 113 := by
    have z1 := ltA (113, tabObj #[]) (by simp)
    have z2 := ltD (113, tabObj #[]) (by simp)
    have z3 := ltC1
    intro z hz
    simp only [List.mem_cons, List.not_mem_nil, or_false] at hz
    rcases hz with rfl | rfl | rfl | rfl | rfl
    · exact Nat.ne_of_gt z1
    · exact Nat.ne_of_gt (Nat.lt_trans (Nat.lt_trans l113 (Nat.lt_succ_self _)) ltC3)
    · exact Nat.ne_of_gt (by dsimp only; omega)
    · exact Nat.ne_of_gt (by dsimp only; omega)
    · exact Nat.ne_of_gt (by dsimp only; omega)
  refine machine_c (text := textS ds) (rest := [(lA, listOf vA.toArray vA.length), (lC, listOf vC.toArray vC.length), (L0 + 1 + 1 + 1, oCh), (L0 + 1 + 1, oMa), (L0 + 1, oCe5)]) ?_ ⟨B1, F9, X1, news_sub N9 ?_, T1, rfl, ?_, ?_⟩ codeHd ltA1 ?_
  · have := textL_len ds
    show (textL ds).toArray.size ≤ 1000
    rw [List.size_toArray]; omega
  · intro z hz
    simp only [List.mem_cons, List.not_mem_nil, or_false] at hz ⊢
    rcases hz with h | h | h | h | h | h <;> simp only [h, true_or, or_true]
  · show callerA.depth + 1 + 4 < recursionLimit; decide
  · decide
  intro M h9 tk9 n9 fS D cS fR cR aL cA cT kA oD oS ocS oR ocR oA oT oP tp tl F10 N10 hst hln hdict hoS hread hfn hoP hord
  clear N9 F9 ltA1
  obtain ⟨Y, hY⟩ : ∃ Y : LX, Y = ⟨D, fS, cS, fR, cR, aL, cA, cT, oD, oS, ocS, oR, ocR, oA, oT⟩ := ⟨_, rfl⟩
  obtain ⟨hq0, hq1, q1, q2, q3, q4, q5, q6, q7, q8, q9, q10⟩ := hord
  have O0 : LexOk w (textS ds) M Y [(113, oP)] := by
    subst hY
    refine ⟨hst, hdict, hoS.1, hoS.2.1, ?_, hread, hfn, ?_, q1, q2, q3, q4, q5, q6, q7, q8, q9, q10⟩
    · exact hoS.2.2
    · intro p hp
      rw [List.mem_singleton.mp hp]; exact .inl hq0
  replace N10 : News g0 L0 h9 (machL w M [] n9 (lexL Y 0 tp kA [(113, oP), (lA, listOf vA.toArray vA.length), (lC, listOf vC.toArray vC.length), (L0 + 1 + 1 + 1, oCh), (L0 + 1 + 1, oMa), (L0 + 1, oCe5)])) := by
    subst hY
    exact N10
  have hYc : cT = Y.cT := by rw [hY]
  rw [hYc] at hq0 hq1
  clear hY hst hdict hoS hread hfn q1 q2 q3 q4 q5 q6 q7 q8 q9 q10
  have N11 := news_sub N10 (led' := (L0 + 1 + 1, oMa) :: machL w M [] n9 (lexL Y 0 tp kA [(113, oP), (lA, listOf vA.toArray vA.length), (lC, listOf vC.toArray vC.length), (L0 + 1 + 1 + 1, oCh), (L0 + 1, oCe5)])) fun z hz => by
    rcases List.mem_cons.mp hz with rfl | hz
    · exact lex_split.mpr (.inr (by simp))
    · rcases lex_split.mp hz with h | h
      · exact lex_split.mpr (.inl h)
      · refine lex_split.mpr (.inr ?_)
        simp only [List.mem_cons, List.not_mem_nil, or_false] at h ⊢
        rcases h with h | h | h | h | h <;> simp only [h, true_or, or_true]
  have hMc := hq1 (L0 + 1 + 1, oMa) (by simp)
  refine' storeX_C ?zF2 ?zN2 ?zc2 ?zU2 ?zd2 ?_ ?za2 ?zb2
  case za2 => rfl
  case zb2 => rfl
  case zF2 => exact F10
  case zN2 => exact N11
  case zc2 => rfl
  case zd2 => exact dMa
  case zU2 =>
    refine .head fun z hz => ?_
    rcases lex_split.mp hz with h | h
    · exact Nat.ne_of_gt (Nat.lt_of_lt_of_le hMc (lex_ge O0 rfl rfl rfl z h))
    · simp only [List.mem_cons, List.not_mem_nil, or_false] at h
      have a1 := ltA (L0 + 1 + 1, oMa) (by simp)
      rcases h with rfl | rfl | rfl | rfl | rfl
      · exact Nat.ne_of_lt (Nat.lt_succ_of_lt (Nat.lt_succ_of_lt l113))
      · exact Nat.ne_of_gt a1
      · exact Nat.ne_of_gt ltC2
      · exact Nat.ne_of_gt (Nat.lt_succ_self _)
      · exact Nat.ne_of_lt (Nat.lt_succ_self _)
  intro h10 oMa5 F11 N12 dMa5
  clear F10 N10 N11
  iterate 2 (first | (k_unfold; (try dsimp only)) | walk1)
  refine comp_assign (by with_unfolding_all rfl) (by with_unfolding_all rfl) (by rfl) (by decide) ?_
  iterate 11 (first | (k_unfold; (try dsimp only)) | walk1)
  have hlA : vA.length = ds.length := by rw [strsAre_length hvA, List.length_map]
  rename News _ _ _ _ => N12
  rename Fr _ _ _ _ => F11
  refine kst_len N12 (.tail _ (lex_split.mpr (.inr (.tail _ (.head _))))) hlA (by omega) ?_
  iterate 4 (first | (k_unfold; (try dsimp only)) | walk1)
  rename IsRange _ _ _ _ _ _ _ _ => R9
  rename News _ _ _ _ => N13
  rename Fr _ _ _ _ => F13
  obtain ⟨RT, hRT⟩ : ∃ RT, RT = [(L0 + 1 + 1, oMa5), (113, oP), (lA, listOf vA.toArray vA.length), (lC, listOf vC.toArray vC.length), (L0 + 1 + 1 + 1, oCh), (L0 + 1, oCe5)] := ⟨_, rfl⟩
  replace N13 := news_sub N13 (led' := machL w M [] n9 (lexL Y 0 tp kA RT)) (fun z hz => by
    rcases lex_split.mp hz with h | h
    · exact .tail _ (lex_split.mpr (.inl h))
    · rw [hRT] at h
      rcases List.mem_cons.mp h with rfl | h
      · exact .head _
      · exact .tail _ (lex_split.mpr (.inr h)))
  have hRlt : ∀ z ∈ RT, z.1 < Y.cT := by
    rw [hRT]
    intro z hz
    simp only [List.mem_cons, List.not_mem_nil, or_false] at hz
    rcases hz with h | h | h | h | h | h <;> rw [h]
    · exact hMc
    · exact hq0
    · exact hq1 (lA, _) (by simp)
    · exact hq1 (lC, _) (by simp)
    · exact hq1 (L0 + 1 + 1 + 1, oCh) (by simp)
    · exact hq1 (L0 + 1, oCe5) (by simp)
  have O1 : LexOk w (textS ds) M Y RT := ⟨O0.st, O0.dict, O0.cls, O0.own, O0.data, O0.read, O0.fn, fun p hp => .inl (hRlt p hp), O0.o1, O0.o2, O0.o3, O0.o4, O0.o5, O0.o6, O0.o7, O0.o8, O0.o9, O0.o10⟩
  have hrs := range_small (ds.length + 1) (by omega)
  rw [Int.natCast_add] at hrs
  refine comp_range (n := ds.length + 1) (fun i ys led' => ∃ (M' : MV) (tp' tl' : Tok) (k' : Nat), led' = machL w M' [] n9 (lexL Y (posOf ds i) tp' k' RT) ∧ M'.l = M.l ∧ M'.x = M.x ∧ M'.d = M.d ∧ LexOk w (textS ds) M' Y RT ∧ M'.ln = .int (lnOf ds i : Nat) tl' ∧ StrsAre ys (heardL ds i))
    rfl F13 N13 R9 hrs.1 ?_ ?_ (yo_some rfl rfl rfl) (by decide) (by rfl) (by rfl) ?_ ⟨M, tp, tl, kA, rfl, rfl, rfl, rfl, O1, hln, .nil⟩ ?_ ?_
  · exact hrs.2
  · rw [sizeLine_eq]; omega
  · rintro i ys led' ⟨M', tp', tl', k', rfl, e1, e2, e3, _⟩ z hz
    obtain ⟨z', hz', ez⟩ := lex_addr (M := M) (n := n9) (k := kA) (pos := 0) (tp := tp) (vs := []) e1 e2 e3 z hz
    rw [← ez]
    exact Heap.lt_size (N13 z' hz').1
  · intro C3 D3 hD3 hDC3 i ti ys led' its oC3 m₂ h3 tk3 E' hi ⟨M', tp', tl', k', hled, e1, e2, e3, O2, hln2, hys⟩ hN3 hx hits F3 N3
    subst hled
    refine wpAny_tests_nil ?_
    refine if_yes rfl ?_
    obtain ⟨Ml, Mx, Md, mt1, mt2, mt3, mt4, mt5, Mln, Mst, Mk⟩ := M'
    dsimp only at e1 e2 e3 hln2
    subst e1 e2 e3 hln2
    replace N3 := news_sub N3 fun z hz => lex_shuffle.mp hz
    iterate 2 (first | (k_unfold; (try dsimp only)) | walk1)
    have hcell : (L0 + 1 + 1, oMa5) ∈ RT := by rw [hRT]; exact .head _
    refine nameE_C N3 (lex_split.mpr (.inr (.tail _ (.tail _ (List.mem_append_left _ hcell))))) dMa5 ?_ (by rfl) (by rfl) (by rfl) (by decide)
    iterate 2 (first | (k_unfold; (try dsimp only)) | walk1)
    have hMl := Heap.lt_size (N13 (M.l, _) (.head _)).1
    dsimp only at hMl hD3
    have O3 : LexOk w (textS ds) ⟨M.l, M.x, M.d, mt1, mt2, mt3, mt4, mt5, .int (lnOf ds i : Nat) tl', Mst, Mk⟩ Y ((C3, oC3) :: (D3, listOf ys.toArray ys.length) :: (RT ++ its)) := by
      refine ⟨O2.st, O2.dict, O2.cls, O2.own, O2.data, O2.read, O2.fn, fun p hp => ?_, O2.o1, O2.o2, O2.o3, O2.o4, O2.o5, O2.o6, O2.o7, O2.o8, O2.o9, O2.o10⟩
      rcases List.mem_cons.mp hp with rfl | hp
      · exact .inr (Nat.lt_trans (Nat.lt_of_lt_of_le hMl hD3) hDC3)
      rcases List.mem_cons.mp hp with rfl | hp
      · exact .inr (Nat.lt_of_lt_of_le hMl hD3)
      rcases List.mem_append.mp hp with hp | hp
      · exact .inl (hRlt p hp)
      · have hm : p.1 ∈ its.map (·.1) := List.mem_map_of_mem hp
        rw [hits, List.mem_singleton] at hm
        rw [hm]; exact .inr hMl
    by_cases hin : i < ds.length
    · obtain ⟨d, hd⟩ : ∃ d, ds[i]? = some d := ⟨_, List.getElem?_eq_getElem hin⟩
      obtain ⟨t46, tds, tws⟩ := text_at hd
      refine tok_c (M := ⟨M.l, M.x, M.d, mt1, mt2, mt3, mt4, mt5, .int (lnOf ds i : Nat) tl', Mst, Mk⟩) O3 rfl ⟨B1, F3, X1, N3, T1, rfl, by decide, by decide⟩ t46 tds tws (.inl rfl) (bits_tok _) (wsOf_ok _ (wsI_lt d)) (bits_len _) fun M'' h4 tk4 k4 t4 tp4 tl4 d1 d2 d3 O4 hln4 F4 N4 => ?_
      iterate 1 (first | (k_unfold; (try dsimp only)) | walk1)
      refine ⟨_, _, _, rfl, F4, news_sub N4 fun z hz => lex_shuffle.mpr hz, M'', tp4, tl4, k4, ?_, d1, d2, d3, ⟨O4.st, O4.dict, O4.cls, O4.own, O4.data, O4.read, O4.fn, fun p hp => .inl (hRlt p hp), O4.o1, O4.o2, O4.o3, O4.o4, O4.o5, O4.o6, O4.o7, O4.o8, O4.o9, O4.o10⟩, ?_, ?_⟩
      · rw [posOf_succ hd]
      · rw [hln4, lnOf_succ hd]
      · rw [heardL_succ hd]
        exact kct_snoc hys
    · have hie : i = ds.length := by omega
      refine tokend_c (M := ⟨M.l, M.x, M.d, mt1, mt2, mt3, mt4, mt5, .int (lnOf ds i : Nat) tl', Mst, Mk⟩) O3 rfl ⟨B1, F3, X1, N3, T1, rfl, by decide, by decide⟩ (posOf_end (by omega)) fun M'' h4 tk4 k4 t4 tp4 tl4 d1 d2 d3 O4 hln4 F4 N4 => ?_
      iterate 1 (first | (k_unfold; (try dsimp only)) | walk1)
      subst hie
      refine ⟨_, _, _, rfl, F4, news_sub N4 fun z hz => lex_shuffle.mpr hz, M'', tp4, tl4, k4, ?_, d1, d2, d3, ⟨O4.st, O4.dict, O4.cls, O4.own, O4.data, O4.read, O4.fn, fun p hp => .inl (hRlt p hp), O4.o1, O4.o2, O4.o3, O4.o4, O4.o5, O4.o6, O4.o7, O4.o8, O4.o9, O4.o10⟩, ?_, ?_⟩
      · rw [posOf_last]
      · rw [hln4, lnOf_last]
      · rw [heardL_last]
        exact kct_snoc hys
  rintro lH ysH led' h11 tk11 ⟨M1, tp1, tl1, k1, rfl, e1, e2, e3, O2, hln1, hysH⟩ hlH F14 N14
  rw [lnOf_last] at hln1
  dsimp only [mOf] at F14
  dsimp only
  clear N13 F13
  have hlH' : ∀ z ∈ machL w M1 [] n9 (lexL Y 0 tp1 k1 RT), z.1 < lH := fun z hz => by
    obtain ⟨z', hz', ez⟩ := lex_addr (M := M1) (n := n9) (k := k1) (pos := posOf ds (ds.length + 1)) (tp := tp1) (vs := []) rfl rfl rfl z hz
    rw [← ez]; exact hlH z' hz'
  have o2 : MOff M1 ((lH, listOf ysH.toArray ysH.length) :: RT) := by
    have hr : ∀ z ∈ RT, z.1 < M1.d := fun z hz => Nat.lt_of_lt_of_le (hRlt z hz) (lex_ge O2 rfl rfl rfl (M1.d, _) (.tail _ (.tail _ (.head _)) : _ ∈ machL w M1 [] n9 (lexL Y 0 tp1 k1 [])))
    refine ⟨Nat.ne_of_gt O2.o10, Nat.ne_of_gt (Nat.lt_trans O2.o9 O2.o10), Nat.ne_of_gt O2.o9, fun z hz b hb => ?_⟩
    have hb1 : b = M1.l ∨ b = M1.x ∨ b = M1.d := by simpa using hb
    rcases List.mem_cons.mp hz with rfl | hz
    · rcases hb1 with rfl | rfl | rfl
      · exact Nat.ne_of_gt (hlH' (M1.l, _) (.head _))
      · exact Nat.ne_of_gt (hlH' (M1.x, _) (.tail _ (.head _)))
      · exact Nat.ne_of_gt (hlH' (M1.d, _) (.tail _ (.tail _ (.head _))))
    · rcases hb1 with rfl | rfl | rfl
      · exact Nat.ne_of_lt (Nat.lt_trans (hr z hz) (Nat.lt_trans O2.o9 O2.o10))
      · exact Nat.ne_of_lt (Nat.lt_trans (hr z hz) O2.o9)
      · exact Nat.ne_of_lt (hr z hz)
  have hlHR : ∀ z ∈ RT, z.1 < lH := fun z hz => hlH' z (lex_split.mpr (.inr hz))
  replace N14 : News g0 L0 h11 (machL w M1 [] n9 ((lH, listOf ysH.toArray ysH.length) :: RT)) := news_sub N14 fun z hz => by
    simp only [machL, lexL, List.mem_cons] at hz ⊢
    rcases hz with h | h | h | h | h <;> simp only [h, true_or, or_true]
  rw [← e2] at dMa5
  rw [hRT] at N14 o2 hlHR
  have hMd : ∀ z ∈ RT, z.1 < M1.d := fun z hz => Nat.lt_of_lt_of_le (hRlt z hz) (lex_ge O2 rfl rfl rfl (M1.d, _) (.tail _ (.tail _ (.head _)) : _ ∈ machL w M1 [] n9 (lexL Y 0 tp1 k1 [])))
  rw [hRT] at hMd
  have hMx := O2.o9
  have hMl := O2.o10
  have hMH : M1.l < lH := hlH' (M1.l, _) (.head _)
  have hCe5 := dCe5
  clear hlH hlH' O2 O1 O0 e1 e2 e3 hRlt hq0 hq1 hMc hrs hln R9 hRT
  iterate 1 (first | (k_unfold; (try dsimp only)) | walk1)
  iterate 5 (first | (k_unfold; (try dsimp only)) | walk1)
  refine comp_open (by with_unfolding_all rfl) (by rfl) (by decide) ?_
  iterate 1 (first | (k_unfold; (try dsimp only)) | walk1)
  rename News _ _ _ _ => N14
  rename Fr _ _ _ _ => F14
  refine comp_list (as := ds) (fun d v => ∃ t, v = .str (rowS (0, bal d)) t) (fun d => some (rowS (1, bal d))) StrsAre (fun b y => ∃ t, y = .str b t) .nil
    (fun ys bs y b h ⟨t, e⟩ => e ▸ kct_snoc h) rfl F14 N14 (.tail _ (.tail _ (.tail _ (.tail _ (.tail _ (.tail _ (.head _))))))) ?_ ?_ ?_ yo_none (by decide) (by rfl) (by rfl) ?_ ?_
  · rw [List.size_toArray, hlA]
  · intro q v hv
    obtain ⟨y, t, e, e'⟩ := strsAre_get hvA hv
    rw [List.getElem?_map] at e
    cases hoc : ds[q]? with
    | none => rw [hoc] at e; cases e
    | some d => rw [hoc] at e; exact ⟨d, rfl, t, by rw [e', ← Option.some.inj e]⟩
  · rw [sizeLine_eq]; omega
  · intro C3 D3 hD3 hDC3 d v ys its oC3 m₂ h3 tk3 E' hc4 ⟨t, hv⟩ hN3 hx F3 N3
    subst hv
    simp only [List.cons_append] at N3
    refine wpAny_tests_nil ?_
    refine if_yes rfl ?_
    have hrl := row0_len _ (bal_lt d)
    iterate 4 (first | (k_unfold; (try dsimp only)) | walk1)
    rw [dot_row _ (bal_lt d)]
    exact ⟨_, _, rfl, F3, N3, _, rfl, _, rfl⟩
  intro lE vE h12 tk12 hvE ltE F15 N15
  replace hvE : StrsAre vE (ds.map fun d => rowS (1, bal d)) := by
    rw [show (fun d => some (rowS (1, bal d))) = some ∘ (fun d => rowS (1, bal d)) from rfl, List.filterMap_eq_map] at hvE
    exact hvE
  dsimp only [mOf] at F15
  dsimp only [retOf]
  clear N14 F14
  iterate 5 (first | (k_unfold; (try dsimp only)) | walk1)
  rename News _ _ _ _ => N16
  rename Fr _ _ _ _ => F16
  refine add_lists (s := ⟨_, _, _, _, _⟩) (vs := vE) (ws := [_]) (hsz := ?zhz3) F16 N16 ⟨_, (N16 _ (.tail _ (.head _))).1, rfl, _, rfl⟩ ⟨_, (N16 _ (.head _)).1, rfl, _, rfl⟩ ?_
  case zhz3 => rw [strsAre_length hvE, List.length_map, sizeLine_eq, List.length_singleton]; omega
  intro h17 F17 N17
  rw [heardL_eq] at hysH
  have hvE2 := strsAre_append hvE (.cons (Str.ofString "") tk12 .nil)
  refine es_ne (xs := ysH) (ys := vE ++ [.str (Str.ofString "") tk12]) ⟨_, (N17 (lH, _) (.tail _ (.tail _ (.tail _ (.tail _ (.tail _ (.tail _ (.head _)))))))).1, rfl, _, rfl⟩ ⟨_, (N17 _ (.head _)).1, rfl, _, rfl⟩ hysH hvE2 (heardL_ok ds) (heardL_ok ds) (units_law _) ?_
  rw [decide_eq_true rfl]
  replace N17 := news_sub N17 (led' := machL w M1 [] n9 [(lH, listOf ysH.toArray ysH.length), (L0 + 1 + 1, oMa5), (113, oP), (lA, listOf vA.toArray vA.length), (lC, listOf vC.toArray vC.length), (L0 + 1 + 1 + 1, oCh), (L0 + 1, oCe5)]) fun z hz => .tail _ (.tail _ (.tail _ hz))
  clear N16 F16 hvE2 hvE ltE
  iterate 6 (first | (k_unfold; (try dsimp only)) | walk1)
  have N18 : News g0 L0 h17 [(M1.l, listOf ([] : List Value).toArray n9), (M1.x, instObj 90 M1.d), (M1.d, dictOf [ent w (Str.ofString "lineno") M1.t1 (.int (lnOf ds ds.length : Nat) tl1), ent w (Str.ofString "instream") M1.t2 M1.st, ent w (Str.ofString "whitespace") M1.t3 (.str (Str.ofString "\n\t\r ") M1.t5), ent w (Str.ofString "pushback") M1.t4 (.ref M1.l)] M1.k)] := by
    rw [← hln1]
    exact news_sub N17 fun z hz => by
      simp only [machL, List.mem_cons, List.not_mem_nil, or_false] at hz ⊢
      rcases hz with h | h | h <;> simp only [h, true_or, or_true]
  iterate 12 (first | (k_unfold; (try dsimp only)) | walk1)
  rw [ln_text]
  generalize Txt.count (textS ds) (Str.ofString "\n") = cnt9
  clear N18
  iterate 2 (first | (k_unfold; (try dsimp only)) | walk1)
  refine if_no (by simp) ?_
  iterate 5 (first | (k_unfold; (try dsimp only)) | walk1)
  refine wpAny_For ?_ (by intro _; rfl)
  iterate 9 (first | (k_unfold; (try dsimp only)) | walk1)
  obtain ⟨ysI, vI, hysE, hysI⟩ := strsAre_snoc_inv hysH
  subst hysE
  refine' kmk_slice_lit (s := ⟨_, _, _, _, _⟩) (zs := ysI) F17 N17 ⟨_, (N17 (lH, _) (.tail _ (.tail _ (.tail _ (.head _))))).1, rfl, _, rfl⟩ .none (.int _ _) (slice_init ysI vI) ?zq4 ?zs4 ?zt4 ?zz4
  case zs4 => with_unfolding_all rfl
  case zt4 => intro _; with_unfolding_all rfl
  case zz4 => have := strsAre_length hysI; rw [List.length_map] at this; rw [List.size_toArray, List.length_append, List.length_singleton, this, sizeLine_eq]; omega
  intro lI h18 F18 N18 ltI
  clear F17 N17
  have hlI := strsAre_length hysI
  rw [List.length_map] at hlI
  have lt0 := ltI (M1.l, _) (.head _)
  refine iterList F18 N18 (.head _) fun I hI2 FI NI ltI2 => ?_
  refine for_inv (it_list (ax := lI) (items := ysI.toArray) rfl I) rfl rfl (fun i m₁ led₁ => ∃ vs' n', led₁ = (lI, listOf ysI.toArray 0) :: machL w M1 vs' n' [(lH, listOf (ysI ++ [vI]).toArray (ysI ++ [vI]).length), (L0 + 1 + 1, oMa5), (113, oP), (lA, listOf vA.toArray vA.length), (lC, listOf vC.toArray vC.length), (L0 + 1 + 1 + 1, oCh), (L0 + 1, oCe5)] ∧
    StrsAre vs' ((ds.take i).map fun d => rowS (1, bal d)) ∧ m₁ (Str.ofString "ballots") = some (.ref lA)) ?_ ?_ ?_ ?_ FI NI ⟨rfl, rfl⟩ ⟨_, _, rfl, .nil, rfl⟩
  · rintro i m₁ led₁ h ⟨vs', n', rfl, _⟩ N
    exact ⟨_, (N _ (.head _)).1, rfl, _, rfl⟩
  · rintro i m₁ led₁ ⟨vs', n', rfl, _⟩ z hz
    refine Nat.ne_of_lt ?_
    rcases List.mem_cons.mp hz with rfl | hz
    · exact ltI2 (lI, listOf ysI.toArray 0) (.head _)
    · rcases List.mem_cons.mp hz with rfl | hz
      · exact ltI2 (M1.l, listOf ([] : List Value).toArray n9) (.tail _ (.head _))
      · exact ltI2 z (.tail _ (.tail _ hz))
  · rintro i v m₁ led₁ h1 o1 tk1 hi hv ⟨vs', n', rfl, hvs', e1⟩ hO F1 N1
    rw [mset e1] at F1
    obtain ⟨y, t, hy, hyv⟩ := strsAre_get hysI hv
    subst hyv
    obtain ⟨d, hd⟩ : ∃ d, ds[i]? = some d := ⟨_, List.getElem?_eq_getElem (by simp at hi; omega)⟩
    rw [List.getElem?_map, hd] at hy
    obtain rfl : rowS (1, bal d) = y := Option.some.inj hy
    iterate 10 (first | (k_unfold; (try dsimp only)) | walk1)
    rename News _ _ _ _ => N2
    rename Fr _ _ _ _ => F2
    have N3 := mach_push2 N2
    have ltx := ltI (M1.x, _) (.tail _ (.head _))
    have ltd := ltI (M1.d, _) (.tail _ (.tail _ (.head _)))
    have lIl := ltI2 (M1.l, _) (.tail _ (.head _))
    have lIx := ltI2 (M1.x, _) (.tail _ (.tail _ (.head _)))
    have lId := ltI2 (M1.d, _) (.tail _ (.tail _ (.tail _ (.head _))))
    refine push_c ⟨B1, F2, X1, N3, T1, rfl, by decide, by decide⟩ ((o2.cons (ob := listOf ysI.toArray 0) lt0 ltx ltd).cons lIl lIx lId) ?_ ?_
    · have := strsAre_length hvs'
      rw [List.length_map, List.length_take] at this
      omega
    intro h4 tk4 n4 F4 N4
    iterate 1 (first | (k_unfold; (try dsimp only)) | walk1)
    refine ⟨_, _, _, _, rfl, F4, mach_pull2 N4, _, n4, rfl, ?_, rfl⟩
    rw [List.take_add_one, hd, List.map_append]
    exact kct_snoc hvs'
  · rintro m₁ led₁ h19 tk19 ⟨vsQ, nQ, rfl, hvsQ, e1⟩ F19 N19
    rw [List.size_toArray, hlI, List.take_length] at hvsQ
    rw [mset e1] at F19
    have oM := o2.tail
    clear o2 FI NI F18 N18 ltI2 ltI lt0 hlHR hMH
    replace N19 : News g0 L0 h19 (machL w M1 vsQ nQ [(L0 + 1 + 1, oMa5), (113, oP), (lA, listOf vA.toArray vA.length), (lC, listOf vC.toArray vC.length), (L0 + 1 + 1 + 1, oCh), (L0 + 1, oCe5)]) := news_sub N19 fun z hz => .tail _ (mach_mono (fun z hz => .tail _ hz) z hz)
    replace F19 : Fr g0 L0 h19 (fun y => if y = Str.ofString "ballots" then some (Value.ref lA) else m₁ y) := F19
    iterate 1 (first | (k_unfold; (try dsimp only)) | walk1)
    iterate 7 (first | (k_unfold; (try dsimp only)) | walk1)
    obtain ⟨c8, hc8⟩ : ∃ c8, (cellsL ns)[8]? = some c8 := ⟨_, List.getElem?_eq_getElem (by rw [cellsL_length]; decide)⟩
    obtain ⟨c9, hc9⟩ : ∃ c9, (cellsL ns)[9]? = some c9 := ⟨_, List.getElem?_eq_getElem (by rw [cellsL_length]; decide)⟩
    obtain ⟨c10, hc10⟩ : ∃ c10, (cellsL ns)[10]? = some c10 := ⟨_, List.getElem?_eq_getElem (by rw [cellsL_length]; decide)⟩
    refine' item_int (s := ⟨_, _, _, _, _⟩) (k := 8) N19 (.tail _ (.tail _ (.tail _ (.tail _ (.tail _ (.tail _ (.head _))))))) hvC (by decide) (by decide) hc8 (fun t8 => ?_) (by with_unfolding_all rfl)
    iterate 2 (first | (k_unfold; (try dsimp only)) | walk1)
    obtain ⟨st, hst, hst1, hst4⟩ : ∃ st : Nat, 1 + c8.fmod 3 = (st : Int) ∧ 1 ≤ st ∧ st < 4 := by
      have := fm_pos (a := c8) (b := 3) (by decide)
      exact ⟨(1 + c8.fmod 3).toNat, by omega, by omega, by omega⟩
    iterate 3 (first | (k_unfold; (try dsimp only)) | walk1)
    rename News _ _ _ _ => N20
    rename Fr _ _ _ _ => F20
    (try dsimp only)
    (try dsimp only at F20)
    rw [hst] at F20
    clear hst
    refine comp_assign (by with_unfolding_all rfl) (by with_unfolding_all rfl) (by rfl) (by decide) ?_
    iterate 7 (first | (k_unfold; (try dsimp only)) | walk1)
    rename IsRange _ _ _ _ _ _ _ _ => R20
    rename News _ _ _ _ => N21
    rename Fr _ _ _ _ => F21
    refine comp_range (n := 4) (fun i ys led' => led' = machL w M1 vsQ nQ [(L0 + 1 + 1, oMa5), (113, oP), (lA, listOf vA.toArray vA.length), (lC, listOf vC.toArray vC.length), (L0 + 1 + 1 + 1, oCh), (L0 + 1, oCe5)] ∧ StrsAre ys (((List.range i).map (ordN c9 c10)).map ltr))
      rfl F21 N21 R20 (by decide +kernel) (by decide +kernel) (by rw [sizeLine_eq]; decide) (yo_some rfl rfl rfl) (by decide) (by rfl) (by rfl) ?_ ⟨rfl, .nil⟩ ?_ ?_
    · rintro i ys led' ⟨rfl, _⟩ z hz
      exact Heap.lt_size (N21 z hz).1
    · intro C3 D3 hD3 hDC3 i ti ys led' its oC3 m₂ h3 tk3 E' hi ⟨hled, hys⟩ hN3 hx hits F3 N3
      subst hled
      rw [Int.zero_add] at hx
      simp only [List.cons_append] at N3
      refine wpAny_tests_nil ?_
      refine if_yes rfl ?_
      have mC : (lC, listOf vC.toArray vC.length) ∈ (C3, oC3) :: (D3, listOf ys.toArray ys.length) :: (machL w M1 vsQ nQ [(L0 + 1 + 1, oMa5), (113, oP), (lA, listOf vA.toArray vA.length), (lC, listOf vC.toArray vC.length), (L0 + 1 + 1 + 1, oCh), (L0 + 1, oCe5)] ++ its) :=
        .tail _ (.tail _ (.tail _ (.tail _ (.tail _ (.tail _ (.tail _ (.tail _ (.head _))))))))
      iterate 7 (first | (k_unfold; (try dsimp only)) | walk1)
      refine' item_int (s := ⟨_, _, _, _, _⟩) (k := 9) N3 mC hvC (by decide) (by decide) hc9 (fun t9 => ?_) (by with_unfolding_all rfl)
      iterate 9 (first | (k_unfold; (try dsimp only)) | walk1)
      refine' item_int (s := ⟨_, _, _, _, _⟩) (k := 10) N3 mC hvC (by decide) (by decide) hc10 (fun t10 => ?_) (by with_unfolding_all rfl)
      have fm2 := fm_pos (a := c10) (b := 2) (by decide)
      iterate 10 (first | (k_unfold; (try dsimp only)) | walk1)
      dsimp only
      rw [ordN_int, item_abcd _ (ordN_lt _ _ _)]
      refine ⟨machL w M1 vsQ nQ [(L0 + 1 + 1, oMa5), (113, oP), (lA, listOf vA.toArray vA.length), (lC, listOf vC.toArray vC.length), (L0 + 1 + 1 + 1, oCh), (L0 + 1, oCe5)], _, _, rfl, F3, N3, rfl, ?_⟩
      rw [List.range_succ, List.map_append, List.map_append]
      exact kct_snoc hys
    rintro lO vO led' h22 tk22 ⟨rfl, hvO⟩ ltO F22 N22
    replace hvO : StrsAre vO ((ordL c9 c10).map ltr) := hvO
    dsimp only [mOf] at F22
    dsimp only
    clear N21 F21 R20
    iterate 14 (first | (k_unfold; (try dsimp only)) | walk1)
    rename News _ _ _ _ => N22
    rename Fr _ _ _ _ => F22
    refine kst_len N22 (.tail _ (.tail _ (.tail _ (.tail _ (.tail _ (.tail _ (.head _))))))) hlA (by omega) ?_
    dsimp only
    iterate 6 (first | (k_unfold; (try dsimp only)) | walk1)
    have hO1 : M1.l < lO := ltO (M1.l, _) (.head _)
    have hO2 : M1.x < lO := ltO (M1.x, _) (.tail _ (.head _))
    have hO3 : M1.d < lO := ltO (M1.d, _) (.tail _ (.tail _ (.head _)))
    rw [← rows0] at hvsQ
    have N23 := mach_push N22
    refine choose_c' (M := M1) (bs := ds.map bal) (os := ordL c9 c10) (by rw [List.length_map]) ⟨B1, F22, X1, N23, T1, rfl, by decide, by decide⟩ (oM.cons hO1 hO2 hO3) (.head _) hvsQ (bals_lt ds) (by rw [List.length_map]; exact hd7) (by rw [List.length_map]; omega) hst4 hvO (ordL_lt c9 c10) ?_
    intro lX h24 tk24 n24 nX vsX cvs F24 N24 ltX hch hvsX hcvs
    clear N22 N23 F22
    dsimp only
    generalize hchE : chooseN (ds.map bal) (ordL c9 c10) st st = ch at *
    have hXC := ltX (L0 + 1 + 1 + 1, oCh) (by simp [machL])
    have hOC := ltO (L0 + 1 + 1 + 1, oCh) (by simp [machL])
    have hAC := ltA (L0 + 1 + 1 + 1, oCh) (by simp)
    have hDC := hMd (L0 + 1 + 1 + 1, oCh) (by simp)
    refine' storeX_C ?zF5 ?zN5 ?zc5 ?zU5 ?zd5 ?_ ?za5 ?zb5
    case za5 => rfl
    case zb5 => rfl
    case zF5 => exact F24
    case zN5 => exact N24
    case zc5 => rfl
    case zd5 => exact dCh
    case zU5 =>
      exact .tail (Nat.ne_of_gt (Nat.lt_trans hDC (Nat.lt_trans hMx hMl))) (.tail (Nat.ne_of_gt (Nat.lt_trans hDC hMx)) (.tail (Nat.ne_of_gt hDC) (.tail (Nat.ne_of_gt hXC) (.tail (Nat.ne_of_gt hOC) (.tail (Nat.ne_of_lt (Nat.lt_succ_self _)) (.tail (Nat.ne_of_lt (Nat.lt_succ_of_lt (Nat.lt_succ_of_lt (Nat.lt_succ_of_lt l113)))) (.tail (Nat.ne_of_gt hAC) (.tail (Nat.ne_of_gt ltC1) (.head fun p hp => by
        rw [List.mem_singleton.mp hp]
        exact Nat.ne_of_lt (Nat.lt_succ_of_lt (Nat.lt_succ_self _)))))))))))
    intro h25 oCh5 F25 N25 dCh5
    clear N24 F24
    have hX1 : M1.l < lX := ltX (M1.l, _) (.head _)
    have hX2 : M1.x < lX := ltX (M1.x, _) (.tail _ (.head _))
    have hX3 : M1.d < lX := ltX (M1.d, _) (.tail _ (.tail _ (.head _)))
    replace N25 : News g0 L0 h25 (machL w M1 vsX n24 [(lX, listOf cvs.toArray nX), (L0 + 1 + 1, oMa5), (113, oP), (lA, listOf vA.toArray vA.length), (L0 + 1 + 1 + 1, oCh5)]) := news_sub N25 fun z hz => by
      refine mach_mono (fun z hz => ?_) z hz
      simp only [List.mem_cons, List.not_mem_nil, or_false] at hz ⊢
      rcases hz with h | h | h | h | h <;> simp only [h, true_or, or_true]
    have oE : MOff M1 [(lX, listOf cvs.toArray nX), (L0 + 1 + 1, oMa5), (113, oP), (lA, listOf vA.toArray vA.length), (L0 + 1 + 1 + 1, oCh5)] := by
      refine MOff.cons ?_ hX1 hX2 hX3
      refine ⟨oM.lx, oM.ld, oM.xd, fun p hp b hb => ?_⟩
      simp only [List.mem_cons, List.not_mem_nil, or_false] at hp
      rcases hp with rfl | rfl | rfl | rfl
      · exact oM.off (L0 + 1 + 1, oMa5) (by simp) b hb
      · exact oM.off (113, oP) (by simp) b hb
      · exact oM.off (lA, listOf vA.toArray vA.length) (by simp) b hb
      · exact oM.off (L0 + 1 + 1 + 1, oCh) (by simp) b hb
    clear hO1 hO2 hO3 hXC hOC hAC hDC hMd ltX ltO oM
    iterate 1 (first | (k_unfold; (try dsimp only)) | walk1)
    refine comp_assign (by with_unfolding_all rfl) (by with_unfolding_all rfl) (by rfl) (by decide) ?_
    iterate 10 (first | (k_unfold; (try dsimp only)) | walk1)
    rename News _ _ _ _ => N26
    rename Fr _ _ _ _ => F26
    refine kst_len N26 (.tail _ (.tail _ (.tail _ (.tail _ (.tail _ (.tail _ (.head _))))))) hlA (by omega) ?_
    dsimp only
    iterate 2 (first | (k_unfold; (try dsimp only)) | walk1)
    rename IsRange _ _ _ _ _ _ _ _ => R26
    rename News _ _ _ _ => N27
    rename Fr _ _ _ _ => F27
    obtain ⟨rws, hrw⟩ : ∃ rws, rws = (rowsOf (ds.map bal) ch).map rowS := ⟨_, rfl⟩
    have hrl : rws.length = ds.length := by rw [hrw, List.length_map, rowsOf_length, List.length_map]
    rw [← hrw] at hvsX
    have hrs := range_small ds.length (by omega)
    refine comp_range (n := ds.length) (fun i ys led' => ∃ vs' n', led' = machL w M1 vs' n' [(lX, listOf cvs.toArray nX), (L0 + 1 + 1, oMa5), (113, oP), (lA, listOf vA.toArray vA.length), (L0 + 1 + 1 + 1, oCh5)] ∧ StrsAre vs' (rws.drop i) ∧ StrsAre ys (rws.take i))
      rfl F27 N27 R26 hrs.1 hrs.2 (by rw [sizeLine_eq]; omega) (yo_some rfl rfl rfl) (by decide) (by rfl) (by rfl) ?_ ⟨_, _, rfl, hvsX, .nil⟩ ?_ ?_
    · rintro i ys led' ⟨vs', n', rfl, _⟩ z hz
      rcases List.mem_cons.mp hz with rfl | hz
      · exact Heap.lt_size (N27 (M1.l, _) (.head _)).1
      · exact Heap.lt_size (N27 z (.tail _ hz)).1
    · intro C3 D3 hD3 hDC3 i ti ys led' its oC3 m₂ h3 tk3 E' hi ⟨vs', n', hled, hvs', hys⟩ hN3 hx hits F3 N3
      subst hled
      have hMl' := Heap.lt_size (N27 (M1.l, _) (.head _)).1
      dsimp only at hMl' hD3
      obtain ⟨x, hxr⟩ : ∃ x, rws[i]? = some x := ⟨_, List.getElem?_eq_getElem (by omega)⟩
      obtain ⟨t, ws, rfl, hws⟩ := strsAre_drop hvs' hxr
      have oI := oE.more (a := (C3, oC3)) (b := (D3, listOf ys.toArray ys.length)) (its := its) hMx hMl (Nat.lt_trans (Nat.lt_of_lt_of_le hMl' hD3) hDC3) (Nat.lt_of_lt_of_le hMl' hD3) (fun p hp => by
        have hm : p.1 ∈ its.map (·.1) := List.mem_map_of_mem hp
        rw [hits, List.mem_singleton] at hm
        rw [hm]; exact hMl')
      replace N3 := news_sub N3 fun z hz => mach_shuffle.mp hz
      refine wpAny_tests_nil ?_
      refine if_yes rfl ?_
      iterate 5 (first | (k_unfold; (try dsimp only)) | walk1)
      refine pop_c ⟨B1, F3, X1, N3, T1, rfl, by decide, by decide⟩ oI ?_ ?_
      · have := strsAre_length hws
        rw [List.length_drop] at this
        omega
      intro h4 tk4 n4 F4 N4
      (try dsimp only)
      refine ⟨machL w M1 ws n4 [(lX, listOf cvs.toArray nX), (L0 + 1 + 1, oMa5), (113, oP), (lA, listOf vA.toArray vA.length), (L0 + 1 + 1 + 1, oCh5)], h4, _, rfl, F4, news_sub N4 fun z hz => mach_shuffle.mpr hz, ws, n4, rfl, hws, ?_⟩
      rw [List.take_add_one, hxr]
      exact kct_snoc hys
    rintro lZ vZ led' h27 tk27 ⟨vs', n', rfl, _, hvZ⟩ ltZ F28 N28
    rw [← hrl, List.take_length] at hvZ
    dsimp only [mOf] at F28
    dsimp only
    clear N27 F27 R26 hvsX
    replace N28 := news_sub N28 (led' := [(lZ, listOf vZ.toArray vZ.length), (lX, listOf cvs.toArray nX), (113, oP), (lA, listOf vA.toArray vA.length), (L0 + 1 + 1 + 1, oCh5)]) fun z hz => by
      rcases List.mem_cons.mp hz with rfl | hz
      · exact .head _
      · refine List.mem_cons_of_mem _ (List.mem_cons_of_mem _ (List.mem_cons_of_mem _ (List.mem_cons_of_mem _ ?_)))
        simp only [List.mem_cons, List.not_mem_nil, or_false] at hz ⊢
        rcases hz with h | h | h | h <;> simp only [h, true_or, or_true]
    clear ltZ oE hX1 hX2 hX3 dMa5 hln1
    iterate 1 (first | (k_unfold; (try dsimp only)) | walk1)
    refine comp_assign (by with_unfolding_all rfl) (by with_unfolding_all rfl) (by rfl) (by decide) ?_
    iterate 1 (first | (k_unfold; (try dsimp only)) | walk1)
    rename News _ _ _ _ => N28
    rename Fr _ _ _ _ => F28
    refine comp_list (as := ds) (fun d v => ∃ t, v = .str (rowS (0, bal d)) t) (fun d => some (rowS (1 + held ch (bal d), bal d))) StrsAre (fun b y => ∃ t, y = .str b t) .nil
      (fun ys bs y b h ⟨t, e⟩ => e ▸ kct_snoc h) rfl F28 N28 (.tail _ (.tail _ (.tail _ (.head _)))) ?_ ?_ ?_ (yo_some rfl rfl rfl) (by decide) (by rfl) (by rfl) ?_ ?_
    · rw [List.size_toArray, hlA]
    · intro q v hv
      obtain ⟨y, t, e, e'⟩ := strsAre_get hvA hv
      rw [List.getElem?_map] at e
      cases hoc : ds[q]? with
      | none => rw [hoc] at e; cases e
      | some d => rw [hoc] at e; exact ⟨d, rfl, t, by rw [e', ← Option.some.inj e]⟩
    · rw [sizeLine_eq]; omega
    · intro C3 D3 hD3 hDC3 d v ys its oC3 m₂ h3 tk3 E' hc4 ⟨t, hv⟩ hN3 hx F3 N3
      subst hv
      simp only [List.cons_append] at N3
      refine wpAny_tests_nil ?_
      refine if_yes rfl ?_
      iterate 9 (first | (k_unfold; (try dsimp only)) | walk1)
      refine comp_open (by with_unfolding_all rfl) (by rfl) (by decide) ?_
      iterate 1 (first | (k_unfold; (try dsimp only)) | walk1)
      (try dsimp only)
      refine comp_str (led := (C3, oC3) :: (D3, listOf ys.toArray ys.length) :: _) (as := bitsOf (bal d)) (fun c v => ∃ t, v = .str (ltr c) t) (fun c => if c ∈ ch then some (ltr c) else none) StrsAre (fun b y => ∃ t, y = .str b t) .nil
        (fun ys bs y b h ⟨t, e⟩ => e ▸ kct_snoc h) rfl F3 N3 (row0_size (bal d)) ?_ ?_ yo_none (row0_asc (bal d) (bal_lt d)) (by decide) (by rfl) (by rfl) ?_ ?_
      · intro i c t hc
        obtain ⟨a, ha, rfl⟩ := row0_get hc
        exact ⟨a, ha, t, rfl⟩
      · rw [sizeLine_eq]
        have := List.length_filter_le (fun x => (bal d).testBit x) (List.range 4)
        rw [List.length_range] at this
        exact Nat.le_trans this (by decide)
      · intro C8 D8 hD8 hDC8 c v ys8 its8 oC8 m₈ h8 tk8 E8 hcw ⟨t8, hv8⟩ hN8 hx8 F8 N8
        subst hv8
        simp only [List.cons_append] at N8
        refine wpAny_tests_one ?_
        iterate 5 (first | (k_unfold; (try dsimp only)) | walk1)
        (try dsimp only)
        rw [any_ltr]
        by_cases hcc : c ∈ ch
        · refine if_yes (decide_eq_true hcc) ?_
          iterate 1 (first | (k_unfold; (try dsimp only)) | walk1)
          (try dsimp only)
          exact ⟨_, _, rfl, F8, N8, _, if_pos hcc, _, rfl⟩
        · refine if_no (by simpa using hcc) ?_
          (try dsimp only)
          exact ⟨_, _, rfl, F8, N8, if_neg hcc⟩
      · intro D8 ys8 h8 tk8 hys8 hD8 F8 N8
        rw [held_fm] at hys8
        have hl8 : ys8.length = held ch (bal d) := by rw [strsAre_length hys8, List.length_map]; rfl
        have hlh := held_le ch (bal d)
        dsimp only [mOf] at F8
        dsimp only [retOf]
        (try dsimp only)
        iterate 1 (first | (k_unfold; (try dsimp only)) | walk1)
        refine kst_len N8 (.head _) hl8 (by omega) ?_
        (try dsimp only)
        generalize held ch (bal d) = hn at *
        have hrl := row0_len _ (bal_lt d)
        iterate 4 (first | (k_unfold; (try dsimp only)) | walk1)
        (try dsimp only)
        rw [show (1 + (hn : Int)) = ((1 + hn : Nat) : Int) by omega, dots_row (1 + hn) (by omega) _ (bal_lt d)]
        exact ⟨_, _, rfl, F8, news_sub N8 fun p hp => .tail _ hp, _, rfl, _, rfl⟩
    intro lU vU h29 tk29 hvU ltU F29 N29
    replace hvU : StrsAre vU (ds.map fun d => rowS (1 + held ch (bal d), bal d)) := by
      rw [show (fun d => some (rowS (1 + held ch (bal d), bal d))) = some ∘ (fun d => rowS (1 + held ch (bal d), bal d)) from rfl, List.filterMap_eq_map] at hvU
      exact hvU
    rw [hrw, due_eq hch] at hvZ
    dsimp only [mOf] at F29
    dsimp only
    clear N28 F28 ltU
    iterate 6 (first | (k_unfold; (try dsimp only)) | walk1)
    rename News _ _ _ _ => N29
    rename Fr _ _ _ _ => F29
    refine es_eq (xs := vZ) (ys := vU) ⟨_, (N29 _ (.tail _ (.head _))).1, rfl, _, rfl⟩ ⟨_, (N29 _ (.head _)).1, rfl, _, rfl⟩ hvZ hvU (due_ok ch ds) (due_ok ch ds) (units_law _) ?_
    rw [decide_eq_true rfl]
    (try dsimp only)
    iterate 10 (first | (k_unfold; (try dsimp only)) | walk1)
    have hcl : ch.length ≤ st := by
      rw [← hchE]
      exact choose_le (by omega) (by rw [List.length_map]; omega)
    have hno : ∀ wish, 1 ≤ wish → wish < 16 → st * (shorts (ds.map bal) ch wish).length < (bitsOf wish).length * (ds.map bal).length := by
      rw [← hchE]
      exact no_pass (by omega) (by rw [List.length_map]; omega) (ordL_all c9 c10) (by rw [hchE]; exact hch)
    have hcvl : cvs.length = ch.length := by rw [strsAre_length hcvs, List.length_map]
    rename News _ _ _ _ => N30
    rename Fr _ _ _ _ => F30
    refine kst_len N30 (.tail _ (.tail _ (.head _))) hcvl (by omega) ?_
    (try dsimp only)
    iterate 17 (first | (k_unfold; (try dsimp only)) | walk1)
    rename News _ _ _ _ => N31
    rename Fr _ _ _ _ => F31
    have hvA2 : StrsAre vA ((ds.map bal).map fun k => rowS (0, k)) := by
      rw [List.map_map]; exact hvA
    refine passed_c (bs := ds.map bal) (ch := ch) ⟨B1, F31, X1, N31, T1, rfl, by decide, by decide⟩ (.tail _ (.tail _ (.tail _ (.tail _ (.head _))))) (.tail _ (.tail _ (.head _))) hvA2 hcvs (bals_lt ds) (by rw [List.length_map]; exact hd7) hch hst4 hno ?_
    intro h32 tk32 F32 N32
    clear F31 N31
    (try dsimp only)
    iterate 2 (first | (k_unfold; (try dsimp only)) | walk1)
    refine ⟨rfl, h32, tk32, _, rfl, F32, ?_⟩
    obtain ⟨ps, hps⟩ := hoP
    exact ⟨ps, by rw [← hps]; exact (N32 (113, oP) (.tail _ (.tail _ (.tail _ (.head _))))).1⟩
end Mine
end

theorem PySem.Challenge.cw_sh0019_01_holds : PySem.Challenge.rw_sh0019_01.Holds :=
  Mine.whole
