import PyProof.Rows.All
import Wide.All
import OpenK.AllK
import Wide.FinOn
import PySem.Challenge.RW_af0032_01
set_option Elab.async false
set_option linter.unusedVariables false
section
open PySem PySem.W
set_option maxRecDepth 100000
namespace Mine
noncomputable def pAt (l : List Stmt) (i : Nat) : Option Stmt := l[i]?
noncomputable def pTop : List Stmt := PySem.Challenge.pw_af0032_01.main.body
noncomputable def pIn (i : Nat) : List Stmt := match pAt pTop i with | some (.ClassDef _ _ _ b ..) => b | _ => []
noncomputable def c0 : Stmt := by
  refine (?f : ∀ s, pAt pTop 0 = some s → Stmt) _ rfl
  exact fun s _ => s
noncomputable def c1 : Stmt := by
  refine (?f : ∀ s, pAt pTop 1 = some s → Stmt) _ rfl
  exact fun s _ => s
noncomputable def c2_0 : Stmt := by
  refine (?f : ∀ s, pAt (pIn 2) 0 = some s → Stmt) _ rfl
  exact fun s _ => s
noncomputable def c2_1 : Stmt := by
  refine (?f : ∀ s, pAt (pIn 2) 1 = some s → Stmt) _ rfl
  exact fun s _ => s
noncomputable def c2_2 : Stmt := by
  refine (?f : ∀ s, pAt (pIn 2) 2 = some s → Stmt) _ rfl
  exact fun s _ => s
noncomputable def c2_3 : Stmt := by
  refine (?f : ∀ s, pAt (pIn 2) 3 = some s → Stmt) _ rfl
  exact fun s _ => s
noncomputable def c2_4 : Stmt := by
  refine (?f : ∀ s, pAt (pIn 2) 4 = some s → Stmt) _ rfl
  exact fun s _ => s
noncomputable def c2_5 : Stmt := by
  refine (?f : ∀ s, pAt (pIn 2) 5 = some s → Stmt) _ rfl
  exact fun s _ => s
noncomputable def c2_6 : Stmt := by
  refine (?f : ∀ s, pAt (pIn 2) 6 = some s → Stmt) _ rfl
  exact fun s _ => s
noncomputable def c2_7 : Stmt := by
  refine (?f : ∀ s, pAt (pIn 2) 7 = some s → Stmt) _ rfl
  exact fun s _ => s
noncomputable def c2_8 : Stmt := by
  refine (?f : ∀ s, pAt (pIn 2) 8 = some s → Stmt) _ rfl
  exact fun s _ => s
noncomputable def c2_9 : Stmt := by
  refine (?f : ∀ s, pAt (pIn 2) 9 = some s → Stmt) _ rfl
  exact fun s _ => s
noncomputable def c2_10 : Stmt := by
  refine (?f : ∀ s, pAt (pIn 2) 10 = some s → Stmt) _ rfl
  exact fun s _ => s
noncomputable def c2_11 : Stmt := by
  refine (?f : ∀ s, pAt (pIn 2) 11 = some s → Stmt) _ rfl
  exact fun s _ => s
noncomputable def c2_12 : Stmt := by
  refine (?f : ∀ s, pAt (pIn 2) 12 = some s → Stmt) _ rfl
  exact fun s _ => s
noncomputable def c2_13 : Stmt := by
  refine (?f : ∀ s, pAt (pIn 2) 13 = some s → Stmt) _ rfl
  exact fun s _ => s
noncomputable def c2_14 : Stmt := by
  refine (?f : ∀ s, pAt (pIn 2) 14 = some s → Stmt) _ rfl
  exact fun s _ => s
noncomputable def c2_15 : Stmt := by
  refine (?f : ∀ s, pAt (pIn 2) 15 = some s → Stmt) _ rfl
  exact fun s _ => s
noncomputable def c2_16 : Stmt := by
  refine (?f : ∀ s, pAt (pIn 2) 16 = some s → Stmt) _ rfl
  exact fun s _ => s
noncomputable def c2_17 : Stmt := by
  refine (?f : ∀ s, pAt (pIn 2) 17 = some s → Stmt) _ rfl
  exact fun s _ => s
noncomputable def c2_18 : Stmt := by
  refine (?f : ∀ s, pAt (pIn 2) 18 = some s → Stmt) _ rfl
  exact fun s _ => s
noncomputable def c2_19 : Stmt := by
  refine (?f : ∀ s, pAt (pIn 2) 19 = some s → Stmt) _ rfl
  exact fun s _ => s
noncomputable def c2_20 : Stmt := by
  refine (?f : ∀ s, pAt (pIn 2) 20 = some s → Stmt) _ rfl
  exact fun s _ => s
noncomputable def c2_21 : Stmt := by
  refine (?f : ∀ s, pAt (pIn 2) 21 = some s → Stmt) _ rfl
  exact fun s _ => s
noncomputable def c2_22 : Stmt := by
  refine (?f : ∀ s, pAt (pIn 2) 22 = some s → Stmt) _ rfl
  exact fun s _ => s
noncomputable def c2_23 : Stmt := by
  refine (?f : ∀ s, pAt (pIn 2) 23 = some s → Stmt) _ rfl
  exact fun s _ => s
noncomputable def c2_s : Scope := by
  refine (?f : ∀ n b k l d e f g h i j, pAt pTop 2 = some (.ClassDef n b k l d e f g h i j) → Scope) _ _ _ _ _ _ _ _ _ _ _ rfl
  exact fun _ _ _ _ _ _ f _ _ _ _ _ => f
noncomputable def c2 : Stmt := by
  refine (?f : ∀ n b k l d e f g h i j, pAt pTop 2 = some (.ClassDef n b k l d e f g h i j) → Stmt) _ _ _ _ _ _ _ _ _ _ _ rfl
  exact fun n b k _ d e _ g h i j _ => .ClassDef n b k [c2_0, c2_1, c2_2, c2_3, c2_4, c2_5, c2_6, c2_7, c2_8, c2_9, c2_10, c2_11, c2_12, c2_13, c2_14, c2_15, c2_16, c2_17, c2_18, c2_19, c2_20, c2_21, c2_22, c2_23] d e c2_s g h i j
noncomputable def c3 : Stmt := by
  refine (?f : ∀ s, pAt pTop 3 = some s → Stmt) _ rfl
  exact fun s _ => s
noncomputable def c4 : Stmt := by
  refine (?f : ∀ s, pAt pTop 4 = some s → Stmt) _ rfl
  exact fun s _ => s
noncomputable def c5 : Stmt := by
  refine (?f : ∀ s, pAt pTop 5 = some s → Stmt) _ rfl
  exact fun s _ => s
noncomputable def c6_0 : Stmt := by
  refine (?f : ∀ s, pAt (pIn 6) 0 = some s → Stmt) _ rfl
  exact fun s _ => s
noncomputable def c6_1 : Stmt := by
  refine (?f : ∀ s, pAt (pIn 6) 1 = some s → Stmt) _ rfl
  exact fun s _ => s
noncomputable def c6_2 : Stmt := by
  refine (?f : ∀ s, pAt (pIn 6) 2 = some s → Stmt) _ rfl
  exact fun s _ => s
noncomputable def c6_3 : Stmt := by
  refine (?f : ∀ s, pAt (pIn 6) 3 = some s → Stmt) _ rfl
  exact fun s _ => s
noncomputable def c6_4 : Stmt := by
  refine (?f : ∀ s, pAt (pIn 6) 4 = some s → Stmt) _ rfl
  exact fun s _ => s
noncomputable def c6_5 : Stmt := by
  refine (?f : ∀ s, pAt (pIn 6) 5 = some s → Stmt) _ rfl
  exact fun s _ => s
noncomputable def c6_6 : Stmt := by
  refine (?f : ∀ s, pAt (pIn 6) 6 = some s → Stmt) _ rfl
  exact fun s _ => s
noncomputable def c6_7 : Stmt := by
  refine (?f : ∀ s, pAt (pIn 6) 7 = some s → Stmt) _ rfl
  exact fun s _ => s
noncomputable def c6_8 : Stmt := by
  refine (?f : ∀ s, pAt (pIn 6) 8 = some s → Stmt) _ rfl
  exact fun s _ => s
noncomputable def c6_9 : Stmt := by
  refine (?f : ∀ s, pAt (pIn 6) 9 = some s → Stmt) _ rfl
  exact fun s _ => s
noncomputable def c6_10 : Stmt := by
  refine (?f : ∀ s, pAt (pIn 6) 10 = some s → Stmt) _ rfl
  exact fun s _ => s
noncomputable def c6_11 : Stmt := by
  refine (?f : ∀ s, pAt (pIn 6) 11 = some s → Stmt) _ rfl
  exact fun s _ => s
noncomputable def c6_12 : Stmt := by
  refine (?f : ∀ s, pAt (pIn 6) 12 = some s → Stmt) _ rfl
  exact fun s _ => s
noncomputable def c6_13 : Stmt := by
  refine (?f : ∀ s, pAt (pIn 6) 13 = some s → Stmt) _ rfl
  exact fun s _ => s
noncomputable def c6_14 : Stmt := by
  refine (?f : ∀ s, pAt (pIn 6) 14 = some s → Stmt) _ rfl
  exact fun s _ => s
noncomputable def c6_15 : Stmt := by
  refine (?f : ∀ s, pAt (pIn 6) 15 = some s → Stmt) _ rfl
  exact fun s _ => s
noncomputable def c6_16 : Stmt := by
  refine (?f : ∀ s, pAt (pIn 6) 16 = some s → Stmt) _ rfl
  exact fun s _ => s
noncomputable def c6_17 : Stmt := by
  refine (?f : ∀ s, pAt (pIn 6) 17 = some s → Stmt) _ rfl
  exact fun s _ => s
noncomputable def c6_18 : Stmt := by
  refine (?f : ∀ s, pAt (pIn 6) 18 = some s → Stmt) _ rfl
  exact fun s _ => s
noncomputable def c6_19 : Stmt := by
  refine (?f : ∀ s, pAt (pIn 6) 19 = some s → Stmt) _ rfl
  exact fun s _ => s
noncomputable def c6_20 : Stmt := by
  refine (?f : ∀ s, pAt (pIn 6) 20 = some s → Stmt) _ rfl
  exact fun s _ => s
noncomputable def c6_21 : Stmt := by
  refine (?f : ∀ s, pAt (pIn 6) 21 = some s → Stmt) _ rfl
  exact fun s _ => s
noncomputable def c6_22 : Stmt := by
  refine (?f : ∀ s, pAt (pIn 6) 22 = some s → Stmt) _ rfl
  exact fun s _ => s
noncomputable def c6_23 : Stmt := by
  refine (?f : ∀ s, pAt (pIn 6) 23 = some s → Stmt) _ rfl
  exact fun s _ => s
noncomputable def c6_24 : Stmt := by
  refine (?f : ∀ s, pAt (pIn 6) 24 = some s → Stmt) _ rfl
  exact fun s _ => s
noncomputable def c6_25 : Stmt := by
  refine (?f : ∀ s, pAt (pIn 6) 25 = some s → Stmt) _ rfl
  exact fun s _ => s
noncomputable def c6_26 : Stmt := by
  refine (?f : ∀ s, pAt (pIn 6) 26 = some s → Stmt) _ rfl
  exact fun s _ => s
noncomputable def c6_27 : Stmt := by
  refine (?f : ∀ s, pAt (pIn 6) 27 = some s → Stmt) _ rfl
  exact fun s _ => s
noncomputable def c6_28 : Stmt := by
  refine (?f : ∀ s, pAt (pIn 6) 28 = some s → Stmt) _ rfl
  exact fun s _ => s
noncomputable def c6_29 : Stmt := by
  refine (?f : ∀ s, pAt (pIn 6) 29 = some s → Stmt) _ rfl
  exact fun s _ => s
noncomputable def c6_30 : Stmt := by
  refine (?f : ∀ s, pAt (pIn 6) 30 = some s → Stmt) _ rfl
  exact fun s _ => s
noncomputable def c6_31 : Stmt := by
  refine (?f : ∀ s, pAt (pIn 6) 31 = some s → Stmt) _ rfl
  exact fun s _ => s
noncomputable def c6_32 : Stmt := by
  refine (?f : ∀ s, pAt (pIn 6) 32 = some s → Stmt) _ rfl
  exact fun s _ => s
noncomputable def c6_33 : Stmt := by
  refine (?f : ∀ s, pAt (pIn 6) 33 = some s → Stmt) _ rfl
  exact fun s _ => s
noncomputable def c6_34 : Stmt := by
  refine (?f : ∀ s, pAt (pIn 6) 34 = some s → Stmt) _ rfl
  exact fun s _ => s
noncomputable def c6_s : Scope := by
  refine (?f : ∀ n b k l d e f g h i j, pAt pTop 6 = some (.ClassDef n b k l d e f g h i j) → Scope) _ _ _ _ _ _ _ _ _ _ _ rfl
  exact fun _ _ _ _ _ _ f _ _ _ _ _ => f
noncomputable def c6 : Stmt := by
  refine (?f : ∀ n b k l d e f g h i j, pAt pTop 6 = some (.ClassDef n b k l d e f g h i j) → Stmt) _ _ _ _ _ _ _ _ _ _ _ rfl
  exact fun n b k _ d e _ g h i j _ => .ClassDef n b k [c6_0, c6_1, c6_2, c6_3, c6_4, c6_5, c6_6, c6_7, c6_8, c6_9, c6_10, c6_11, c6_12, c6_13, c6_14, c6_15, c6_16, c6_17, c6_18, c6_19, c6_20, c6_21, c6_22, c6_23, c6_24, c6_25, c6_26, c6_27, c6_28, c6_29, c6_30, c6_31, c6_32, c6_33, c6_34] d e c6_s g h i j
noncomputable def c7 : Stmt := by
  refine (?f : ∀ s, pAt pTop 7 = some s → Stmt) _ rfl
  exact fun s _ => s
noncomputable def c8 : Stmt := by
  refine (?f : ∀ s, pAt pTop 8 = some s → Stmt) _ rfl
  exact fun s _ => s
noncomputable def c9 : Stmt := by
  refine (?f : ∀ s, pAt pTop 9 = some s → Stmt) _ rfl
  exact fun s _ => s
noncomputable def c10 : Stmt := by
  refine (?f : ∀ s, pAt pTop 10 = some s → Stmt) _ rfl
  exact fun s _ => s
noncomputable def c11 : Stmt := by
  refine (?f : ∀ s, pAt pTop 11 = some s → Stmt) _ rfl
  exact fun s _ => s
noncomputable def c12 : Stmt := by
  refine (?f : ∀ s, pAt pTop 12 = some s → Stmt) _ rfl
  exact fun s _ => s
noncomputable def c13 : Stmt := by
  refine (?f : ∀ s, pAt pTop 13 = some s → Stmt) _ rfl
  exact fun s _ => s
noncomputable def c14 : Stmt := by
  refine (?f : ∀ s, pAt pTop 14 = some s → Stmt) _ rfl
  exact fun s _ => s
noncomputable def c15 : Stmt := by
  refine (?f : ∀ s, pAt pTop 15 = some s → Stmt) _ rfl
  exact fun s _ => s
noncomputable def c16 : Stmt := by
  refine (?f : ∀ s, pAt pTop 16 = some s → Stmt) _ rfl
  exact fun s _ => s
noncomputable def c17 : Stmt := by
  refine (?f : ∀ s, pAt pTop 17 = some s → Stmt) _ rfl
  exact fun s _ => s
noncomputable def c18 : Stmt := by
  refine (?f : ∀ s, pAt pTop 18 = some s → Stmt) _ rfl
  exact fun s _ => s
noncomputable def c19 : Stmt := by
  refine (?f : ∀ s, pAt pTop 19 = some s → Stmt) _ rfl
  exact fun s _ => s
noncomputable def c20 : Stmt := by
  refine (?f : ∀ s, pAt pTop 20 = some s → Stmt) _ rfl
  exact fun s _ => s
noncomputable def c21 : Stmt := by
  refine (?f : ∀ s, pAt pTop 21 = some s → Stmt) _ rfl
  exact fun s _ => s
noncomputable def c22 : Stmt := by
  refine (?f : ∀ s, pAt pTop 22 = some s → Stmt) _ rfl
  exact fun s _ => s
noncomputable def c23 : Stmt := by
  refine (?f : ∀ s, pAt pTop 23 = some s → Stmt) _ rfl
  exact fun s _ => s
noncomputable def cSc : Scope := by
  refine (?f : ∀ k n g c m, PySem.Challenge.pw_af0032_01.main.scope = ⟨k, n, g, c, m⟩ → Scope) _ _ _ _ _ rfl
  exact fun k n g c m _ => ⟨k, n, g, c, m⟩
noncomputable def P9 : Program := by
  refine (?f : ∀ b s u v w x y z p q, PySem.Challenge.pw_af0032_01 = ⟨⟨b, s, u, v, w⟩, x, y, z, p, q⟩ → Program) _ _ _ _ _ _ _ _ _ _ rfl
  exact fun _ _ u v w x y z p q _ => ⟨⟨[c0, c1, c2, c3, c4, c5, c6, c7, c8, c9, c10, c11, c12, c13, c14, c15, c16, c17, c18, c19, c20, c21, c22, c23], cSc, u, v, w⟩, x, y, z, p, q⟩
theorem pw_eq : PySem.Challenge.pw_af0032_01 = P9 := by kernel_rfl
noncomputable def rw9 : OpenLaw := by
  refine (?f : ∀ p n a b c d e, PySem.Challenge.rw_af0032_01 = ⟨p, n, a, b, c, d, e⟩ → OpenLaw) _ _ _ _ _ _ _ rfl
  exact fun _ n a b c d e _ => ⟨P9, n, a, b, c, d, e⟩
theorem rw_eq : PySem.Challenge.rw_af0032_01 = rw9 := by kernel_rfl
end Mine
end
section
open PySem PySem.W PyProof.Rows
namespace Mine
structure EvR (α : Type) where
  out : α
  pos : Pos
  T : BT
  n : Nat
  tk : Nat
noncomputable abbrev Caller := Ctx → Pos → BT → Nat → Nat → Option (EvR Result)
noncomputable def force {ρ : Type} (n : Nat) (f : Nat → ρ) : ρ := @Nat.rec (fun _ => ρ) (f 0) (fun m _ => f (Nat.succ m)) n
theorem force_eq {ρ : Type} (n : Nat) (f : Nat → ρ) : force n f = f n := by cases n <;> rfl
noncomputable def ldT {ρ : Type} (T : BT) (n a : Nat) (k : Obj → Option ρ) : Option ρ :=
  @Bool.rec (fun _ => Option ρ) none (@Option.rec Obj (fun _ => Option ρ) none (fun o => @Option.rec Obj (fun _ => Option ρ) none k (alive o)) (T.get a)) (Nat.blt a n)
noncomputable def evT (pr : Program) (w : World) (C : Caller) (Γ : Ctx) {α : Type} (t : Sem α) : Pos → BT → Nat → Nat → Option (EvR (Except Value α)) :=
  @Sem.rec α (fun _ => Pos → BT → Nat → Nat → Option (EvR (Except Value α)))
    (fun a p T n tk => some ⟨.ok a, p, T, n, tk⟩)
    (fun e p T n tk => some ⟨.error e, p, T, n, tk⟩)
    (fun _ _ _ _ _ => none)
    (fun _ _ _ _ _ => none)
    (fun _ _ ih p T n tk => ih () p T n tk)
    (fun p' _ ih _ T n tk => ih () p' T n tk)
    (fun a _ _ ih p T n tk => ldT T n a fun o => ih o p T n tk)
    (fun a _ f _ ih p T n tk => ldT T n a fun _ => ih () p (T.set a f) n tk)
    (fun o _ ih p T n tk => @Bool.rec (fun _ => Option (EvR (Except Value α))) none (force (n + 1) fun n' => ih n p (T.ins n o) n' tk) ((T.ins n o).get n).isSome)
    (fun a _ ih p T n tk => @Bool.rec (fun _ => Option (EvR (Except Value α))) none (@Option.rec Obj (fun _ => Option (EvR (Except Value α))) none (fun o => ih (alive o) p T n tk) (T.get a)) (Nat.blt a n))
    (fun _ _ ih p T n tk => ih () p T n tk)
    (fun _ _ _ _ _ _ _ => none)
    (fun _ ih p T n tk => force (tk + 1) fun tk' => ih tk p T n tk')
    (fun _ ih p T n tk => ih ⟨pr, w.params⟩ p T n tk)
    (fun _ _ _ _ _ _ _ _ => none)
    (fun _ _ _ _ _ _ _ _ => none)
    (fun c h _ _ _ ih p T n tk => @Option.rec (EvR Result) (fun _ => Option (EvR (Except Value α))) none (fun r => ih r.out p r.T r.n r.tk) (C (Γ.enter c h p) p T n tk))
    (fun own _ ih p T n tk => ih (if own then Γ.own else Γ.handled) p T n tk)
    (fun _ _ _ _ _ _ _ => none)
    (fun _ _ _ _ _ _ _ => none)
    (fun _ _ _ _ _ _ _ _ _ => none)
    (fun _ _ _ _ _ _ _ _ _ => none)
    (fun _ ih p T n tk => ih ((Γ.code, p) :: Γ.below) p T n tk)
    (fun _ _ _ _ _ _ _ => none)
    (fun _ ih p T n tk => ih 0 p T n tk)
    (fun _ _ _ _ _ _ _ _ _ _ => none)
    t
noncomputable def evC (pr : Program) (w : World) (fuel : Nat) : Caller :=
  @Nat.rec (fun _ => Caller) (fun _ _ _ _ _ => none)
    (fun _ ih Γ p T n tk => @Option.rec (EvR (Except Value PySem.Fin)) (fun _ => Option (EvR Result)) none
      (fun r => @Except.rec Value PySem.Fin (fun _ => Option (EvR Result)) (fun e => some ⟨.error e, r.pos, r.T, r.n, r.tk⟩)
        (fun fin => @PySem.Fin.rec (fun _ => Option (EvR Result)) (fun f => some ⟨.ok f, r.pos, r.T, r.n, r.tk⟩)
          (fun c => @Bool.rec (fun _ => Option (EvR Result)) none (ih (Γ.goto c) r.pos r.T r.n r.tk) c.quiet) fin) r.out)
      (evT pr w ih Γ (denote treeTable Γ.code) p T n tk)) fuel
structure Rep (T : BT) (n tk : Nat) (s : Shared) : Prop where
  size : s.heap.objs.size = n
  get : ∀ a o, a < n → T.get a = some o → s.heap.get? a = alive o
  toks : s.toks = tk
structure Kept (s s' : Shared) : Prop where
  gens : s'.gens = s.gens
  drawn : s'.drawn = s.drawn
  os : s'.os = s.os
theorem Kept.refl (s : Shared) : Kept s s := ⟨rfl, rfl, rfl⟩
theorem Kept.trans {s s' s'' : Shared} (a : Kept s s') (b : Kept s' s'') : Kept s s'' := ⟨b.gens.trans a.gens, b.drawn.trans a.drawn, b.os.trans a.os⟩
theorem get?_alive {h : Heap} {a : Addr} {o : Obj} (e : h.objs[a]? = some o) : h.get? a = alive o := by
  unfold Heap.get?
  rw [e]
  obtain ⟨c, d, dt, sl⟩ := o
  cases dt <;> rfl
theorem objs_of_get? {h : Heap} {a : Addr} {o o' : Obj} (e : h.get? a = alive o) (ho : alive o = some o') : h.objs[a]? = some o := by
  have ho2 : o' = o := by
    obtain ⟨c, d, dt, sl⟩ := o
    cases dt <;> first | (exact (Option.some.inj ho).symm) | (cases ho)
  subst ho2
  rw [ho] at e
  unfold Heap.get? at e
  cases hq : h.objs[a]? with
  | none => rw [hq] at e; cases e
  | some ob =>
    rw [hq] at e
    obtain ⟨c, d, dt, sl⟩ := ob
    cases dt <;> first | (exact congrArg some (Option.some.inj e)) | (cases e)
theorem alive_eq {o o' : Obj} (h : alive o = some o') : o' = o := by
  obtain ⟨c, d, dt, sl⟩ := o
  cases dt <;> first | (exact (Option.some.inj h).symm) | (cases h)
theorem ldT_some {ρ : Type} {T : BT} {n a : Nat} {k : Obj → Option ρ} {r : ρ} (h : ldT T n a k = some r) : ∃ o, a < n ∧ T.get a = some o ∧ alive o = some o ∧ k o = some r := by
  unfold ldT at h
  cases hb : Nat.blt a n with
  | false => rw [hb] at h; cases h
  | true =>
    rw [hb] at h
    cases ho : T.get a with
    | none => rw [ho] at h; cases h
    | some o =>
      rw [ho] at h
      cases hl : alive o with
      | none => simp only [hl] at h; cases h
      | some o' =>
        simp only [hl] at h
        obtain rfl := alive_eq hl
        exact ⟨_, Nat.le_of_ble_eq_true hb, rfl, hl, h⟩
theorem Rep.update {T : BT} {n tk : Nat} {s : Shared} {a : Nat} {o : Obj} {f : Obj → Obj} (R : Rep T n tk s) (ha : a < n) (hg : T.get a = some o) (hl : alive o = some o) :
    Rep (T.set a f) n tk { s with heap := s.heap.update a f } := by
  have h0 := objs_of_get? (R.get a o ha hg) hl
  have hu : ∀ b, (s.heap.update a f).objs[b]? = if a = b then (s.heap.objs[b]?).map f else s.heap.objs[b]? := fun b => by
    show (s.heap.objs.modify a f)[b]? = _
    rw [Array.getElem?_modify]
  refine ⟨?_, fun b ob hb e => ?_, R.toks⟩
  · show (s.heap.objs.modify a f).size = n
    rw [Array.size_modify]; exact R.size
  · rw [BT.get_set] at e
    by_cases q : b = a
    · subst q
      rw [if_pos rfl, hg] at e
      obtain rfl := Option.some.inj e
      exact get?_alive (by show (s.heap.update b f).objs[b]? = _; rw [hu, if_pos rfl, h0]; rfl)
    · rw [if_neg q] at e
      have e1 := R.get b ob hb e
      show (s.heap.update a f).get? b = _
      rw [Heap.get?_update_ne _ _ _ _ q]; exact e1
theorem Rep.push {T : BT} {n tk : Nat} {s : Shared} {o : Obj} (R : Rep T n tk s) (hi : ((T.ins n o).get n).isSome = true) :
    Rep (T.ins n o) (n + 1) tk { s with heap := s.heap.push o } := by
  refine ⟨?_, fun b ob hb e => ?_, R.toks⟩
  · show (s.heap.objs.push o).size = n + 1
    rw [Array.size_push, R.size]
  · rw [BT.get_ins o T n hi] at e
    by_cases q : b = n
    · subst q
      rw [if_pos rfl] at e
      obtain rfl := Option.some.inj e
      refine get?_alive ?_
      show (s.heap.objs.push o)[b]? = some o
      rw [← R.size, Array.getElem?_push_size]
    · rw [if_neg q] at e
      have hb' : b < n := by lia
      show (s.heap.push o).get? b = _
      rw [Heap.get?_push_ne _ _ _ (by rw [R.size]; exact q)]
      exact R.get b ob hb' e
noncomputable def CallerOk (M : Model) (C : Caller) : Prop := ∀ Γ p T n tk r, C Γ p T n tk = some r → ∀ s, Rep T n tk s → ∃ s', Returns M Γ p s r.out s' ∧ Rep r.T r.n r.tk s' ∧ Kept s s'
section
variable {pr : Program} {w : World} {C : Caller} {Γ : Ctx}
theorem evT_sound (hC : CallerOk (model pr w) C) {α : Type} (t : Sem α) : ∀ p T n tk r, evT pr w C Γ t p T n tk = some r → ∀ s, Rep T n tk s →
    ∃ s', Rep r.T r.n r.tk s' ∧ Kept s s' ∧ ∀ (Q : α → Pos → Shared → Prop) (E : Value → Pos → Shared → Prop), (match r.out with | .ok a => Q a r.pos s' | .error e => E e r.pos s') → Sem.wp (model pr w) Γ t Q E p s := by
  induction t with
  | pure a => intro p T n tk r h s R; cases h; exact ⟨s, R, .refl s, fun Q E x => by rw [Sem.wp_pure]; exact x⟩
  | raise e => intro p T n tk r h s R; cases h; exact ⟨s, R, .refl s, fun Q E x => by rw [Sem.wp_raise]; exact x⟩
  | rule tag k ih => intro p T n tk r h s R; obtain ⟨s', a, b, c⟩ := ih () p T n tk r h s R; exact ⟨s', a, b, fun Q E x => by rw [Sem.wp_rule]; exact c Q E x⟩
  | «at» p' k ih => intro p T n tk r h s R; obtain ⟨s', a, b, c⟩ := ih () p' T n tk r h s R; exact ⟨s', a, b, fun Q E x => by rw [Sem.wp_at]; exact c Q E x⟩
  | load a part k ih =>
    intro p T n tk r h s R
    obtain ⟨o, ha, hg, hl, h⟩ := ldT_some (k := fun o => evT pr w C Γ (k o) p T n tk) h
    obtain ⟨s', x, y, z⟩ := ih o p T n tk r h s R
    exact ⟨s', x, y, fun Q E q => by rw [Sem.wp_load]; exact ⟨o, (R.get a o ha hg).trans hl, z Q E q⟩⟩
  | update a part f k ih =>
    intro p T n tk r h s R
    obtain ⟨o, ha, hg, hl, h⟩ := ldT_some (k := fun _ => evT pr w C Γ (k ()) p (T.set a f) n tk) h
    obtain ⟨s', x, y, z⟩ := ih () p (T.set a f) n tk r h _ (R.update ha hg hl)
    exact ⟨s', x, ⟨y.gens, y.drawn, y.os⟩, fun Q E q => by rw [Sem.wp_update]; exact ⟨by rw [(R.get a o ha hg).trans hl]; rfl, z Q E q⟩⟩
  | alloc o k ih =>
    intro p T n tk r h s R
    change @Bool.rec (fun _ => Option (EvR (Except Value α))) none (force (n + 1) fun n' => evT pr w C Γ (k n) p (T.ins n o) n' tk) ((T.ins n o).get n).isSome = some r at h
    rw [force_eq] at h
    cases hi : ((T.ins n o).get n).isSome with
    | false => rw [hi] at h; cases h
    | true =>
      rw [hi] at h
      obtain ⟨s', x, y, z⟩ := ih n p (T.ins n o) (n + 1) tk r h _ (R.push hi)
      exact ⟨s', x, ⟨y.gens, y.drawn, y.os⟩, fun Q E q => by rw [Sem.wp_alloc, R.size]; exact z Q E q⟩
  | loadIfAlive a k ih =>
    intro p T n tk r h s R
    change @Bool.rec (fun _ => Option (EvR (Except Value α))) none (@Option.rec Obj (fun _ => Option (EvR (Except Value α))) none (fun o => evT pr w C Γ (k (alive o)) p T n tk) (T.get a)) (Nat.blt a n) = some r at h
    cases hb : Nat.blt a n with
    | false => rw [hb] at h; cases h
    | true =>
      rw [hb] at h
      cases ho : T.get a with
      | none => rw [ho] at h; cases h
      | some o =>
        rw [ho] at h
        obtain ⟨s', x, y, z⟩ := ih (alive o) p T n tk r h s R
        exact ⟨s', x, y, fun Q E q => by rw [Sem.wp_loadIfAlive, R.get a o (Nat.le_of_ble_eq_true hb) ho]; exact z Q E q⟩
  | point l k ih => intro p T n tk r h s R; obtain ⟨s', a, b, c⟩ := ih () p T n tk r h s R; exact ⟨s', a, b, fun Q E x => by rw [Sem.wp_point]; exact c Q E x⟩
  | fresh k ih =>
    intro p T n tk r h s R
    change force (tk + 1) (fun tk' => evT pr w C Γ (k tk) p T n tk') = some r at h
    rw [force_eq] at h
    obtain ⟨s', a, b, c⟩ := ih tk p T n (tk + 1) r h { s with toks := s.toks + 1 } ⟨R.size, R.get, by rw [R.toks]⟩
    exact ⟨s', a, ⟨b.gens, b.drawn, b.os⟩, fun Q E x => by rw [Sem.wp_fresh, R.toks]; rw [R.toks] at c; exact c Q E x⟩
  | ask k ih => intro p T n tk r h s R; obtain ⟨s', a, b, c⟩ := ih _ p T n tk r h s R; exact ⟨s', a, b, fun Q E x => by rw [Sem.wp_ask]; exact c Q E x⟩
  | call c hd g l k ih =>
    intro p T n tk r h s R
    change @Option.rec (EvR Result) (fun _ => Option (EvR (Except Value α))) none (fun r => evT pr w C Γ (k r.out) p r.T r.n r.tk) (C (Γ.enter c hd p) p T n tk) = some r at h
    cases hc : C (Γ.enter c hd p) p T n tk with
    | none => rw [hc] at h; cases h
    | some r₁ =>
      rw [hc] at h
      obtain ⟨s₁, h1, h2, h3⟩ := hC _ _ _ _ _ _ hc s R
      obtain ⟨s', x, y, z⟩ := ih r₁.out p r₁.T r₁.n r₁.tk r h s₁ h2
      exact ⟨s', x, h3.trans y, fun Q E q => by rw [Sem.wp_call]; exact ⟨_, s₁, h1, z Q E q⟩⟩
  | handled own k ih => intro p T n tk r h s R; obtain ⟨s', a, b, c⟩ := ih _ p T n tk r h s R; exact ⟨s', a, b, fun Q E x => by rw [Sem.wp_handled]; exact c Q E x⟩
  | stack k ih => intro p T n tk r h s R; obtain ⟨s', a, b, c⟩ := ih _ p T n tk r h s R; exact ⟨s', a, b, fun Q E x => by rw [Sem.wp_stack]; exact c Q E x⟩
  | thread k ih => intro p T n tk r h s R; obtain ⟨s', a, b, c⟩ := ih _ p T n tk r h s R; exact ⟨s', a, b, fun Q E x => by rw [Sem.wp_thread]; exact c Q E x⟩
  | _ => intro p T n tk r h; cases h
end
theorem evC_sound {pr : Program} {w : World} : ∀ fuel, CallerOk (model pr w) (evC pr w fuel)
  | 0 => fun Γ p T n tk r h => by cases h
  | fuel + 1 => fun Γ p T n tk r h s R => by
    have ih := evC_sound (pr := pr) (w := w) fuel
    change @Option.rec (EvR (Except Value PySem.Fin)) (fun _ => Option (EvR Result)) none
      (fun r => @Except.rec Value PySem.Fin (fun _ => Option (EvR Result)) (fun e => some ⟨.error e, r.pos, r.T, r.n, r.tk⟩)
        (fun fin => @PySem.Fin.rec (fun _ => Option (EvR Result)) (fun f => some ⟨.ok f, r.pos, r.T, r.n, r.tk⟩)
          (fun c => @Bool.rec (fun _ => Option (EvR Result)) none (evC pr w fuel (Γ.goto c) r.pos r.T r.n r.tk) c.quiet) fin) r.out)
      (evT pr w (evC pr w fuel) Γ (denote treeTable Γ.code) p T n tk) = some r at h
    cases he : evT pr w (evC pr w fuel) Γ (denote treeTable Γ.code) p T n tk with
    | none => rw [he] at h; cases h
    | some r₁ =>
      rw [he] at h
      obtain ⟨s', a, b, c⟩ := evT_sound ih _ _ _ _ _ _ he s R
      have hden : (model pr w).den Γ.code = denote treeTable Γ.code := by
        show denote table Γ.code = _
        rw [table_eq_tree]
      obtain ⟨out, p₁, T₁, n₁, tk₁⟩ := r₁
      cases out with
      | error e =>
        cases h
        have := (Sem.wp_iff_runs (model pr w) Γ (denote treeTable Γ.code) (fun r s'' => r = .error e ∧ s'' = s') p s).mp (c _ _ ⟨rfl, rfl⟩)
        obtain ⟨r, s'', hr, rfl, rfl⟩ := this
        exact ⟨s'', by unfold Returns; rw [hden]; exact hr, a, b⟩
      | ok fin =>
        cases fin with
        | done f =>
          cases h
          have := (Sem.wp_iff_runs (model pr w) Γ (denote treeTable Γ.code) (fun r s'' => r = .ok f ∧ s'' = s') p s).mp (c _ _ ⟨rfl, rfl⟩)
          obtain ⟨r, s'', hr, rfl, rfl⟩ := this
          exact ⟨s'', by unfold Returns; rw [hden]; exact hr, a, b⟩
        | again c' =>
          dsimp only at h
          cases hq : c'.quiet with
          | false => rw [hq] at h; cases h
          | true =>
            rw [hq] at h
            obtain ⟨s₂, h1, h2, h3⟩ := ih (Γ.goto c') p₁ T₁ n₁ tk₁ r h s' a
            have := (Sem.wp_iff_runs (model pr w) Γ (denote treeTable Γ.code) (fun r' s'' => r' = r.out ∧ s'' = s₂) p s).mp (c _ _ ⟨hq, _, _, h1, rfl, rfl⟩)
            obtain ⟨r', s'', hr, rfl, rfl⟩ := this
            exact ⟨s'', by unfold Returns; rw [hden]; exact hr, h2, b.trans h3⟩
structure EvU (α : Type) where
  code : Code
  hd : Option Value
  k : Result → Sem α
  pos : Pos
  T : BT
  n : Nat
  tk : Nat
noncomputable def evU (pr : Program) (w : World) (C : Caller) (stop : Code → Bool) (Γ : Ctx) {α : Type} (t : Sem α) : Pos → BT → Nat → Nat → Option (EvU α) :=
  @Sem.rec α (fun _ => Pos → BT → Nat → Nat → Option (EvU α))
    (fun _ _ _ _ _ => none)
    (fun _ _ _ _ _ => none)
    (fun _ _ _ _ _ => none)
    (fun _ _ _ _ _ => none)
    (fun _ _ ih p T n tk => ih () p T n tk)
    (fun p' _ ih _ T n tk => ih () p' T n tk)
    (fun a _ _ ih p T n tk => ldT T n a fun o => ih o p T n tk)
    (fun a _ f _ ih p T n tk => ldT T n a fun _ => ih () p (T.set a f) n tk)
    (fun o _ ih p T n tk => @Bool.rec (fun _ => Option (EvU α)) none (force (n + 1) fun n' => ih n p (T.ins n o) n' tk) ((T.ins n o).get n).isSome)
    (fun a _ ih p T n tk => @Bool.rec (fun _ => Option (EvU α)) none (@Option.rec Obj (fun _ => Option (EvU α)) none (fun o => ih (alive o) p T n tk) (T.get a)) (Nat.blt a n))
    (fun _ _ ih p T n tk => ih () p T n tk)
    (fun _ _ _ _ _ _ _ => none)
    (fun _ ih p T n tk => force (tk + 1) fun tk' => ih tk p T n tk')
    (fun _ ih p T n tk => ih ⟨pr, w.params⟩ p T n tk)
    (fun _ _ _ _ _ _ _ _ => none)
    (fun _ _ _ _ _ _ _ _ => none)
    (fun c h _ _ k ih p T n tk => @Bool.rec (fun _ => Option (EvU α)) (@Option.rec (EvR Result) (fun _ => Option (EvU α)) none (fun r => ih r.out p r.T r.n r.tk) (C (Γ.enter c h p) p T n tk)) (some ⟨c, h, k, p, T, n, tk⟩) (stop c))
    (fun own _ ih p T n tk => ih (if own then Γ.own else Γ.handled) p T n tk)
    (fun _ _ _ _ _ _ _ => none)
    (fun _ _ _ _ _ _ _ => none)
    (fun _ _ _ _ _ _ _ _ _ => none)
    (fun _ _ _ _ _ _ _ _ _ => none)
    (fun _ ih p T n tk => ih ((Γ.code, p) :: Γ.below) p T n tk)
    (fun _ _ _ _ _ _ _ => none)
    (fun _ ih p T n tk => ih 0 p T n tk)
    (fun _ _ _ _ _ _ _ _ _ _ => none)
    t
section
variable {pr : Program} {w : World} {C : Caller} {Γ : Ctx} {stop : Code → Bool}
theorem evU_sound (hC : CallerOk (model pr w) C) {α : Type} (t : Sem α) : ∀ p T n tk r, evU pr w C stop Γ t p T n tk = some r → ∀ s, Rep T n tk s →
    ∃ s', Rep r.T r.n r.tk s' ∧ Kept s s' ∧ ∀ (Q : α → Pos → Shared → Prop) (E : Value → Pos → Shared → Prop),
      wpCode (model pr w) (Γ.enter r.code r.hd r.pos) (fun v s'' => Sem.wp (model pr w) Γ (r.k v) Q E r.pos s'') r.pos s' → Sem.wp (model pr w) Γ t Q E p s := by
  induction t with
  | rule tag k ih => intro p T n tk r h s R; obtain ⟨s', a, b, c⟩ := ih () p T n tk r h s R; exact ⟨s', a, b, fun Q E x => by rw [Sem.wp_rule]; exact c Q E x⟩
  | «at» p' k ih => intro p T n tk r h s R; obtain ⟨s', a, b, c⟩ := ih () p' T n tk r h s R; exact ⟨s', a, b, fun Q E x => by rw [Sem.wp_at]; exact c Q E x⟩
  | load a part k ih =>
    intro p T n tk r h s R
    obtain ⟨o, ha, hg, hl, h⟩ := ldT_some (k := fun o => evU pr w C stop Γ (k o) p T n tk) h
    obtain ⟨s', x, y, z⟩ := ih o p T n tk r h s R
    exact ⟨s', x, y, fun Q E q => by rw [Sem.wp_load]; exact ⟨o, (R.get a o ha hg).trans hl, z Q E q⟩⟩
  | update a part f k ih =>
    intro p T n tk r h s R
    obtain ⟨o, ha, hg, hl, h⟩ := ldT_some (k := fun _ => evU pr w C stop Γ (k ()) p (T.set a f) n tk) h
    obtain ⟨s', x, y, z⟩ := ih () p (T.set a f) n tk r h _ (R.update ha hg hl)
    exact ⟨s', x, ⟨y.gens, y.drawn, y.os⟩, fun Q E q => by rw [Sem.wp_update]; exact ⟨by rw [(R.get a o ha hg).trans hl]; rfl, z Q E q⟩⟩
  | alloc o k ih =>
    intro p T n tk r h s R
    change @Bool.rec (fun _ => Option (EvU α)) none (force (n + 1) fun n' => evU pr w C stop Γ (k n) p (T.ins n o) n' tk) ((T.ins n o).get n).isSome = some r at h
    rw [force_eq] at h
    cases hi : ((T.ins n o).get n).isSome with
    | false => rw [hi] at h; cases h
    | true =>
      rw [hi] at h
      obtain ⟨s', x, y, z⟩ := ih n p (T.ins n o) (n + 1) tk r h _ (R.push hi)
      exact ⟨s', x, ⟨y.gens, y.drawn, y.os⟩, fun Q E q => by rw [Sem.wp_alloc, R.size]; exact z Q E q⟩
  | loadIfAlive a k ih =>
    intro p T n tk r h s R
    change @Bool.rec (fun _ => Option (EvU α)) none (@Option.rec Obj (fun _ => Option (EvU α)) none (fun o => evU pr w C stop Γ (k (alive o)) p T n tk) (T.get a)) (Nat.blt a n) = some r at h
    cases hb : Nat.blt a n with
    | false => rw [hb] at h; cases h
    | true =>
      rw [hb] at h
      cases ho : T.get a with
      | none => rw [ho] at h; cases h
      | some o =>
        rw [ho] at h
        obtain ⟨s', x, y, z⟩ := ih (alive o) p T n tk r h s R
        exact ⟨s', x, y, fun Q E q => by rw [Sem.wp_loadIfAlive, R.get a o (Nat.le_of_ble_eq_true hb) ho]; exact z Q E q⟩
  | point l k ih => intro p T n tk r h s R; obtain ⟨s', a, b, c⟩ := ih () p T n tk r h s R; exact ⟨s', a, b, fun Q E x => by rw [Sem.wp_point]; exact c Q E x⟩
  | fresh k ih =>
    intro p T n tk r h s R
    change force (tk + 1) (fun tk' => evU pr w C stop Γ (k tk) p T n tk') = some r at h
    rw [force_eq] at h
    obtain ⟨s', a, b, c⟩ := ih tk p T n (tk + 1) r h { s with toks := s.toks + 1 } ⟨R.size, R.get, by rw [R.toks]⟩
    exact ⟨s', a, ⟨b.gens, b.drawn, b.os⟩, fun Q E x => by rw [Sem.wp_fresh, R.toks]; rw [R.toks] at c; exact c Q E x⟩
  | ask k ih => intro p T n tk r h s R; obtain ⟨s', a, b, c⟩ := ih _ p T n tk r h s R; exact ⟨s', a, b, fun Q E x => by rw [Sem.wp_ask]; exact c Q E x⟩
  | call c hd g l k ih =>
    intro p T n tk r h s R
    change @Bool.rec (fun _ => Option (EvU α)) (@Option.rec (EvR Result) (fun _ => Option (EvU α)) none (fun r => evU pr w C stop Γ (k r.out) p r.T r.n r.tk) (C (Γ.enter c hd p) p T n tk)) (some ⟨c, hd, k, p, T, n, tk⟩) (stop c) = some r at h
    cases hst : stop c with
    | true =>
      rw [hst] at h
      cases h
      exact ⟨s, R, .refl s, fun Q E x => by rw [Sem.wp_call]; exact x⟩
    | false =>
      rw [hst] at h
      cases hc : C (Γ.enter c hd p) p T n tk with
      | none => rw [hc] at h; cases h
      | some r₁ =>
        rw [hc] at h
        obtain ⟨s₁, h1, h2, h3⟩ := hC _ _ _ _ _ _ hc s R
        obtain ⟨s', x, y, z⟩ := ih r₁.out p r₁.T r₁.n r₁.tk r h s₁ h2
        exact ⟨s', x, h3.trans y, fun Q E q => by rw [Sem.wp_call]; exact ⟨_, s₁, h1, z Q E q⟩⟩
  | handled own k ih => intro p T n tk r h s R; obtain ⟨s', a, b, c⟩ := ih _ p T n tk r h s R; exact ⟨s', a, b, fun Q E x => by rw [Sem.wp_handled]; exact c Q E x⟩
  | stack k ih => intro p T n tk r h s R; obtain ⟨s', a, b, c⟩ := ih _ p T n tk r h s R; exact ⟨s', a, b, fun Q E x => by rw [Sem.wp_stack]; exact c Q E x⟩
  | thread k ih => intro p T n tk r h s R; obtain ⟨s', a, b, c⟩ := ih _ p T n tk r h s R; exact ⟨s', a, b, fun Q E x => by rw [Sem.wp_thread]; exact c Q E x⟩
  | _ => intro p T n tk r h; cases h
end
end Mine
end
section
open PySem PySem.W PyProof.Rows PySem.Spec
namespace Mine
noncomputable def litOf : PySem.Expr → Option PySem.Str
  | .Constant (.str x) _ _ => some x
  | _ => none
noncomputable def kept3 (s s' : Shared) : Prop := s'.gens = s.gens ∧ s'.drawn = s.drawn ∧ s'.os = s.os
theorem strKind_str {prog : Program} {w : World} (x : PySem.Str) (t : Tok) : (PySem.strKind prog w).is x (Value.str x t) = true := strKind_is _ _ _ _
section
variable {prog : Program} {w : World} {A : Around} {E : Value → Shared → Prop} {env : Env}
theorem lits_eval (pos : Pos) : ∀ (es : List PySem.Expr) (xs : List PySem.Str), es.map litOf = xs.map some → ∀ (s : Shared) (Q : List Value → Shared → Prop),
    (∀ vs, vs.length = xs.length → (∀ (i : Nat) (x : PySem.Str), xs[i]? = some x → ∃ t, vs[i]? = some (Value.str x t)) → Q vs { s with toks := s.toks + xs.length }) →
    wpAny (model prog w) A (evalAll ((evalEach es env).map fun t => do let v ← t; standAt pos; pure v)) Q E s
  | [], [], _, s, Q, h => by
    refine wpAny_pure ?_
    have := h [] rfl (fun i x hx => by simp at hx)
    simpa using this
  | [], x :: xs, e, _, _, _ => by simp at e
  | e :: es, [], q, _, _, _ => by simp at q
  | e :: es, x :: xs, q, s, Q, h => by
    simp only [List.map_cons, List.cons.injEq] at q
    obtain ⟨q1, q2⟩ := q
    rw [arm_evalEach_cons, List.map_cons]
    show wpAny _ A ((eval e env >>= fun v => standAt pos >>= fun _ => pure v) >>= fun v => holding [v] (evalAll ((evalEach es env).map fun t => do let v ← t; standAt pos; pure v)) >>= fun r => pure (v :: r)) Q E s
    have he : ∃ k p, e = .Constant (.str x) k p := by
      unfold litOf at q1
      split at q1
      · cases q1; exact ⟨_, _, rfl⟩
      · cases q1
    obtain ⟨k, p, rfl⟩ := he
    refine wpAny_bind (wpAny_bind (wpAny_Constant_str (wpAny_bind (wpAny_standAt (wpAny_pure ?_)))))
    refine wpAny_bind (wpAny_holding (lits_eval pos es xs q2 _ _ fun vs hl hv => wpAny_pure ?_))
    have := h (.str x s.toks :: vs) (by simp [hl]) (fun i y hy => by
      cases i with
      | zero => simp at hy; subst hy; exact ⟨_, rfl⟩
      | succ i => simp at hy ⊢; exact hv i y hy)
    have e2 : s.toks + 1 + xs.length = s.toks + (x :: xs).length := by simp; lia
    show Q _ { s with toks := s.toks + 1 + xs.length }
    rw [e2]; exact this
theorem lits_fill {D : Addr} {Q : Value → Shared → Prop} : ∀ (vs : List Value) (xs : List PySem.Str) (S : PySem.Str → Bool) (n : Nat) (s : Shared), vs.length = xs.length →
    (∀ (i : Nat) (x : PySem.Str), xs[i]? = some x → ∃ t, vs[i]? = some (Value.str x t)) → s.heap.SetOf (PySem.strKind prog w) D S n → n + xs.length < scanBound →
    (∀ s', Heap.SameBut D s.heap s'.heap → (∃ n', s'.heap.SetOf (PySem.strKind prog w) D (fun k => S k || xs.contains k) n') → s'.toks = s.toks + xs.length → kept3 s s' → Q (.ref D) s') →
    KdsFill (model prog w) A E true D Q vs s
  | [], [], S, n, s, _, _, hS, hb, h => by
    refine kds_fill_unled rfl ?_
    obtain ⟨o, es, ep, t, ho, hex, hd, hel, hmem, hsb, hf, hn⟩ := hS
    have hf' : ({ t with led := false } : SetTable).fits es.size = true := by cases t; exact hf
    unfold setUnled
    refine wpAny_bind (wpAny_setState_of ho hd hf ?_)
    dsimp only
    refine wpAny_storeSet_of ho hd ?_ (fits_of_scanBound hsb)
    obtain ⟨_, hS⟩ := SetOf_store (knd := PySem.strKind prog w) ho hex hd hel hmem hsb hf'
    refine h _ (Heap.SameBut.update _ _ _) ⟨es.size, ?_⟩ rfl ⟨rfl, rfl, rfl⟩
    simpa using hS
  | [], x :: xs, _, _, _, e, _, _, _, _ => by simp at e
  | v :: vs, [], _, _, _, e, _, _, _, _ => by simp at e
  | v :: vs, x :: xs, S, n, s, hl, hv, hS, hb, h => by
    refine kds_fill_cons ?_
    obtain ⟨t, ht⟩ := hv 0 x rfl
    simp at ht
    subst ht
    have hkey := strKind_str (prog := prog) (w := w) x t
    simp only [List.length_cons] at hb
    unfold setAdd
    refine wpAny_holding (wpAny_bind ((PySem.strKind prog w).pyHash hkey ?_))
    refine wpAny_setAddHashed_of (s := { s with toks := s.toks + 1 }) hkey rfl hS (by lia) fun h' hsb hS' => ?_
    refine lits_fill vs xs _ _ _ (by simpa using hl) (fun i y hy => ?_) hS' (by split <;> lia) fun s' hs' hS2 ht hk => ?_
    · have := hv (i + 1) y (by simpa using hy); simpa using this
    · refine h s' (hsb.trans hs') ?_ (by rw [ht]; simp only [List.length_cons]; lia) hk
      obtain ⟨n', hS2⟩ := hS2
      refine ⟨n', ?_⟩
      have : (fun k => S k || (x :: xs).contains k) = fun k => (S k || decide (k = x)) || xs.contains k := by
        funext k
        simp only [List.contains_cons, Bool.or_assoc]
        rfl
      rw [this]; exact hS2
theorem lits_star : ∀ (es : List PySem.Expr) (xs : List PySem.Str), es.map litOf = xs.map some → es.all kdsPlain = true
  | [], _, _ => rfl
  | e :: es, [], q => by simp at q
  | e :: es, x :: xs, q => by
    simp only [List.map_cons, List.cons.injEq] at q
    obtain ⟨q1, q2⟩ := q
    rw [List.all_cons, lits_star es xs q2, Bool.and_true]
    unfold litOf at q1
    split at q1
    · rfl
    · cases q1
noncomputable def dispEl (sp : Pos) (x : Bool × Sem Value) : Bool × Sem Value := (x.1, x.2 >>= fun v => standAt sp >>= fun _ => pure v)
theorem eval_Set (elts : List PySem.Expr) (k : Nat) (sp : Pos) (env : Env) :
    eval (.Set elts k sp) env = standAt sp >>= fun _ => inMainModule env >>= fun b => setDisplay (displayRoad k elts) b ((starEach elts env).map (dispEl sp)) := by
  rw [arm_eval_Set]
  have : (fun x : Bool × Sem Value => match x with | (star, t) => (star, do let v ← t; standAt sp; pure v)) = dispEl sp := by
    funext x
    obtain ⟨a, b⟩ := x
    rfl
  rw [this]
theorem set_display {b : Bool} {elts : List PySem.Expr} {xs : List PySem.Str} {pos : Pos} {Q : Value → Shared → Prop} {s : Shared} (hl : elts.map litOf = xs.map some) (hn : xs.length ≤ 30)
    (h : ∀ s' o, s'.heap.objs.size = s.heap.objs.size + 1 → (∀ a, a < s.heap.objs.size → s'.heap.get? a = s.heap.get? a) → s'.heap.get? s.heap.objs.size = some o →
      (∃ n, n < scanBound ∧ o.SetObjOf (PySem.strKind prog w) (fun k => xs.contains k) n) → s'.toks = s.toks + 2 * xs.length → kept3 s s' → Q (.ref s.heap.objs.size) s') :
    wpAny (model prog w) A (setDisplay .unsure b ((starEach elts env).map (dispEl pos))) Q E s := by
  have hlen : elts.length = xs.length := by have := congrArg List.length hl; simpa using this
  rw [kds_star elts (lits_star elts xs hl), List.map_map]
  refine kds_core (ts := (evalEach elts env).map fun t => do let v ← t; standAt pos; pure v) rfl ?_ ?_ ?_ fun led => ?_
  · refine List.findIdx?_eq_none_iff.mpr fun x hx => ?_
    obtain ⟨t, _, rfl⟩ := List.mem_map.mp hx
    rfl
  · rw [List.length_map, kds_len]; lia
  · rw [List.map_map]; rfl
  · refine lits_eval pos elts xs hl _ _ fun vs hv1 hv2 => ?_
    have hS : (s.heap.push { cls := .type "set", dict := none, data := .set #[] 0 (.fresh 0 0 led) }).SetOf (PySem.strKind prog w) s.heap.objs.size (fun _ => false) 0 :=
      ⟨_, #[], 0, _, Heap.get?_push_size _ rfl, ⟨rfl, rfl, rfl⟩, rfl, fun e he => by simp at he, fun k => by simp, by decide, by rfl, rfl⟩
    refine lits_fill vs xs (fun _ => false) 0 _ hv1 hv2 hS (by have : scanBound = 4096 := rfl; lia) fun s' hsb hS' ht hk => ?_
    obtain ⟨n', hS'⟩ := hS'
    have hb' : n' < scanBound := by obtain ⟨_, es, _, _, _, _, _, _, _, h1, h2, _⟩ := hS'; lia
    obtain ⟨o, ho, hso⟩ := hS'.objOf
    refine h s' o ?_ (fun a ha => ?_) ho ⟨n', hb', ?_⟩ ?_ hk
    · rw [hsb.1]; show (s.heap.objs.push _).size = _; rw [Array.size_push]
    · exact (hsb.2 a (Nat.ne_of_lt ha)).trans (Heap.get?_push_ne _ _ _ (Nat.ne_of_lt ha))
    · simpa using hso
    · rw [ht]; show s.toks + xs.length + xs.length = _; lia
end
end Mine
end
section
open PySem PySem.W PyProof.Rows PySem.Spec
namespace Mine
noncomputable abbrev P0 : Program := P9
noncomputable def tops : List Stmt := P0.main.body
noncomputable def preS : List Stmt := tops.take 6
noncomputable def hS : Stmt := tops.getD 6 (.Pass default)
noncomputable def postS : List Stmt := tops.drop 7
theorem tops_behind : behindTheImports P0 = tops := by kernel_rfl
theorem tops_split : tops = preS ++ hS :: postS := by kernel_rfl
noncomputable def T0 (P : Params) : BT := ((((((((((BT.nil.ins 0 (boot_o_0 P)).ins 1 (boot_o_1 P)).ins 2 (boot_o_2 P)).ins 3 (boot_o_3 P)).ins 4 (boot_o_4 P)).ins 5 (boot_o_5 P)).ins 6 (boot_o_6 P)).ins 7 (boot_o_7 P)).ins 8 (boot_o_8 P)).ins 9 (boot_o_9 P)).ins 10 (boot_o_10 P)
noncomputable def env1 (code : Value) (frame : Addr) : Env := { scope := P0.main.scope, locals := mainNs, globals := mainNs, cells := [], code, frame := some frame }
noncomputable def Γ0 : PySem.Ctx := PySem.Ctx.of (.builtin "claim.caller" {}) []
noncomputable def isBody : Code → Bool
  | .body .. => true
  | _ => false
noncomputable def okB {α β : Type} (o : Option (EvR (Except Value α))) (f : α → Pos → BT → Nat → Nat → Option β) : Option β :=
  o.bind fun r => match r.out with
    | .ok a => f a r.pos r.T r.n r.tk
    | .error _ => none
theorem okB_some {α β : Type} {o : Option (EvR (Except Value α))} {f : α → Pos → BT → Nat → Nat → Option β} {x : β} (h : okB o f = some x) : ∃ r a, o = some r ∧ r.out = .ok a ∧ f a r.pos r.T r.n r.tk = some x := by
  unfold okB at h
  obtain ⟨r, hr, h⟩ := Option.bind_eq_some_iff.mp h
  obtain ⟨out, p, T, n, tk⟩ := r
  cases out with
  | error e => cases h
  | ok a => exact ⟨_, a, hr, rfl, h⟩
noncomputable def nextB {β : Type} (fl : Flow) (x : Option β) : Option β := match fl with
  | .next => x
  | _ => none
theorem nextB_some {β : Type} {fl : Flow} {x : Option β} {y : β} (h : nextB fl x = some y) : fl = .next ∧ x = some y := by
  cases fl <;> first | exact ⟨rfl, h⟩ | cases h
section
variable {pr : Program} {w : World} {C : Caller} {Γ : PySem.Ctx}
theorem evT_ok (hC : CallerOk (model pr w) C) {α : Type} {t : Sem α} {p : Pos} {T : BT} {n tk : Nat} {r : EvR (Except Value α)} {a : α} (h : evT pr w C Γ t p T n tk = some r) (ha : r.out = .ok a) {s : Shared} (R : Rep T n tk s) :
    ∃ s', Rep r.T r.n r.tk s' ∧ Kept s s' ∧ ∀ (Q : α → Pos → Shared → Prop) (E : Value → Pos → Shared → Prop), Q a r.pos s' → Sem.wp (model pr w) Γ t Q E p s := by
  obtain ⟨s', x, y, z⟩ := evT_sound hC t p T n tk r h s R
  refine ⟨s', x, y, fun Q E q => z Q E ?_⟩
  rw [ha]; exact q
theorem wp_execs_cons {st : Stmt} {rest : List Stmt} {env : Env} {Q : Flow → Pos → Shared → Prop} {E : Value → Pos → Shared → Prop} {p : Pos} {s : Shared}
    (h : Sem.wp (model pr w) Γ (exec st env) (fun f p' s' => f = .next ∧ Sem.wp (model pr w) Γ (execs rest env) Q E p' s') E p s) : Sem.wp (model pr w) Γ (execs (st :: rest) env) Q E p s := by
  show Sem.wp (model pr w) Γ (exec st env >>= fun f => match f with
    | .next => execs rest env
    | f => pure f) Q E p s
  rw [Sem.wp_bind']
  refine Sem.wp_mono _ _ _ (fun f p' s' q => ?_) (fun _ _ _ q => q) p s h
  obtain ⟨rfl, q⟩ := q
  exact q
theorem wp_execs_app {env : Env} {Q : Flow → Pos → Shared → Prop} {E : Value → Pos → Shared → Prop} {rest : List Stmt} : ∀ (l : List Stmt) (p : Pos) (s : Shared),
    Sem.wp (model pr w) Γ (execs l env) (fun f p' s' => f = .next ∧ Sem.wp (model pr w) Γ (execs rest env) Q E p' s') E p s → Sem.wp (model pr w) Γ (execs (l ++ rest) env) Q E p s
  | [], p, s, h => by
    have h' : Sem.wp (model pr w) Γ (pure Flow.next : Sem Flow) (fun f p' s' => f = .next ∧ Sem.wp (model pr w) Γ (execs rest env) Q E p' s') E p s := h
    rw [Sem.wp_pure'] at h'
    exact h'.2
  | st :: l, p, s, h => by
    have h' : Sem.wp (model pr w) Γ (exec st env >>= fun f => match f with
      | .next => execs l env
      | f => pure f) (fun f p' s' => f = .next ∧ Sem.wp (model pr w) Γ (execs rest env) Q E p' s') E p s := h
    rw [Sem.wp_bind'] at h'
    refine wp_execs_cons (Sem.wp_mono _ _ _ (fun f p' s' q => ?_) (fun _ _ _ q => q) p s h')
    cases f with
    | next => exact ⟨rfl, wp_execs_app l p' s' q⟩
    | _ =>
      simp only [Sem.wp_pure'] at q
      exact absurd q.1 (by intro e; cases e)
theorem wpCode_body {b : List Stmt} {e : Env} {R : Result → Shared → Prop} {p : Pos} {s : Shared} (hc : Γ.code = .body b e)
    (h : Sem.wp (model pr w) Γ (blockStart b e) (fun _ p' s' => Sem.wp (model pr w) Γ (execs b e) (fun f _ s'' => R (.ok f) s'') (fun _ _ _ => False) p' s') (fun _ _ _ => False) p s) :
    wpCode (model pr w) Γ R p s := by
  rw [wpCode_iff_wp, hc]
  have hd : (model pr w).den (.body b e) = (blockStart b e >>= fun _ => ((execs b e).onRaise (leaving e)) >>= fun f => (pure (Fin.done f) : Sem PySem.Fin)) := by
    show denote table (.body b e) = _
    rfl
  rw [hd, Sem.wp_bind']
  refine Sem.wp_mono _ _ _ (fun _ p' s' q => ?_) (fun _ _ _ q => q.elim) p s h
  rw [Sem.wp_bind', Sem.wp_onRaise]
  refine Sem.wp_mono _ _ _ (fun f p'' s'' q => ?_) (fun _ _ _ q => q.elim) _ _ q
  rw [Sem.wp_pure']
  exact q
theorem wp_topStub {p : Program} {Q : PySem.Fin → Pos → Shared → Prop} {E : Value → Pos → Shared → Prop} {q : Pos} {s : Shared}
    (h : Sem.wp (model pr w) Γ (moduleCode p.main) (fun code p1 s1 => Sem.wp (model pr w) Γ (newBodyFrame code mainNs mainNs) (fun frame p2 s2 =>
      wpCode (model pr w) (Γ.enter (.body (behindTheImports p) { scope := p.main.scope, locals := mainNs, globals := mainNs, cells := [], code, frame := some frame }) none p2)
        (fun r s' => ∃ f, r = .ok f ∧ Q (.done (.ret .none)) p2 s') p2 s2) E p1 s1) E q s) : Sem.wp (model pr w) Γ (topStub p).cur Q E q s := by
  show Sem.wp (model pr w) Γ (moduleCode p.main >>= fun code => newBodyFrame code mainNs mainNs >>= fun frame =>
    run (.body (behindTheImports p) { scope := p.main.scope, locals := mainNs, globals := mainNs, cells := [], code, frame := some frame }) >>= fun _ => (ret .none : Sem PySem.Fin)) Q E q s
  rw [Sem.wp_bind']
  refine Sem.wp_mono _ _ _ (fun code p1 s1 h1 => ?_) (fun _ _ _ x => x) q s h
  rw [Sem.wp_bind']
  refine Sem.wp_mono _ _ _ (fun frame p2 s2 h2 => ?_) (fun _ _ _ x => x) p1 s1 h1
  rw [Sem.wp_bind', Sem.wp_run]
  refine wpCode_mono (fun r s' h3 => ?_) h2
  obtain ⟨f, rfl, h3⟩ := h3
  show Sem.wp (model pr w) Γ (ret .none : Sem PySem.Fin) Q E p2 s'
  show Sem.wp (model pr w) Γ (pure (Fin.done (.ret .none)) : Sem PySem.Fin) Q E p2 s'
  rw [Sem.wp_pure']
  exact h3
theorem wp_of_any {α : Type} {t : Sem α} {Q : α → Shared → Prop} {E : Value → Shared → Prop} {s : Shared} {p : Pos}
    (h : ∀ A, wpAny (model pr w) A t Q E s) : Sem.wp (model pr w) Γ t (fun a _ s' => Q a s') (fun e _ s' => E e s') p s :=
  h { handled := Γ.handled, depth := frameCount Γ.below + Γ.code.weight, frames := none, guards := none, units := Γ.units } Γ p
    ⟨rfl, Nat.le_refl _, fun _ h => (nomatch h), fun _ h => (nomatch h), Nat.le_refl _⟩
end
end Mine
end
section
open PySem PySem.W PyProof.Rows PySem.Spec
namespace Mine
noncomputable abbrev CC (w : World) : Caller := evC P0 w 400
noncomputable def Γ1 (code : Value) (frame : Addr) (p2 : Pos) : PySem.Ctx := Γ0.enter (.body tops (env1 code frame)) none p2
structure PreR where
  code : Value
  frame : Addr
  p2 : Pos
  u : EvU Flow
  t : PySem.Expr
  elts : List PySem.Expr
  k : Nat
  sp : Pos
  ap : Pos
  rest : List Stmt
  cenv : Env
  im : Bool
  pos : Pos
  T : BT
  n : Nat
  tk : Nat
noncomputable def PreR.Γ1 (X : PreR) : PySem.Ctx := Mine.Γ1 X.code X.frame X.p2
noncomputable def PreR.Γ2 (X : PreR) : PySem.Ctx := X.Γ1.enter X.u.code X.u.hd X.u.pos
noncomputable def PreR.env (X : PreR) : Env := env1 X.code X.frame
noncomputable def PreR.set (X : PreR) : PySem.Expr := .Set X.elts X.k X.sp
noncomputable def PreR.gv (X : PreR) : Stmt := .Assign [X.t] X.set X.ap
noncomputable def preH (w : World) (code : Value) (frame : Addr) (p2 : Pos) (u : EvU Flow) : Option PreR :=
  match u.code with
  | .body (.Assign [t] (.Set elts k sp) ap :: rest) cenv =>
    okB (evT P0 w (CC w) ((Γ1 code frame p2).enter u.code u.hd u.pos) (blockStart (.Assign [t] (.Set elts k sp) ap :: rest) cenv) u.pos u.T u.n u.tk) fun _ p5 T5 n5 k5 =>
    okB (evT P0 w (CC w) ((Γ1 code frame p2).enter u.code u.hd u.pos) (standAt ap >>= fun _ => swapsWithSole [t] (.Set elts k sp) ap.line cenv) p5 T5 n5 k5) fun sw p6 T6 n6 k6 =>
    match sw with
    | true => none
    | false =>
      okB (evT P0 w (CC w) ((Γ1 code frame p2).enter u.code u.hd u.pos) (standAt sp >>= fun _ => inMainModule cenv) p6 T6 n6 k6) fun im p7 T7 n7 k7 =>
      some ⟨code, frame, p2, u, t, elts, k, sp, ap, rest, cenv, im, p7, T7, n7, k7⟩
  | _ => none
noncomputable def pre (w : World) : Option PreR :=
  okB (evT P0 w (CC w) Γ0 (moduleCode P0.main) default (T0 w.params) 11 boot_toks) fun code p1 T1 n1 k1 =>
  okB (evT P0 w (CC w) Γ0 (newBodyFrame code mainNs mainNs) p1 T1 n1 k1) fun frame p2 T2 n2 k2 =>
  okB (evT P0 w (CC w) (Γ1 code frame p2) (blockStart tops (env1 code frame)) p2 T2 n2 k2) fun _ p3 T3 n3 k3 =>
  okB (evT P0 w (CC w) (Γ1 code frame p2) (execs preS (env1 code frame)) p3 T3 n3 k3) fun fl p4 T4 n4 k4 =>
  nextB fl ((evU P0 w (CC w) isBody (Γ1 code frame p2) (exec hS (env1 code frame)) p4 T4 n4 k4).bind fun u => preH w code frame p2 u)
structure FinT where
  T : BT
  n : Nat
  tk : Nat
structure Mid where
  p : Pos
  T : BT
  n : Nat
  tk : Nat
noncomputable def postA (w : World) (o : Obj) (p : Pos) (X : PreR) : Option Mid :=
  okB (evT P0 w (CC w) X.Γ2 (swappedStores [X.t] X.set X.cenv >>= fun sw => assignStores X.cenv (.ref X.n) sw ((assignEach [X.t] X.cenv).map (·.2))) p (X.T.ins X.n o) (X.n + 1) (X.tk + 2 * X.elts.length)) fun fl p1 T1 n1 k1 =>
  nextB fl <| some ⟨p1, T1, n1, k1⟩
noncomputable def postB (w : World) (X : PreR) (l : List Stmt) (m : Mid) : Option Mid :=
  okB (evT P0 w (CC w) X.Γ2 (execs l X.cenv) m.p m.T m.n m.tk) fun fl p1 T1 n1 k1 => nextB fl <| some ⟨p1, T1, n1, k1⟩
noncomputable def postE (w : World) (X : PreR) (m : Mid) : Option FinT :=
  okB (evT P0 w (CC w) X.Γ1 (X.u.k (.ok .next)) X.u.pos m.T m.n m.tk) fun fl p3 T3 n3 k3 =>
  nextB fl <| okB (evT P0 w (CC w) X.Γ1 (execs postS X.env) p3 T3 n3 k3) fun fl _ T4 n4 k4 =>
  nextB fl <| some ⟨T4, n4, k4⟩
noncomputable def PreR.r1 (X : PreR) : List Stmt := X.rest.take 20
noncomputable def PreR.r2 (X : PreR) : List Stmt := (X.rest.drop 20).take 4
noncomputable def PreR.r3 (X : PreR) : List Stmt := ((X.rest.drop 20).drop 4).take 8
noncomputable def PreR.r4 (X : PreR) : List Stmt := ((X.rest.drop 20).drop 4).drop 8
theorem PreR.rest_eq (X : PreR) : X.rest = X.r1 ++ (X.r2 ++ (X.r3 ++ X.r4)) := by
  unfold PreR.r1 PreR.r2 PreR.r3 PreR.r4
  rw [List.take_append_drop, List.take_append_drop, List.take_append_drop]
noncomputable def post (w : World) (o : Obj) (p : Pos) (X : PreR) : Option FinT :=
  (postA w o p X).bind fun m => (postB w X X.r1 m).bind fun m => (postB w X X.r2 m).bind fun m => (postB w X X.r3 m).bind fun m => (postB w X X.r4 m).bind fun m => postE w X m
theorem postB_some {w : World} {X : PreR} {l : List Stmt} {m m' : Mid} (h : postB w X l m = some m') {s : Shared} (R : Rep m.T m.n m.tk s) :
    ∃ s', Rep m'.T m'.n m'.tk s' ∧ Kept s s' ∧ ∀ (Q : Flow → Pos → Shared → Prop) (E : Value → Pos → Shared → Prop), Q .next m'.p s' → Sem.wp (model P0 w) X.Γ2 (execs l X.cenv) Q E m.p s := by
  unfold postB at h
  obtain ⟨r, fl, h1, a1, g1⟩ := okB_some h
  obtain ⟨e1, g2⟩ := nextB_some g1
  subst e1
  cases g2
  exact evT_ok (evC_sound 400) h1 a1 R
theorem preH_ok {w : World} {code : Value} {frame : Addr} {p2 : Pos} {u : EvU Flow} {X : PreR} (h : preH w code frame p2 u = some X) {s : Shared} (R : Rep u.T u.n u.tk s) :
    X.code = code ∧ X.frame = frame ∧ X.p2 = p2 ∧ X.u = u ∧ ∃ s', Rep X.T X.n X.tk s' ∧ Kept s s' ∧
      ∀ (R' : Result → Shared → Prop), Sem.wp (model P0 w) X.Γ2 (setDisplay (displayRoad X.k X.elts) X.im ((starEach X.elts X.cenv).map (dispEl X.sp)))
        (fun v p' s' => Sem.wp (model P0 w) X.Γ2 (swappedStores [X.t] X.set X.cenv >>= fun sw => assignStores X.cenv v sw ((assignEach [X.t] X.cenv).map (·.2))) (fun fl p' s' => fl = .next ∧
          Sem.wp (model P0 w) X.Γ2 (execs X.rest X.cenv) (fun fl _ s' => R' (.ok fl) s') (fun _ _ _ => False) p' s') (fun _ _ _ => False) p' s') (fun _ _ _ => False) X.pos s' →
        wpCode (model P0 w) X.Γ2 R' u.pos s := by
  unfold preH at h
  split at h
  · rename_i t elts k sp ap rest cenv hcode
    obtain ⟨r5, _, h5, a5, h⟩ := okB_some h
    obtain ⟨r6, sw, h6, a6, h⟩ := okB_some h
    cases sw with
    | true => cases h
    | false =>
      obtain ⟨r7, im, h7, a7, h⟩ := okB_some h
      cases h
      obtain ⟨s5, R5, K5, w5⟩ := evT_ok (evC_sound 400) h5 a5 R
      obtain ⟨s6, R6, K6, w6⟩ := evT_ok (evC_sound 400) h6 a6 R5
      obtain ⟨s7, R7, K7, w7⟩ := evT_ok (evC_sound 400) h7 a7 R6
      refine ⟨rfl, rfl, rfl, rfl, s7, R7, K5.trans (K6.trans K7), fun R' hh => ?_⟩
      dsimp only [PreR.Γ2, PreR.Γ1, PreR.set] at hh ⊢
      refine wpCode_body (b := .Assign [t] (.Set elts k sp) ap :: rest) (e := cenv) hcode ?_
      refine w5 _ _ ?_
      refine wp_execs_cons ?_
      rw [arm_exec_Assign]
      have w7' := w7 (fun b p' s' => Sem.wp (model P0 w) ((Γ1 code frame p2).enter u.code u.hd u.pos) (setDisplay (displayRoad k elts) b ((starEach elts cenv).map (dispEl sp)))
        (fun v p' s' => Sem.wp (model P0 w) ((Γ1 code frame p2).enter u.code u.hd u.pos) (swappedStores [t] (.Set elts k sp) cenv >>= fun sw => assignStores cenv v sw ((assignEach [t] cenv).map (·.2))) (fun fl p' s' => fl = .next ∧
          Sem.wp (model P0 w) ((Γ1 code frame p2).enter u.code u.hd u.pos) (execs rest cenv) (fun fl _ s' => R' (.ok fl) s') (fun _ _ _ => False) p' s') (fun _ _ _ => False) p' s') (fun _ _ _ => False) p' s') (fun _ _ _ => False) hh
      rw [Sem.wp_bind'] at w7'
      have w6' := w6 (fun b p' s' => b = false ∧ Sem.wp (model P0 w) ((Γ1 code frame p2).enter u.code u.hd u.pos) (eval (.Set elts k sp) cenv >>= fun v => swappedStores [t] (.Set elts k sp) cenv >>= fun sw => assignStores cenv v sw ((assignEach [t] cenv).map (·.2)))
        (fun fl p' s' => fl = .next ∧ Sem.wp (model P0 w) ((Γ1 code frame p2).enter u.code u.hd u.pos) (execs rest cenv) (fun fl _ s' => R' (.ok fl) s') (fun _ _ _ => False) p' s') (fun _ _ _ => False) p' s') (fun _ _ _ => False) ⟨rfl, by
          rw [Sem.wp_bind', eval_Set, Sem.wp_bind']
          refine Sem.wp_mono _ _ _ (fun _ p' s' q => ?_) (fun _ _ _ q => q) _ _ w7'
          rw [Sem.wp_bind']
          exact q⟩
      rw [Sem.wp_bind'] at w6'
      rw [Sem.wp_bind']
      refine Sem.wp_mono _ _ _ (fun _ p' s' q => ?_) (fun _ _ _ q => q) _ _ w6'
      rw [Sem.wp_bind']
      refine Sem.wp_mono _ _ _ (fun b p' s' q => ?_) (fun _ _ _ q => q) _ _ q
      obtain ⟨rfl, q⟩ := q
      exact q
  · cases h
theorem pre_ok {w : World} {X : PreR} (h : pre w = some X) {s₀ : Shared} (R : Rep (T0 w.params) 11 boot_toks s₀) :
    ∃ s, Rep X.T X.n X.tk s ∧ Kept s₀ s ∧ ∀ F : Shared → Prop,
      Sem.wp (model P0 w) X.Γ2 (setDisplay (displayRoad X.k X.elts) X.im ((starEach X.elts X.cenv).map (dispEl X.sp)))
        (fun v p' s' => Sem.wp (model P0 w) X.Γ2 (swappedStores [X.t] X.set X.cenv >>= fun sw => assignStores X.cenv v sw ((assignEach [X.t] X.cenv).map (·.2))) (fun fl p' s' => fl = .next ∧
          Sem.wp (model P0 w) X.Γ2 (execs X.rest X.cenv) (fun fl _ s' => fl = .next ∧
            Sem.wp (model P0 w) X.Γ1 (X.u.k (.ok .next)) (fun fl p' s' => fl = .next ∧
              Sem.wp (model P0 w) X.Γ1 (execs postS X.env) (fun _ _ s' => F s') (fun _ _ _ => False) p' s') (fun _ _ _ => False) X.u.pos s') (fun _ _ _ => False) p' s') (fun _ _ _ => False) p' s') (fun _ _ _ => False) X.pos s →
      Sem.wp (model P0 w) Γ0 (topStub P0).cur (fun fin _ s' => fin = .done (.ret .none) ∧ F s') (fun _ _ _ => False) default s₀ := by
  unfold pre at h
  obtain ⟨r1, code, h1, a1, g1⟩ := okB_some h
  obtain ⟨r2, frame, h2, a2, g2⟩ := okB_some g1
  obtain ⟨r3, _, h3, a3, g3⟩ := okB_some g2
  obtain ⟨r4, fl, h4, a4, g4⟩ := okB_some g3
  obtain ⟨e0, g5⟩ := nextB_some g4
  obtain ⟨u, h5, g6⟩ := Option.bind_eq_some_iff.mp g5
  clear h g1 g2 g3 g4 g5
  subst e0
  obtain ⟨s1, R1, K1, w1⟩ := evT_ok (evC_sound 400) h1 a1 R
  obtain ⟨s2, R2, K2, w2⟩ := evT_ok (evC_sound 400) h2 a2 R1
  obtain ⟨s3, R3, K3, w3⟩ := evT_ok (evC_sound 400) h3 a3 R2
  obtain ⟨s4, R4, K4, w4⟩ := evT_ok (evC_sound 400) h4 a4 R3
  obtain ⟨s5, R5, K5, w5⟩ := evU_sound (evC_sound 400) _ _ _ _ _ _ h5 s4 R4
  obtain ⟨e1, e2, e3, e4, s6, R6, K6, w6⟩ := preH_ok g6 R5
  refine ⟨s6, R6, K1.trans (K2.trans (K3.trans (K4.trans (K5.trans K6)))), fun F hh => ?_⟩
  refine wp_topStub (w1 _ _ (w2 _ _ ?_))
  rw [tops_behind]
  refine wpCode_body (b := tops) (e := env1 code frame) rfl (w3 _ _ ?_)
  rw [tops_split]
  refine wp_execs_app preS _ _ (w4 _ _ ⟨rfl, ?_⟩)
  refine wp_execs_cons (w5 _ _ ?_)
  have := w6 (fun r s' => r = .ok .next ∧ Sem.wp (model P0 w) X.Γ1 (X.u.k (.ok .next)) (fun fl p' s' => fl = .next ∧
              Sem.wp (model P0 w) X.Γ1 (execs postS X.env) (fun _ _ s' => F s') (fun _ _ _ => False) p' s') (fun _ _ _ => False) X.u.pos s') ?_
  · have g1 : X.Γ1 = Γ1 code frame r2.pos := by unfold PreR.Γ1; rw [e1, e2, e3]
    have g2 : X.Γ2 = (Γ1 code frame r2.pos).enter u.code u.hd u.pos := by unfold PreR.Γ2; rw [g1, e4]
    have g3 : X.env = env1 code frame := by unfold PreR.env; rw [e1, e2]
    rw [g2, g1, g3, e4] at this
    refine wpCode_mono (fun r s' q => ?_) this
    obtain ⟨rfl, q⟩ := q
    refine Sem.wp_mono _ _ _ (fun fl p' s' q => ?_) (fun _ _ _ q => q.elim) _ _ q
    obtain ⟨rfl, q⟩ := q
    refine ⟨rfl, Sem.wp_mono _ _ _ (fun fl p' s' q => ⟨fl, rfl, rfl, q⟩) (fun _ _ _ q => q.elim) _ _ q⟩
  · refine Sem.wp_mono _ _ _ (fun v p' s' q => ?_) (fun _ _ _ q => q) _ _ hh
    refine Sem.wp_mono _ _ _ (fun fl p' s' q => ?_) (fun _ _ _ q => q) _ _ q
    obtain ⟨rfl, q⟩ := q
    refine ⟨rfl, Sem.wp_mono _ _ _ (fun fl p' s' q => ?_) (fun _ _ _ q => q) _ _ q⟩
    obtain ⟨rfl, q⟩ := q
    exact ⟨rfl, q⟩
noncomputable def setObj (es : Array (Int × Value)) (ep : Nat) (t : SetTable) : Obj := ⟨.type "set", none, .set es ep t, #[]⟩
theorem setObj_of {pr : Program} {w : World} {o : Obj} {S : PySem.Str → Bool} {n : Nat} (h : o.SetObjOf (PySem.strKind pr w) S n) : ∃ es ep t, o = setObj es ep t := by
  obtain ⟨⟨h1, h2, h3⟩, es, ep, t, hd, _⟩ := h
  obtain ⟨c, d, dt, sl⟩ := o
  dsimp only at h1 h2 h3 hd
  subst h1 h2 h3 hd
  exact ⟨es, ep, t, rfl⟩
theorem top_run {w : World} {X : PreR} (h : pre w = some X) {xs : List PySem.Str} (hx : X.elts.map litOf = xs.map some) (hn : xs.length ≤ 30) (hroad : displayRoad X.k X.elts = .unsure)
    (hins : ∀ o, ((X.T.ins X.n o).get X.n).isSome = true) (hp : ∀ es ep t p, ∃ F, post w (setObj es ep t) p X = some F) {s₀ : Shared} (R : Rep (T0 w.params) 11 boot_toks s₀) :
    Sem.wp (model P0 w) Γ0 (topStub P0).cur (fun fin _ s' => fin = .done (.ret .none) ∧ ∃ o p F, (∃ n, n < scanBound ∧ o.SetObjOf (PySem.strKind P0 w) (fun k => xs.contains k) n) ∧ post w o p X = some F ∧ Rep F.T F.n F.tk s' ∧ Kept s₀ s')
      (fun _ _ _ => False) default s₀ := by
  obtain ⟨s, R0, K0, w0⟩ := pre_ok h R
  have hlen : X.elts.length = xs.length := by have := congrArg List.length hx; simpa using this
  -- the display, once, to get at its object
  have hd : Sem.wp (model P0 w) X.Γ2 (setDisplay (displayRoad X.k X.elts) X.im ((starEach X.elts X.cenv).map (dispEl X.sp)))
      (fun v _ s' => ∃ o, v = .ref X.n ∧ (∃ n, n < scanBound ∧ o.SetObjOf (PySem.strKind P0 w) (fun k => xs.contains k) n) ∧ Rep (X.T.ins X.n o) (X.n + 1) (X.tk + 2 * X.elts.length) s' ∧ Kept s s') (fun _ _ _ => False) X.pos s := by
    refine wp_of_any (Γ := X.Γ2) (Q := fun v s' => ∃ o, v = Value.ref X.n ∧ (∃ n, n < scanBound ∧ o.SetObjOf (PySem.strKind P0 w) (fun k => xs.contains k) n) ∧ Rep (X.T.ins X.n o) (X.n + 1) (X.tk + 2 * X.elts.length) s' ∧ Kept s s') (E := fun _ _ => False) fun A => ?_
    rw [hroad]
    refine set_display hx hn fun s' o h1 h2 h3 h4 h5 h6 => ?_
    rw [R0.size] at h1 h2 h3
    refine ⟨o, by rw [R0.size], h4, ⟨h1, fun a ob ha e => ?_, by rw [h5, R0.toks, hlen]⟩, ⟨h6.1, h6.2.1, h6.2.2⟩⟩
    rw [BT.get_ins o X.T X.n (hins o)] at e
    by_cases q : a = X.n
    · subst q
      rw [if_pos rfl] at e
      obtain rfl := Option.some.inj e
      rw [h3]
      obtain ⟨n', hb', hex, es, ep, t, hdt, _⟩ := h4
      obtain ⟨c, d, dt, sl⟩ := o
      dsimp only at hdt
      subst hdt
      rfl
    · rw [if_neg q] at e
      have ha' : a < X.n := by lia
      rw [h2 a ha']; exact R0.get a ob ha' e
  -- its object: the run is a function
  have hall : ∀ o s' p', (∃ es ep t, o = setObj es ep t) → Rep (X.T.ins X.n o) (X.n + 1) (X.tk + 2 * X.elts.length) s' → ∃ F s₁, post w o p' X = some F ∧ Rep F.T F.n F.tk s₁ ∧ Kept s' s₁ ∧
      Sem.wp (model P0 w) X.Γ2 (swappedStores [X.t] X.set X.cenv >>= fun sw => assignStores X.cenv (.ref X.n) sw ((assignEach [X.t] X.cenv).map (·.2))) (fun fl p' s' => fl = .next ∧
          Sem.wp (model P0 w) X.Γ2 (execs X.rest X.cenv) (fun fl _ s' => fl = .next ∧
            Sem.wp (model P0 w) X.Γ1 (X.u.k (.ok .next)) (fun fl p' s' => fl = .next ∧
              Sem.wp (model P0 w) X.Γ1 (execs postS X.env) (fun _ _ s' => s' = s₁) (fun _ _ _ => False) p' s') (fun _ _ _ => False) X.u.pos s') (fun _ _ _ => False) p' s') (fun _ _ _ => False) p' s' := by
    rintro o s' p' ⟨es, ep, t, rfl⟩ R'
    obtain ⟨F, hF⟩ := hp es ep t p'
    have hF' := hF
    unfold post at hF
    obtain ⟨m0, hA, g0⟩ := Option.bind_eq_some_iff.mp hF
    obtain ⟨m1, hB1, g1⟩ := Option.bind_eq_some_iff.mp g0
    obtain ⟨m2, hB2, g2⟩ := Option.bind_eq_some_iff.mp g1
    obtain ⟨m3, hB3, g3⟩ := Option.bind_eq_some_iff.mp g2
    obtain ⟨m4, hB4, g4⟩ := Option.bind_eq_some_iff.mp g3
    clear hF g0 g1 g2 g3
    unfold postA at hA
    obtain ⟨r1, fl1, h1, a1, g1⟩ := okB_some hA
    obtain ⟨e1, g2⟩ := nextB_some g1
    subst e1
    cases g2
    unfold postE at g4
    obtain ⟨r3, fl3, h3, a3, g5⟩ := okB_some g4
    obtain ⟨e3, g6⟩ := nextB_some g5
    obtain ⟨r4, fl4, h4, a4, g7⟩ := okB_some g6
    obtain ⟨e4, g8⟩ := nextB_some g7
    clear g4 g5 g6 g7
    subst e3 e4
    cases g8
    obtain ⟨s1, R1, K1, w1⟩ := evT_ok (evC_sound 400) h1 a1 R'
    obtain ⟨t1, Q1, L1, v1⟩ := postB_some hB1 R1
    obtain ⟨t2, Q2, L2, v2⟩ := postB_some hB2 Q1
    obtain ⟨t3, Q3, L3, v3⟩ := postB_some hB3 Q2
    obtain ⟨s2, R2, K2, v4⟩ := postB_some hB4 Q3
    obtain ⟨s3, R3, K3, w3⟩ := evT_ok (evC_sound 400) h3 a3 R2
    obtain ⟨s4, R4, K4, w4⟩ := evT_ok (evC_sound 400) h4 a4 R3
    refine ⟨_, s4, hF', R4, K1.trans (L1.trans (L2.trans (L3.trans (K2.trans (K3.trans K4))))), w1 _ _ ⟨rfl, ?_⟩⟩
    rw [X.rest_eq]
    exact wp_execs_app _ _ _ (v1 _ _ ⟨rfl, wp_execs_app _ _ _ (v2 _ _ ⟨rfl, wp_execs_app _ _ _ (v3 _ _ ⟨rfl, v4 _ _ ⟨rfl, w3 _ _ ⟨rfl, w4 _ _ rfl⟩⟩⟩)⟩)⟩)
  refine w0 _ (Sem.wp_mono _ _ _ (fun v p' s' q => ?_) (fun _ _ _ q => q) _ _ hd)
  obtain ⟨o, rfl, ho, R', K'⟩ := q
  obtain ⟨n', hb', ho'⟩ := ho
  obtain ⟨F, s₁, hF, RF, KF, wF⟩ := hall o s' p' (setObj_of ho') R'
  refine Sem.wp_mono _ _ _ (fun fl p' s' q => ?_) (fun _ _ _ q => q) _ _ wF
  obtain ⟨rfl, q⟩ := q
  refine ⟨rfl, Sem.wp_mono _ _ _ (fun fl p' s' q => ?_) (fun _ _ _ q => q) _ _ q⟩
  obtain ⟨rfl, q⟩ := q
  refine ⟨rfl, Sem.wp_mono _ _ _ (fun fl p' s' q => ?_) (fun _ _ _ q => q) _ _ q⟩
  obtain ⟨rfl, q⟩ := q
  refine ⟨rfl, Sem.wp_mono _ _ _ (fun fl p' s' q => ?_) (fun _ _ _ q => q) _ _ q⟩
  subst q
  exact ⟨o, _, F, ⟨n', hb', ho'⟩, hF, RF, K0.trans (K'.trans KF)⟩
end Mine
end
section
open PySem PySem.W PyProof.Rows
namespace Mine
noncomputable abbrev St := List (Nat × Obj)
structure Kn where
  T : BT
  ro : St
structure XS where
  m : List Nat
  f : List Nat
  l : Option (List Env)
structure Yv where
  t : Nat → Nat
  K : Nat → Nat → Tok
  V : Nat → Nat → Tok
  S : Nat → Array (Option Value)
structure Sg where
  ts : Nat → Nat
  xs : Nat → Nat
  ys : Nat → Yv
structure QF (β : Type) where
  out : β
  st : St
  as : List (Nat × Nat)
  cs : List (Nat × Nat × Code × St)
noncomputable abbrev Kont (ρ β : Type) := ρ → Pos → List Nat → St → Nat → Nat → Nat → Option (QF β)
noncomputable abbrev Hk := Nat → Yv → Result × (St → St)
noncomputable abbrev QCaller (β : Type) := Nat → PySem.Ctx → Pos → Kont Result β → List Nat → St → Nat → Nat → Nat → Option (QF β)
noncomputable def nth {α : Type} (l : List α) : Nat → Option α := @List.rec α (fun _ => Nat → Option α) (fun _ => none) (fun a _ ih n => @Nat.rec (fun _ => Option α) (some a) (fun m _ => ih m) n) l
noncomputable def setAt (l : St) : Nat → Obj → St := @List.rec (Nat × Obj) (fun _ => Nat → Obj → St) (fun _ _ => []) (fun a r ih n o => @Nat.rec (fun _ => St) ((a.1, o) :: r) (fun m _ => a :: ih m o) n) l
noncomputable def push (l : St) (p : Nat × Obj) : St := @List.rec (Nat × Obj) (fun _ => St) [p] (fun a _ ih => a :: ih) l
noncomputable def noteA {β : Type} (a x : Nat) (r : Option (QF β)) : Option (QF β) := match r with
  | some r => some ⟨r.out, r.st, (a, x) :: r.as, r.cs⟩
  | none => none
noncomputable def noteC {β : Type} (c : Nat × Nat × Code × St) (r : Option (QF β)) : Option (QF β) := match r with
  | some r => some ⟨r.out, r.st, r.as, c :: r.cs⟩
  | none => none
noncomputable def nthR (l ro : St) (m : Nat) : Option (Nat × Obj) := @Option.rec (Nat × Obj) (fun _ => Option (Nat × Obj)) (nth ro (Nat.sub m 500)) (fun q => some q) (nth l m)
noncomputable def word {β : Type} (acts : List Nat) (z : List Nat → Option β) (f : Nat → List Nat → Option β) : Option β :=
  @List.rec Nat (fun _ => Option β) none (fun c r _ => @Nat.rec (fun _ => Option β) (z r) (fun m _ => f m r) c) acts
noncomputable def liveK {β : Type} (o : Obj) (k : Option β) : Option β := @Option.rec Obj (fun _ => Option β) none (fun _ => k) (alive o)
section
variable (pr : Program) (w : World) (TK : Kn) (hk : Hk) (σ : Sg) {β : Type}
noncomputable def evQ (C : QCaller β) (δ : Nat) (Γ : PySem.Ctx) {α : Type} (κ : Kont (Except Value α) β) (t : Sem α) : Pos → List Nat → St → Nat → Nat → Nat → Option (QF β) :=
  @Sem.rec α (fun _ => Pos → List Nat → St → Nat → Nat → Nat → Option (QF β))
    (fun a p acts st i j h => κ (.ok a) p acts st i j h)
    (fun e p acts st i j h => κ (.error e) p acts st i j h)
    (fun _ _ _ _ _ _ _ => none)
    (fun _ _ _ _ _ _ _ => none)
    (fun _ _ ih p acts st i j h => ih () p acts st i j h)
    (fun p' _ ih _ acts st i j h => ih () p' acts st i j h)
    (fun a _ _ ih p acts st i j h => word acts (fun acts => @Option.rec Obj (fun _ => Option (QF β)) none (fun o => liveK o (ih o p acts st i j h)) (TK.T.get a))
      (fun m acts => @Option.rec (Nat × Obj) (fun _ => Option (QF β)) none (fun q => noteA a q.1 (ih q.2 p acts st i j h)) (nthR st TK.ro m)))
    (fun a _ f _ ih p acts st i j h => word acts (fun _ => none)
      (fun m acts => @Option.rec (Nat × Obj) (fun _ => Option (QF β)) none (fun q => liveK (f q.2) (noteA a q.1 (ih () p acts (setAt st m (f q.2)) i j h))) (nth st m)))
    (fun o _ ih p acts st i j h => liveK o (ih (σ.xs j) p acts (push st (σ.xs j, o)) i (j + 1) h))
    (fun a _ ih p acts st i j h => word acts (fun acts => @Option.rec Obj (fun _ => Option (QF β)) none (fun o => liveK o (ih (some o) p acts st i j h)) (TK.T.get a))
      (fun m acts => @Option.rec (Nat × Obj) (fun _ => Option (QF β)) none (fun q => noteA a q.1 (ih (some q.2) p acts st i j h)) (nthR st TK.ro m)))
    (fun _ _ ih p acts st i j h => ih () p acts st i j h)
    (fun _ _ _ _ _ _ _ _ _ => none)
    (fun _ ih p acts st i j h => ih (σ.ts i) p acts st (i + 1) j h)
    (fun _ ih p acts st i j h => ih ⟨pr, w.params⟩ p acts st i j h)
    (fun _ _ _ _ _ _ _ _ _ _ => none)
    (fun _ _ _ _ _ _ _ _ _ _ => none)
    (fun c hdl _ _ _ ih p acts st i j h => word acts (fun acts => @Bool.rec (fun _ => Option (QF β)) (C δ (Γ.enter c hdl p) p (fun r _ => ih r p) acts st i j h) none c.isFrame)
      (fun _ acts => @Option.rec Value (fun _ => Option (QF β)) (noteC (h, δ, c, st) (ih (hk h (σ.ys h)).1 p acts ((hk h (σ.ys h)).2 st) i j (h + 1))) (fun _ => none) (Γ.enter c hdl p).handled))
    (fun own _ ih p acts st i j h => ih (if own then Γ.own else Γ.handled) p acts st i j h)
    (fun _ _ _ _ _ _ _ _ _ => none)
    (fun _ _ _ _ _ _ _ _ _ => none)
    (fun _ _ _ _ _ _ _ _ _ _ _ => none)
    (fun _ _ _ _ _ _ _ _ _ _ _ => none)
    (fun _ ih p acts st i j h => ih ((Γ.code, p) :: Γ.below) p acts st i j h)
    (fun _ _ _ _ _ _ _ _ _ => none)
    (fun _ ih p acts st i j h => ih 0 p acts st i j h)
    (fun _ _ _ _ _ _ _ _ _ _ _ _ => none)
    t
noncomputable def finK (C : QCaller β) (δ : Nat) (Γ : PySem.Ctx) (κ : Kont Result β) : Kont (Except Value PySem.Fin) β := fun out p acts st i j h =>
  @Except.rec Value PySem.Fin (fun _ => Option (QF β)) (fun e => κ (.error e) p acts st i j h)
    (fun fin => @PySem.Fin.rec (fun _ => Option (QF β)) (fun f => κ (.ok f) p acts st i j h) (fun c => @Bool.rec (fun _ => Option (QF β)) none (@Bool.rec (fun _ => Option (QF β)) (C δ (Γ.goto c) p κ acts st i j h) none (c.isFrame || Γ.code.isFrame)) c.quiet) fin) out
noncomputable def evQC (fuel : Nat) : QCaller β :=
  @Nat.rec (fun _ => QCaller β) (fun _ _ _ _ _ _ _ _ _ => none)
    (fun _ ih δ Γ p κ acts st i j h => evQ pr w TK hk σ ih (δ + Γ.code.weight) Γ (finK ih δ Γ κ) (denote treeTable Γ.code) p acts st i j h) fuel
end
structure Rel (s₀ : Shared) (X : XS) (N0 : Nat) (TK : Kn) (st : St) (s : Shared) : Prop where
  K : ∀ a o, TK.T.get a = some o → alive o = some o → s.heap.get? a = some o
  low : ∀ a o, TK.T.get a = some o → a < N0
  S : ∀ p ∈ st, s.heap.get? p.1 = some p.2
  hi : ∀ p ∈ st, N0 ≤ p.1
  nd : (st.map (·.1)).Nodup
  mod : ∀ p ∈ st, p.1 ∈ X.m ∨ s₀.heap.objs.size ≤ p.1
  keep : ∀ b o, s₀.heap.get? b = some o → b ∉ X.m → b ∉ X.f → s.heap.get? b = some o
  size : s₀.heap.objs.size ≤ s.heap.objs.size
  n0 : N0 ≤ s₀.heap.objs.size
  gens : s.gens = s₀.gens
  drawn : s.drawn = s₀.drawn
  os : s.os = s₀.os
  ro : ∀ p ∈ TK.ro, p.1 < N0 ∧ s.heap.get? p.1 = some p.2
  keepF : ∀ b ∈ X.f, ∀ o, s₀.heap.get? b = some o → ∃ sl, s.heap.get? b = some { o with slots := sl }
  sf : ∀ p ∈ st, p.1 ∉ X.f
  fl : ∀ b ∈ X.f, N0 ≤ b ∧ b < s₀.heap.objs.size
  liv : ∀ b o, s₀.heap.get? b = some o → ∃ o', s.heap.get? b = some o'
  fr : ∀ l, X.l = some l → ∀ e ∈ l, (e.scope.kind != .module) = true ∧ ∃ f o, e.frame = some f ∧ N0 ≤ f ∧ s₀.heap.get? f = some o ∧ (f ∈ X.m ∨ f ∈ X.f)
theorem alive_live {o : Obj} {h : Heap} {a : Addr} (e : h.get? a = some o) : alive o = some o := by
  obtain ⟨c, d, dt, sl⟩ := o
  cases dt <;> first | rfl | skip
  exfalso
  unfold Heap.get? at e
  split at e
  · cases e
  · rename_i q
    exact q _ _ _ e
theorem nth_mem {α : Type} : ∀ {l : List α} {n : Nat} {a : α}, nth l n = some a → a ∈ l
  | [], _, _, h => by cases h
  | b :: l, 0, a, h => by cases h; exact .head _
  | b :: l, n + 1, a, h => .tail _ (nth_mem (l := l) (n := n) h)
theorem setAt_map : ∀ (l : St) (n : Nat) (o : Obj), (setAt l n o).map (·.1) = l.map (·.1)
  | [], _, _ => rfl
  | a :: l, 0, o => rfl
  | a :: l, n + 1, o => by show a.1 :: (setAt l n o).map (·.1) = a.1 :: l.map (·.1); rw [setAt_map l n o]
theorem setAt_mem : ∀ {l : St} {n : Nat} {o : Obj} {x : Nat} {o₀ : Obj}, (l.map (·.1)).Nodup → nth l n = some (x, o₀) → ∀ p ∈ setAt l n o, (p.1 = x ∧ p.2 = o) ∨ (p.1 ≠ x ∧ p ∈ l)
  | [], _, _, _, _, _, h, _, _ => by cases h
  | a :: l, 0, o, x, o₀, nd, h, p, hp => by
    cases h
    have hp' : p ∈ (x, o) :: l := hp
    rcases List.mem_cons.mp hp' with rfl | hp'
    · exact .inl ⟨rfl, rfl⟩
    · refine .inr ⟨fun q => ?_, .tail _ hp'⟩
      have := (List.nodup_cons.mp nd).1
      exact this (List.mem_map.mpr ⟨p, hp', q⟩)
  | a :: l, n + 1, o, x, o₀, nd, h, p, hp => by
    have hp' : p ∈ a :: setAt l n o := hp
    have nd' := List.nodup_cons.mp nd
    rcases List.mem_cons.mp hp' with rfl | hp'
    · refine .inr ⟨fun q => ?_, .head _⟩
      have hm := nth_mem (l := l) (n := n) h
      exact nd'.1 (List.mem_map.mpr ⟨_, hm, q.symm⟩)
    · rcases setAt_mem (l := l) (n := n) nd'.2 h p hp' with q | ⟨q1, q2⟩
      · exact .inl q
      · exact .inr ⟨q1, .tail _ q2⟩
theorem push_eq : ∀ (l : St) (p : Nat × Obj), push l p = l ++ [p]
  | [], _ => rfl
  | a :: l, p => by show a :: push l p = a :: (l ++ [p]); rw [push_eq l p]
section
variable {s₀ s : Shared} {X : XS} {N0 : Nat} {TK : Kn} {st : St}
theorem Rel.update (R : Rel s₀ X N0 TK st s) {m x : Nat} {o : Obj} {f : Obj → Obj} (h : nth st m = some (x, o)) (hl : alive (f o) = some (f o)) :
    Rel s₀ X N0 TK (setAt st m (f o)) { s with heap := s.heap.update x f } := by
  have hm := nth_mem h
  have hx := R.S _ hm
  have h0 : s.heap.objs[x]? = some o := objs_of_get? (hx.trans (alive_live hx).symm) (alive_live hx)
  have hself : (s.heap.update x f).get? x = some (f o) := by
    rw [← hl]
    refine get?_alive ?_
    show (s.heap.objs.modify x f)[x]? = _
    rw [Array.getElem?_modify, if_pos rfl, h0]; rfl
  have hne : ∀ b, b ≠ x → (s.heap.update x f).get? b = s.heap.get? b := fun b q => Heap.get?_update_ne _ _ _ _ q
  have hmem := fun p hp => setAt_mem (o := f o) R.nd h p hp
  refine ⟨fun a ob e l => ?_, R.low, fun p hp => ?_, fun p hp => ?_, by rw [setAt_map]; exact R.nd, fun p hp => ?_, fun b ob e hb hf => ?_, ?_, R.n0, R.gens, R.drawn, R.os, fun p hp => ?_, fun b hb ob e => ?_, fun p hp => ?_, R.fl, fun b ob e => ?_, R.fr⟩
  · have : a ≠ x := fun q => by have h1 := R.low a ob e; have h2 := R.hi _ hm; subst q; exact absurd h1 (Nat.not_lt.mpr h2)
    exact (hne a this).trans (R.K a ob e l)
  · rcases hmem p hp with ⟨q1, q2⟩ | ⟨q1, q2⟩
    · show (s.heap.update x f).get? p.1 = _
      rw [q1, q2]; exact hself
    · exact (hne _ q1).trans (R.S p q2)
  · rcases hmem p hp with ⟨q1, _⟩ | ⟨_, q2⟩
    · rw [q1]; exact R.hi _ hm
    · exact R.hi p q2
  · rcases hmem p hp with ⟨q1, _⟩ | ⟨_, q2⟩
    · rw [q1]; exact R.mod _ hm
    · exact R.mod p q2
  · have : b ≠ x := fun q => by
      rcases R.mod _ hm with z | z
      · exact hb (q ▸ z)
      · have := Heap.lt_size e; rw [q] at this; exact absurd this (Nat.not_lt.mpr z)
    exact (hne b this).trans (R.keep b ob e hb hf)
  · show _ ≤ (s.heap.objs.modify x f).size
    rw [Array.size_modify]; exact R.size
  · obtain ⟨q1, q2⟩ := R.ro p hp
    have h2 := R.hi _ hm
    exact ⟨q1, (hne p.1 (fun q => by rw [q] at q1; exact absurd q1 (Nat.not_lt.mpr h2))).trans q2⟩
  · have hbx : b ≠ x := fun q => R.sf _ hm (q ▸ hb)
    obtain ⟨sl, e2⟩ := R.keepF b hb ob e
    exact ⟨sl, (hne b hbx).trans e2⟩
  · rcases hmem p hp with ⟨q1, _⟩ | ⟨_, q2⟩
    · rw [q1]; exact R.sf _ hm
    · exact R.sf p q2
  · obtain ⟨o', e'⟩ := R.liv b ob e
    by_cases hbx : b = x
    · subst hbx; exact ⟨_, hself⟩
    · exact ⟨o', (hne b hbx).trans e'⟩
theorem Rel.push (R : Rel s₀ X N0 TK st s) {o : Obj} (hl : alive o = some o) : Rel s₀ X N0 TK (push st (s.heap.objs.size, o)) { s with heap := s.heap.push o } := by
  have hfr : (s.heap.push o).get? s.heap.objs.size = some o := by
    rw [← hl]
    refine get?_alive ?_
    show (s.heap.objs.push o)[s.heap.objs.size]? = some o
    rw [Array.getElem?_push_size]
  have hold : ∀ b ob, s.heap.get? b = some ob → (s.heap.push o).get? b = some ob := fun b ob e => Heap.get?_push_of_some _ e
  rw [push_eq]
  refine ⟨fun a ob e l => hold _ _ (R.K a ob e l), R.low, fun p hp => ?_, fun p hp => ?_, ?_, fun p hp => ?_, fun b ob e hb hf => hold _ _ (R.keep b ob e hb hf), ?_, R.n0, R.gens, R.drawn, R.os, fun p hp => ⟨(R.ro p hp).1, hold _ _ (R.ro p hp).2⟩, fun b hb ob e => ?_, fun p hp => ?_, R.fl, fun b ob e => ?_, R.fr⟩
  · rcases List.mem_append.mp hp with q | q
    · exact hold _ _ (R.S p q)
    · obtain rfl := List.mem_singleton.mp q; exact hfr
  · rcases List.mem_append.mp hp with q | q
    · exact R.hi p q
    · obtain rfl := List.mem_singleton.mp q; exact Nat.le_trans R.n0 R.size
  · rw [List.map_append, List.map_singleton]
    refine List.nodup_append.mpr ⟨R.nd, by simp, fun a ha b hb => ?_⟩
    obtain rfl := List.mem_singleton.mp hb
    obtain ⟨p, hp, rfl⟩ := List.mem_map.mp ha
    exact Nat.ne_of_lt (Heap.lt_size (R.S p hp))
  · rcases List.mem_append.mp hp with q | q
    · exact R.mod p q
    · obtain rfl := List.mem_singleton.mp q; exact .inr R.size
  · show _ ≤ (s.heap.objs.push o).size
    rw [Array.size_push]; exact Nat.le_succ_of_le R.size
  · obtain ⟨sl, e2⟩ := R.keepF b hb ob e
    exact ⟨sl, hold _ _ e2⟩
  · rcases List.mem_append.mp hp with q | q
    · exact R.sf p q
    · obtain rfl := List.mem_singleton.mp q
      exact fun h => absurd (R.fl _ h).2 (Nat.not_lt.mpr R.size)
  · obtain ⟨o', e'⟩ := R.liv b ob e
    exact ⟨o', hold _ _ e'⟩
theorem nthR_S (R : Rel s₀ X N0 TK st s) {m : Nat} {q : Nat × Obj} (h : nthR st TK.ro m = some q) : s.heap.get? q.1 = some q.2 := by
  unfold nthR at h
  cases hn : nth st m with
  | none => rw [hn] at h; exact (R.ro q (nth_mem h)).2
  | some r => rw [hn] at h; cases h; exact R.S _ (nth_mem hn)
end
structure Agree (σ₀ σ : Sg) (i j h : Nat) : Prop where
  ts : ∀ m, m < i → σ.ts m = σ₀.ts m
  xs : ∀ m, m < j → σ.xs m = σ₀.xs m
  ys : ∀ m, m < h → σ.ys m = σ₀.ys m
theorem Agree.refl (σ : Sg) (i j h : Nat) : Agree σ σ i j h := ⟨fun _ _ => rfl, fun _ _ => rfl, fun _ _ => rfl⟩
noncomputable def Sg.setT (σ : Sg) (i v : Nat) : Sg := { σ with ts := fun m => if m = i then v else σ.ts m }
noncomputable def Sg.setX (σ : Sg) (i v : Nat) : Sg := { σ with xs := fun m => if m = i then v else σ.xs m }
noncomputable def Sg.setY (σ : Sg) (i : Nat) (v : Yv) : Sg := { σ with ys := fun m => if m = i then v else σ.ys m }
theorem Agree.ofT {σ₀ σ : Sg} {i j h v : Nat} (x : Agree (σ₀.setT i v) σ (i + 1) j h) : Agree σ₀ σ i j h ∧ σ.ts i = v :=
  ⟨⟨fun m hm => (x.ts m (by lia)).trans (if_neg (by lia)), x.xs, x.ys⟩, (x.ts i (by lia)).trans (if_pos rfl)⟩
theorem Agree.ofX {σ₀ σ : Sg} {i j h v : Nat} (x : Agree (σ₀.setX j v) σ i (j + 1) h) : Agree σ₀ σ i j h ∧ σ.xs j = v :=
  ⟨⟨x.ts, fun m hm => (x.xs m (by lia)).trans (if_neg (by lia)), x.ys⟩, (x.xs j (by lia)).trans (if_pos rfl)⟩
theorem Agree.ofY {σ₀ σ : Sg} {i j h : Nat} {v : Yv} (x : Agree (σ₀.setY h v) σ i j (h + 1)) : Agree σ₀ σ i j h ∧ σ.ys h = v :=
  ⟨⟨x.ts, x.xs, fun m hm => (x.ys m (by lia)).trans (if_neg (by lia))⟩, (x.ys h (by lia)).trans (if_pos rfl)⟩
section
variable (pr : Program) (w : World) (TK : Kn) (hk : Hk) (s₀ : Shared) (X : XS) (N0 D : Nat) {β : Type} (FP : β → Shared → Prop)
noncomputable def CallSpec (c : Nat × Nat × Code × St) : Prop :=
  ∀ A : Around, A.handled = none → A.depth ≤ D + c.2.1 → (∀ l, X.l = some l → A.frames = some l) → ∀ s, Rel s₀ X N0 TK c.2.2.2 s → codeAny (model pr w) A c.2.2.1 (fun r s' => ∃ y, r = (hk c.1 y).1 ∧ Rel s₀ X N0 TK ((hk c.1 y).2 c.2.2.2) s') s
noncomputable def Good (r : QF β) : Prop := (∀ p ∈ r.as, p.1 = p.2) ∧ (∀ c ∈ r.cs, CallSpec pr w TK hk s₀ X N0 D c) ∧ ∀ s, Rel s₀ X N0 TK r.st s → FP r.out s
noncomputable def KGood {ρ : Type} (κ : Sg → Kont ρ β) (Post : ρ → Pos → Shared → Prop) : Prop :=
  ∀ out p acts st i j h σ₁, (∀ σ, Agree σ₁ σ i j h → ∃ r, κ σ out p acts st i j h = some r ∧ Good pr w TK hk s₀ X N0 D FP r) → ∀ s, Rel s₀ X N0 TK st s → Post out p s
noncomputable def CSound (C : Sg → QCaller β) : Prop :=
  ∀ δ (Γ : PySem.Ctx) p (κ : Sg → Kont Result β) acts st i j h σ₁ (Post : Result → Shared → Prop), frameCount Γ.below ≤ D + δ → (∀ l, X.l = some l → Γ.code.envs ++ envsOf Γ.below = l) →
    (∀ σ, Agree σ₁ σ i j h → ∃ r, C σ δ Γ p (κ σ) acts st i j h = some r ∧ Good pr w TK hk s₀ X N0 D FP r) → KGood pr w TK hk s₀ X N0 D FP κ (fun r _ s => Post r s) → ∀ s, Rel s₀ X N0 TK st s → wpCode (model pr w) Γ Post p s
end
section
variable {pr : Program} {w : World} {TK : Kn} {hk : Hk} {s₀ : Shared} {X : XS} {N0 D : Nat} {β : Type} {FP : β → Shared → Prop}
theorem noteA_some {a x : Nat} {q : Option (QF β)} {r : QF β} (h : noteA a x q = some r) (g : Good pr w TK hk s₀ X N0 D FP r) : a = x ∧ ∃ r', q = some r' ∧ Good pr w TK hk s₀ X N0 D FP r' := by
  unfold noteA at h
  cases q with
  | none => cases h
  | some r' =>
    cases h
    exact ⟨g.1 (a, x) (.head _), r', rfl, fun p hp => g.1 p (.tail _ hp), g.2⟩
theorem noteC_some {c : Nat × Nat × Code × St} {q : Option (QF β)} {r : QF β} (h : noteC c q = some r) (g : Good pr w TK hk s₀ X N0 D FP r) :
    CallSpec pr w TK hk s₀ X N0 D c ∧ ∃ r', q = some r' ∧ Good pr w TK hk s₀ X N0 D FP r' := by
  unfold noteC at h
  cases q with
  | none => cases h
  | some r' =>
    cases h
    exact ⟨g.2.1 c (.head _), r', rfl, g.1, fun c hc => g.2.1 c (.tail _ hc), g.2.2⟩
theorem liveK_some {o : Obj} {k : Option (QF β)} {r : QF β} (h : liveK o k = some r) : alive o = some o ∧ k = some r := by
  unfold liveK at h
  cases hl : alive o with
  | none => rw [hl] at h; cases h
  | some o' => rw [hl] at h; obtain rfl := alive_eq hl; exact ⟨rfl, h⟩
theorem evQ_sound {C : Sg → QCaller β} (hC : CSound pr w TK hk s₀ X N0 D FP C) {α : Type} (t : Sem α) : ∀ δ (Γ : PySem.Ctx) (κ : Sg → Kont (Except Value α) β) p acts st i j h σ₁ (Post : Except Value α → Pos → Shared → Prop),
    frameCount Γ.below + Γ.code.weight ≤ D + δ → (∀ l, X.l = some l → Γ.code.envs ++ envsOf Γ.below = l) → (∀ σ, Agree σ₁ σ i j h → ∃ r, evQ pr w TK hk σ (C σ) δ Γ (κ σ) t p acts st i j h = some r ∧ Good pr w TK hk s₀ X N0 D FP r) →
    KGood pr w TK hk s₀ X N0 D FP κ Post → ∀ s, Rel s₀ X N0 TK st s → Sem.wp (model pr w) Γ t (fun a p' s' => Post (.ok a) p' s') (fun e p' s' => Post (.error e) p' s') p s := by
  induction t with
  | pure a => intro δ Γ κ p acts st i j h σ₁ Post hD hF H HK s R; rw [Sem.wp_pure]; exact HK _ _ _ _ _ _ _ σ₁ H s R
  | raise e => intro δ Γ κ p acts st i j h σ₁ Post hD hF H HK s R; rw [Sem.wp_raise]; exact HK _ _ _ _ _ _ _ σ₁ H s R
  | rule tag k ih => intro δ Γ κ p acts st i j h σ₁ Post hD hF H HK s R; rw [Sem.wp_rule]; exact ih () δ Γ κ p acts st i j h σ₁ Post hD hF H HK s R
  | «at» p' k ih => intro δ Γ κ p acts st i j h σ₁ Post hD hF H HK s R; rw [Sem.wp_at]; exact ih () δ Γ κ p' acts st i j h σ₁ Post hD hF H HK s R
  | point l k ih => intro δ Γ κ p acts st i j h σ₁ Post hD hF H HK s R; rw [Sem.wp_point]; exact ih () δ Γ κ p acts st i j h σ₁ Post hD hF H HK s R
  | ask k ih => intro δ Γ κ p acts st i j h σ₁ Post hD hF H HK s R; rw [Sem.wp_ask]; exact ih _ δ Γ κ p acts st i j h σ₁ Post hD hF H HK s R
  | thread k ih => intro δ Γ κ p acts st i j h σ₁ Post hD hF H HK s R; rw [Sem.wp_thread]; exact ih 0 δ Γ κ p acts st i j h σ₁ Post hD hF H HK s R
  | handled own k ih => intro δ Γ κ p acts st i j h σ₁ Post hD hF H HK s R; rw [Sem.wp_handled]; exact ih _ δ Γ κ p acts st i j h σ₁ Post hD hF H HK s R
  | stack k ih => intro δ Γ κ p acts st i j h σ₁ Post hD hF H HK s R; rw [Sem.wp_stack]; exact ih _ δ Γ κ p acts st i j h σ₁ Post hD hF H HK s R
  | fresh k ih =>
    intro δ Γ κ p acts st i j h σ₁ Post hD hF H HK s R
    rw [Sem.wp_fresh]
    refine ih s.toks δ Γ κ p acts st (i + 1) j h (σ₁.setT i s.toks) Post hD hF (fun σ ag => ?_) HK _ ⟨R.K, R.low, R.S, R.hi, R.nd, R.mod, R.keep, R.size, R.n0, R.gens, R.drawn, R.os, R.ro, R.keepF, R.sf, R.fl, R.liv, R.fr⟩
    obtain ⟨ag', e⟩ := ag.ofT
    have := H σ ag'
    change ∃ r, evQ pr w TK hk σ (C σ) δ Γ (κ σ) (k (σ.ts i)) p acts st (i + 1) j h = some r ∧ _ at this
    rw [e] at this
    exact this
  | load a part k ih =>
    intro δ Γ κ p acts st i j h σ₁ Post hD hF H HK s R
    rw [Sem.wp_load]
    cases acts with
    | nil => obtain ⟨r, e, _⟩ := H σ₁ (.refl _ _ _ _); cases e
    | cons c acts =>
      cases c with
      | zero =>
        have H' : ∀ σ, Agree σ₁ σ i j h → ∃ r, @Option.rec Obj (fun _ => Option (QF β)) none (fun o => liveK o (evQ pr w TK hk σ (C σ) δ Γ (κ σ) (k o) p acts st i j h)) (TK.T.get a) = some r ∧ Good pr w TK hk s₀ X N0 D FP r := H
        cases ho : TK.T.get a with
        | none => rw [ho] at H'; obtain ⟨r, e, _⟩ := H' σ₁ (.refl _ _ _ _); cases e
        | some o =>
          rw [ho] at H'
          have H2 : ∀ σ, Agree σ₁ σ i j h → alive o = some o ∧ ∃ r, evQ pr w TK hk σ (C σ) δ Γ (κ σ) (k o) p acts st i j h = some r ∧ Good pr w TK hk s₀ X N0 D FP r := fun σ ag => by
            obtain ⟨r, e, g⟩ := H' σ ag
            obtain ⟨e1, e2⟩ := liveK_some e
            exact ⟨e1, r, e2, g⟩
          exact ⟨o, R.K a o ho (H2 σ₁ (.refl _ _ _ _)).1, ih o δ Γ κ p acts st i j h σ₁ Post hD hF (fun σ ag => (H2 σ ag).2) HK s R⟩
      | succ m =>
        have H' : ∀ σ, Agree σ₁ σ i j h → ∃ r, @Option.rec (Nat × Obj) (fun _ => Option (QF β)) none (fun q => noteA a q.1 (evQ pr w TK hk σ (C σ) δ Γ (κ σ) (k q.2) p acts st i j h)) (nthR st TK.ro m) = some r ∧ Good pr w TK hk s₀ X N0 D FP r := H
        cases ho : nthR st TK.ro m with
        | none => rw [ho] at H'; obtain ⟨r, e, _⟩ := H' σ₁ (.refl _ _ _ _); cases e
        | some q =>
          rw [ho] at H'
          have H2 : ∀ σ, Agree σ₁ σ i j h → a = q.1 ∧ ∃ r, evQ pr w TK hk σ (C σ) δ Γ (κ σ) (k q.2) p acts st i j h = some r ∧ Good pr w TK hk s₀ X N0 D FP r := fun σ ag => by
            obtain ⟨r, e, g⟩ := H' σ ag
            exact noteA_some e g
          have ea := (H2 σ₁ (.refl _ _ _ _)).1
          subst ea
          exact ⟨q.2, nthR_S R ho, ih q.2 δ Γ κ p acts st i j h σ₁ Post hD hF (fun σ ag => (H2 σ ag).2) HK s R⟩
  | update a part f k ih =>
    intro δ Γ κ p acts st i j h σ₁ Post hD hF H HK s R
    rw [Sem.wp_update]
    cases acts with
    | nil => obtain ⟨r, e, _⟩ := H σ₁ (.refl _ _ _ _); cases e
    | cons c acts =>
      cases c with
      | zero => obtain ⟨r, e, _⟩ := H σ₁ (.refl _ _ _ _); cases e
      | succ m =>
        have H' : ∀ σ, Agree σ₁ σ i j h → ∃ r, @Option.rec (Nat × Obj) (fun _ => Option (QF β)) none (fun q => liveK (f q.2) (noteA a q.1 (evQ pr w TK hk σ (C σ) δ Γ (κ σ) (k ()) p acts (setAt st m (f q.2)) i j h))) (nth st m) = some r ∧ Good pr w TK hk s₀ X N0 D FP r := H
        cases ho : nth st m with
        | none => rw [ho] at H'; obtain ⟨r, e, _⟩ := H' σ₁ (.refl _ _ _ _); cases e
        | some q =>
          obtain ⟨x, o⟩ := q
          rw [ho] at H'
          have H2 : ∀ σ, Agree σ₁ σ i j h → alive (f o) = some (f o) ∧ a = x ∧ ∃ r, evQ pr w TK hk σ (C σ) δ Γ (κ σ) (k ()) p acts (setAt st m (f o)) i j h = some r ∧ Good pr w TK hk s₀ X N0 D FP r := fun σ ag => by
            obtain ⟨r, e, g⟩ := H' σ ag
            obtain ⟨e1, e2⟩ := liveK_some e
            exact ⟨e1, noteA_some e2 g⟩
          obtain ⟨el, ea, _⟩ := H2 σ₁ (.refl _ _ _ _)
          subst ea
          have h0 := R.S _ (nth_mem ho)
          exact ⟨by rw [h0]; rfl, ih () δ Γ κ p acts (setAt st m (f o)) i j h σ₁ Post hD hF (fun σ ag => (H2 σ ag).2.2) HK _ (R.update ho el)⟩
  | alloc o k ih =>
    intro δ Γ κ p acts st i j h σ₁ Post hD hF H HK s R
    rw [Sem.wp_alloc]
    have H' : ∀ σ, Agree σ₁ σ i j h → alive o = some o ∧ ∃ r, evQ pr w TK hk σ (C σ) δ Γ (κ σ) (k (σ.xs j)) p acts (push st (σ.xs j, o)) i (j + 1) h = some r ∧ Good pr w TK hk s₀ X N0 D FP r := fun σ ag => by
      obtain ⟨r, e, g⟩ := H σ ag
      have e' : liveK o (evQ pr w TK hk σ (C σ) δ Γ (κ σ) (k (σ.xs j)) p acts (push st (σ.xs j, o)) i (j + 1) h) = some r := e
      obtain ⟨e1, e2⟩ := liveK_some e'
      exact ⟨e1, r, e2, g⟩
    have hl := (H' σ₁ (.refl _ _ _ _)).1
    refine ih s.heap.objs.size δ Γ κ p acts (push st (s.heap.objs.size, o)) i (j + 1) h (σ₁.setX j s.heap.objs.size) Post hD hF (fun σ ag => ?_) HK _ (R.push hl)
    obtain ⟨ag', e⟩ := ag.ofX
    have := (H' σ ag').2
    rw [e] at this
    exact this
  | loadIfAlive a k ih =>
    intro δ Γ κ p acts st i j h σ₁ Post hD hF H HK s R
    rw [Sem.wp_loadIfAlive]
    cases acts with
    | nil => obtain ⟨r, e, _⟩ := H σ₁ (.refl _ _ _ _); cases e
    | cons c acts =>
      cases c with
      | zero =>
        have H' : ∀ σ, Agree σ₁ σ i j h → ∃ r, @Option.rec Obj (fun _ => Option (QF β)) none (fun o => liveK o (evQ pr w TK hk σ (C σ) δ Γ (κ σ) (k (some o)) p acts st i j h)) (TK.T.get a) = some r ∧ Good pr w TK hk s₀ X N0 D FP r := H
        cases ho : TK.T.get a with
        | none => rw [ho] at H'; obtain ⟨r, e, _⟩ := H' σ₁ (.refl _ _ _ _); cases e
        | some o =>
          rw [ho] at H'
          have H2 : ∀ σ, Agree σ₁ σ i j h → alive o = some o ∧ ∃ r, evQ pr w TK hk σ (C σ) δ Γ (κ σ) (k (some o)) p acts st i j h = some r ∧ Good pr w TK hk s₀ X N0 D FP r := fun σ ag => by
            obtain ⟨r, e, g⟩ := H' σ ag
            obtain ⟨e1, e2⟩ := liveK_some e
            exact ⟨e1, r, e2, g⟩
          rw [R.K a o ho (H2 σ₁ (.refl _ _ _ _)).1]
          exact ih (some o) δ Γ κ p acts st i j h σ₁ Post hD hF (fun σ ag => (H2 σ ag).2) HK s R
      | succ m =>
        have H' : ∀ σ, Agree σ₁ σ i j h → ∃ r, @Option.rec (Nat × Obj) (fun _ => Option (QF β)) none (fun q => noteA a q.1 (evQ pr w TK hk σ (C σ) δ Γ (κ σ) (k (some q.2)) p acts st i j h)) (nthR st TK.ro m) = some r ∧ Good pr w TK hk s₀ X N0 D FP r := H
        cases ho : nthR st TK.ro m with
        | none => rw [ho] at H'; obtain ⟨r, e, _⟩ := H' σ₁ (.refl _ _ _ _); cases e
        | some q =>
          rw [ho] at H'
          have H2 : ∀ σ, Agree σ₁ σ i j h → a = q.1 ∧ ∃ r, evQ pr w TK hk σ (C σ) δ Γ (κ σ) (k (some q.2)) p acts st i j h = some r ∧ Good pr w TK hk s₀ X N0 D FP r := fun σ ag => by
            obtain ⟨r, e, g⟩ := H' σ ag
            exact noteA_some e g
          have ea := (H2 σ₁ (.refl _ _ _ _)).1
          subst ea
          rw [nthR_S R ho]
          exact ih (some q.2) δ Γ κ p acts st i j h σ₁ Post hD hF (fun σ ag => (H2 σ ag).2) HK s R
  | call c hdl g l k ih =>
    intro δ Γ κ p acts st i j h σ₁ Post hD hF H HK s R
    rw [Sem.wp_call]
    have hbel : frameCount (Γ.enter c hdl p).below ≤ D + δ := by
      show frameCount ((Γ.code, p) :: Γ.below) ≤ _
      rw [frameCount_cons]; lia
    cases acts with
    | nil => obtain ⟨r, e, _⟩ := H σ₁ (.refl _ _ _ _); cases e
    | cons n acts =>
      cases n with
      | zero =>
        have H0 : ∀ σ, Agree σ₁ σ i j h → ∃ r, @Bool.rec (fun _ => Option (QF β)) (C σ δ (Γ.enter c hdl p) p (fun rr _ acts st i j h => evQ pr w TK hk σ (C σ) δ Γ (κ σ) (k rr) p acts st i j h) acts st i j h) none c.isFrame = some r ∧ Good pr w TK hk s₀ X N0 D FP r := H
        have hfr : c.isFrame = false := by
          cases hc : c.isFrame with
          | false => rfl
          | true => rw [hc] at H0; obtain ⟨r, e, _⟩ := H0 σ₁ (.refl _ _ _ _); cases e
        have H' : ∀ σ, Agree σ₁ σ i j h → ∃ r, C σ δ (Γ.enter c hdl p) p (fun rr _ acts st i j h => evQ pr w TK hk σ (C σ) δ Γ (κ σ) (k rr) p acts st i j h) acts st i j h = some r ∧ Good pr w TK hk s₀ X N0 D FP r := by rw [hfr] at H0; exact H0
        have hF' : ∀ l, X.l = some l → (Γ.enter c hdl p).code.envs ++ envsOf (Γ.enter c hdl p).below = l := fun l hl => by
          show c.envs ++ envsOf ((Γ.code, p) :: Γ.below) = l
          rw [envsOf_cons, hF l hl]
          unfold Code.envs; rw [hfr]; rfl
        exact hC δ (Γ.enter c hdl p) p (fun σ rr _ acts st i j h => evQ pr w TK hk σ (C σ) δ Γ (κ σ) (k rr) p acts st i j h) acts st i j h σ₁
          (fun rr s' => Sem.wp (model pr w) Γ (k rr) (fun a p' s' => Post (.ok a) p' s') (fun e p' s' => Post (.error e) p' s') p s') hbel hF' H'
          (fun out _ acts st i j h σ₂ H2 s' R' => ih out δ Γ κ p acts st i j h σ₂ Post hD hF H2 HK s' R') s R
      | succ n =>
        have H' : ∀ σ, Agree σ₁ σ i j h → ∃ r, @Option.rec Value (fun _ => Option (QF β)) (noteC (h, δ, c, st) (evQ pr w TK hk σ (C σ) δ Γ (κ σ) (k (hk h (σ.ys h)).1) p acts ((hk h (σ.ys h)).2 st) i j (h + 1))) (fun _ => none) (Γ.enter c hdl p).handled = some r ∧ Good pr w TK hk s₀ X N0 D FP r := H
        cases hh : (Γ.enter c hdl p).handled with
        | some v => rw [hh] at H'; obtain ⟨r, e, _⟩ := H' σ₁ (.refl _ _ _ _); cases e
        | none =>
          rw [hh] at H'
          have H2 : ∀ σ, Agree σ₁ σ i j h → CallSpec pr w TK hk s₀ X N0 D (h, δ, c, st) ∧ ∃ r, evQ pr w TK hk σ (C σ) δ Γ (κ σ) (k (hk h (σ.ys h)).1) p acts ((hk h (σ.ys h)).2 st) i j (h + 1) = some r ∧ Good pr w TK hk s₀ X N0 D FP r := fun σ ag => by
            obtain ⟨r, e, g⟩ := H' σ ag
            exact noteC_some e g
          have hs := (H2 σ₁ (.refl _ _ _ _)).1 { handled := none, depth := frameCount (Γ.enter c hdl p).below, frames := some (envsOf (Γ.enter c hdl p).below), guards := none, units := unitsOf (Γ.enter c hdl p).below } rfl hbel (fun l hl => by
            show some (envsOf ((Γ.code, p) :: Γ.below)) = some l
            rw [envsOf_cons, hF l hl]) s R
          refine wpCode_mono (fun r s' q => ?_) (hs (Γ.enter c hdl p) p rfl ⟨hh, Nat.le_refl _, fun _ h => Option.some.inj h, fun _ h => (nomatch h), Nat.le_refl _⟩)
          obtain ⟨y, rfl, R'⟩ := q
          refine ih (hk h y).1 δ Γ κ p acts ((hk h y).2 st) i j (h + 1) (σ₁.setY h y) Post hD hF (fun σ ag => ?_) HK s' R'
          obtain ⟨ag', e⟩ := ag.ofY
          have := (H2 σ ag').2
          rw [e] at this
          exact this
  | _ => intro δ Γ κ p acts st i j h σ₁ Post hD hF H HK s R; obtain ⟨r, e, _⟩ := H σ₁ (.refl _ _ _ _); cases e
theorem evQC_sound : ∀ fuel, CSound pr w TK hk s₀ X N0 D FP (fun σ => evQC (β := β) pr w TK hk σ fuel)
  | 0 => fun δ Γ p κ acts st i j h σ₁ Post hD hF H HK s R => by obtain ⟨r, e, _⟩ := H σ₁ (.refl _ _ _ _); cases e
  | fuel + 1 => fun δ Γ p κ acts st i j h σ₁ Post hD hF H HK s R => by
    have ih := evQC_sound fuel
    have hden : (model pr w).den Γ.code = denote treeTable Γ.code := by
      show denote table Γ.code = _
      rw [table_eq_tree]
    rw [wpCode_iff_wp, hden]
    have := evQ_sound ih (denote treeTable Γ.code) (δ + Γ.code.weight) Γ (fun σ => finK (evQC (β := β) pr w TK hk σ fuel) δ Γ (κ σ)) p acts st i j h σ₁
      (fun out p' s' => match out with | .ok (.done f) => Post (.ok f) s' | .ok (.again c') => c'.quiet = true ∧ wpCode (model pr w) (Γ.goto c') Post p' s' | .error e => Post (.error e) s')
      (by lia) hF H (fun out p' acts st i j h σ₂ H2 s' R' => by
        cases out with
        | error e => exact HK _ _ _ _ _ _ _ σ₂ H2 s' R'
        | ok fin =>
          cases fin with
          | done f => exact HK _ _ _ _ _ _ _ σ₂ H2 s' R'
          | again c' =>
            have H3 : ∀ σ, Agree σ₂ σ i j h → ∃ r, @Bool.rec (fun _ => Option (QF β)) none (@Bool.rec (fun _ => Option (QF β)) (evQC pr w TK hk σ fuel δ (Γ.goto c') p' (κ σ) acts st i j h) none (c'.isFrame || Γ.code.isFrame)) c'.quiet = some r ∧ Good pr w TK hk s₀ X N0 D FP r := H2
            show c'.quiet = true ∧ wpCode (model pr w) (Γ.goto c') Post p' s'
            cases hq : c'.quiet with
            | false => rw [hq] at H3; obtain ⟨r, e, _⟩ := H3 σ₂ (.refl _ _ _ _); cases e
            | true =>
              rw [hq] at H3
              have hfr : (c'.isFrame || Γ.code.isFrame) = false := by
                cases hc : (c'.isFrame || Γ.code.isFrame) with
                | false => rfl
                | true => rw [hc] at H3; obtain ⟨r, e, _⟩ := H3 σ₂ (.refl _ _ _ _); cases e
              rw [hfr] at H3
              obtain ⟨f1, f2⟩ := Bool.or_eq_false_iff.mp hfr
              refine ⟨rfl, ih δ (Γ.goto c') p' κ acts st i j h σ₂ Post hD (fun l hl => ?_) H3 HK s' R'⟩
              rw [← hF l hl]
              show c'.envs ++ _ = Γ.code.envs ++ _
              unfold Code.envs; rw [f1, f2]; rfl) s R
    refine Sem.wp_mono _ _ _ (fun fin p' s' q => ?_) (fun _ _ _ q => q) _ _ this
    cases fin <;> exact q
noncomputable def kEnd {ρ : Type} : Kont ρ ρ := fun out _ _ st _ _ _ => some ⟨out, st, [], []⟩
theorem evQ_run {α : Type} {t : Sem α} {acts : List Nat} {st : St} {fuel : Nat} {Γ : PySem.Ctx} {p : Pos} {F : Sg → QF (Except Value α)} {Post : Except Value α → Shared → Prop}
    (H : ∀ σ, evQ pr w TK hk σ (evQC pr w TK hk σ fuel) 0 Γ kEnd t p acts st 0 0 0 = some (F σ)) (hD : frameCount Γ.below + Γ.code.weight ≤ D) (hF : ∀ l, X.l = some l → Γ.code.envs ++ envsOf Γ.below = l)
    (G : ∀ σ, Good pr w TK hk s₀ X N0 D Post (F σ)) {s : Shared} (R : Rel s₀ X N0 TK st s) :
    Sem.wp (model pr w) Γ t (fun a _ s' => Post (.ok a) s') (fun e _ s' => Post (.error e) s') p s :=
  evQ_sound (evQC_sound fuel) t 0 Γ (fun _ => kEnd) p acts st 0 0 0 ⟨fun _ => 0, fun _ => 0, fun _ => ⟨fun _ => 0, fun _ _ => 0, fun _ _ => 0, fun _ => #[]⟩⟩ (fun out _ s => Post out s) hD hF (fun σ _ => ⟨F σ, H σ, G σ⟩)
    (fun out p acts st i j h σ₁ H s R => by
      obtain ⟨r, e, g⟩ := H σ₁ (.refl _ _ _ _)
      cases e
      exact g.2.2 s R) s R
theorem evQ_any {α : Type} {t : Sem α} {acts : List Nat} {st : St} {fuel : Nat} {F : Code → Option Value → Option Value → List (Code × Pos) → Pos → Sg → QF (Except Value α)} {A : Around} {Post : Except Value α → Shared → Prop}
    (H : ∀ (c : Code) (own past : Option Value) (below : List (Code × Pos)) (p : Pos) σ, evQ pr w TK hk σ (evQC pr w TK hk σ fuel) 0 ⟨c, none, own, below, past⟩ kEnd t p acts st 0 0 0 = some (F c own past below p σ)) (hA : A.handled = none) (hD : A.depth ≤ D) (hF : ∀ l, X.l = some l → A.frames = some l)
    (G : ∀ c own past below p σ, Good pr w TK hk s₀ X N0 D Post (F c own past below p σ)) {s : Shared} (R : Rel s₀ X N0 TK st s) :
    wpAny (model pr w) A t (fun a s' => Post (.ok a) s') (fun e s' => Post (.error e) s') s := fun Γ p hΓ => by
  obtain ⟨c, hd, own, below, past⟩ := Γ
  obtain ⟨h1, h2, h3, _⟩ := hΓ
  have h1 : hd = none := h1.trans hA
  subst h1
  exact evQ_run (fun σ => H c own past below p σ) (Nat.le_trans h2 hD) (fun l hl => h3 l (hF l hl)) (fun σ => G c own past below p σ) R
end
end Mine
end
section
open PySem PySem.W PyProof.Rows
set_option maxRecDepth 10000
namespace Mine
noncomputable def iv (i : Int) (t : Tok) : Value := .int i t
noncomputable def sv (x : PySem.Str) (t : Tok) : Value := .str x t
noncomputable def en (P : Params) (x : PySem.Str) (t : Tok) (v : Value) : DictEntry := ⟨PyData.keyHash P x, .str x t, v⟩
noncomputable def inO (c dx : Addr) : Obj := ⟨.ref c, some dx, .plain, #[]⟩
noncomputable def fnAt0 (i : Nat) (j : Option Nat) : Stmt := match j with
  | none => tops.getD i (.Pass default)
  | some j => (match tops.getD i (.Pass default) with | .ClassDef _ _ _ b .. => b | _ => []).getD j (.Pass default)
theorem fnAt0_self : fnAt0 = fnAt0 := rfl
end Mine
open PySem.W.Fast
name_quick fnAtq for Mine.fnAt0 by Mine.fnAt0_self
namespace Mine
noncomputable abbrev fnAt := PySem.W.Fast.fnAtq
noncomputable def fnName : Stmt → PySem.Str | .FunctionDef n .. => n | _ => ""
noncomputable def fnArgs : Stmt → Arguments | .FunctionDef _ a .. => a | _ => default
noncomputable def fnBody : Stmt → List Stmt | .FunctionDef _ _ b .. => b | _ => []
noncomputable def fnScope : Stmt → Scope | .FunctionDef _ _ _ _ _ _ s .. => s | _ => default
noncomputable def fnD (st : Stmt) (qual : PySem.Str) (gl : Addr) (pm cd ct : Value) (b : Addr) : FuncData :=
  { name := fnName st, qualname := qual, params := fnArgs st, body := .stmts (fnBody st), scope := fnScope st, globals := gl, closure := [], defaults := .none, kwdefaults := .none, doc := .none, pyModule := pm, annotations := none, code := cd, closureTuple := ct, builtins := b }
noncomputable def fnO (st : Stmt) (cls : Value) (qual : PySem.Str) (gl : Addr) (pm cd ct : Value) (b : Addr) : Obj := ⟨cls, none, .func (fnD st qual gl pm cd ct b), #[]⟩
noncomputable def fz : Obj := ⟨.none, none, .freed, #[]⟩
noncomputable abbrev N := BT.node
noncomputable abbrev L := BT.nil
structure Am where
  wa : Nat
  wd : Nat
  s : PySem.Str
  sub : Int
  res : Int
  k1 : Tok
  k2 : Tok
  k3 : Tok
  v1 : Tok
  v2 : Tok
  v3 : Tok
noncomputable def Am.dO (P : Params) (e : Am) : Obj := ⟨.type "dict", none, .dict #[en P "s" e.k1 (.str e.s e.v1), en P "substring_i" e.k2 (.int e.sub e.v2), en P "result" e.k3 (.int e.res e.v3)] 3, #[]⟩
noncomputable abbrev TabP := List (List Nat × Int × Int)
noncomputable def mkAm : TabP → Nat → Nat → List Am
  | [], _, _ => []
  | (r, sub, res) :: l, d, t =>
    let v2 := if sub < 0 then t + 2 else t + 1
    let v3 := if res < 0 then v2 + 2 else v2 + 1
    ⟨d + 1, d, ⟨r.reverse.toArray⟩, sub, res, v3 + 6, v3 + 8, v3 + 10, t, v2, v3⟩ :: mkAm l (d + 3) (v3 + 11)
noncomputable def tabP0 : TabP := [([225],-1,1),([233],-1,2)]
noncomputable def tab0 : List Am := mkAm tabP0 336 629
noncomputable def tabP1 : TabP := [([98,98],-1,-1),([99,99],-1,-1),([100,100],-1,-1),([102,102],-1,-1),([103,103],-1,-1),([106,106],-1,-1),([107,107],-1,-1),([108,108],-1,-1),([109,109],-1,-1),([110,110],-1,-1),([112,112],-1,-1),([114,114],-1,-1),([115,99,99],-1,-1),([115,115],-1,-1),([115,122,122],-1,-1),([116,116],-1,-1),([118,118],-1,-1),([121,103,103],-1,-1),([121,108,108],-1,-1),([121,110,110],-1,-1),([121,116,116],-1,-1),([122,115,115],-1,-1),([122,122],-1,-1)]
noncomputable def tab1 : List Am := mkAm tabP1 344 661
noncomputable def tabP2 : TabP := [([108,97],-1,1),([108,101],-1,1)]
noncomputable def tab2 : List Am := mkAm tabP2 414 1007
noncomputable def tabP3 : TabP := [([97,98],-1,-1),([97,114],-1,-1),([101,98],-1,-1),([101,114],-1,-1),([103,105],-1,-1),([107,97,110],-1,-1),([107,101,110],-1,-1),([108,97,118],-1,-1),([108,101,118],-1,-1),([108,117],-1,-1),([108,225,110],-1,-1),([108,233,110],-1,-1),([108,243,98],-1,-1),([108,243,114],-1,-1),([108,243,116],-1,-1),([108,252],-1,-1),([108,337,98],-1,-1),([108,337,114],-1,-1),([108,337,116],-1,-1),([110],-1,-1),([110,97],19,-1),([110,97,98],20,-1),([110,101],19,-1),([110,101,98],22,-1),([110,101,112,112,233,107],22,-1),([110,111],19,-1),([110,246],19,-1),([112,112,233,107],-1,-1),([114,111,107],-1,-1),([116],-1,-1),([116,97],29,-1),([116,101],29,-1),([116,110,233,107],29,-1),([116,110,233,107,110,97],32,-1),([116,110,233,107,110,101],32,-1),([116,110,233,107,110,111],32,-1),([116,111],29,-1),([116,114,233],29,-1),([116,246],29,-1),([122,101,104],-1,-1),([122,111,104],-1,-1),([122,246,104],-1,-1),([225,118],-1,-1),([233,118],-1,-1)]
noncomputable def tab3 : List Am := mkAm tabP3 421 1036
noncomputable def tabP4 : TabP := [([110,225],-1,2),([110,233],-1,1),([116,110,233,107,110,225],-1,2)]
noncomputable def tab4 : List Am := mkAm tabP4 554 1681
noncomputable def tabP5 : TabP := [([108,117,116,115],-1,1),([108,117,116,115,97],0,1),([108,117,116,115,225],0,2),([108,252,116,115],-1,1),([108,252,116,115,101],3,1),([108,252,116,115,233],3,3)]
noncomputable def tab5 : List Am := mkAm tabP5 565 1727
noncomputable def tabP6 : TabP := [([225],-1,1),([233],-1,1)]
noncomputable def tab6 : List Am := mkAm tabP6 585 1812
noncomputable def tabP7 : TabP := [([107],-1,3),([107,97],0,3),([107,101],0,3),([107,111],0,3),([107,225],0,1),([107,233],0,2),([107,246],0,3)]
noncomputable def tab7 : List Am := mkAm tabP7 592 1841
noncomputable def tabP8 : TabP := [([105,233],-1,1),([105,233,225],0,3),([105,233,233],0,2),([233],-1,1),([233,107],3,1),([233,107,97],4,1),([233,107,101],4,1),([233,107,111],4,1),([233,107,225],4,3),([233,107,233],4,2),([233,107,246],4,1),([233,233],3,2)]
noncomputable def tab8 : List Am := mkAm tabP8 615 1938
noncomputable def tabP9 : TabP := [([97],-1,1),([97,106],0,1),([100],-1,1),([100,97],2,1),([100,101],2,1),([100,111],2,1),([100,225],2,2),([100,233],2,3),([100,246],2,1),([101],-1,1),([101,106],9,1),([107,110],-1,1),([107,110,117],11,1),([107,110,225],11,2),([107,110,233],11,3),([107,110,252],11,1),([107,117],-1,1),([107,117,106],16,1),([107,117,106,225],17,2),([107,252],-1,1),([107,252,106],19,1),([107,252,106,233],20,3),([109],-1,1),([109,97],22,1),([109,101],22,1),([109,111],22,1),([109,225],22,2),([109,233],22,3),([111],-1,1),([225],-1,2),([233],-1,3)]
noncomputable def tab9 : List Am := mkAm tabP9 653 2101
noncomputable def tabP10 : TabP := [([100,105],-1,1),([100,105,97],0,1),([100,105,97,106],1,1),([100,105,101],0,1),([100,105,101,106],3,1),([100,105,225],0,2),([100,105,233],0,3),([105],-1,1),([105,97],7,1),([105,97,106],8,1),([105,101],7,1),([105,101,106],10,1),([105,225],7,2),([105,233],7,3),([107,101,116,105],-1,1),([107,101,116,105,101],14,1),([107,101,116,105,101,106],15,1),([107,101,116,105,233],14,3),([107,105],-1,1),([107,105,97],18,1),([107,105,97,106],19,1),([107,105,101],18,1),([107,105,101,106],21,1),([107,105,225],18,2),([107,105,233],18,3),([107,110,105],-1,1),([107,110,105,97],25,1),([107,110,105,97,106],26,1),([107,110,105,101],25,1),([107,110,105,101,106],28,1),([107,110,105,225],25,2),([107,110,105,233],25,3),([107,111,116,105,97],-1,1),([107,111,116,105,97,106],32,1),([107,111,116,105,225],-1,2),([109,105],-1,1),([109,105,97],35,1),([109,105,97,106],36,1),([109,105,101],35,1),([109,105,101,106],38,1),([109,105,225],35,2),([109,105,233],35,3)]
noncomputable def tab10 : List Am := mkAm tabP10 748 2519
noncomputable def tabs (n : Nat) : List Am := [tab0, tab1, tab2, tab3, tab4, tab5, tab6, tab7, tab8, tab9, tab10].getD n []
noncomputable def aD (P : Params) (n i : Nat) : Obj := match (tabs n)[i]? with | some e => e.dO P | none => fz
noncomputable def aL (n : Nat) : Obj := ⟨.type "list", none, .seq ((tabs n).map fun e => Value.ref e.wa).toArray 0, #[]⟩
noncomputable def qOf (k : Nat) (st : Stmt) : PySem.Str := match k with
  | 0 => fnName st
  | 1 => ⟨(PySem.Str.cps "BaseStemmer.").toList ++ (fnName st).cps.toList |>.toArray⟩
  | _ => ⟨(PySem.Str.cps "HungarianStemmer.").toList ++ (fnName st).cps.toList |>.toArray⟩
noncomputable def mOf (k : Nat) : Value := match k with
  | 0 => sv "law_af0032_01" 3127
  | 1 => sv "snowballstemmer.basestemmer" 194
  | _ => sv "snowballstemmer.hungarian_stemmer" 459
noncomputable def oF (st : Stmt) (k cd : Nat) : Obj := fnO st (.type "function") (qOf k st) 3 (mOf k) (.ref cd) .none 0
noncomputable def oC (st : Stmt) (k a t x l n : Nat) (b : Bool) : Obj :=
  ⟨.type "code", none, .fields (#[.str (fnName st) t, .str (qOf k st) (t + 1), sv "/claim/cut.py" (t + 2), iv l 0, iv n 0, iv 0 0, iv 0 0, iv 3 0, .ref (bif b then a - 5 else a - 3), .bool true, iv 181 0, .ref (bif b then a - 4 else a - 2), .none,
    bif b then .ref (a - 3) else .none, bif b then .ref (a - 2) else .none, .ref (a - 1), iv x 0, iv l 0, sv "/claim/cut.py" (x + 1)]), #[]⟩
noncomputable def em (P : Params) (st : Stmt) (t f : Nat) : DictEntry := en P (fnName st) t (.ref f)
noncomputable def o196 (P : Params) : Obj := ⟨(.type "dict"), none, (.dict #[en P "__module__" 203 (sv "snowballstemmer.basestemmer" 194), en P "__firstlineno__" 207 (iv 5 206), em P (fnAt 2 (some 0)) 214 35, em P (fnAt 2 (some 1)) 222 42, em P (fnAt 2 (some 2)) 229 49, em P (fnAt 2 (some 3)) 237 56, em P (fnAt 2 (some 4)) 245 63, em P (fnAt 2 (some 5)) 253 70, em P (fnAt 2 (some 6)) 261 77, em P (fnAt 2 (some 7)) 269 84, em P (fnAt 2 (some 8)) 277 91, em P (fnAt 2 (some 9)) 285 98, em P (fnAt 2 (some 10)) 293 105, em P (fnAt 2 (some 11)) 301 112, em P (fnAt 2 (some 12)) 309 119, em P (fnAt 2 (some 13)) 317 126, em P (fnAt 2 (some 14)) 325 133, em P (fnAt 2 (some 15)) 345 140, em P (fnAt 2 (some 16)) 356 147, em P (fnAt 2 (some 17)) 364 154, em P (fnAt 2 (some 18)) 371 161, em P (fnAt 2 (some 19)) 381 168, em P (fnAt 2 (some 20)) 388 175, em P (fnAt 2 (some 21)) 395 182, em P (fnAt 2 (some 22)) 403 189, em P (fnAt 2 (some 23)) 409 194, en P "__static_attributes__" 416 (.ref 195), en P "__dict__" 418 (.ref 198), en P "__weakref__" 420 (.ref 199), en P "__doc__" 421 .none] 4), #[]⟩
noncomputable def o197 (P : Params) : Obj := ⟨(.type "type"), none, (.cls { name := "BaseStemmer", bases := [(.type "object")], mro := [(.ref 197), (.type "object")], ns := 196, qualname := "BaseStemmer", hasDict := true, slotNames := [], subclasses := [(.ref 878)], abstract := false, collection := none, hasDel := false }), #[none, none, (some (sv "BaseStemmer" 196)), (some (sv "BaseStemmer" 204)), (some (.builtin "object.__new__")), (some (.bool true))]⟩
noncomputable def o217 (P : Params) : Obj := ⟨(.type "dict"), none, (.dict #[en P "__module__" 433 (sv "snowballstemmer.among" 424), en P "__firstlineno__" 437 (iv 153 436), en P "__init__" 447 (.ref 215), en P "__static_attributes__" 451 (.ref 216), en P "__dict__" 453 (.ref 219), en P "__weakref__" 455 (.ref 220), en P "__doc__" 456 .none] 4), #[]⟩
noncomputable def o218 (P : Params) : Obj := ⟨(.type "type"), none, (.cls { name := "Among", bases := [(.type "object")], mro := [(.ref 218), (.type "object")], ns := 217, qualname := "Among", hasDict := true, slotNames := [], subclasses := [], abstract := false, collection := none, hasDel := false }), #[none, none, (some (sv "Among" 426)), (some (sv "Among" 434)), (some (.builtin "object.__new__")), (some (.bool true))]⟩
noncomputable def o343 (P : Params) : Obj := ⟨(.type "tuple"), none, (.seq #[(sv "a" 658), (sv "e" 659)] 0), #[]⟩
noncomputable def o564 (P : Params) : Obj := ⟨(.type "tuple"), none, (.seq #[(sv "e" 1724), (sv "a" 1725)] 0), #[]⟩
noncomputable def o584 (P : Params) : Obj := ⟨(.type "tuple"), none, (.seq #[(sv "" 1808), (sv "a" 1809), (sv "e" 1810)] 0), #[]⟩
noncomputable def o614 (P : Params) : Obj := ⟨(.type "tuple"), none, (.seq #[(sv "a" 1934), (sv "e" 1935), (sv "" 1936)] 0), #[]⟩
noncomputable def o652 (P : Params) : Obj := ⟨(.type "tuple"), none, (.seq #[(sv "" 2097), (sv "e" 2098), (sv "a" 2099)] 0), #[]⟩
noncomputable def o747 (P : Params) : Obj := ⟨(.type "tuple"), none, (.seq #[(sv "" 2515), (sv "a" 2516), (sv "e" 2517)] 0), #[]⟩
noncomputable def o875 (P : Params) : Obj := ⟨(.type "tuple"), none, (.seq #[(sv "" 3074), (sv "a" 3075), (sv "e" 3076)] 0), #[]⟩
noncomputable def o877 (P : Params) : Obj := ⟨(.type "dict"), none, (.dict #[en P "__module__" 468 (sv "snowballstemmer.hungarian_stemmer" 459), en P "__firstlineno__" 472 (iv 160 471), en P "g_v" 501 (.ref 230), en P "I_p1" 503 (iv 0 502), em P (fnAt 6 (some 2)) 512 237, em P (fnAt 6 (some 3)) 519 244, em P (fnAt 6 (some 4)) 527 251, em P (fnAt 6 (some 5)) 535 258, em P (fnAt 6 (some 6)) 542 265, em P (fnAt 6 (some 7)) 549 272, em P (fnAt 6 (some 8)) 556 279, em P (fnAt 6 (some 9)) 564 286, em P (fnAt 6 (some 10)) 572 293, em P (fnAt 6 (some 11)) 579 300, em P (fnAt 6 (some 12)) 587 307, em P (fnAt 6 (some 13)) 595 314, em P (fnAt 6 (some 14)) 603 321, em P (fnAt 6 (some 15)) 611 328, em P (fnAt 6 (some 16)) 628 335, en P "a_0" 657 (.ref 342), en P "as_0" 660 (.ref 343), en P "a_1" 1006 (.ref 413), en P "a_2" 1035 (.ref 420), en P "a_3" 1680 (.ref 553), en P "a_4" 1723 (.ref 563), en P "as_4" 1726 (.ref 564), en P "a_5" 1807 (.ref 583), en P "as_5" 1811 (.ref 584), en P "a_6" 1840 (.ref 591), en P "a_7" 1933 (.ref 613), en P "as_7" 1937 (.ref 614), en P "a_8" 2096 (.ref 651), en P "as_8" 2100 (.ref 652), en P "a_9" 2514 (.ref 746), en P "as_9" 2518 (.ref 747), en P "a_10" 3073 (.ref 874), en P "as_10" 3077 (.ref 875), en P "__static_attributes__" 3083 (.ref 876), en P "__doc__" 3084 .none] 2), #[]⟩
noncomputable def o878 (P : Params) : Obj := ⟨(.type "type"), none, (.cls { name := "HungarianStemmer", bases := [(.ref 197)], mro := [(.ref 878), (.ref 197), (.type "object")], ns := 877, qualname := "HungarianStemmer", hasDict := true, slotNames := [], subclasses := [], abstract := false, collection := none, hasDel := false }), #[(some (.ref 223)), none, (some (sv "HungarianStemmer" 461)), (some (sv "HungarianStemmer" 469)), (some (.builtin "object.__new__")), (some (.bool true))]⟩
noncomputable def o889 (P : Params) : Obj := ⟨(.type "dict"), none, (.dict #[en P "__module__" 3094 (sv "snowballstemmer.hungarian_stemmer" 459), en P "__firstlineno__" 3098 (iv 377 3097), en P "__static_attributes__" 3099 (.ref 888), en P "__weakref__" 3101 (.ref 891), en P "__doc__" 3102 .none] 3), #[]⟩
noncomputable def o890 (P : Params) : Obj := ⟨(.type "type"), none, (.cls { name := "lab0", bases := [(.type "Exception")], mro := [(.ref 890), (.type "Exception"), (.type "BaseException"), (.type "object")], ns := 889, qualname := "lab0", hasDict := true, slotNames := [], subclasses := [], abstract := false, collection := none, hasDel := false }), #[(some (.ref 881)), none, (some (sv "lab0" 3087)), (some (sv "lab0" 3095)), (some (.builtin "Exception.__new__")), (some (.bool true))]⟩
noncomputable def o902 (P : Params) : Obj := ⟨(.type "dict"), none, (.dict #[en P "__module__" 3114 (sv "snowballstemmer.hungarian_stemmer" 459), en P "__firstlineno__" 3118 (iv 379 3117), en P "__static_attributes__" 3119 (.ref 901), en P "__weakref__" 3121 (.ref 904), en P "__doc__" 3122 .none] 3), #[]⟩
noncomputable def o903 (P : Params) : Obj := ⟨(.type "type"), none, (.cls { name := "lab1", bases := [(.type "Exception")], mro := [(.ref 903), (.type "Exception"), (.type "BaseException"), (.type "object")], ns := 902, qualname := "lab1", hasDict := true, slotNames := [], subclasses := [], abstract := false, collection := none, hasDel := false }), #[(some (.ref 894)), none, (some (sv "lab1" 3107)), (some (sv "lab1" 3115)), (some (.builtin "Exception.__new__")), (some (.bool true))]⟩
noncomputable def o914 (P : Params) : Obj := ⟨(.type "list"), none, (.seq #[(sv "" 3139)] 0), #[]⟩
noncomputable def o915 (P : Params) : Obj := ⟨(.type "list"), none, (.seq #[(sv "ak" 3140), (sv "ek" 3141), (sv "ok" 3142), (sv "ök" 3143)] 0), #[]⟩
noncomputable def o916 (P : Params) : Obj := ⟨(.type "list"), none, (.seq #[(sv "am" 3144), (sv "em" 3145), (sv "om" 3146), (sv "ad" 3147), (sv "ed" 3148), (sv "od" 3149), (sv "öd" 3150), (sv "aim" 3151), (sv "jaim" 3152), (sv "eim" 3153), (sv "jeim" 3154), (sv "aid" 3155), (sv "jaid" 3156), (sv "eid" 3157), (sv "jeid" 3158)] 0), #[]⟩
noncomputable def o917 (P : Params) : Obj := ⟨(.type "list"), none, (.seq #[(sv "unk" 3159), (sv "ünk" 3160), (sv "uk" 3161), (sv "ük" 3162), (sv "juk" 3163), (sv "jük" 3164), (sv "aik" 3165), (sv "jaik" 3166), (sv "eik" 3167), (sv "jeik" 3168), (sv "aink" 3169), (sv "jaink" 3170), (sv "eink" 3171), (sv "jeink" 3172), (sv "aitok" 3173), (sv "jaitok" 3174), (sv "eitek" 3175), (sv "jeitek" 3176)] 0), #[]⟩
noncomputable def o918 (P : Params) : Obj := ⟨(.type "list"), none, (.seq #[(sv "ai" 3177), (sv "jai" 3178), (sv "ei" 3179), (sv "jei" 3180)] 0), #[]⟩
noncomputable def o919 (P : Params) : Obj := ⟨(.type "list"), none, (.seq #[(sv "a" 3181), (sv "ja" 3182), (sv "e" 3183), (sv "je" 3184)] 0), #[]⟩
noncomputable def o920 (P : Params) : Obj := ⟨(.type "list"), none, (.seq #[(.ref 914), (.ref 915), (.ref 916), (.ref 917), (.ref 918), (.ref 919)] 0), #[]⟩
noncomputable def oM (P : Params) : Obj := ⟨(.type "dict"), none, (.dict #[en P "__name__" 165 (sv "law_af0032_01" 3127), en P "__doc__" 166 .none, en P "__package__" 167 .none, en P "__loader__" 168 (.builtin "__main__.__loader__#opaque"), en P "__spec__" 169 .none, en P "__annotations__" 170 (.ref 6), en P "__builtins__" 171 (.ref 4), en P "__file__" 173 (sv "/claim/cut.py" 172), en P "__cached__" 174 .none, en P "_wall" 193 (.ref 21), en P "BaseStemmer" 423 (.ref 197), en P "Among" 458 (.ref 218), en P "HungarianStemmer" 3086 (.ref 878), en P "lab0" 3106 (.ref 890), en P "lab1" 3126 (.ref 903), en P "_law_letters" 3130 (sv "aábcdeéfghiíjklmnoóöőpqrstuúüűvwxyz" 3129), en P "_law_vowels" 3132 (sv "aeiouáéíóöúüőű" 3131), em P (fnAt 12 none) 3138 913, en P "_law_layers" 3185 (.ref 920), em P (fnAt 14 none) 3191 927, em P (fnAt 15 none) 3197 934, em P (fnAt 16 none) 3203 941, em P (fnAt 17 none) 3209 948, em P (fnAt 18 none) 3217 955, em P (fnAt 19 none) 3226 962, em P (fnAt 20 none) 3233 969, em P (fnAt 21 none) 3249 976, em P (fnAt 22 none) 3255 981, em P (fnAt 23 none) 3270 988] 29), #[]⟩
noncomputable def oS (P : Params) : Obj := ⟨.none, none, (.dict #[en P "type.__subclasses__.Exception.0" 3103 (iv 890 0), en P "type.__subclasses__.Exception.n" 3104 (iv 2 0), en P "type.__subclasses__.Exception.1" 3123 (iv 903 0)] 3), #[]⟩
structure Gs where
  es : Array (Int × Value)
  ep : Nat
  t : SetTable
  ro : St
noncomputable def Gs.o (G : Gs) : Obj := setObj G.es G.ep G.t
noncomputable def tk0 (P : Params) (G : Gs) : BT := (N fz (N (oF (fnAt 2 (some 4)) 1 62) (N fz (N fz (N (aD P 3 30) L L) (N (inO 218 766) L L)) (N (aD P 1 13) (N (aD P 8 8) L L) L)) (N fz (N fz (N (inO 218 574) L L) L) L)) (N fz (N fz (N fz L (N (aD P 10 17) L L)) (N (inO 218 414) (N (aD P 9 6) L L) (N (oF (fnAt 14 none) 0 926) L L))) (N fz (N (inO 218 350) (N (aD P 7 5) L L) (N (inO 218 862) L L)) (N (inO 218 478) (N (inO 218 734) L L) L))))
noncomputable def tk1 (P : Params) (G : Gs) : BT := (N fz (N fz (N fz (N (oC (fnAt 6 (some 7)) 2 271 543 547 224 1 true) (N (inO 218 526) L L) L) (N (inO 218 398) L L)) (N fz (N (oF (fnAt 6 (some 16)) 2 334) (N (aL 6) L L) (N (aD P 10 33) L L)) (N (aD P 3 14) (N (aD P 9 22) L L) (N (oC (fnAt 21 none) 0 975 3234 3247 408 4 true) L L)))) (N fz (N fz (N fz L (N (inO 218 814) L L)) (N (inO 218 430) (N (inO 218 686) L L) L)) (N fz L (N fz (N (aD P 10 1) L L) L))))
noncomputable def tk2 (P : Params) (G : Gs) : BT := (N fz (N fz (N fz (N fz L (N (aD P 10 9) L L)) (N fz L (N (o903 P) L L))) (N fz (N (oC (fnAt 6 (some 15)) 2 327 604 609 313 1 true) (N (aL 5) L L) (N (inO 218 838) L L)) (N (inO 218 454) (N (inO 218 710) L L) L))) (N fz (N fz (N fz (N (inO 218 550) L L) L) L) (N fz (N (aD P 1 5) (N (aD P 8 0) L L) (N (aD P 10 41) L L)) (N (aD P 3 22) (N (aD P 9 30) L L) L))))
noncomputable def tk3 (P : Params) (G : Gs) : BT := (N fz (N fz (N fz (N (oF (fnAt 6 (some 8)) 2 278) (N (aD P 3 38) L L) (N (inO 218 790) L L)) (N (aD P 1 21) (N (inO 218 662) L L) (N (o919 P) L L))) (N fz (N (o343 P) (N (inO 218 598) L L) L) L)) (N fz (N fz (N fz L (N (aD P 10 25) L L)) (N (aD P 3 6) (N (aD P 9 14) L L) L)) (N fz (N (inO 218 374) (N (inO 218 630) L L) L) (N (inO 218 502) L L))))
noncomputable def tk4 (P : Params) (G : Gs) : BT := (N (oF (fnAt 2 (some 0)) 1 34) (N fz (N fz (N fz (N (inO 218 514) L L) L) (N (inO 218 386) (N (inO 218 642) L L) L)) (N fz (N fz L (N (aD P 10 29) L L)) (N (aD P 3 10) (N (aD P 9 18) L L) L))) (N fz (N fz (N fz (N (aD P 3 42) L L) (N (inO 218 802) L L)) (N fz (N (inO 218 674) L L) L)) (N fz (N fz (N (inO 218 610) L L) L) L)))
noncomputable def tk5 (P : Params) (G : Gs) : BT := (N fz (N (oF (fnAt 2 (some 16)) 1 146) (N fz L (N (aD P 10 13) L L)) (N fz (N (aD P 9 2) L L) (N (o915 P) L L))) (N fz (N (aD P 0 1) (N (aD P 7 1) L L) (N (inO 218 850) L L)) (N (inO 218 466) (N (inO 218 722) L L) L)))
noncomputable def tk6 (P : Params) (G : Gs) : BT := (N fz (N fz (N (oF (fnAt 6 (some 12)) 2 306) (N (aL 4) L L) L) (N fz L (N (oC (fnAt 17 none) 0 947 3204 3207 393 0 true) L L))) (N (oC (fnAt 6 (some 3)) 2 243 513 517 191 1 true) (N (aD P 1 9) (N (aD P 8 4) L L) L) (N (aD P 3 26) (N (inO 218 754) L L) L)))
noncomputable def tk7 (P : Params) (G : Gs) : BT := (N fz (N fz (N (oC (fnAt 2 (some 15)) 1 139 326 343 70 2 true) (N fz (N (aD P 3 34) L L) (N (inO 218 778) L L)) (N (aD P 1 17) (N (aL 8) L L) L)) L) (N fz (N fz (N (oC (fnAt 6 (some 11)) 2 299 573 577 268 1 true) (N (inO 218 554) L L) (N (aD P 10 21) L L)) (N (aD P 3 2) (N (aD P 9 10) L L) L)) (N fz (N (inO 218 362) (N (inO 218 618) L L) (N (o875 P) L L)) (N (inO 218 490) (N (o747 P) L L) L))))
noncomputable def tk8 (P : Params) (G : Gs) : BT := (N fz (N fz (N fz (N fz (N (inO 218 538) L L) L) (N (inO 218 410) L L)) (N fz (N (aD P 1 1) L (N (aD P 10 37) L L)) (N (aD P 3 18) (N (aD P 9 26) L L) (N (oC (fnAt 23 none) 0 987 3256 3268 442 1 true) L L)))) (N fz (N fz (N fz (N (aD P 5 2) L L) (N (inO 218 826) L L)) (N (inO 218 442) (N (inO 218 698) L L) (N (oF (fnAt 18 none) 0 954) L L))) (N (oF (fnAt 6 (some 4)) 2 250) L (N fz (N (aD P 10 5) L L) L))))
noncomputable def tk9 (P : Params) (G : Gs) : BT := (N fz (N fz (N fz (N (oC (fnAt 6 (some 5)) 2 257 528 533 205 1 true) L (N (aD P 10 7) L L)) L) (N (oC (fnAt 2 (some 23)) 1 193 404 407 150 2 false) (N (oF (fnAt 6 (some 14)) 2 320) (N (aD P 5 4) L L) (N (inO 218 832) L L)) (N (inO 218 448) (N (inO 218 704) L L) (N (oC (fnAt 19 none) 0 961 3218 3224 399 1 true) L L)))) (N (oC (fnAt 2 (some 9)) 1 97 278 283 48 2 true) (N (oF (fnAt 2 (some 18)) 1 160) (N fz (N (inO 218 544) L L) L) (N (aD P 2 1) L L)) (N fz (N (aD P 1 3) L (N (aD P 10 39) L L)) (N (aD P 3 20) (N (aD P 9 28) L L) L))))
noncomputable def tk10 (P : Params) (G : Gs) : BT := (N (oF (fnAt 2 (some 2)) 1 48) (N fz (N fz (N fz (N (aD P 3 36) L L) (N (inO 218 784) L L)) (N (aD P 1 19) (N (inO 218 656) L L) (N (oF (fnAt 12 none) 0 912) L L))) (N fz (N (inO 218 336) (N (inO 218 592) L L) L) L)) (N fz (N fz (N fz (N (inO 218 560) L L) (N (aD P 10 23) L L)) (N (aD P 3 4) (N (aD P 9 12) L L) L)) (N fz (N (inO 218 368) (N (inO 218 624) L L) L) (N (inO 218 496) L L))))
noncomputable def tk11 (P : Params) (G : Gs) : BT := (N (oC (fnAt 2 (some 1)) 1 41 215 220 10 2 true) (N fz (N fz (N (oF (fnAt 6 (some 6)) 2 264) (N (inO 218 520) L L) L) (N (inO 218 392) (N (inO 218 648) L L) L)) (N fz (N fz (N (aD P 6 0) L L) (N (aD P 10 31) L L)) (N (aD P 3 12) (N (aD P 9 20) L L) (N (oF (fnAt 20 none) 0 968) L L)))) (N fz (N fz (N fz (N (aL 3) L L) (N (inO 218 808) L L)) (N (inO 218 424) (N (inO 218 680) L L) L)) L))
noncomputable def tk12 (P : Params) (G : Gs) : BT := (N fz (N fz (N (oC (fnAt 2 (some 17)) 1 153 357 362 125 2 true) (N fz L (N (aD P 10 15) L L)) (N fz (N (aD P 9 4) L L) L)) (N (o217 P) (N (inO 218 344) (N (aD P 7 3) L L) (N (inO 218 856) L L)) (N (inO 218 472) (N (inO 218 728) L L) L))) (N fz (N fz (N (oC (fnAt 6 (some 13)) 2 313 588 593 291 1 true) (N (inO 218 568) L L) L) L) (N fz (N (aD P 1 11) (N (aD P 8 6) L L) (N (o889 P) L L)) (N (aD P 3 28) (N (inO 218 760) L L) L))))
noncomputable def tk13 (P : Params) (G : Gs) : BT := (N fz (N (oC (fnAt 2 (some 5)) 1 69 246 251 32 2 true) (N fz (N fz (N (aD P 3 32) L L) (N (inO 218 772) L L)) (N (aD P 1 15) (N (aD P 8 10) L L) L)) (N (o197 P) (N fz (N (inO 218 580) L L) L) L)) (N fz (N fz (N (oF (fnAt 6 (some 10)) 2 292) L (N (aD P 10 19) L L)) (N (aD P 3 0) (N (aD P 9 8) L L) (N (oC (fnAt 15 none) 0 933 3192 3195 389 0 true) L L))) (N fz (N (inO 218 356) (N (aL 7) L L) (N (inO 218 868) L L)) (N (inO 218 484) (N (inO 218 740) L L) L))))
noncomputable def tk14 (P : Params) (G : Gs) : BT := (N fz (N fz (N fz (N fz (N (inO 218 532) L L) L) (N (inO 218 404) L (N (o917 P) L L))) (N fz (N fz L (N (aD P 10 35) L L)) (N (aD P 3 16) (N (aD P 9 24) L L) (N (oF (fnAt 22 none) 0 980) L L)))) (N fz (N fz (N fz (N (aD P 5 0) L L) (N (inO 218 820) L L)) (N (inO 218 436) (N (inO 218 692) L L) L)) (N fz L (N fz (N (aD P 10 3) L L) L))))
noncomputable def tk15 (P : Params) (G : Gs) : BT := (N fz (N fz (N fz L (N (aD P 10 11) L L)) (N fz (N (aD P 9 0) L L) L)) (N fz (N fz (N (inO 218 588) L L) (N (inO 218 844) L L)) (N (inO 218 460) (N (inO 218 716) L L) L)))
noncomputable def tk16 (P : Params) (G : Gs) : BT := (N fz (N fz (N fz (N (aD P 4 1) L L) L) (N fz L (N (oF (fnAt 16 none) 0 940) L L))) (N (oF (fnAt 6 (some 2)) 2 236) (N (aD P 1 7) (N (aD P 8 2) L L) (N (o877 P) L L)) (N (aD P 3 24) (N (inO 218 748) L L) L)))
noncomputable def tk17 (P : Params) (G : Gs) : BT := (N fz (N fz (N fz (N (oC (fnAt 6 (some 9)) 2 285 557 562 246 1 true) (N (aD P 3 40) L L) (N (inO 218 796) L L)) (N (aL 1) (N (inO 218 668) L L) L)) (N fz (N fz (N (inO 218 604) L L) L) L)) (N fz (N (oF (fnAt 2 (some 22)) 1 188) (N fz L (N (aD P 10 27) L L)) (N (aD P 3 8) (N (aD P 9 16) L L) L)) (N fz (N (inO 218 380) (N (inO 218 636) L L) L) (N (inO 218 508) L L))))
noncomputable def tk18 (P : Params) (G : Gs) : BT := (N fz (N fz (N fz (N fz (N (inO 218 511) L L) L) (N (inO 218 383) (N (inO 218 639) L L) L)) (N fz (N (oC (fnAt 6 (some 14)) 2 320 596 601 302 1 true) L (N (aD P 10 28) L L)) (N (aD P 3 9) (N (aD P 9 17) L L) L))) (N fz (N (oC (fnAt 2 (some 18)) 1 160 365 369 133 1 true) (N fz (N (aD P 3 41) L L) (N (inO 218 799) L L)) (N fz (N (inO 218 671) L L) L)) (N fz (N fz (N (inO 218 607) L L) L) L)))
noncomputable def tk19 (P : Params) (G : Gs) : BT := (N (oC (fnAt 2 (some 2)) 1 48 223 227 18 1 true) (N fz (N fz (N (oF (fnAt 6 (some 7)) 2 271) L (N (aD P 10 12) L L)) (N fz (N (aD P 9 1) L L) (N (oC (fnAt 12 none) 0 912 3133 3136 384 0 true) L L))) (N fz (N (aD P 0 0) (N (aD P 7 0) L L) (N (inO 218 847) L L)) (N (inO 218 463) (N (inO 218 719) L L) (N (oF (fnAt 21 none) 0 975) L L)))) (N fz (N fz (N fz (N (aD P 4 2) L L) L) L) (N fz (N (aD P 1 8) (N (aD P 8 3) L L) L) (N (aD P 3 25) (N (inO 218 751) L L) L))))
noncomputable def tk20 (P : Params) (G : Gs) : BT := (N fz (N fz (N (oC (fnAt 6 (some 6)) 2 264 536 540 212 1 true) (N (aD P 3 33) L L) (N (inO 218 775) L L)) (N (aD P 1 16) (N (aD P 8 11) L L) L)) (N fz (N (oF (fnAt 6 (some 15)) 2 327) (N (o584 P) L L) L) (N fz L (N (oC (fnAt 20 none) 0 968 3227 3231 404 1 true) L L))))
noncomputable def tk21 (P : Params) (G : Gs) : BT := (N fz (N fz (N fz L (N (aD P 10 20) L L)) (N (aD P 3 1) (N (aD P 9 9) L L) L)) (N fz (N (inO 218 359) (N (inO 218 615) L L) (N (inO 218 871) L L)) (N (inO 218 487) (N (inO 218 743) L L) L)))
noncomputable def tk22 (P : Params) (G : Gs) : BT := (N fz (N fz (N fz (N fz (N (inO 218 535) L L) L) (N (inO 218 407) L (N (o920 P) L L))) (N fz (N (aD P 1 0) L (N (aD P 10 36) L L)) (N (aD P 3 17) (N (aD P 9 25) L L) L))) (N fz (N fz (N fz (N (aD P 5 1) L L) (N (inO 218 823) L L)) (N (inO 218 439) (N (inO 218 695) L L) L)) (N fz L (N fz (N (aD P 10 4) L L) L))))
noncomputable def tk23 (P : Params) (G : Gs) : BT := (N fz (N fz (N fz (N fz L (N (aD P 10 8) L L)) L) (N (o196 P) (N fz (N (aD P 5 5) L L) (N (inO 218 835) L L)) (N (inO 218 451) (N (inO 218 707) L L) L))) (N fz (N fz (N (oC (fnAt 6 (some 10)) 2 292 565 570 257 1 true) (N (inO 218 547) L L) L) (N (aL 2) L L)) (N fz (N (aD P 1 4) L (N (aD P 10 40) L L)) (N (aD P 3 21) (N (aD P 9 29) L L) L))))
noncomputable def tk24 (P : Params) (G : Gs) : BT := (N fz (N fz (N fz (N (aD P 3 37) L L) (N (inO 218 787) L L)) (N (aD P 1 20) (N (inO 218 659) L L) (N (o916 P) L L))) (N fz (N (inO 218 339) (N (inO 218 595) L L) L) (N fz L (N (oC (fnAt 22 none) 0 980 3250 3253 432 4 false) L L))))
noncomputable def tk25 (P : Params) (G : Gs) : BT := (N fz (N fz (N fz (N (o564 P) L L) (N (aD P 10 24) L L)) (N (aD P 3 5) (N (aD P 9 13) L L) (N (oF (fnAt 17 none) 0 947) L L))) (N (oF (fnAt 6 (some 3)) 2 243) (N (inO 218 371) (N (inO 218 627) L L) L) (N (inO 218 499) L L)))
noncomputable def tk26 (P : Params) (G : Gs) : BT := (N fz (N fz (N (oF (fnAt 2 (some 15)) 1 139) (N fz (N (inO 218 523) L L) L) (N (inO 218 395) (N (o652 P) L L) L)) (N fz (N fz (N (aD P 6 1) L L) (N (aD P 10 32) L L)) (N (aD P 3 13) (N (aD P 9 21) L L) L))) (N fz (N fz (N (oF (fnAt 6 (some 11)) 2 299) L (N (inO 218 811) L L)) (N (inO 218 427) (N (inO 218 683) L L) (N (oC (fnAt 16 none) 0 940 3198 3201 391 0 true) L L))) (N (oC (fnAt 6 (some 2)) 2 236 504 510 164 1 true) L (N fz (N (aD P 10 0) L L) L))))
noncomputable def tk27 (P : Params) (G : Gs) : BT := (N fz (N fz (N fz (N fz L (N (aD P 10 16) L L)) (N fz (N (aD P 9 5) L L) L)) (N fz (N (inO 218 347) (N (aD P 7 4) L L) (N (inO 218 859) L L)) (N (inO 218 475) (N (inO 218 731) L L) (N (oF (fnAt 23 none) 0 987) L L)))) (N fz (N (oC (fnAt 2 (some 22)) 1 188 396 401 145 2 true) (N fz (N (inO 218 571) L L) L) L) (N fz (N (aD P 1 12) (N (aD P 8 7) L L) L) (N (aD P 3 29) (N (inO 218 763) L L) L))))
noncomputable def tk28 (P : Params) (G : Gs) : BT := (N fz (N fz (N (oF (fnAt 6 (some 5)) 2 257) (N (aD P 3 31) L L) (N (inO 218 769) L L)) (N (aD P 1 14) (N (aD P 8 9) L L) L)) (N (oF (fnAt 2 (some 23)) 1 193) (N fz (N (inO 218 577) L L) L) (N fz L (N (oF (fnAt 19 none) 0 961) L L))))
noncomputable def tk29 (P : Params) (G : Gs) : BT := (N (oF (fnAt 2 (some 9)) 1 97) (N fz (N fz L (N (aD P 10 18) L L)) (N (inO 218 417) (N (aD P 9 7) L L) L)) (N fz (N (inO 218 353) (N (aD P 7 6) L L) (N (inO 218 865) L L)) (N (inO 218 481) (N (inO 218 737) L L) L)))
noncomputable def tk30 (P : Params) (G : Gs) : BT := (N fz (N fz (N (oC (fnAt 2 (some 16)) 1 146 346 354 115 4 true) (N fz (N (inO 218 529) L L) L) (N (inO 218 401) L (N (o914 P) L L))) (N fz (N fz L (N (aD P 10 34) L L)) (N (aD P 3 15) (N (aD P 9 23) L L) L))) (N fz (N fz (N (oC (fnAt 6 (some 12)) 2 306 580 585 280 1 true) L (N (inO 218 817) L L)) (N (inO 218 433) (N (inO 218 689) L L) L)) (N fz L (N fz (N (aD P 10 2) L L) L))))
noncomputable def tk31 (P : Params) (G : Gs) : BT := (N (oF (fnAt 2 (some 1)) 1 41) (N fz (N fz (N fz L (N (aD P 10 10) L L)) L) (N fz (N fz (N (inO 218 585) L L) (N (inO 218 841) L L)) (N (inO 218 457) (N (inO 218 713) L L) L))) (N fz (N fz (N fz (N (aD P 4 0) L L) L) L) (N fz (N (aD P 1 6) (N (aD P 8 1) L L) (N (aL 10) L L)) (N (aD P 3 23) (N (aL 9) L L) L))))
noncomputable def tk32 (P : Params) (G : Gs) : BT := (N fz (N fz (N (oF (fnAt 2 (some 17)) 1 153) (N fz (N (aD P 3 39) L L) (N (inO 218 793) L L)) (N (aD P 1 22) (N (inO 218 665) L L) L)) (N (o218 P) (N fz (N (inO 218 601) L L) L) L)) (N fz (N fz (N (oF (fnAt 6 (some 13)) 2 313) L (N (aD P 10 26) L L)) (N (aD P 3 7) (N (aD P 9 15) L L) (N (oC (fnAt 18 none) 0 954 3210 3215 395 2 true) L L))) (N (oC (fnAt 6 (some 4)) 2 250 520 525 194 1 true) (N (inO 218 377) (N (inO 218 633) L L) (N (o890 P) L L)) (N (inO 218 505) L L))))
noncomputable def tk33 (P : Params) (G : Gs) : BT := (N fz (N (oF (fnAt 2 (some 5)) 1 69) (N fz (N fz (N (inO 218 517) L L) L) (N (inO 218 389) (N (inO 218 645) L L) (N (o902 P) L L))) (N fz (N fz L (N (aD P 10 30) L L)) (N (aD P 3 11) (N (aD P 9 19) L L) L))) (N fz (N fz (N fz (N (aD P 3 43) L L) (N (inO 218 805) L L)) (N (inO 218 421) (N (inO 218 677) L L) (N (oF (fnAt 15 none) 0 933) L L))) (N G.o (N fz (N (o614 P) L L) L) L)))
noncomputable def tk34 (P : Params) (G : Gs) : BT := (N fz (N fz (N fz (N (oC (fnAt 6 (some 8)) 2 278 550 554 236 1 true) L (N (aD P 10 14) L L)) (N fz (N (aD P 9 3) L L) (N (o918 P) L L))) (N fz (N (aL 0) (N (aD P 7 2) L L) (N (inO 218 853) L L)) (N (inO 218 469) (N (inO 218 725) L L) L))) (N fz (N fz (N fz (N (inO 218 565) L L) L) L) (N fz (N (aD P 1 10) (N (aD P 8 5) L L) L) (N (aD P 3 27) (N (inO 218 757) L L) L))))
noncomputable def tk35 (P : Params) (G : Gs) : BT := (N fz (N fz (N fz (N fz (N (aD P 3 35) L L) (N (inO 218 781) L L)) (N (aD P 1 18) (N (inO 218 653) L L) L)) (N fz (N (oC (fnAt 6 (some 16)) 2 334 612 626 324 1 true) L L) L)) (N fz (N fz (N fz (N (inO 218 557) L L) (N (aD P 10 22) L L)) (N (aD P 3 3) (N (aD P 9 11) L L) L)) (N fz (N (inO 218 365) (N (inO 218 621) L L) (N (o878 P) L L)) (N (inO 218 493) L L))))
noncomputable def tk36 (P : Params) (G : Gs) : BT := (N (oC (fnAt 2 (some 4)) 1 62 238 243 24 2 true) (N fz (N fz (N (oF (fnAt 6 (some 9)) 2 285) (N (inO 218 541) L L) L) (N (aD P 2 0) L (N (oC (fnAt 14 none) 0 926 3186 3189 387 0 true) L L))) (N fz (N (aD P 1 2) L (N (aD P 10 38) L L)) (N (aD P 3 19) (N (aD P 9 27) L L) L))) (N fz (N fz (N fz (N (aD P 5 3) L L) (N (inO 218 829) L L)) (N (inO 218 445) (N (inO 218 701) L L) L)) (N fz L (N fz (N (aD P 10 6) L L) L))))
noncomputable def TKb (P : Params) (G : Gs) : BT := (N (boot_o_0 P) (N (boot_o_1 P) (N (oM P) (N (boot_o_7 P) (N fz (tk0 P G) (tk1 P G)) (N fz (tk2 P G) (tk3 P G))) (N fz (N fz (tk4 P G) (N fz (tk5 P G) (tk6 P G))) (N fz (tk7 P G) (tk8 P G)))) (N (boot_o_5 P) (N (boot_o_9 P) (N fz (tk9 P G) (tk10 P G)) (N fz (tk11 P G) (tk12 P G))) (N fz (N fz (tk13 P G) (tk14 P G)) (N fz (N fz (tk15 P G) (tk16 P G)) (tk17 P G))))) (N (oS P) (N (boot_o_4 P) (N (boot_o_8 P) (N fz (tk18 P G) (tk19 P G)) (N fz (N fz (tk20 P G) (tk21 P G)) (tk22 P G))) (N fz (N fz (tk23 P G) (N fz (tk24 P G) (tk25 P G))) (N fz (tk26 P G) (tk27 P G)))) (N (boot_o_6 P) (N (boot_o_10 P) (N fz (N (oC (fnAt 2 (some 0)) 1 34 208 212 7 1 true) (tk28 P G) (tk29 P G)) (tk30 P G)) (N fz (tk31 P G) (tk32 P G))) (N fz (N fz (tk33 P G) (tk34 P G)) (N fz (tk35 P G) (tk36 P G))))))
noncomputable def TK (P : Params) (G : Gs) : Kn := ⟨TKb P G, G.ro⟩
end Mine
end
section
open PySem PySem.W PyProof.Rows
set_option maxRecDepth 100000
set_option maxHeartbeats 0
namespace Mine
noncomputable def btO : BT → Obj
  | .nil => fz
  | .node o _ _ => o
noncomputable def btL : BT → BT
  | .nil => .nil
  | .node _ l _ => l
noncomputable def btR : BT → BT
  | .nil => .nil
  | .node _ _ r => r
noncomputable def ov (S : BT) : BT → BT := @BT.rec (fun _ => BT → BT) (fun _ => .nil) (fun o _ _ ihl ihr X => .node (match o.data with | .freed => btO X | _ => o) (ihl (btL X)) (ihr (btR X))) S
noncomputable def fullT (n : Nat) : Nat → Nat → Nat → BT → BT
  | 0, _, _, _ => .nil
  | f + 1, a, step, T => bif Nat.blt a n then .node (btO T) (fullT n f (a + step) (2 * step) (btL T)) (fullT n f (a + 2 * step) (2 * step) (btR T)) else .nil
noncomputable def putT : Nat → Nat → Obj → BT → BT
  | 0, _, _, T => T
  | f + 1, a, o, T => match T with
    | .nil => .nil
    | .node v l r => bif Nat.beq a 0 then .node o l r else bif Nat.beq (a % 2) 1 then .node v (putT f (a / 2) o l) r else .node v l (putT f (a / 2 - 1) o r)
noncomputable def over : BT → BT → BT
  | .nil, T => T
  | .node o l r, .nil => .node o l r
  | .node o l r, .node o' l' r' => .node (match o.data with | .freed => o' | _ => o) (over l l') (over r r')
noncomputable def nsL (P : Params) : List DictEntry := [en P "__module__" 468 (sv "snowballstemmer.hungarian_stemmer" 459), en P "__qualname__" 470 (sv "HungarianStemmer" 469), en P "__firstlineno__" 472 (iv 160 471), en P "g_v" 501 (.ref 230), en P "I_p1" 503 (iv 0 502), em P (fnAt 6 (some 2)) 512 237, em P (fnAt 6 (some 3)) 519 244, em P (fnAt 6 (some 4)) 527 251, em P (fnAt 6 (some 5)) 535 258, em P (fnAt 6 (some 6)) 542 265, em P (fnAt 6 (some 7)) 549 272, em P (fnAt 6 (some 8)) 556 279, em P (fnAt 6 (some 9)) 564 286, em P (fnAt 6 (some 10)) 572 293, em P (fnAt 6 (some 11)) 579 300, em P (fnAt 6 (some 12)) 587 307, em P (fnAt 6 (some 13)) 595 314, em P (fnAt 6 (some 14)) 603 321, em P (fnAt 6 (some 15)) 611 328, em P (fnAt 6 (some 16)) 628 335, en P "a_0" 657 (.ref 342), en P "as_0" 660 (.ref 343), en P "a_1" 1006 (.ref 413), en P "a_2" 1035 (.ref 420), en P "a_3" 1680 (.ref 553), en P "a_4" 1723 (.ref 563), en P "as_4" 1726 (.ref 564), en P "a_5" 1807 (.ref 583), en P "as_5" 1811 (.ref 584), en P "a_6" 1840 (.ref 591), en P "a_7" 1933 (.ref 613), en P "as_7" 1937 (.ref 614), en P "a_8" 2096 (.ref 651), en P "as_8" 2100 (.ref 652), en P "a_9" 2514 (.ref 746), en P "as_9" 2518 (.ref 747), en P "a_10" 3073 (.ref 874), en P "as_10" 3077 (.ref 875), en P "__static_attributes__" 3083 (.ref 876)]
noncomputable def nsH (P : Params) (k : Nat) : Obj := ⟨.type "dict", none, .dict ((nsL P).take k).toArray k, #[]⟩
noncomputable def oMa (P : Params) : Obj := ⟨.type "dict", none, .dict #[en P "__name__" 165 (sv "snowballstemmer.hungarian_stemmer" 459), en P "__doc__" 166 .none, en P "__package__" 167 .none, en P "__loader__" 168 (.builtin "__main__.__loader__#opaque"), en P "__spec__" 169 .none, en P "__annotations__" 170 (.ref 6), en P "__builtins__" 171 (.ref 4), en P "__file__" 173 (sv "/claim/cut.py" 172), en P "__cached__" 174 .none, en P "_wall" 193 (.ref 21), en P "BaseStemmer" 423 (.ref 197), en P "Among" 458 (.ref 218)] 12, #[]⟩
noncomputable def o197a (P : Params) : Obj := ⟨(.type "type"), none, (.cls { name := "BaseStemmer", bases := [(.type "object")], mro := [(.ref 197), (.type "object")], ns := 196, qualname := "BaseStemmer", hasDict := true, slotNames := [], subclasses := [], abstract := false, collection := none, hasDel := false }), #[none, none, (some (sv "BaseStemmer" 196)), (some (sv "BaseStemmer" 204)), (some (.builtin "object.__new__")), (some (.bool true))]⟩
noncomputable def o12 (P : Params) : Obj := ⟨.none, none, (.fields #[(iv 1 0), (iv 0 0), (.ref 20), (iv 5 0), (iv 0 0), (.ref 27), (iv 153 0), (iv 0 0), (.ref 207), (iv 160 0), (iv 0 0), (.ref 228)]), #[]⟩
noncomputable def o13 (P : Params) : Obj := ⟨(.type "code"), none, (.fields #[(sv "<module>" 182), (sv "<module>" 183), (sv "/claim/cut.py" 184), (iv 1 0), (iv 0 0), (iv 0 0), (iv 0 0), (iv 0 0), (.ref 11), (.bool false), (iv 181 0), (.ref 12), .none, .none, .none, .none, (iv 185 0), (iv 1 0), (sv "/claim/cut.py" 186)]), #[]⟩
noncomputable def o214 (P : Params) : Obj := ⟨(.type "code"), none, (.fields #[(sv "__init__" 438), (sv "Among.__init__" 439), (sv "/claim/cut.py" 440), (iv 155 0), (iv 4 0), (iv 0 0), (iv 0 0), (iv 3 0), (.ref 209), (.bool true), (iv 181 0), (.ref 210), .none, (.ref 211), (.ref 212), (.ref 213), (iv 445 0), (iv 155 0), (sv "/claim/cut.py" 446)]), #[]⟩
noncomputable def o215 (P : Params) : Obj := fnO (fnAt 4 (some 0)) (.type "function") "Among.__init__" 3 (sv "snowballstemmer.among" 424) (.ref 214) .none 0
noncomputable def etA : List Nat := [11, 15, 18, 22, 25, 29, 32, 36, 39, 43, 46, 50, 53, 57, 60, 64, 67, 71, 74, 78, 81, 85, 88, 92, 95, 99, 102, 106, 109, 113, 116, 120, 123, 127, 130, 134, 137, 141, 144, 148, 151, 155, 158, 162, 165, 169, 172, 176, 179, 183, 186, 190, 202, 205, 209, 212, 226, 231, 234, 238, 241, 245, 248, 252, 255, 259, 262, 266, 269, 273, 276, 280, 283, 287, 290, 294, 297, 301, 304, 308, 311, 315, 318, 322, 325, 329, 332]
noncomputable def tup0E : Obj := ⟨.type "tuple", none, .seq #[] 0, #[]⟩
noncomputable def sTab (P : Params) (G : Gs) (n k : Nat) : BT :=
  putT 12 225 (nsH P k) (putT 12 215 (o215 P) (putT 12 214 (o214 P) (putT 12 197 (o197a P) (putT 12 3 (oMa P) (putT 12 2 (boot_o_2 P) (putT 12 13 (o13 P) (putT 12 12 (o12 P) (putT 12 223 ⟨.type "tuple", none, .seq #[.ref 197] 0, #[]⟩ (etA.foldr (fun a T => putT 12 a tup0E T) (fullT n 12 0 1 (TKb P G)))))))))))
noncomputable abbrev dM : Mid := ⟨default, .nil, 0, 0⟩
noncomputable def stA (w : World) (es : Array (Int × Value)) (ep : Nat) (t : SetTable) (p : Pos) : Option Mid :=
  (pre w).bind fun X => (postA w (setObj es ep t) p X).bind fun m => postB w X X.r1 m
theorem stA_self : stA = stA := rfl
noncomputable def stB (w : World) (T : BT) (p : Pos) : Option Mid := (pre w).bind fun X => postB w X X.r2 ⟨p, T, 421, 1036⟩
theorem stB_self : stB = stB := rfl
noncomputable def stC (w : World) (T : BT) (p : Pos) : Option Mid := (pre w).bind fun X => postB w X X.r3 ⟨p, T, 584, 1808⟩
theorem stC_self : stC = stC := rfl
noncomputable def stD (w : World) (T : BT) (p : Pos) : Option (BT × Nat) := (pre w).bind fun X => (postB w X X.r4 ⟨p, T, 748, 2519⟩).bind fun m => (postE w X m).map fun F => (F.T, F.n)
theorem stD_self : stD = stD := rfl
end Mine
open PySem.W.Fast
name_quick stAq for Mine.stA by Mine.stA_self
name_quick stBq for Mine.stB by Mine.stB_self
name_quick stCq for Mine.stC by Mine.stC_self
name_quick stDq for Mine.stD by Mine.stD_self
end
section
open PySem PySem.W PyProof.Rows
set_option maxRecDepth 100000
set_option maxHeartbeats 0
namespace Mine
theorem stA_val (w : World) (es : Array (Int × Value)) (ep : Nat) (t : SetTable) (p : Pos) : PySem.W.Fast.stAq w es ep t p = some ⟨((PySem.W.Fast.stAq w es ep t p).getD dM).p, ov (sTab w.params ⟨es, ep, t, []⟩ 421 24) ((PySem.W.Fast.stAq w es ep t p).getD dM).T, 421, 1036⟩ := by kernel_rfl
end Mine
end
section
open PySem PySem.W PyProof.Rows
set_option maxRecDepth 100000
set_option maxHeartbeats 0
namespace Mine
theorem stB_val (w : World) (G : Gs) (T : BT) (p : Pos) : PySem.W.Fast.stBq w (ov (sTab w.params G 421 24) T) p = some ⟨((PySem.W.Fast.stBq w (ov (sTab w.params G 421 24) T) p).getD dM).p, ov (sTab w.params G 584 28) ((PySem.W.Fast.stBq w (ov (sTab w.params G 421 24) T) p).getD dM).T, 584, 1808⟩ := by kernel_rfl
end Mine
end
section
open PySem PySem.W PyProof.Rows
set_option maxRecDepth 100000
set_option maxHeartbeats 0
namespace Mine
theorem stC_val (w : World) (G : Gs) (T : BT) (p : Pos) : PySem.W.Fast.stCq w (ov (sTab w.params G 584 28) T) p = some ⟨((PySem.W.Fast.stCq w (ov (sTab w.params G 584 28) T) p).getD dM).p, ov (sTab w.params G 748 36) ((PySem.W.Fast.stCq w (ov (sTab w.params G 584 28) T) p).getD dM).T, 748, 2519⟩ := by kernel_rfl
end Mine
end
section
open PySem PySem.W PyProof.Rows
set_option maxRecDepth 100000
set_option maxHeartbeats 0
namespace Mine
theorem stD_val (w : World) (G : Gs) (T : BT) (p : Pos) : PySem.W.Fast.stDq w (ov (sTab w.params G 748 36) T) p = some (over (TKb w.params G) ((PySem.W.Fast.stDq w (ov (sTab w.params G 748 36) T) p).getD (.nil, 0)).1, 989) := by kernel_rfl
end Mine
end
section
open PySem PySem.W PyProof.Rows
set_option maxRecDepth 100000
namespace Mine
theorem mid_of {x : Option Mid} {S : BT} {n k : Nat} (h : x = some ⟨(x.getD dM).p, ov S (x.getD dM).T, n, k⟩) : ∃ p T, x = some ⟨p, T, n, k⟩ ∧ ov S T = T := by
  cases x with
  | none => cases h
  | some m =>
    obtain ⟨p, T, n', k'⟩ := m
    injection Option.some.inj h with h1 h2 h3 h4
    subst h3 h4
    exact ⟨p, T, rfl, h2.symm⟩
theorem post_ok {w : World} {X : PreR} (hX : pre w = some X) (es : Array (Int × Value)) (ep : Nat) (t : SetTable) (p : Pos) :
    ∃ F, post w (setObj es ep t) p X = some F ∧ over (TKb w.params ⟨es, ep, t, []⟩) F.T = F.T ∧ F.n = 989 := by
  have hA := stA_val w es ep t p
  rw [← PySem.W.Fast.stAq_eq] at hA
  obtain ⟨pA, TA, eA, oA⟩ := mid_of hA
  have fA : (postA w (setObj es ep t) p X).bind (fun m => postB w X X.r1 m) = some ⟨pA, TA, 421, 1036⟩ := by
    rw [← eA]; unfold stA; rw [hX]; rfl
  have hB := stB_val w ⟨es, ep, t, []⟩ TA pA
  rw [oA, ← PySem.W.Fast.stBq_eq] at hB
  obtain ⟨pB, TB, eB, oB⟩ := mid_of hB
  have fB : postB w X X.r2 ⟨pA, TA, 421, 1036⟩ = some ⟨pB, TB, 584, 1808⟩ := by
    rw [← eB]; unfold stB; rw [hX]; rfl
  have hC := stC_val w ⟨es, ep, t, []⟩ TB pB
  rw [oB, ← PySem.W.Fast.stCq_eq] at hC
  obtain ⟨pC, TC, eC, oC⟩ := mid_of hC
  have fC : postB w X X.r3 ⟨pB, TB, 584, 1808⟩ = some ⟨pC, TC, 748, 2519⟩ := by
    rw [← eC]; unfold stC; rw [hX]; rfl
  have hD := stD_val w ⟨es, ep, t, []⟩ TC pC
  rw [oC, ← PySem.W.Fast.stDq_eq] at hD
  have fD : stD w TC pC = (postB w X X.r4 ⟨pC, TC, 748, 2519⟩).bind fun m => (postE w X m).map fun F => (F.T, F.n) := by
    unfold stD; rw [hX]; rfl
  rw [fD] at hD
  obtain ⟨m4, f4, hE⟩ := Option.bind_eq_some_iff.mp hD
  obtain ⟨F, f5, hF⟩ := Option.map_eq_some_iff.mp hE
  obtain ⟨m0, g0, g1⟩ := Option.bind_eq_some_iff.mp fA
  refine ⟨F, ?_, ?_, congrArg Prod.snd hF⟩
  · unfold post
    rw [g0, Option.bind_some, g1, Option.bind_some, fB, Option.bind_some, fC, Option.bind_some, f4, Option.bind_some, f5]
  · have e : (((postB w X X.r4 ⟨pC, TC, 748, 2519⟩).bind fun m => (postE w X m).map fun F => (F.T, F.n)).getD (.nil, 0)).1 = F.T := by
      rw [f4, Option.bind_some, f5]; rfl
    rw [e] at hF
    exact (congrArg Prod.fst hF).symm
end Mine
end
section
open PySem PySem.W PyProof.Rows
set_option maxRecDepth 100000
namespace Mine
noncomputable def ixs : BT → List Nat
  | .nil => []
  | .node _ l r => 0 :: ((ixs l).map (fun i => 2 * i + 1) ++ (ixs r).map (fun i => 2 * i + 2))
theorem get_ixs : ∀ (t : BT) (a : Nat) (o : Obj), t.get a = some o → a ∈ ixs t
  | .nil, a, o, h => by cases h
  | .node v l r, a, o, h => by
    rw [BT.get_node] at h
    unfold ixs
    by_cases h0 : a = 0
    · subst h0; exact .head _
    · rw [if_neg h0] at h
      refine .tail _ (List.mem_append.mpr ?_)
      by_cases h1 : a % 2 = 1
      · rw [if_pos h1] at h
        exact .inl (List.mem_map.mpr ⟨a / 2, get_ixs l _ o h, by lia⟩)
      · rw [if_neg h1] at h
        exact .inr (List.mem_map.mpr ⟨a / 2 - 1, get_ixs r _ o h, by lia⟩)
theorem tk_ixs (P : Params) (G : Gs) : ((ixs (TKb P G)).all fun i => Nat.blt i 989) = true := by kernel_rfl
theorem tk_low {P : Params} {G : Gs} {a : Nat} {o : Obj} (h : (TKb P G).get a = some o) : a < 989 :=
  Nat.le_of_ble_eq_true (List.all_eq_true.mp (tk_ixs P G) a (get_ixs _ _ _ h))
noncomputable abbrev Rl (w : World) (G : Gs) (s₀ : Shared) (X : XS) (st : St) (s : Shared) : Prop := Rel s₀ X 989 (TK w.params G) st s
section
variable {w : World} {G : Gs} {s₀ s s' : Shared} {X : XS} {st : St} {a d : Nat} {ia ia' od od' : Obj} {rest ex : St}
theorem Rel.cut {l l' : St} (R : Rl w G s₀ X (l ++ l') s) : Rl w G s₀ X l s :=
  ⟨R.K, R.low, fun p hp => R.S p (List.mem_append_left _ hp), fun p hp => R.hi p (List.mem_append_left _ hp), by have := R.nd; rw [List.map_append] at this; exact (List.nodup_append.mp this).1,
    fun p hp => R.mod p (List.mem_append_left _ hp), R.keep, R.size, R.n0, R.gens, R.drawn, R.os, R.ro, R.keepF, fun p hp => R.sf p (List.mem_append_left _ hp), R.fl, R.liv, R.fr⟩
theorem Rel.perm {l l' : St} (R : Rl w G s₀ X l s) (h : l.Perm l') : Rl w G s₀ X l' s :=
  ⟨R.K, R.low, fun p hp => R.S p (h.mem_iff.mpr hp), fun p hp => R.hi p (h.mem_iff.mpr hp), (h.map _).nodup_iff.mp R.nd, fun p hp => R.mod p (h.mem_iff.mpr hp), R.keep, R.size, R.n0, R.gens, R.drawn, R.os, R.ro, R.keepF,
    fun p hp => R.sf p (h.mem_iff.mpr hp), R.fl, R.liv, R.fr⟩
theorem Rel.localF (R : Rl w G s₀ X st s) {l : St} (hl : ∀ p ∈ l, p ∈ st) (nd : (l.map (·.1)).Nodup) {F : List Nat} (hF : ∀ b ∈ F, b ∉ l.map (·.1) ∧ 989 ≤ b ∧ ∃ o, s.heap.get? b = some o) {fl : Option (List Env)}
    (hfl : ∀ l', fl = some l' → ∀ e ∈ l', (e.scope.kind != .module) = true ∧ ∃ f o, e.frame = some f ∧ 989 ≤ f ∧ s.heap.get? f = some o ∧ (f ∈ l.map (·.1) ∨ f ∈ F)) : Rl w G s ⟨l.map (·.1), F, fl⟩ l s :=
  ⟨R.K, R.low, fun p hp => R.S p (hl p hp), fun p hp => R.hi p (hl p hp), nd, fun p hp => .inl (List.mem_map_of_mem hp), fun _ _ e _ _ => e, Nat.le_refl _, Nat.le_trans R.n0 R.size, rfl, rfl, rfl, R.ro,
    fun b _ o e => ⟨o.slots, e⟩, fun p hp h => (hF _ h).1 (List.mem_map_of_mem hp), fun b hb => by obtain ⟨h9, o, e⟩ := (hF b hb).2; exact ⟨h9, Heap.lt_size e⟩, fun b o e => ⟨o, e⟩, hfl⟩
theorem Rel.local (R : Rl w G s₀ X st s) {l : St} (hl : ∀ p ∈ l, p ∈ st) (nd : (l.map (·.1)).Nodup) : Rl w G s ⟨l.map (·.1), [], none⟩ l s :=
  Rel.localF R hl nd (fun _ h => absurd h List.not_mem_nil) (fun _ h => by cases h)
theorem Rel.lift {X' : XS} {st' l' : St} (R : Rl w G s₀ X st s) (R' : Rl w G s X' l' s') (hX : ∀ x ∈ X'.m, x ∈ st.map (·.1)) (hXf : ∀ x ∈ X'.f, x ∈ st.map (·.1) ∨ x ∈ X.f) (ha : st'.map (·.1) = st.map (·.1))
    (hm : ∀ p ∈ st', p ∈ l' ∨ (p ∈ st ∧ p.1 ∉ X'.m ∧ p.1 ∉ X'.f) ∨ s'.heap.get? p.1 = some p.2) : Rl w G s₀ X st' s' := by
  have hmem : ∀ p ∈ st', p.1 ∈ st.map (·.1) := fun p hp => ha ▸ List.mem_map_of_mem hp
  refine ⟨R'.K, R.low, fun p hp => ?_, fun p hp => ?_, by rw [ha]; exact R.nd, fun p hp => ?_, fun b o e hb hf => ?_, Nat.le_trans R.size R'.size, R.n0, R'.gens.trans R.gens, R'.drawn.trans R.drawn, R'.os.trans R.os, R'.ro,
    fun b hb o e => ?_, fun p hp => ?_, R.fl, fun b o e => ?_, R.fr⟩
  · rcases hm p hp with q | ⟨q, q2, q3⟩ | q
    · exact R'.S p q
    · exact R'.keep _ _ (R.S p q) q2 q3
    · exact q
  · obtain ⟨q, hq, e⟩ := List.mem_map.mp (hmem p hp)
    rw [← e]; exact R.hi q hq
  · obtain ⟨q, hq, e⟩ := List.mem_map.mp (hmem p hp)
    rw [← e]; exact R.mod q hq
  · have e1 := R.keep b o e hb hf
    have hst : b ∉ st.map (·.1) := fun q => by
      obtain ⟨z, hz, ez⟩ := List.mem_map.mp q
      rcases R.mod z hz with y | y
      · exact hb (ez ▸ y)
      · rw [ez] at y
        exact absurd (Heap.lt_size e) (Nat.not_lt.mpr y)
    exact R'.keep b o e1 (fun q => hst (hX b q)) fun q => (hXf b q).elim hst hf
  · obtain ⟨sl, e1⟩ := R.keepF b hb o e
    have hst : b ∉ st.map (·.1) := fun q => by
      obtain ⟨z, hz, ez⟩ := List.mem_map.mp q
      exact R.sf z hz (ez ▸ hb)
    by_cases q : b ∈ X'.f
    · obtain ⟨sl', e2⟩ := R'.keepF b q _ e1
      exact ⟨sl', e2⟩
    · exact ⟨sl, R'.keep b _ e1 (fun q => hst (hX b q)) q⟩
  · obtain ⟨q, hq, e⟩ := List.mem_map.mp (hmem p hp)
    rw [← e]; exact R.sf q hq
  · obtain ⟨o', e1⟩ := R.liv b o e
    exact R'.liv b o' e1
theorem Rel.liftEx {X' : XS} {stk rest rest' st2 ex : St} (R : Rl w G s₀ X (stk ++ rest) s) (R' : Rl w G s X' (st2 ++ ex) s') (hX : ∀ x ∈ X'.m, x ∈ (stk ++ rest).map (·.1)) (hXf : ∀ x ∈ X'.f, x ∈ (stk ++ rest).map (·.1) ∨ x ∈ X.f) (ha : (st2 ++ rest').map (·.1) = (stk ++ rest).map (·.1))
    (hex : ∀ p ∈ ex, s.heap.objs.size ≤ p.1) (hm : ∀ p ∈ rest', (p ∈ rest ∧ p.1 ∉ X'.m ∧ p.1 ∉ X'.f) ∨ s'.heap.get? p.1 = some p.2) : Rl w G s₀ X (st2 ++ rest' ++ ex) s' := by
  have R1 : Rl w G s₀ X (st2 ++ rest') s' := Rel.lift R (Rel.cut R') hX hXf ha fun p hp => by
    rcases List.mem_append.mp hp with q | q
    · exact .inl q
    · rcases hm p q with ⟨q1, q2⟩ | q
      · exact .inr (.inl ⟨List.mem_append_right _ q1, q2⟩)
      · exact .inr (.inr q)
  have hlt : ∀ p ∈ st2 ++ rest', p.1 < s.heap.objs.size := fun p hp => by
    have : p.1 ∈ (stk ++ rest).map (·.1) := ha ▸ List.mem_map_of_mem hp
    obtain ⟨q, hq, e⟩ := List.mem_map.mp this
    rw [← e]; exact Heap.lt_size (R.S q hq)
  have hse : ∀ p ∈ ex, p ∈ st2 ++ ex := fun p hp => List.mem_append_right _ hp
  refine ⟨R1.K, R1.low, fun p hp => ?_, fun p hp => ?_, ?_, fun p hp => ?_, R1.keep, R1.size, R1.n0, R1.gens, R1.drawn, R1.os, R1.ro, R1.keepF, fun p hp => ?_, R1.fl, R1.liv, R1.fr⟩
  · rcases List.mem_append.mp hp with q | q
    · exact R1.S p q
    · exact R'.S p (hse p q)
  · rcases List.mem_append.mp hp with q | q
    · exact R1.hi p q
    · exact R'.hi p (hse p q)
  · rw [List.map_append]
    refine List.nodup_append.mpr ⟨R1.nd, ?_, fun x hx y hy e => ?_⟩
    · have := R'.nd; rw [List.map_append] at this; exact (List.nodup_append.mp this).2.1
    · obtain ⟨p, hp, rfl⟩ := List.mem_map.mp hx
      obtain ⟨q, hq, rfl⟩ := List.mem_map.mp hy
      have h1 := hlt p hp
      have h2 := hex q hq
      lia
  · rcases List.mem_append.mp hp with q | q
    · exact R1.mod p q
    · exact .inr (Nat.le_trans R.size (hex p q))
  · rcases List.mem_append.mp hp with q | q
    · exact R1.sf p q
    · exact fun h => by
        have h1 := (R1.fl _ h).2
        have h2 := hex p q
        have h3 := R.size
        lia
theorem noLimit_of (R : Rl w G s₀ X st s) : s.heap.NoLimit := by
  have h2 : s.heap.get? 2 = some (oS w.params) := R.K 2 _ rfl rfl
  have hi : s.heap.isNs cStatics = true := by
    unfold Heap.isNs
    show (match s.heap.get? 2 with | some o => _ | none => false) = true
    rw [h2]
    kernel_rfl
  refine ⟨_, .of_isNs hi, ?_⟩
  unfold Heap.nsMap
  show (match s.heap.get? 2 with | some o => _ | none => none) = none
  rw [h2]
  kernel_rfl
end
noncomputable def fenv (f L : Nat) (st : Stmt) (qual : PySem.Str) (cd : Nat) : Env :=
  { scope := fnScope st, locals := L, globals := 3, cells := [], qual := qual ++ ".<locals>.", func := some f, code := .ref cd, frame := some L, builtins := 0 }
noncomputable def frO (es : List DictEntry) (n : Nat) : Obj := ⟨.type "frame", none, .dict es.toArray n, #[]⟩
noncomputable def noHk : Hk := fun _ _ => (.ok .next, id)
noncomputable def frEs (P : Params) (ts : Nat → Nat) : Nat → List (PySem.Str × Value) → List DictEntry
  | _, [] => []
  | i, (x, v) :: r => en P x (ts i) v :: frEs P ts (i + 1) r
noncomputable def codeOk (T : BT) (cd : Nat) (qual : PySem.Str) : Bool := match T.get cd with
  | some o => (match o.data with
    | .fields vs => (match nth vs.toList 1 with | some (.str n _) => n == qual | _ => false)
    | _ => false)
  | none => false
theorem nth_eq {α : Type} : ∀ (l : List α) (n : Nat), nth l n = l[n]?
  | [], _ => rfl
  | a :: l, 0 => rfl
  | a :: l, n + 1 => by show nth l n = _; rw [nth_eq l n]; rfl
structure FnAt (w : World) (G : Gs) (f : Nat) (st : Stmt) (qual : PySem.Str) (cd : Nat) : Prop where
  fn : ∃ pm, (TKb w.params G).get f = some (fnO st (.type "function") qual 3 pm (.ref cd) .none 0)
  code : ∃ o vs t, (TKb w.params G).get cd = some o ∧ o.data = .fields vs ∧ vs[1]? = some (Value.str qual t)
  co : (fnScope st).isCoroutine = false
  gen : (fnScope st).isGenerator = false
theorem FnAt.mk' {w : World} {G : Gs} {f : Nat} {st : Stmt} {qual : PySem.Str} {cd : Nat} (pm : Value) (h1 : (TKb w.params G).get f = some (fnO st (.type "function") qual 3 pm (.ref cd) .none 0))
    (h2 : codeOk (TKb w.params G) cd qual = true) (h3 : (fnScope st).isCoroutine = false) (h4 : (fnScope st).isGenerator = false) : FnAt w G f st qual cd := by
  refine ⟨⟨pm, h1⟩, ?_, h3, h4⟩
  unfold codeOk at h2
  split at h2
  · rename_i o ho
    split at h2
    · rename_i vs hd
      split at h2
      · rename_i n t hn
        rw [nth_eq] at hn
        refine ⟨o, vs, t, ho, hd, ?_⟩
        rw [← beq_iff_eq.mp h2, ← hn]
        exact (Array.getElem?_toList).symm
      · cases h2
    · cases h2
  · cases h2
noncomputable def FRs (l : List Env) : List Nat := l.filterMap (·.frame)
theorem FRs_mem {l : List Env} {f : Nat} : f ∈ FRs l ↔ ∃ e ∈ l, e.frame = some f := List.mem_filterMap
noncomputable def FrOk (s : Shared) (l : List Env) : Prop := ∀ e ∈ l, (e.scope.kind != .module) = true ∧ ∃ f o, e.frame = some f ∧ 989 ≤ f ∧ s.heap.get? f = some o
theorem fn_enter {w : World} {G : Gs} {f : Nat} {st : Stmt} {qual : PySem.Str} {cd : Nat} (H : FnAt w G f st qual cd) {args : List Value} {binds : List (PySem.Str × Value)} {A : Around} {R : Result → Shared → Prop} {s₀ s : Shared} {X : XS} {stk : St} {D fuel : Nat} {acts : List Nat} {as : Code → Option Value → Option Value → List (Code × Pos) → Pos → Sg → List (Nat × Nat)}
    (hb : ∀ pm, bindArgs (fnD st qual 3 pm (.ref cd) .none 0) ⟨args, []⟩ = pure binds)
    (hE : ∀ (c : Code) (own past : Option Value) (below : List (Code × Pos)) (p : Pos) σ, evQ P0 w (TK w.params G) noHk σ (evQC P0 w (TK w.params G) noHk σ fuel) 0 ⟨c, none, own, below, past⟩ kEnd
      (newFunctionEnv (fnScope st) 3 [] binds (qual ++ ".<locals>.") (some f) (.ref cd) none 0) p acts stk 0 0 0 = some ⟨.ok (fenv f (σ.xs 0) st qual cd), push stk (σ.xs 0, frO (frEs w.params σ.ts 0 binds) binds.length), (as c own past below p σ).map (fun q => (q.2, q.2)), []⟩)
    (hA : A.handled = none) (hD : A.depth ≤ D) (hF : ∀ l, X.l = some l → A.frames = some l) (hD' : D < 900) (hR : Rl w G s₀ X stk s)
    (hB : ∀ L ts s', Rl w G s₀ X (stk ++ [(L, frO (frEs w.params ts 0 binds) binds.length)]) s' → codeAny (model P0 w) A (.func (fnBody st) (fenv f L st qual cd)) R s') :
    codeAny (model P0 w) A (.call (.ref f) ⟨args, []⟩) R s := by
  obtain ⟨pm, hf⟩ := H.fn
  obtain ⟨co, vs, t, hc, hcd, hv⟩ := H.code
  have hcl : alive co = some co := by obtain ⟨_, _, dt, _⟩ := co; dsimp only at hcd; subst hcd; rfl
  have hlim : recursionLimit = 1000 := rfl
  refine codeAny_call_function (by lia) (hR.K _ _ hf rfl) rfl H.co H.gen rfl ⟨cd, _, vs, t, rfl, hR.K _ _ hc hcl, hcd, hv⟩ ?_
  rw [hb pm]
  refine wpAny_pure ?_
  have := evQ_any (s₀ := s₀) (X := X) (N0 := 989) (D := D) (A := A.in1) (fuel := fuel) (t := newFunctionEnv (fnScope st) 3 [] binds (qual ++ ".<locals>.") (some f) (.ref cd) none 0)
    (Post := fun out s' => ∃ L ts, out = .ok (fenv f L st qual cd) ∧ Rl w G s₀ X (stk ++ [(L, frO (frEs w.params ts 0 binds) binds.length)]) s') (F := fun c own past below p σ => ⟨.ok (fenv f (σ.xs 0) st qual cd), push stk (σ.xs 0, frO (frEs w.params σ.ts 0 binds) binds.length), (as c own past below p σ).map (fun q => (q.2, q.2)), []⟩) hE hA hD hF
    (fun c own past below p σ => ⟨fun q hq => by obtain ⟨z, _, rfl⟩ := List.mem_map.mp hq; rfl, fun c hc => (nomatch hc), fun s' R' => ⟨_, _, rfl, by rw [push_eq] at R'; exact R'⟩⟩) hR
  refine wpAny_mono this (fun env s' q => ?_) (fun e s' q => ?_)
  · obtain ⟨L, ts, e, R'⟩ := q
    obtain rfl : env = fenv f L st qual cd := by cases e; rfl
    exact ⟨noLimit_of R', hB L ts s' R'⟩
  · obtain ⟨L, ts, e, _⟩ := q
    cases e
theorem fn_run {w : World} {G : Gs} {f : Nat} {st : Stmt} {qual : PySem.Str} {cd : Nat} (H : FnAt w G f st qual cd) {args : List Value} {binds : List (PySem.Str × Value)} {A : Around} {s : Shared} {stk : St} {D fuel : Nat} {acts : List Nat} {as : Code → Option Value → Option Value → List (Code × Pos) → Pos → Sg → List (Nat × Nat)}
    {l : List Env} {kn : Bool} {Post : Result → St → St → Prop}
    (hb : ∀ pm, bindArgs (fnD st qual 3 pm (.ref cd) .none 0) ⟨args, []⟩ = pure binds)
    (hE : ∀ (c : Code) (own past : Option Value) (below : List (Code × Pos)) (p : Pos) σ, evQ P0 w (TK w.params G) noHk σ (evQC P0 w (TK w.params G) noHk σ fuel) 0 ⟨c, none, own, below, past⟩ kEnd
      (newFunctionEnv (fnScope st) 3 [] binds (qual ++ ".<locals>.") (some f) (.ref cd) none 0) p acts stk 0 0 0 = some ⟨.ok (fenv f (σ.xs 0) st qual cd), push stk (σ.xs 0, frO (frEs w.params σ.ts 0 binds) binds.length), (as c own past below p σ).map (fun q => (q.2, q.2)), []⟩)
    (hA : A.handled = none) (hD : A.depth ≤ D) (hD' : D < 900) (hk : ((fnScope st).kind != .module) = true) (hfr : kn = true → A.frames = some l ∧ FrOk s l) (hR : Rl w G s ⟨stk.map (·.1), if kn then FRs l else [], none⟩ stk s)
    (hB : ∀ L ts s', let X : XS := ⟨(stk.map (·.1)) ++ [L], if kn then FRs l else [], if kn then some (fenv f L st qual cd :: l) else none⟩
      Rl w G s' X (stk ++ [(L, frO (frEs w.params ts 0 binds) binds.length)]) s' → codeAny (model P0 w) A (.func (fnBody st) (fenv f L st qual cd)) (fun r s'' => ∃ st2 oL ex, Post r st2 ex ∧ st2.map (·.1) = stk.map (·.1) ∧ Rl w G s' X (st2 ++ (L, oL) :: ex) s'') s') :
    codeAny (model P0 w) A (.call (.ref f) ⟨args, []⟩) (fun r s'' => ∃ st2 ex, Post r st2 ex ∧ st2.map (·.1) = stk.map (·.1) ∧ Rl w G s ⟨stk.map (·.1), if kn then FRs l else [], none⟩ (st2 ++ ex) s'') s := by
  refine fn_enter H hb hE hA hD (fun l h => by cases h) hD' hR fun L ts s' R' => ?_
  have hmap : ((stk ++ [(L, frO (frEs w.params ts 0 binds) binds.length)]).map (·.1)) = stk.map (·.1) ++ [L] := by rw [List.map_append]; rfl
  have R'' : Rl w G s' ⟨(stk.map (·.1)) ++ [L], if kn then FRs l else [], if kn then some (fenv f L st qual cd :: l) else none⟩ (stk ++ [(L, frO (frEs w.params ts 0 binds) binds.length)]) s' := by
    rw [← hmap]
    refine Rel.localF R' (fun p hp => hp) R'.nd (fun b hb => ⟨fun q => ?_, ?_⟩) (fun l' hl' e he => ?_)
    · obtain ⟨z, hz, ez⟩ := List.mem_map.mp q
      exact R'.sf z hz (ez ▸ hb)
    · cases kn with
      | false => cases hb
      | true =>
        obtain ⟨e, he, hf⟩ := FRs_mem.mp hb
        obtain ⟨_, f', o, h1, h9, h2⟩ := (hfr rfl).2 e he
        have : b = f' := by rw [hf] at h1; exact Option.some.inj h1
        subst this
        exact ⟨h9, R'.liv _ _ h2⟩
    · cases kn with
      | false => cases hl'
      | true =>
        cases hl'
        rcases List.mem_cons.mp he with rfl | he
        · exact ⟨hk, L, _, rfl, R'.hi (L, _) (List.mem_append_right _ (.head _)), R'.S (L, _) (List.mem_append_right _ (.head _)), .inl (by rw [hmap]; exact List.mem_append_right _ (.head _))⟩
        · obtain ⟨h0, f', o, h1, h9, h2⟩ := (hfr rfl).2 e he
          obtain ⟨o', h3⟩ := R'.liv _ _ h2
          exact ⟨h0, f', o', h1, h9, h3, .inr (FRs_mem.mpr ⟨e, he, h1⟩)⟩
  refine codeAny_mono (hB L ts s' R'') fun r s'' q => ?_
  obtain ⟨st2, oL, ex, hp, hm, R3⟩ := q
  refine ⟨st2, ex, hp, hm, ?_⟩
  have R4 : Rl w G s' ⟨(stk.map (·.1)) ++ [L], if kn then FRs l else [], if kn then some (fenv f L st qual cd :: l) else none⟩ ((st2 ++ [(L, oL)]) ++ ex) s'' := by rw [List.append_assoc]; exact R3
  have hm2 : ((st2 ++ [(L, oL)]).map (·.1)) = stk.map (·.1) ++ [L] := by rw [List.map_append, hm]; rfl
  have hex : ∀ p ∈ ex, s'.heap.objs.size ≤ p.1 := fun p hp => by
    rcases R4.mod p (List.mem_append_right _ hp) with z | z
    · exfalso
      have nd := R4.nd
      rw [List.map_append] at nd
      exact (List.nodup_append.mp nd).2.2 p.1 (by rw [hm2]; exact z) p.1 (List.mem_map_of_mem hp) rfl
    · exact z
  have R0 : Rl w G s ⟨stk.map (·.1), if kn then FRs l else [], none⟩ ((stk ++ [(L, frO (frEs w.params ts 0 binds) binds.length)]) ++ []) s' := by rw [List.append_nil]; exact R'
  have := Rel.liftEx (rest' := []) (st2 := st2 ++ [(L, oL)]) R0 R4 (fun x hx => by rw [List.append_nil, hmap]; exact hx) (fun x hx => .inr hx) (by rw [List.append_nil, List.append_nil, hm2, hmap]) hex (fun p hp => by cases hp)
  refine Rel.cut (l' := [(L, oL)]) (Rel.perm this ?_)
  rw [List.append_nil, List.append_assoc, List.append_assoc]
  exact List.Perm.append_left _ List.perm_append_comm
end Mine
end
section
open PySem PySem.W PyProof.Rows
set_option maxRecDepth 100000
section
namespace Mine
structure Sm where
  cur : PySem.Str
  cu : Int
  li : Int
  lb : Int
  br : Int
  ke : Int
  p1 : Int
  full : Bool
noncomputable abbrev Sm.F (m : Sm) : Sm := ⟨m.cur, m.cu, m.li, m.lb, m.br, m.ke, m.p1, true⟩
theorem Sm.F_eq {m : Sm} (h : m.full = true) : m.F = m := by cases m; cases h; rfl
noncomputable abbrev Tm := (Nat → Tok) → (Nat → Tok) → Obj
noncomputable def dictT (P : Params) (m : Sm) : Tm := fun k v =>
  @Bool.rec (fun _ => Obj)
    ⟨.type "dict", none, .dict #[en P "current" (k 0) (.str m.cur (v 0)), en P "cursor" (k 1) (.int m.cu (v 1)), en P "limit" (k 2) (.int m.li (v 2)), en P "limit_backward" (k 3) (.int m.lb (v 3)),
      en P "bra" (k 4) (.int m.br (v 4)), en P "ket" (k 5) (.int m.ke (v 5))] 6, #[]⟩
    ⟨.type "dict", none, .dict #[en P "current" (k 0) (.str m.cur (v 0)), en P "cursor" (k 1) (.int m.cu (v 1)), en P "limit" (k 2) (.int m.li (v 2)), en P "limit_backward" (k 3) (.int m.lb (v 3)),
      en P "bra" (k 4) (.int m.br (v 4)), en P "ket" (k 5) (.int m.ke (v 5)), en P "I_p1" (k 6) (.int m.p1 (v 6))] 7, #[]⟩ m.full
noncomputable def frL (P : Params) (k v : Nat → Tok) : Nat → List (PySem.Str × (Tok → Value)) → List DictEntry
  | _, [] => []
  | i, (x, f) :: r => en P x (k i) (f (v i)) :: frL P k v (i + 1) r
noncomputable def frT (P : Params) (l : List (PySem.Str × (Tok → Value))) : Tm := fun k v => frO (frL P k v 0 l) l.length
noncomputable abbrev selfSt (P : Params) (a d : Nat) (k v : Nat → Tok) (m : Sm) : St := [(a, inO 878 d), (d, dictT P m k v)]
noncomputable def tokOf : Value → Tok
  | .int _ t => t
  | .str _ t => t
  | _ => 0
noncomputable def kTokO (o : Obj) (i : Nat) : Tok := match o.data with
  | .dict es _ => (match nth es.toList i with | some e => tokOf e.key | none => 0)
  | _ => 0
noncomputable def vTokO (o : Obj) (i : Nat) : Tok := match o.data with
  | .dict es _ => (match nth es.toList i with | some e => tokOf e.val | none => 0)
  | .fields vs => (match nth vs.toList i with | some v => tokOf v | none => 0)
  | .seq vs _ => (match nth vs.toList i with | some v => tokOf v | none => 0)
  | _ => 0
noncomputable def kTok (st : St) (i j : Nat) : Tok := match nth st i with | some p => kTokO p.2 j | none => 0
noncomputable def vTok (st : St) (i j : Nat) : Tok := match nth st i with | some p => vTokO p.2 j | none => 0
noncomputable def addrAt (st : St) (i : Nat) : Nat := match nth st i with | some p => p.1 | none => 0
noncomputable def dropN : Nat → St → St
  | 0, l => l
  | _ + 1, [] => []
  | n + 1, _ :: l => dropN n l
noncomputable def selfPre (P : Params) (a d : Nat) (m : Sm) (st : St) : St := (a, inO 878 d) :: (d, dictT P m (kTok st 1) (vTok st 1)) :: dropN 2 st
noncomputable def framePre (P : Params) (a d L : Nat) (m : Sm) (fr : Tm) (st : St) : St := (a, inO 878 d) :: (d, dictT P m (kTok st 1) (vTok st 1)) :: (L, fr (kTok st 2) (vTok st 2)) :: dropN 3 st
noncomputable def slotO (o : Obj) (sl : Array (Option Value)) : Obj := ⟨o.cls, o.dict, o.data, sl⟩
noncomputable def objAt (st : St) (i : Nat) : Obj := match nth st i with | some p => p.2 | none => fz
structure HD where
  code : Code → St → Code
  pre : St → St
  res : Yv → Result
  post : Yv → St → St
noncomputable def hkOf (hs : List HD) : Hk := fun h y => match nth hs h with
  | some x => (x.res y, x.post y)
  | none => (.ok .next, id)
noncomputable def normC : List HD → Nat → List (Nat × Nat × Code × St) → List (Nat × Nat × Code × St)
  | [], _, _ => []
  | x :: r, h, cs => match cs with
    | [] => []
    | (_, δ, c, st) :: cs => (h, Nat.min δ 20, x.code c st, x.pre st) :: normC r (h + 1) cs
noncomputable def norm {α : Type} (outF : Except Value α → Except Value α) (nst : St → St) (hs : List HD) (r : QF (Except Value α)) : QF (Except Value α) :=
  ⟨outF r.out, nst r.st, r.as.map (fun p => (p.2, p.2)), normC hs 0 r.cs⟩
noncomputable def dfltQ {α : Type} : QF (Except Value α) := ⟨.error .none, [], [], []⟩
noncomputable def HDOk (w : World) (G : Gs) (D : Nat) (s₀ : Shared) (X : XS) (x : HD) : Prop :=
  ∀ (c : Code) (st : St) (A : Around) (s : Shared), A.handled = none → A.depth ≤ D → (∀ l, X.l = some l → A.frames = some l) → Rl w G s₀ X (x.pre st) s →
    codeAny (model P0 w) A (x.code c st) (fun r s' => ∃ y, r = x.res y ∧ Rl w G s₀ X (x.post y (x.pre st)) s') s
section
variable {w : World} {G : Gs} {D : Nat} {s₀ : Shared} {X : XS}
theorem normC_ok {hs : List HD} (H : ∀ x ∈ hs, HDOk w G (D + 20) s₀ X x) : ∀ (l : List HD) (h : Nat) (cs : List (Nat × Nat × Code × St)), (∀ i x, nth l i = some x → nth hs (h + i) = some x) →
    ∀ c ∈ normC l h cs, CallSpec P0 w (TK w.params G) (hkOf hs) s₀ X 989 D c
  | [], _, _, _, c, hc => nomatch hc
  | x :: r, h, [], _, c, hc => nomatch hc
  | x :: r, h, (h', δ', c', st) :: cs, hn, c, hc => by
    have hx : nth hs h = some x := hn 0 x rfl
    rcases List.mem_cons.mp hc with rfl | hc
    · intro A hA hD hF s R
      have := H x (nth_mem hx) c' st A s hA (Nat.le_trans hD (Nat.add_le_add_left (Nat.min_le_right _ _) _)) hF R
      refine codeAny_mono this fun r s' q => ?_
      obtain ⟨y, e, R'⟩ := q
      refine ⟨y, ?_, ?_⟩
      · show r = (hkOf hs h y).1
        unfold hkOf; rw [hx]; exact e
      · show Rl w G s₀ X ((hkOf hs h y).2 _) s'
        unfold hkOf; rw [hx]; exact R'
    · refine normC_ok H r (h + 1) cs (fun i y hy => ?_) c hc
      have := hn (i + 1) y hy
      rw [show h + 1 + i = h + (i + 1) by lia]; exact this
noncomputable abbrev Road (α : Type) := Code → Option Value → Option Value → List (Code × Pos) → Pos → Sg → Option (QF (Except Value α))
end
noncomputable def CSpec (w : World) (G : Gs) (kn : Bool) (D : Nat) (c : Code) (stk : St) (Post : Result → St → St → Prop) : Prop :=
  ∀ (A : Around) (s : Shared) (l : List Env), A.handled = none → A.depth ≤ D → (kn = true → A.frames = some l ∧ FrOk s l) → Rl w G s ⟨stk.map (·.1), if kn then FRs l else [], none⟩ stk s →
    codeAny (model P0 w) A c (fun r s' => ∃ st2 ex, Post r st2 ex ∧ st2.map (·.1) = stk.map (·.1) ∧ Rl w G s ⟨stk.map (·.1), if kn then FRs l else [], none⟩ (st2 ++ ex) s') s
theorem CSpec.mono {w : World} {G : Gs} {kn : Bool} {D : Nat} {c : Code} {stk : St} {Post Post' : Result → St → St → Prop} (h : CSpec w G kn D c stk Post) (k : ∀ r st ex, Post r st ex → Post' r st ex) : CSpec w G kn D c stk Post' :=
  fun A s l hA hD hF R => codeAny_mono (h A s l hA hD hF R) fun _ _ ⟨st2, ex, p, q⟩ => ⟨st2, ex, k _ _ _ p, q⟩
theorem nd_app {l l' : St} (h : ((l ++ l').map (·.1)).Nodup) : ∀ p ∈ l', p.1 ∉ l.map (·.1) := fun p hp q => by
  rw [List.map_append] at h
  exact (List.nodup_append.mp h).2.2 p.1 q p.1 (List.mem_map_of_mem hp) rfl
theorem CSpec.at {w : World} {G : Gs} {D : Nat} {c : Code} {stk : St} {Post : Result → St → St → Prop} (h : CSpec w G false D c stk Post) {A : Around} {s₀ s : Shared} {X : XS} {rest : St} (hA : A.handled = none) (hD : A.depth ≤ D) (R : Rl w G s₀ X (stk ++ rest) s) :
    codeAny (model P0 w) A c (fun r s' => ∃ st2 ex, Post r st2 ex ∧ st2.map (·.1) = stk.map (·.1) ∧ Rl w G s₀ X (st2 ++ rest ++ ex) s') s := by
  have nd0 := R.nd
  have nd : (stk.map (·.1)).Nodup := by
    rw [List.map_append] at nd0
    exact (List.nodup_append.mp nd0).1
  have Rloc := Rel.local R (l := stk) (fun p hp => List.mem_append_left _ hp) nd
  refine codeAny_mono (h A s [] hA hD (fun h => by cases h) Rloc) fun r s' q => ?_
  obtain ⟨st2, ex, hp, hm, R'⟩ := q
  have hex : ∀ p ∈ ex, s.heap.objs.size ≤ p.1 := fun p hp => by
    rcases R'.mod p (List.mem_append_right _ hp) with z | z
    · exact absurd (hm ▸ z) (nd_app R'.nd p hp)
    · exact z
  exact ⟨st2, ex, hp, hm, Rel.liftEx (rest' := rest) R R' (fun x hx => by rw [List.map_append]; exact List.mem_append_left _ hx) (fun x hx => by cases hx) (by rw [List.map_append, List.map_append, hm]) hex fun p hp => .inl ⟨hp, nd_app nd0 p hp, fun h => by cases h⟩⟩
theorem CSpec.atF {w : World} {G : Gs} {D : Nat} {c : Code} {stk : St} {Post : Result → St → St → Prop} (h : CSpec w G true D c stk Post) {A : Around} {s₀ s : Shared} {m : List Nat} {env : Env} {l : List Env} {L : Nat} {oL : Obj} {rest : St} (hA : A.handled = none) (hD : A.depth ≤ D) (hF : A.frames = some (env :: l)) (hL : env.frame = some L)
    (R : Rl w G s₀ ⟨m, FRs l, some (env :: l)⟩ (stk ++ (L, oL) :: rest) s) :
    codeAny (model P0 w) A c (fun r s' => ∃ st2 ex sl, Post r st2 ex ∧ st2.map (·.1) = stk.map (·.1) ∧ Rl w G s₀ ⟨m, FRs l, some (env :: l)⟩ (st2 ++ (L, { oL with slots := sl }) :: rest ++ ex) s') s := by
  have nd0 := R.nd
  have nd : (stk.map (·.1)).Nodup := by
    rw [List.map_append] at nd0
    exact (List.nodup_append.mp nd0).1
  have hfr := R.fr _ rfl
  have hOk : FrOk s (env :: l) := fun e he => by
    obtain ⟨h1, f, o, h2, h9, h3, _⟩ := hfr e he
    obtain ⟨o', h4⟩ := R.liv _ _ h3
    exact ⟨h1, f, o', h2, h9, h4⟩
  have Rloc := Rel.localF R (l := stk) (fun p hp => List.mem_append_left _ hp) nd (F := FRs (env :: l)) (fl := none) (fun b hb => by
    obtain ⟨e, he, hf⟩ := FRs_mem.mp hb
    obtain ⟨_, f, o, h2, h9, h3⟩ := hOk e he
    have : b = f := by rw [hf] at h2; exact Option.some.inj h2
    subst this
    refine ⟨?_, h9, o, h3⟩
    rcases List.mem_cons.mp he with rfl | he
    · rw [hL] at hf
      obtain rfl := Option.some.inj hf
      exact nd_app nd0 (L, oL) (.head _)
    · have hb' : b ∈ FRs l := FRs_mem.mpr ⟨e, he, hf⟩
      intro q
      obtain ⟨z, hz, ez⟩ := List.mem_map.mp q
      exact R.sf z (List.mem_append_left _ hz) (ez ▸ hb')) (fun l' h => by cases h)
  refine codeAny_mono (h A s (env :: l) hA hD (fun _ => ⟨hF, hOk⟩) Rloc) fun r s' q => ?_
  obtain ⟨st2, ex, hp, hm, R'⟩ := q
  have hex : ∀ p ∈ ex, s.heap.objs.size ≤ p.1 := fun p hp => by
    rcases R'.mod p (List.mem_append_right _ hp) with z | z
    · exact absurd (hm ▸ z) (nd_app R'.nd p hp)
    · exact z
  have hLm : L ∈ FRs (env :: l) := FRs_mem.mpr ⟨env, .head _, hL⟩
  obtain ⟨sl, eL⟩ := R'.keepF L hLm oL (R.S (L, oL) (List.mem_append_right _ (.head _)))
  refine ⟨st2, ex, sl, hp, hm, ?_⟩
  have hcF : ∀ x ∈ FRs (env :: l), x = L ∨ x ∈ FRs l := fun x hx => by
    obtain ⟨e, he, hf⟩ := FRs_mem.mp hx
    rcases List.mem_cons.mp he with rfl | he
    · rw [hL] at hf; exact .inl (Option.some.inj hf).symm
    · exact .inr (FRs_mem.mpr ⟨e, he, hf⟩)
  refine Rel.liftEx (rest' := (L, { oL with slots := sl }) :: rest) R R' (fun x hx => by rw [List.map_append]; exact List.mem_append_left _ hx) (fun x hx => ?_) (by rw [List.map_append, List.map_append, hm]; rfl) hex fun p hp => ?_
  · rcases hcF x hx with rfl | h
    · exact .inl (List.mem_map.mpr ⟨(x, oL), List.mem_append_right _ (.head _), rfl⟩)
    · exact .inr h
  · rcases List.mem_cons.mp hp with rfl | hp
    · exact .inr eL
    · refine .inl ⟨.tail _ hp, nd_app nd0 p (.tail _ hp), fun q => ?_⟩
      rcases hcF _ q with q | q
      · rw [List.map_append] at nd0
        have n2 := (List.nodup_append.mp nd0).2.1
        rw [List.map_cons] at n2
        exact (List.nodup_cons.mp n2).1 (List.mem_map.mpr ⟨p, hp, q⟩)
      · exact R.sf p (List.mem_append_right _ (.tail _ hp)) q
noncomputable def MSpecK (kn : Bool) (w : World) (G : Gs) (f D : Nat) (args : List Value) (m : Sm) (post : Value → Sm → Prop) : Prop :=
  ∀ (a d : Nat) (k v : Nat → Tok), CSpec w G kn D (.call (.ref f) ⟨.ref a :: args, []⟩) (selfSt w.params a d k v m) fun r st2 ex => ∃ val m' k' v', r = .ok (.ret val) ∧ post val m' ∧ st2 = selfSt w.params a d k' v' m'
noncomputable abbrev MSpec := MSpecK false
theorem MSpecK.mono {kn : Bool} {w : World} {G : Gs} {f D : Nat} {args : List Value} {m : Sm} {post post' : Value → Sm → Prop} (h : MSpecK kn w G f D args m post) (k : ∀ v m, post v m → post' v m) : MSpecK kn w G f D args m post' :=
  fun a d k' v => (h a d k' v).mono fun _ _ _ ⟨val, m', k', v', e, p, q⟩ => ⟨val, m', k', v', e, k _ _ p, q⟩
theorem MSpecK.less {kn : Bool} {w : World} {G : Gs} {f D D' : Nat} {args : List Value} {m : Sm} {post : Value → Sm → Prop} (h : MSpecK kn w G f D args m post) (hD : D' ≤ D) : MSpecK kn w G f D' args m post :=
  fun a d k v A s l hA hD' => h a d k v A s l hA (Nat.le_trans hD' hD)
noncomputable def HD.meth (P : Params) (f a d : Nat) (args : Code → List Value) (m : Sm) (V : Tok → Value) (m' : Sm) : HD :=
  ⟨fun c _ => .call (.ref f) ⟨.ref a :: args c, []⟩, selfPre P a d m, fun y => .ok (.ret (V (y.t 0))), fun y st => setAt st 1 (dictT P m' (y.K 1) (y.V 1))⟩
theorem HDOk.meth {w : World} {G : Gs} {f D D' a d : Nat} {args : Code → List Value} {m m' : Sm} {V : Tok → Value} (h : ∀ c, MSpec w G f D' (args c) m (fun val m'' => (∃ t, val = V t) ∧ m'' = m')) (hD : D ≤ D') {s₀ : Shared} {X : XS} :
    HDOk w G D s₀ X (HD.meth w.params f a d args m V m') := by
  intro c st A s hA hA' hF R
  refine codeAny_mono ((h c a d (kTok st 1) (vTok st 1)).at (rest := dropN 2 st) hA (Nat.le_trans hA' hD) R) fun r s' q => ?_
  obtain ⟨st2, ex, ⟨val, m'', k', v', e, ⟨⟨t, hv⟩, hm⟩, e2⟩, _, R'⟩ := q
  subst hm e2
  exact ⟨⟨fun _ => t, fun _ => k', fun _ => v', fun _ => #[]⟩, by rw [e, hv]; rfl, Rel.cut R'⟩
noncomputable def HD.methF (P : Params) (f a d L : Nat) (args : Code → List Value) (m : Sm) (V : Tok → Value) (m' : Sm) : HD :=
  ⟨fun c _ => .call (.ref f) ⟨.ref a :: args c, []⟩, fun st => (a, inO 878 d) :: (d, dictT P m (kTok st 1) (vTok st 1)) :: (L, objAt st 2) :: dropN 3 st, fun y => .ok (.ret (V (y.t 0))),
    fun y st => setAt (setAt st 1 (dictT P m' (y.K 1) (y.V 1))) 2 (slotO (objAt st 2) (y.S 0))⟩
theorem HDOk.methF {w : World} {G : Gs} {f D D' a d L : Nat} {args : Code → List Value} {m m' : Sm} {V : Tok → Value} (h : ∀ c, MSpecK true w G f D' (args c) m (fun val m'' => (∃ t, val = V t) ∧ m'' = m')) (hD : D ≤ D') {s₀ : Shared} {mm : List Nat} {env : Env} {l : List Env} (hL : env.frame = some L) :
    HDOk w G D s₀ ⟨mm, FRs l, some (env :: l)⟩ (HD.methF w.params f a d L args m V m') := by
  intro c st A s hA hA' hF R
  refine codeAny_mono ((h c a d (kTok st 1) (vTok st 1)).atF (rest := dropN 3 st) (oL := objAt st 2) hA (Nat.le_trans hA' hD) (hF _ rfl) hL R) fun r s' q => ?_
  obtain ⟨st2, ex, sl, ⟨val, m'', k', v', e, ⟨⟨t, hv⟩, hm⟩, e2⟩, _, R'⟩ := q
  subst hm e2
  exact ⟨⟨fun _ => t, fun _ => k', fun _ => v', fun _ => sl⟩, by rw [e, hv]; rfl, Rel.cut R'⟩
noncomputable abbrev RoadC := Option Value → Option Value → List (Code × Pos) → Pos → Sg → Option (QF Result)
noncomputable def retR (V : Tok → Value) : Result → Result := fun x => .ok (.ret (V (match x with | .ok (.ret v) => tokOf v | _ => 0)))
/-! scenarios, bundled -/
noncomputable def kids : Stmt → List Stmt
  | .FunctionDef _ _ b .. => b
  | .While _ b o _ => b ++ o
  | .For _ _ b o _ => b ++ o
  | .If _ b o _ => b ++ o
  | .Try b _ o f _ => b ++ (o ++ f)
  | _ => []
noncomputable def atP (st : Stmt) (l : List Nat) : Stmt := l.foldl (fun s i => match nth (kids s) i with | some x => x | none => .Pass default) st
noncomputable def stms (st : Stmt) (l : List Nat) (i n : Nat) : List Stmt := ((kids (atP st l)).drop i).take n
noncomputable def hdls : Stmt → List ExceptHandler
  | .Try _ h _ _ _ => h
  | _ => []
noncomputable def tstOf : Stmt → PySem.Expr
  | .While t _ _ _ => t
  | .If t _ _ _ => t
  | _ => .Constant .none 0 default
noncomputable def whileC (env : Env) : Stmt → Code
  | .While t b o _ => .whileLoop t b o env
  | _ => .block [] env
noncomputable def forC (env : Env) (it : Value) : Stmt → Code
  | .For t _ b o _ => .forLoop t it b o env
  | _ => .block [] env
noncomputable def refOf {α : Type} : Except Value α → Nat
  | .error (.ref a) => a
  | _ => 0
noncomputable def pairAt (st : St) (i : Nat) : Nat × Obj := (addrAt st i, objAt st i)
noncomputable def normX {α : Type} (outF : Except Value α → Except Value α) (nst : Except Value α → St → St) (hs : List HD) (r : QF (Except Value α)) : QF (Except Value α) :=
  ⟨outF r.out, nst r.out r.st, r.as.map (fun p => (p.2, p.2)), normC hs 0 r.cs⟩
structure ScT (α : Type) where
  G : Gs
  t : Sem α
  acts : List Nat
  st : St
  hs : List HD
  outF : Except Value α → Except Value α
  nst : Except Value α → St → St
noncomputable def ScT.Q {α : Type} (S : ScT α) (w : World) : Road α := fun c own past below p σ =>
  evQ P0 w (TK w.params S.G) (hkOf S.hs) σ (evQC P0 w (TK w.params S.G) (hkOf S.hs) σ 60) 0 ⟨c, none, own, below, past⟩ kEnd S.t p S.acts S.st 0 0 0
noncomputable def ScT.R {α : Type} (S : ScT α) (q : Option (QF (Except Value α))) : Option (QF (Except Value α)) := some (normX S.outF S.nst S.hs (q.getD dfltQ))
noncomputable def ScT.Ok {α : Type} (S : ScT α) (w : World) : Prop := ∀ c own past below p σ, S.Q w c own past below p σ = S.R (S.Q w c own past below p σ)
theorem okT {α : Type} {S : World → ScT α} (q : World → Road α) (hq : ∀ w, (S w).Q w = q w)
    (H0 : ∀ (w : World) c own past below p σ, q (w.withFollow "special-get-raises" false) c own past below p σ = (S (w.withFollow "special-get-raises" false)).R (q (w.withFollow "special-get-raises" false) c own past below p σ))
    (H1 : ∀ (w : World) c own past below p σ, q (w.withFollow "special-get-raises" true) c own past below p σ = (S (w.withFollow "special-get-raises" true)).R (q (w.withFollow "special-get-raises" true) c own past below p σ)) (w : World) : (S w).Ok w := fun c own past below p σ => by
  rw [hq]
  exact byRow2 "special-get-raises" (P := fun w => q w c own past below p σ = (S w).R (q w c own past below p σ)) (fun w => H0 w c own past below p σ) (fun w => H1 w c own past below p σ) w
noncomputable def AllH (w : World) (G : Gs) (D : Nat) (s₀ : Shared) (X : XS) : List HD → Prop
  | [] => True
  | x :: r => HDOk w G D s₀ X x ∧ AllH w G D s₀ X r
section
variable {w : World} {G : Gs} {D : Nat} {s₀ s : Shared} {X : XS}
theorem AllH.n : AllH w G D s₀ X [] := trivial
theorem AllH.c {x : HD} {l : List HD} (h : HDOk w G D s₀ X x) (r : AllH w G D s₀ X l) : AllH w G D s₀ X (x :: l) := ⟨h, r⟩
theorem AllH.mem : ∀ {l : List HD}, AllH w G D s₀ X l → ∀ x ∈ l, HDOk w G D s₀ X x
  | _ :: _, h, x, hx => by
    rcases List.mem_cons.mp hx with rfl | hx
    · exact h.1
    · exact AllH.mem h.2 x hx
theorem ScT.Ok.tree {α : Type} {S : ScT α} (h : S.Ok w) {A : Around} (hH : AllH w S.G (D + 20) s₀ X S.hs) (hA : A.handled = none) (hD : A.depth ≤ D) (hF : ∀ l, X.l = some l → A.frames = some l) (R : Rl w S.G s₀ X S.st s) :
    wpAny (model P0 w) A S.t (fun a s' => ∃ x st', Except.ok a = S.outF x ∧ Rl w S.G s₀ X (S.nst x st') s') (fun e s' => ∃ x st', Except.error e = S.outF x ∧ Rl w S.G s₀ X (S.nst x st') s') s := by
  have := evQ_any (s₀ := s₀) (X := X) (N0 := 989) (D := D) (A := A) (fuel := 60) (hk := hkOf S.hs) (t := S.t) (acts := S.acts) (st := S.st)
    (F := fun c own past below p σ => normX S.outF S.nst S.hs ((S.Q w c own past below p σ).getD dfltQ))
    (Post := fun out s' => ∃ x st', out = S.outF x ∧ Rl w S.G s₀ X (S.nst x st') s')
    (fun c own past below p σ => h c own past below p σ) hA hD hF (fun c own past below p σ => ⟨fun p' hp => ?_, fun c' hc => ?_, fun s' R' => ?_⟩) R
  · exact this
  · obtain ⟨p', _, rfl⟩ := List.mem_map.mp hp
    rfl
  · exact normC_ok hH.mem S.hs 0 _ (fun i x e => by rw [Nat.zero_add]; exact e) c' hc
  · exact ⟨((S.Q w c own past below p σ).getD dfltQ).out, ((S.Q w c own past below p σ).getD dfltQ).st, rfl, R'⟩
theorem ScT.Ok.next {S : ScT Flow} (h : S.Ok w) {A : Around} {Q : Flow → Shared → Prop} {E : Value → Shared → Prop} (hH : AllH w S.G (D + 20) s₀ X S.hs) (hA : A.handled = none) (hD : A.depth ≤ D) (hF : ∀ l, X.l = some l → A.frames = some l) (R : Rl w S.G s₀ X S.st s)
    (k : ∀ xo st' s', Rl w S.G s₀ X (S.nst xo st') s' → match S.outF xo with | .ok f => Q f s' | .error e => E e s') : wpAny (model P0 w) A S.t Q E s :=
  wpAny_mono (h.tree hH hA hD hF R) (fun f s' q => by
    obtain ⟨x, st', e, R'⟩ := q
    have := k x st' s' R'
    rw [← e] at this; exact this) (fun f s' q => by
    obtain ⟨x, st', e, R'⟩ := q
    have := k x st' s' R'
    rw [← e] at this; exact this)
theorem ScT.Ok.code {S : ScT PySem.Fin} (h : S.Ok w) {c : Code} {A : Around} {Post : Result → Shared → Prop} (hc : S.t = denote treeTable c) (hH : AllH w S.G (D + 20) s₀ X S.hs) (hA : A.handled = none) (hD : (A.under c).depth ≤ D) (hF : ∀ l, X.l = some l → (A.under c).frames = some l) (R : Rl w S.G s₀ X S.st s)
    (k : ∀ x st' s', Rl w S.G s₀ X (S.nst x st') s' → match S.outF x with
      | .ok (.done f) => Post (.ok f) s'
      | .ok (.again c') => c'.quiet = true ∧ codeAny (model P0 w) A c' Post s'
      | .error e => Post (.error e) s') : codeAny (model P0 w) A c Post s := by
  refine codeAny_of_tree ?_
  have hden : (model P0 w).den c = denote treeTable c := by show denote table c = _; rw [table_eq_tree]
  rw [hden, ← hc]
  have := h.tree (A := A.under c) (D := D) hH hA hD hF R
  refine wpAny_mono this (fun fin s' z => ?_) (fun e s' z => ?_)
  · obtain ⟨x, st', e, R'⟩ := z
    have := k x st' s' R'
    rw [← e] at this
    cases fin <;> exact this
  · obtain ⟨x, st', e, R'⟩ := z
    have := k x st' s' R'
    rw [← e] at this
    exact this
theorem ScT.Ok.turn {S : ScT PySem.Fin} (h : S.Ok w) {c : Code} {A : Around} {Post : Result → Shared → Prop} (hc : S.t = denote treeTable c) (hw : c.weight = 0) (hu : c.cUnits = 0) (hH : AllH w S.G (D + 20) s₀ X S.hs) (hA : A.handled = none) (hD : A.depth ≤ D) (hF : ∀ l, X.l = some l → A.frames = some l) (R : Rl w S.G s₀ X S.st s)
    (k : ∀ x st' s', Rl w S.G s₀ X (S.nst x st') s' → match S.outF x with
      | .ok (.done f) => Post (.ok f) s'
      | .ok (.again c') => c'.quiet = true ∧ codeAny (model P0 w) A c' Post s'
      | .error e => Post (.error e) s') : codeAny (model P0 w) A c Post s :=
  h.code hc hH hA (by rw [Around.under_of_weight hw hu]; exact hD) (by rw [Around.under_of_weight hw hu]; exact hF) R k
end
structure ScC where
  G : Gs
  c : Code
  acts : List Nat
  st : St
  hs : List HD
  outF : Result → Result
  nst : Result → St → St
noncomputable def ScC.Q (S : ScC) (w : World) : RoadC := fun own past below p σ => evQC P0 w (TK w.params S.G) (hkOf S.hs) σ 60 0 ⟨S.c, none, own, below, past⟩ p kEnd S.acts S.st 0 0 0
noncomputable def ScC.R (S : ScC) (q : Option (QF Result)) : Option (QF Result) := some (normX S.outF S.nst S.hs (q.getD dfltQ))
noncomputable def ScC.Ok (S : ScC) (w : World) : Prop := ∀ own past below p σ, S.Q w own past below p σ = S.R (S.Q w own past below p σ)
theorem ScC.Ok.run {w : World} {D : Nat} {s₀ s : Shared} {X : XS} {S : ScC} (h : S.Ok w) {A : Around} (hH : AllH w S.G (D + 20) s₀ X S.hs) (hA : A.handled = none) (hD : A.depth ≤ D) (hF : ∀ l, X.l = some l → ∃ l₀, A.frames = some l₀ ∧ S.c.envs ++ l₀ = l) (R : Rl w S.G s₀ X S.st s) :
    codeAny (model P0 w) A S.c (fun r s' => ∃ x st', r = S.outF x ∧ Rl w S.G s₀ X (S.nst x st') s') s := fun Γ p hc hΓ => by
  obtain ⟨c', hd, own, below, past⟩ := Γ
  obtain ⟨h1, h2, h3, _⟩ := hΓ
  have h1 : hd = none := h1.trans hA
  have hc : c' = S.c := hc
  subst h1 hc
  refine evQC_sound 60 0 ⟨S.c, none, own, below, past⟩ p (fun _ => kEnd) S.acts S.st 0 0 0 ⟨fun _ => 0, fun _ => 0, fun _ => ⟨fun _ => 0, fun _ _ => 0, fun _ _ => 0, fun _ => #[]⟩⟩ (fun r s' => ∃ x st', r = S.outF x ∧ Rl w S.G s₀ X (S.nst x st') s') (Nat.le_trans h2 hD) (fun l hl => by obtain ⟨l₀, e1, e2⟩ := hF l hl; rw [← e2, ← h3 l₀ e1])
    (FP := fun r s' => ∃ x st', r = S.outF x ∧ Rl w S.G s₀ X (S.nst x st') s') (hk := hkOf S.hs)
    (fun σ _ => ⟨_, h own past below p σ, ⟨fun p' hp => ?_, fun c' hc => ?_, fun s' R' => ?_⟩⟩)
    (fun out p acts st i j h σ₁ H s R => by
      obtain ⟨r, e, g⟩ := H σ₁ (.refl _ _ _ _)
      cases e
      exact g.2.2 s R) s R
  · obtain ⟨p', _, rfl⟩ := List.mem_map.mp hp
    rfl
  · exact normC_ok hH.mem S.hs 0 _ (fun i x e => by rw [Nat.zero_add]; exact e) c' hc
  · exact ⟨((S.Q w own past below p σ).getD dfltQ).out, ((S.Q w own past below p σ).getD dfltQ).st, rfl, R'⟩
structure Fn where
  f : Nat
  st : Stmt
  qual : PySem.Str
  cd : Nat
  pm : Value
  names : List PySem.Str
noncomputable def Fn.env (F : Fn) (L : Nat) : Env := fenv F.f L F.st F.qual F.cd
noncomputable def Fn.fr (F : Fn) (P : Params) (ts : Nat → Nat) (args : List Value) : Obj := frO (frEs P ts 0 (F.names.zip args)) (F.names.zip args).length
noncomputable def Fn.Q (F : Fn) (w : World) (G : Gs) (acts : List Nat) (stk : St) (args : List Value) : Road Env := fun c own past below p σ =>
  evQ P0 w (TK w.params G) noHk σ (evQC P0 w (TK w.params G) noHk σ 60) 0 ⟨c, none, own, below, past⟩ kEnd (newFunctionEnv (fnScope F.st) 3 [] (F.names.zip args) (F.qual ++ ".<locals>.") (some F.f) (.ref F.cd) none 0) p acts stk 0 0 0
noncomputable def Fn.R (F : Fn) (w : World) (stk : St) (args : List Value) (σ : Sg) (q : Option (QF (Except Value Env))) : Option (QF (Except Value Env)) :=
  some ⟨.ok (F.env (σ.xs 0)), push stk (σ.xs 0, F.fr w.params σ.ts args), (q.getD dfltQ).as.map (fun q => (q.2, q.2)), []⟩
structure Fn.Ok (F : Fn) (w : World) (G : Gs) (acts : List Nat) (stk : St) (args : List Value) : Prop where
  fnAt : FnAt w G F.f F.st F.qual F.cd
  kd : ((fnScope F.st).kind != .module) = true
  bind : ∀ pm, bindArgs (fnD F.st F.qual 3 pm (.ref F.cd) .none 0) ⟨args, []⟩ = pure (F.names.zip args)
  enter : ∀ c own past below p σ, F.Q w G acts stk args c own past below p σ = F.R w stk args σ (F.Q w G acts stk args c own past below p σ)
theorem okF {w : World} {G : Gs} {F : Fn} {acts : List Nat} {stk : St} {args : List Value} (h : FnAt w G F.f F.st F.qual F.cd) (kd : ((fnScope F.st).kind != .module) = true) (b : ∀ pm, bindArgs (fnD F.st F.qual 3 pm (.ref F.cd) .none 0) ⟨args, []⟩ = pure (F.names.zip args))
    (q : Road Env) (hq : F.Q w G acts stk args = q) (H : ∀ c own past below p σ, q c own past below p σ = F.R w stk args σ (q c own past below p σ)) : F.Ok w G acts stk args := ⟨h, kd, b, fun c own past below p σ => by rw [hq]; exact H c own past below p σ⟩
theorem Fn.Ok.call {kn : Bool} {w : World} {G : Gs} {F : Fn} {acts : List Nat} {stk : St} {args : List Value} (h : F.Ok w G acts stk args) {D : Nat} (hD : D < 900) {Post : Result → St → St → Prop}
    (hB : ∀ L ts (A : Around) s l, let X : XS := ⟨(stk.map (·.1)) ++ [L], if kn then FRs l else [], if kn then some (F.env L :: l) else none⟩
      A.handled = none → A.depth ≤ D → (kn = true → A.frames = some l) → Rl w G s X (stk ++ [(L, F.fr w.params ts args)]) s →
      codeAny (model P0 w) A (.func (fnBody F.st) (F.env L)) (fun r s' => ∃ st2 oL ex, Post r st2 ex ∧ st2.map (·.1) = stk.map (·.1) ∧ Rl w G s X (st2 ++ (L, oL) :: ex) s') s) :
    CSpec w G kn D (.call (.ref F.f) ⟨args, []⟩) stk Post := by
  intro A s l hA hD' hF R
  have := fn_run (l := l) (kn := kn) (Post := Post) h.fnAt h.bind (acts := acts) (fuel := 60) (as := fun c own past below p σ => ((F.Q w G acts stk args c own past below p σ).getD dfltQ).as) (fun c own past below p σ => h.enter c own past below p σ) hA hD' hD h.kd hF R (fun L ts s' R' => hB L ts A s' l hA hD' (fun h => (hF h).1) R')
  exact this
noncomputable def methPre (P : Params) (a d L : Nat) (m : Sm) (st : St) : St := (a, inO 878 d) :: (d, dictT P m (kTok st 1) (vTok st 1)) :: (L, objAt st 2) :: dropN 3 st
noncomputable def mRoad (F : Fn) (w : World) (G : Gs) (args : List Value) (m m' : Sm) (V : Tok → Value) (hs : Nat → Nat → Nat → List HD) (acts : List Nat) (a d L : Nat) (k v ts : Nat → Tok) : ScC :=
  ⟨G, .func (fnBody F.st) (F.env L), acts, selfSt w.params a d k v m ++ [(L, F.fr w.params ts (.ref a :: args))], hs a d L, retR V, fun _ => methPre w.params a d L m'⟩
noncomputable def XK (F : Fn) (a d L : Nat) (l : List Env) : Bool → XS
  | true => ⟨[a, d, L], FRs l, some (F.env L :: l)⟩
  | false => ⟨[a, d, L], [], none⟩
theorem mRoad.spec {kn : Bool} {F : Fn} {w : World} {G : Gs} {args : List Value} {m m'' : Sm} {V : Tok → Value} {hs : Nat → Nat → Nat → List HD} {acts eacts : List Nat} {D : Nat} (hE : ∀ a d k v, F.Ok w G eacts (selfSt w.params a d k v m) (.ref a :: args))
    (hS : ∀ a d L k v ts, (mRoad F w G args m m'' V hs acts a d L k v ts).Ok w) (hD : D < 850) (hH : ∀ a d L s₀ l, AllH w G (D + 20) s₀ (XK F a d L l kn) (hs a d L)) :
    MSpecK kn w G F.f D args m (fun v m' => (∃ t, v = V t) ∧ m' = m'') := by
  intro a d k v
  refine Fn.Ok.call (kn := kn) (hE a d k v) (Nat.lt_of_lt_of_le hD (by decide)) fun L ts A s l hA hD' hF R => ?_
  have hX : (⟨((selfSt w.params a d k v m).map (·.1)) ++ [L], if kn then FRs l else [], if kn then some (F.env L :: l) else none⟩ : XS) = XK F a d L l kn := by cases kn <;> rfl
  rw [hX] at R ⊢
  refine codeAny_mono (ScC.Ok.run (hS a d L k v ts) (hH a d L s l) hA hD' (fun l' hl => ?_) R) fun r s' q => ?_
  · cases kn with
    | true => cases hl; exact ⟨l, hF rfl, rfl⟩
    | false => cases hl
  · obtain ⟨x, st', e, R'⟩ := q
    exact ⟨[(a, inO 878 d), (d, dictT w.params m'' (kTok st' 1) (vTok st' 1))], objAt st' 2, dropN 3 st', ⟨_, m'', _, _, e, ⟨⟨_, rfl⟩, rfl⟩, rfl⟩, rfl, R'⟩
end Mine
end
end
section
open PySem PySem.W PyProof.Rows
set_option maxRecDepth 100000
set_option maxHeartbeats 0
section
namespace Mine
noncomputable def QT {α : Type} (w : World) (G : Gs) (hs : List HD) (acts : List Nat) (st : St) (t : Sem α) : Road α := fun c own past below p σ =>
  evQ P0 w (TK w.params G) (hkOf hs) σ (evQC P0 w (TK w.params G) (hkOf hs) σ 60) 0 ⟨c, none, own, below, past⟩ kEnd t p acts st 0 0 0
noncomputable def QE (w : World) (G : Gs) (hs : List HD) (acts : List Nat) (st : St) (l : List Stmt) (env : Env) : Road Flow := QT w G hs acts st (execs l env)
noncomputable def QD (w : World) (G : Gs) (hs : List HD) (acts : List Nat) (st : St) (c' : Code) : Road PySem.Fin := QT w G hs acts st (denote treeTable c')
noncomputable def QC (w : World) (S : ScC) : RoadC := S.Q w
noncomputable def QN (F : Fn) (w : World) (G : Gs) (acts : List Nat) (stk : St) (args : List Value) : Road Env := F.Q w G acts stk args
theorem QE_self : QE = QE := rfl
theorem QD_self : QD = QD := rfl
theorem QC_self : QC = QC := rfl
theorem QN_self : QN = QN := rfl
end Mine
end
open PySem.W.Fast
name_quick QEq for Mine.QE by Mine.QE_self
name_quick QDq for Mine.QD by Mine.QD_self
name_quick QCq for Mine.QC by Mine.QC_self
name_quick QNq for Mine.QN by Mine.QN_self
section
namespace Mine
noncomputable abbrev wf (b : Bool) (w : World) : World := w.withFollow "special-get-raises" b
noncomputable abbrev qE (S : ScT Flow) (l : List Stmt) (env : Env) (w : World) : Road Flow := PySem.W.Fast.QEq w S.G S.hs S.acts S.st l env
noncomputable abbrev qD (S : ScT PySem.Fin) (c : Code) (w : World) : Road PySem.Fin := PySem.W.Fast.QDq w S.G S.hs S.acts S.st c
theorem okE {S : World → ScT Flow} {l : World → List Stmt} {env : World → Env} (ht : ∀ w, (S w).t = execs (l w) (env w))
    (H0 : (fun (w : World) c own past below p σ => qE (S (wf false w)) (l (wf false w)) (env (wf false w)) (wf false w) c own past below p σ) = fun w c own past below p σ => (S (wf false w)).R (qE (S (wf false w)) (l (wf false w)) (env (wf false w)) (wf false w) c own past below p σ))
    (H1 : (fun (w : World) c own past below p σ => qE (S (wf true w)) (l (wf true w)) (env (wf true w)) (wf true w) c own past below p σ) = fun w c own past below p σ => (S (wf true w)).R (qE (S (wf true w)) (l (wf true w)) (env (wf true w)) (wf true w) c own past below p σ)) (w : World) : (S w).Ok w :=
  okT (fun w => qE (S w) (l w) (env w) w) (fun w => by show QT w (S w).G (S w).hs (S w).acts (S w).st (S w).t = _; rw [ht]; unfold qE; rw [← PySem.W.Fast.QEq_eq]; rfl)
    (fun w c own past below p σ => congrFun (congrFun (congrFun (congrFun (congrFun (congrFun (congrFun H0 w) c) own) past) below) p) σ) (fun w c own past below p σ => congrFun (congrFun (congrFun (congrFun (congrFun (congrFun (congrFun H1 w) c) own) past) below) p) σ) w
theorem okD {S : World → ScT PySem.Fin} {l : World → Code} (ht : ∀ w, (S w).t = denote treeTable (l w))
    (H0 : (fun (w : World) c own past below p σ => qD (S (wf false w)) (l (wf false w)) (wf false w) c own past below p σ) = fun w c own past below p σ => (S (wf false w)).R (qD (S (wf false w)) (l (wf false w)) (wf false w) c own past below p σ))
    (H1 : (fun (w : World) c own past below p σ => qD (S (wf true w)) (l (wf true w)) (wf true w) c own past below p σ) = fun w c own past below p σ => (S (wf true w)).R (qD (S (wf true w)) (l (wf true w)) (wf true w) c own past below p σ)) (w : World) : (S w).Ok w :=
  okT (fun w => qD (S w) (l w) w) (fun w => by show QT w (S w).G (S w).hs (S w).acts (S w).st (S w).t = _; rw [ht]; unfold qD; rw [← PySem.W.Fast.QDq_eq]; rfl)
    (fun w c own past below p σ => congrFun (congrFun (congrFun (congrFun (congrFun (congrFun (congrFun H0 w) c) own) past) below) p) σ) (fun w c own past below p σ => congrFun (congrFun (congrFun (congrFun (congrFun (congrFun (congrFun H1 w) c) own) past) below) p) σ) w
theorem okC {S : World → ScC}
    (H0 : (fun (w : World) own past below p σ => PySem.W.Fast.QCq (wf false w) (S (wf false w)) own past below p σ) = fun w own past below p σ => (S (wf false w)).R (PySem.W.Fast.QCq (wf false w) (S (wf false w)) own past below p σ))
    (H1 : (fun (w : World) own past below p σ => PySem.W.Fast.QCq (wf true w) (S (wf true w)) own past below p σ) = fun w own past below p σ => (S (wf true w)).R (PySem.W.Fast.QCq (wf true w) (S (wf true w)) own past below p σ)) (w : World) : (S w).Ok w := fun own past below p σ => by
  show QC w (S w) own past below p σ = (S w).R (QC w (S w) own past below p σ)
  rw [PySem.W.Fast.QCq_eq]
  exact byRow2 "special-get-raises" (P := fun w => PySem.W.Fast.QCq w (S w) own past below p σ = (S w).R (PySem.W.Fast.QCq w (S w) own past below p σ)) (fun w => congrFun (congrFun (congrFun (congrFun (congrFun (congrFun H0 w) own) past) below) p) σ) (fun w => congrFun (congrFun (congrFun (congrFun (congrFun (congrFun H1 w) own) past) below) p) σ) w
theorem okN {w : World} {G : Gs} {F : Fn} {acts : List Nat} {stk : St} {args : List Value} (h : FnAt w G F.f F.st F.qual F.cd) (kd : ((fnScope F.st).kind != .module) = true) (b : ∀ pm, bindArgs (fnD F.st F.qual 3 pm (.ref F.cd) .none 0) ⟨args, []⟩ = pure (F.names.zip args))
    (H : (fun c own past below p σ => PySem.W.Fast.QNq F w G acts stk args c own past below p σ) = fun c own past below p σ => F.R w stk args σ (PySem.W.Fast.QNq F w G acts stk args c own past below p σ)) : F.Ok w G acts stk args :=
  okF h kd b (PySem.W.Fast.QNq F w G acts stk args) (by rw [← PySem.W.Fast.QNq_eq]; rfl) fun c own past below p σ => congrFun (congrFun (congrFun (congrFun (congrFun (congrFun H c) own) past) below) p) σ
end Mine
end
end
section
open PySem PySem.W PyProof.Rows
set_option maxRecDepth 100000
set_option maxHeartbeats 0
section
namespace Mine
theorem code_run {pr : Program} {w : World} {TK : Kn} {hk : Hk} {s₀ : Shared} {X : XS} {N0 D : Nat} {c : Code} {acts : List Nat} {st : St} {fuel : Nat} {F : Option Value → Option Value → List (Code × Pos) → Pos → Sg → QF Result} {A : Around} {Post : Result → Shared → Prop}
    (H : ∀ (own past : Option Value) (below : List (Code × Pos)) (p : Pos) σ, evQC pr w TK hk σ fuel 0 ⟨c, none, own, below, past⟩ p kEnd acts st 0 0 0 = some (F own past below p σ)) (hA : A.handled = none) (hD : A.depth ≤ D) (hF : ∀ l, X.l = some l → ∃ l₀, A.frames = some l₀ ∧ c.envs ++ l₀ = l)
    (G : ∀ own past below p σ, Good pr w TK hk s₀ X N0 D Post (F own past below p σ)) {s : Shared} (R : Rel s₀ X N0 TK st s) :
    codeAny (model pr w) A c Post s := fun Γ p hc hΓ => by
  obtain ⟨c', hd, own, below, past⟩ := Γ
  obtain ⟨h1, h2, h3, _⟩ := hΓ
  have h1 : hd = none := h1.trans hA
  have hc : c' = c := hc
  subst h1 hc
  exact evQC_sound fuel 0 ⟨c', none, own, below, past⟩ p (fun _ => kEnd) acts st 0 0 0 ⟨fun _ => 0, fun _ => 0, fun _ => ⟨fun _ => 0, fun _ _ => 0, fun _ _ => 0, fun _ => #[]⟩⟩ Post (Nat.le_trans h2 hD) (fun l hl => by obtain ⟨l₀, e1, e2⟩ := hF l hl; rw [← e2, ← h3 l₀ e1]) (fun σ _ => ⟨_, H own past below p σ, G own past below p σ⟩)
    (fun out p acts st i j h σ₁ H s R => by
      obtain ⟨r, e, g⟩ := H σ₁ (.refl _ _ _ _)
      cases e
      exact g.2.2 s R) s R
noncomputable def argTok (c : Code) (i : Nat) : Tok := match c with
  | .call _ a => (match nth a.pos i with | some x => tokOf x | none => 0)
  | _ => 0
noncomputable def HD.ii (op : String) (i j : Int) (V : Tok → Value) : HD := ⟨fun c _ => .call (.builtin op) ⟨[.int i (argTok c 0), .int j (argTok c 1)], []⟩, id, fun y => .ok (.ret (V (y.t 0))), fun _ => id⟩
noncomputable abbrev HD.cmp (op : String) (i j : Int) (b : Bool) : HD := HD.ii op i j fun _ => .bool b
noncomputable def iiQ (op : String) (w : World) (G : Gs) (own past : Option Value) (below : List (Code × Pos)) (p : Pos) (σ : Sg) (st : St) (i j : Int) (t u : Tok) : Option (QF Result) :=
  evQC P0 w (TK w.params G) noHk σ 30 0 ⟨.call (.builtin op) ⟨[.int i t, .int j u], []⟩, none, own, below, past⟩ p kEnd [] st 0 0 0
noncomputable def leQ := iiQ "int.__le__"
theorem leQ_self : leQ = leQ := rfl
noncomputable def ltQ := iiQ "int.__lt__"
theorem ltQ_self : ltQ = ltQ := rfl
noncomputable def geQ := iiQ "int.__ge__"
theorem geQ_self : geQ = geQ := rfl
noncomputable def gtQ := iiQ "int.__gt__"
theorem gtQ_self : gtQ = gtQ := rfl
noncomputable def eqQ := iiQ "int.__eq__"
theorem eqQ_self : eqQ = eqQ := rfl
noncomputable def neQ := iiQ "int.__ne__"
theorem neQ_self : neQ = neQ := rfl
end Mine
open PySem.W.Fast
name_quick leQq for Mine.leQ by Mine.leQ_self
name_quick ltQq for Mine.ltQ by Mine.ltQ_self
name_quick geQq for Mine.geQ by Mine.geQ_self
name_quick gtQq for Mine.gtQ by Mine.gtQ_self
name_quick eqQq for Mine.eqQ by Mine.eqQ_self
name_quick neQq for Mine.neQ by Mine.neQ_self
namespace Mine
section
variable (w : World) (G : Gs) (own past : Option Value) (below : List (Code × Pos)) (p : Pos) (σ : Sg) (st : St) (i j : Int) (t u : Tok)
theorem leQ_ok : PySem.W.Fast.leQq w G own past below p σ st i j t u = some ⟨.ok (.ret (.bool (decide (i ≤ j)))), st, [], []⟩ := by kernel_rfl
theorem ltQ_ok : PySem.W.Fast.ltQq w G own past below p σ st i j t u = some ⟨.ok (.ret (.bool (decide (i < j)))), st, [], []⟩ := by kernel_rfl
theorem geQ_ok : PySem.W.Fast.geQq w G own past below p σ st i j t u = some ⟨.ok (.ret (.bool (decide (j ≤ i)))), st, [], []⟩ := by kernel_rfl
theorem gtQ_ok : PySem.W.Fast.gtQq w G own past below p σ st i j t u = some ⟨.ok (.ret (.bool (decide (j < i)))), st, [], []⟩ := by kernel_rfl
theorem eqQ_ok : PySem.W.Fast.eqQq w G own past below p σ st i j t u = some ⟨.ok (.ret (.bool (decide (i = j)))), st, [], []⟩ := by kernel_rfl
theorem neQ_ok : PySem.W.Fast.neQq w G own past below p σ st i j t u = some ⟨.ok (.ret (.bool (!decide (i = j)))), st, [], []⟩ := by kernel_rfl
end
theorem HDOk.of_ii {w : World} {G : Gs} {D : Nat} {s₀ : Shared} {X : XS} {op : String} {i j : Int} {b : Bool} (h : ∀ own past below p σ st t u, iiQ op w G own past below p σ st i j t u = some ⟨.ok (.ret (.bool b)), st, [], []⟩) : HDOk w G D s₀ X (HD.cmp op i j b) := by
  intro c st A s hA hD hF R
  refine code_run (fuel := 30) (hk := noHk) (F := fun _ _ _ _ _ => ⟨.ok (.ret (.bool b)), st, [], []⟩) (fun own past below p σ => h own past below p σ st _ _) hA hD (fun l hl => ⟨l, hF l hl, rfl⟩) (fun own past below p σ => ⟨fun p h => (nomatch h), fun c h => (nomatch h), fun s' R' => ⟨⟨fun _ => 0, fun _ _ => 0, fun _ _ => 0, fun _ => #[]⟩, rfl, R'⟩⟩) R
section
variable {w : World} {G : Gs} {D : Nat} {s₀ : Shared} {X : XS} {i j : Int}
theorem HDOk.le_true (h : i ≤ j) : HDOk w G D s₀ X (HD.cmp "int.__le__" i j true) := HDOk.of_ii fun own past below p σ st t u => by
  have := leQ_ok w G own past below p σ st i j t u
  rw [← PySem.W.Fast.leQq_eq] at this
  refine this.trans ?_
  rw [decide_eq_true h]
theorem HDOk.le_false (h : ¬ (i ≤ j)) : HDOk w G D s₀ X (HD.cmp "int.__le__" i j false) := HDOk.of_ii fun own past below p σ st t u => by
  have := leQ_ok w G own past below p σ st i j t u
  rw [← PySem.W.Fast.leQq_eq] at this
  refine this.trans ?_
  rw [decide_eq_false h]
theorem HDOk.lt_true (h : i < j) : HDOk w G D s₀ X (HD.cmp "int.__lt__" i j true) := HDOk.of_ii fun own past below p σ st t u => by
  have := ltQ_ok w G own past below p σ st i j t u
  rw [← PySem.W.Fast.ltQq_eq] at this
  refine this.trans ?_
  rw [decide_eq_true h]
theorem HDOk.lt_false (h : ¬ (i < j)) : HDOk w G D s₀ X (HD.cmp "int.__lt__" i j false) := HDOk.of_ii fun own past below p σ st t u => by
  have := ltQ_ok w G own past below p σ st i j t u
  rw [← PySem.W.Fast.ltQq_eq] at this
  refine this.trans ?_
  rw [decide_eq_false h]
theorem HDOk.ge_true (h : j ≤ i) : HDOk w G D s₀ X (HD.cmp "int.__ge__" i j true) := HDOk.of_ii fun own past below p σ st t u => by
  have := geQ_ok w G own past below p σ st i j t u
  rw [← PySem.W.Fast.geQq_eq] at this
  refine this.trans ?_
  rw [decide_eq_true h]
theorem HDOk.ge_false (h : ¬ (j ≤ i)) : HDOk w G D s₀ X (HD.cmp "int.__ge__" i j false) := HDOk.of_ii fun own past below p σ st t u => by
  have := geQ_ok w G own past below p σ st i j t u
  rw [← PySem.W.Fast.geQq_eq] at this
  refine this.trans ?_
  rw [decide_eq_false h]
theorem HDOk.gt_true (h : j < i) : HDOk w G D s₀ X (HD.cmp "int.__gt__" i j true) := HDOk.of_ii fun own past below p σ st t u => by
  have := gtQ_ok w G own past below p σ st i j t u
  rw [← PySem.W.Fast.gtQq_eq] at this
  refine this.trans ?_
  rw [decide_eq_true h]
theorem HDOk.gt_false (h : ¬ (j < i)) : HDOk w G D s₀ X (HD.cmp "int.__gt__" i j false) := HDOk.of_ii fun own past below p σ st t u => by
  have := gtQ_ok w G own past below p σ st i j t u
  rw [← PySem.W.Fast.gtQq_eq] at this
  refine this.trans ?_
  rw [decide_eq_false h]
theorem HDOk.eq_true (h : i = j) : HDOk w G D s₀ X (HD.cmp "int.__eq__" i j true) := HDOk.of_ii fun own past below p σ st t u => by
  have := eqQ_ok w G own past below p σ st i j t u
  rw [← PySem.W.Fast.eqQq_eq] at this
  refine this.trans ?_
  rw [decide_eq_true h]
theorem HDOk.eq_false (h : ¬ (i = j)) : HDOk w G D s₀ X (HD.cmp "int.__eq__" i j false) := HDOk.of_ii fun own past below p σ st t u => by
  have := eqQ_ok w G own past below p σ st i j t u
  rw [← PySem.W.Fast.eqQq_eq] at this
  refine this.trans ?_
  rw [decide_eq_false h]
theorem HDOk.ne_true (h : ¬ i = j) : HDOk w G D s₀ X (HD.cmp "int.__ne__" i j true) := HDOk.of_ii fun own past below p σ st t u => by
  have := neQ_ok w G own past below p σ st i j t u
  rw [← PySem.W.Fast.neQq_eq] at this
  refine this.trans ?_
  simp only [decide_eq_false (show ¬ i = j from h)]; rfl
theorem HDOk.ne_false (h : ¬ (¬ i = j)) : HDOk w G D s₀ X (HD.cmp "int.__ne__" i j false) := HDOk.of_ii fun own past below p σ st t u => by
  have := neQ_ok w G own past below p σ st i j t u
  rw [← PySem.W.Fast.neQq_eq] at this
  refine this.trans ?_
  simp only [decide_eq_true (show i = j from Classical.not_not.mp h)]; rfl
end
end Mine
end
end
section
open PySem PySem.W PyProof.Rows Builtin Builtin.Str Builtin.Int
set_option maxRecDepth 100000
section
namespace Mine
theorem code_slot {prog : Program} {w : World} {A : Around} {s : Shared} {R : Result → Shared → Prop} {T : String} {name : PySem.Str} {id : String} {B : Builtin} {self : Value} {rest : List Value} {S : PySem.Spec} (slot : Slot T name id) (hT : s.TypeIs self T)
    (entry : entryFor table id = some B) (args : argsOk id ⟨self :: rest, []⟩) (g : Meets (B ⟨self :: rest, []⟩) S) (h : S A R s) : codeAny (model prog w) A (.call (.builtin id) ⟨self :: rest, []⟩) R s :=
  codeAny_call_builtin slot.plain entry (slot.check _ _ _ _ _ _ _ _ hT args (g prog w A R s h))
section
variable {w : World} {G : Gs} {D : Nat} {s₀ s : Shared} {X : XS} {st : St}
theorem Rel.toks (R : Rl w G s₀ X st s) (n : Nat) : Rl w G s₀ X st { s with toks := n } := ⟨R.K, R.low, R.S, R.hi, R.nd, R.mod, R.keep, R.size, R.n0, R.gens, R.drawn, R.os, R.ro, R.keepF, R.sf, R.fl, R.liv, R.fr⟩
noncomputable def HD.bi (op : String) (args : Code → List Value) (V : Tok → Value) : HD := ⟨fun c _ => .call (.builtin op) ⟨args c, []⟩, id, fun y => .ok (.ret (V (y.t 0))), fun _ => id⟩
noncomputable def HD.sGet (x : PySem.Str) (i : Int) (c : Nat) : HD := HD.bi "str.__getitem__" (fun q => [.str x (argTok q 0), .int i (argTok q 1)]) fun t => .str ⟨#[c]⟩ t
theorem HDOk.sGet {x : PySem.Str} {i : Int} {c : Nat} (h0 : 0 ≤ i) (hx : x.cps[i.toNat]? = some c) (hl : x.length ≤ 10000) : HDOk w G D s₀ X (HD.sGet x i c) := by
  intro cc st A s hA hD hF R
  obtain ⟨j, rfl⟩ := Int.eq_ofNat_of_zero_le h0
  have hx' : x.cps[j]? = some c := hx
  have hj : j < x.cps.size := (Array.getElem?_eq_some_iff.mp hx').1
  have hs : seqIndex? (j : Int) x.length = some j := by
    unfold seqIndex?
    have : ¬ ((j : Int) < 0) := by lia
    simp only [this, if_false]
    have h2 : ¬ ((j : Int) < 0 ∨ (j : Int) ≥ (x.length : Nat)) := by
      have : x.length = x.cps.size := rfl
      lia
    simp_all
  refine code_slot F.slot_str_getitem (typeIs_str s x _) F.entry_str_getitem (F.args_str_getitem_2 _ _) (gives_str_getitem x j _ _ c (by
    have : x.length = x.cps.size := rfl
    rw [Bool.or_eq_false_iff]
    exact ⟨decide_eq_false (by lia), decide_eq_false (by lia)⟩) (by rw [hs]; exact hx')).meets ?_
  exact ⟨(by show 1 ≤ sizeLine; decide), ⟨fun _ => s.toks, fun _ _ => 0, fun _ _ => 0, fun _ => #[]⟩, rfl, R.toks _⟩
noncomputable def HD.sAdd (x y : PySem.Str) : HD := HD.bi "str.__add__" (fun q => [.str x (argTok q 0), .str y (argTok q 1)]) fun t => .str (x ++ y) t
theorem HDOk.sAdd {x y : PySem.Str} (hx : x.length ≤ 10000) (hy : y.length ≤ 10000) : HDOk w G D s₀ X (HD.sAdd x y) := by
  intro cc st A s hA hD hF R
  refine code_slot F.slot_str_add (typeIs_str s x _) F.entry_str_add (F.args_str_add_2 _ _) (gives_str_add x y _ _).meets ?_
  have e0 : ∀ z : PySem.Str, (z.length == 0) = true → z = ⟨#[]⟩ := fun z h => by
    obtain ⟨z⟩ := z
    have : z.size = 0 := beq_iff_eq.mp h
    rw [Array.eq_empty_of_size_eq_zero this]
  show Made.post _ _ _
  split
  · rename_i h
    refine ⟨⟨fun _ => argTok cc 1, fun _ _ => 0, fun _ _ => 0, fun _ => #[]⟩, ?_, R⟩
    rw [e0 x h]
    show _ = Except.ok (Flow.ret (.str (⟨#[] ++ y.cps⟩ : PySem.Str) _))
    rw [Array.empty_append]
  · split
    · rename_i h
      refine ⟨⟨fun _ => argTok cc 0, fun _ _ => 0, fun _ _ => 0, fun _ => #[]⟩, ?_, R⟩
      rw [e0 y h]
      show _ = Except.ok (Flow.ret (.str (⟨x.cps ++ #[]⟩ : PySem.Str) _))
      rw [Array.append_empty]
    · refine ⟨?_, ⟨fun _ => s.toks, fun _ _ => 0, fun _ _ => 0, fun _ => #[]⟩, rfl, R.toks _⟩
      show (x.cps ++ y.cps).size ≤ sizeLine
      rw [Array.size_append]
      have h1 : x.cps.size ≤ 10000 := hx
      have h2 : y.cps.size ≤ 10000 := hy
      have : (20000 : Nat) ≤ sizeLine := by decide
      lia
noncomputable def HD.sAddR (x y z : PySem.Str) : HD := HD.bi "str.__add__" (fun q => [.str x (argTok q 0), .str y (argTok q 1)]) fun t => .str z t
theorem HDOk.sAddR {x y z : PySem.Str} (hz : z = x ++ y) (hx : x.length ≤ 10000) (hy : y.length ≤ 10000) : HDOk w G D s₀ X (HD.sAddR x y z) := by subst hz; exact HDOk.sAdd hx hy
noncomputable def setP (st : St) (i : Nat) (p : Nat × Obj) : St := match st, i with
  | [], _ => []
  | _ :: l, 0 => p :: l
  | q :: l, i + 1 => q :: setP l i p
noncomputable def partV (st : St) (ix j : Nat) : Option Int → Value
  | none => .none
  | some i => .int i (vTok st ix j)
noncomputable def sliceO (st : St) (ix : Nat) (l u : Option Int) : Obj := ⟨.type "slice", none, .fields #[partV st ix 0 l, partV st ix 1 u, .none], #[]⟩
noncomputable def HD.sCut (x : PySem.Str) (ix : Nat) (l u : Option Int) (z : PySem.Str) : HD :=
  ⟨fun c st => .call (.builtin "str.__getitem__") ⟨[.str x (argTok c 0), .ref (addrAt st ix)], []⟩,
    fun st => match nth st ix with | some p => setAt st ix (sliceO st ix l u) | none => [(0, sliceO st ix l u)],
    fun y => .ok (.ret (.str z (y.t 0))), fun _ => id⟩
theorem nth_setAt : ∀ {l : St} {i : Nat} {p : Nat × Obj} {o : Obj}, nth l i = some p → nth (setAt l i o) i = some (p.1, o)
  | [], _, _, _, h => by cases h
  | a :: l, 0, p, o, h => by cases h; rfl
  | a :: l, i + 1, p, o, h => nth_setAt (l := l) (i := i) h
theorem HDOk.sCut {x z : PySem.Str} {ix : Nat} {l : Int} {u : Option Int} (hz : ((strSliceIndices (some l) u 1 x.length).filterMap (x.cps[·]?)).toArray = z.cps) (hl : x.length ≤ 10000) (hl' : z.length ≤ 10000)
    (hw : (strSliceIndices (some l) u 1 x.length).length = x.length → x = z) : HDOk w G D s₀ X (HD.sCut x ix (some l) u z) := by
  intro cc st A s hA hD hF R
  have hs : s.heap.IsSlice (addrAt st ix) (some (l, vTok st ix 0)) (u.map fun j => (j, vTok st ix 1)) none := by
    have key : ∃ q, q ∈ (HD.sCut x ix (some l) u z).pre st ∧ q.1 = addrAt st ix ∧ q.2 = sliceO st ix (some l) u := by
      show ∃ q, q ∈ (match nth st ix with | some p => setAt st ix (sliceO st ix (some l) u) | none => [(0, sliceO st ix (some l) u)]) ∧ _
      unfold addrAt
      cases h : nth st ix with
      | none => exact ⟨_, .head _, rfl, rfl⟩
      | some p => exact ⟨_, nth_mem (nth_setAt h), rfl, rfl⟩
    obtain ⟨q, hq, h1, h2⟩ := key
    refine ⟨sliceO st ix (some l) u, ?_, rfl, ?_⟩
    · have := R.S q hq
      rw [h1, h2] at this; exact this
    · cases u <;> rfl
  refine code_slot F.slot_str_getitem (typeIs_str s x _) F.entry_str_getitem (F.args_str_getitem_2 _ _) (meets_str_getitem_slice x _ _ _ _ none rfl) ⟨hs, ?_⟩
  have hu : (u.map fun j => (j, vTok st ix 1)).map (·.1) = u := by cases u <;> rfl
  show Made.post (sliceMade x _ (some (l, vTok st ix 0)) (u.map fun j => (j, vTok st ix 1)) none) _ _
  unfold sliceMade slicePicked
  rw [hu]
  split
  · rename_i h
    have h := (Bool.and_eq_true _ _ ▸ h).2
    have := hw (beq_iff_eq.mp h)
    exact ⟨⟨fun _ => argTok cc 0, fun _ _ => 0, fun _ _ => 0, fun _ => #[]⟩, by rw [this]; rfl, R⟩
  · refine ⟨?_, ⟨fun _ => s.toks, fun _ _ => 0, fun _ _ => 0, fun _ => #[]⟩, ?_, R.toks _⟩
    · show ((strSliceIndices (some l) u 1 x.length).filterMap (x.cps[·]?)).toArray.size ≤ sizeLine
      rw [hz]
      have : (10000 : Nat) ≤ sizeLine := by decide
      exact Nat.le_trans hl' this
    · show _ = Except.ok (Flow.ret (.str z _))
      have : (⟨((strSliceIndices (some l) u 1 x.length).filterMap (x.cps[·]?)).toArray⟩ : PySem.Str) = z := by rw [hz]
      rw [← this]; rfl
theorem cut_none (l : Int) (n : Nat) : strSliceIndices (some l) none 1 n = strSliceIndices (some l) (some (n : Int)) 1 n := by
  have h2 : ¬ ((n : Int) < 0) := by lia
  have e : max (0 : Int) (min (n : Int) (n : Int)) = n := by lia
  simp only [strSliceIndices, h2, if_false, e, show ((1 : Int) > 0) = True from by simp, if_true]
theorem whole_of {x : PySem.Str} {a b : Nat} (hab : a ≤ b) (hb : b ≤ x.length) (h : (strSliceIndices (some (a : Int)) (some (b : Int)) 1 x.length).length = x.length) : a = 0 ∧ b = x.length := by
  rw [StrLaws.strSliceIndices_plain hab hb, List.length_map, List.length_range] at h
  lia
theorem HDOk.sHead {x : PySem.Str} {ix : Nat} {b : Int} (h0 : 0 ≤ b) (hb : b ≤ x.length) (hl : x.length ≤ 10000) : HDOk w G D s₀ X (HD.sCut x ix (some 0) (some b) ⟨(x.cps.toList.take b.toNat).toArray⟩) := by
  obtain ⟨j, rfl⟩ := Int.eq_ofNat_of_zero_le h0
  have hj : j ≤ x.length := by lia
  have e := StrLaws.sliced_plain x (Nat.zero_le j) hj
  have hx : x.cps.toList.length = x.length := rfl
  refine HDOk.sCut (l := 0) ?_ hl ?_ fun h => ?_
  · refine (congrArg List.toArray e).trans ?_
    simp
  · show ((x.cps.toList.take j).toArray).size ≤ _
    rw [List.size_toArray, List.length_take]; lia
  · have := (whole_of (a := 0) (Nat.zero_le j) hj h).2
    obtain ⟨c⟩ := x
    show _ = (⟨(c.toList.take j).toArray⟩ : PySem.Str)
    rw [this]
    have : (c.toList.take (PySem.Str.length ⟨c⟩)) = c.toList := List.take_of_length_le (Nat.le_refl _)
    rw [this, Array.toArray_toList]
theorem HDOk.sTail {x : PySem.Str} {ix : Nat} {b : Int} (h0 : 0 ≤ b) (hb : b ≤ x.length) (hl : x.length ≤ 10000) : HDOk w G D s₀ X (HD.sCut x ix (some b) none ⟨(x.cps.toList.drop b.toNat).toArray⟩) := by
  obtain ⟨j, rfl⟩ := Int.eq_ofNat_of_zero_le h0
  have hj : j ≤ x.length := by lia
  have e := StrLaws.sliced_plain x hj (Nat.le_refl _)
  have hx : x.cps.toList.length = x.length := rfl
  have hd : (x.cps.toList.drop j).take (x.length - j) = x.cps.toList.drop j := List.take_of_length_le (by rw [List.length_drop]; lia)
  refine HDOk.sCut (l := (j : Int)) ?_ hl ?_ fun h => ?_
  · rw [cut_none]
    refine (congrArg List.toArray e).trans ?_
    rw [hd]; rfl
  · show ((x.cps.toList.drop j).toArray).size ≤ _
    rw [List.size_toArray, List.length_drop]; lia
  · rw [cut_none] at h
    have := (whole_of hj (Nat.le_refl _) h).1
    obtain ⟨c⟩ := x
    subst this
    rfl
noncomputable def vwl : List Nat := [97, 101, 105, 111, 117, 225, 233, 237, 243, 246, 250, 252, 337, 369]
noncomputable def isV (c : Nat) : Bool := vwl.contains c
noncomputable def vTexts : List PySem.Str := ["a", "e", "i", "o", "u", "á", "é", "í", "ó", "ö", "ú", "ü", "ő", "ű"]
noncomputable def GOk (w : World) (G : Gs) : Prop := ∃ n, n < scanBound ∧ G.o.SetObjOf (PySem.strKind P0 w) (fun k => vTexts.contains k) n
theorem vTexts_eq : vTexts = vwl.map fun c => ⟨#[c]⟩ := by kernel_rfl
theorem vTexts_contains (c : Nat) : vTexts.contains ⟨#[c]⟩ = isV c := by
  rw [vTexts_eq]
  unfold isV
  rw [Bool.eq_iff_iff, List.contains_iff_mem, List.contains_iff_mem, List.mem_map]
  constructor
  · rintro ⟨a, ha, e⟩
    injection e with e
    have : a = c := by simpa using e
    exact this ▸ ha
  · exact fun h => ⟨c, h, rfl⟩
noncomputable def HD.inV (c : Nat) (b : Bool) : HD := HD.bi "set.__contains__" (fun q => [.ref 230, .str ⟨#[c]⟩ (argTok q 1)]) fun _ => .bool b
theorem set_at (R : Rl w G s₀ X st s) : s.heap.get? 230 = some G.o := R.K 230 _ rfl rfl
theorem HDOk.inV {c : Nat} {b : Bool} (hG : GOk w G) (hb : isV c = b) : HDOk w G D s₀ X (HD.inV c b) := by
  intro cc st A s hA hD hF R
  obtain ⟨n, hn, hS⟩ := hG
  have hS' : s.heap.SetOf (PySem.strKind P0 w) 230 (fun k => vTexts.contains k) n := hS.setOf (set_at R) hn
  have hkey : (PySem.strKind P0 w).is ⟨#[c]⟩ (.str ⟨#[c]⟩ (argTok cc 1)) = true := by
    simp [PySem.strKind, Value.isStrOf]
  refine codeAny_call_builtin F.slot_set_contains.plain entry_set_contains (F.slot_set_contains.check _ _ _ _ _ _ _ _ hS'.typeIs (F.args_set_contains_2 _ _) ?_)
  have key : wpAny (model P0 w) A.in1 (Builtin.«frozenset.__contains__» ⟨[.ref 230, .str ⟨#[c]⟩ (argTok cc 1)], []⟩) (fun fin s' => ∃ v, fin = .done (.ret v) ∧ v = .bool b ∧ Rl w G s₀ X st s') (fun _ _ => False) s := by
    unfold Builtin.«frozenset.__contains__» Builtin.Frozenset.oneOther
    simp only [List.isEmpty_nil, bind_assoc]
    unfold Builtin.Frozenset.addrOf Builtin.Frozenset.withSetAsKey setContains
    refine wpAny_bind (wpAny_pure ?_)
    try dsimp only
    refine wpAny_bind (wpAny_pure ?_)
    try dsimp only
    refine wpAny_bind (wpAny_tryCatch ?_)
    refine wpAny_holding ?_
    refine wpAny_bind ((PySem.strKind P0 w).pyHash hkey ?_)
    refine wpAny_bind (wpAny_setFind_of (s := { s with toks := s.toks + 1 }) hkey rfl hS' fun r hr => ?_)
    refine wpAny_pure ?_
    show wpAny _ _ (ret (Value.bool r.isSome)) _ _ _
    rw [hr, vTexts_contains, hb]
    exact wpAny_pure ⟨_, rfl, rfl, R.toks _⟩
  refine wpAny_mono key (fun fin s' h => ?_) fun _ _ h => h.elim
  obtain ⟨v, rfl, rfl, R'⟩ := h
  exact ⟨⟨fun _ => 0, fun _ _ => 0, fun _ _ => 0, fun _ => #[]⟩, rfl, R'⟩
noncomputable def HD.lGet (tv : Nat) (k : Int) (x : Value) : HD := HD.bi "list.__getitem__" (fun q => [.ref tv, .int k (argTok q 1)]) fun _ => x
theorem HDOk.lGet {tv : Nat} {items : List Value} {n : Nat} {k : Int} {x : Value} (h : (TKb w.params G).get tv = some ⟨.type "list", none, .seq items.toArray n, #[]⟩) (h0 : 0 ≤ k) (hx : items[k.toNat]? = some x) (hfit : k < 2 ^ 63) : HDOk w G D s₀ X (HD.lGet tv k x) := by
  intro cc st A s hA hD hF R
  have ho := R.K tv _ h rfl
  have hl : s.heap.IsList tv items.toArray := ⟨_, ho, rfl, n, rfl⟩
  have hd : (⟨.type "list", none, .seq items.toArray n, #[]⟩ : Obj).data = .seq items.toArray n := rfl
  refine codeAny_call_builtin slot_list_getitem.plain entry_list_getitem (slot_list_getitem.check _ _ _ _ _ _ _ _ hl.typeIs (args_list_getitem _ _) ?_)
  have key : wpAny (model P0 w) A.in1 (Builtin.«list.__getitem__» ⟨[.ref tv, .int k (argTok cc 1)], []⟩) (fun fin s' => ∃ v, fin = .done (.ret v) ∧ v = x ∧ Rl w G s₀ X st s') (fun _ _ => False) s := by
    show wpAny _ _ (Builtin.List.listSubscript? (.int k (argTok cc 1)) >>= _) _ _ s
    refine wpAny_bind (wpAny_listSubscript_int (fitsIndex_of h0 hfit) ?_)
    clear hfit
    obtain ⟨j, rfl⟩ := Int.eq_ofNat_of_zero_le h0
    have hx' : items.toArray[j]? = some x := by rw [List.getElem?_toArray]; exact hx
    show wpAny _ _ ((seqItemAt tv j >>= fun r => pure (r.map (j, ·))) >>= _) _ _ s
    refine wpAny_bind (wpAny_bind (wpAny_seqItemAt ho hd (wpAny_pure ?_)))
    rw [hx']
    first
      | exact wpAny_bind (wpAny_pure (wpAny_pure ⟨x, rfl, rfl, R⟩))
      | exact wpAny_pure ⟨x, rfl, rfl, R⟩
  refine wpAny_mono key (fun fin s' h => ?_) fun _ _ h => h.elim
  obtain ⟨v, rfl, rfl, R'⟩ := h
  exact ⟨⟨fun _ => 0, fun _ _ => 0, fun _ _ => 0, fun _ => #[]⟩, rfl, R'⟩
theorem code_function {prog : Program} {w : World} {A : Around} {s : Shared} {R : Result → Shared → Prop} {id : String} {B : Builtin} {args : List Value} (kind : builtinKind id = none) (plain : plainId id = true)
    (entry : entryFor table id = some B) (ok : argsOk id ⟨args, []⟩) (h : wpAny (model prog w) A.in1 (B ⟨args, []⟩) (fun fin s' => ∃ v, fin = .done (.ret v) ∧ R (.ok (.ret v)) s') (fun e s' => R (.error e) s') s) : codeAny (model prog w) A (.call (.builtin id) ⟨args, []⟩) R s := by
  refine codeAny_call_builtin plain entry ?_
  have hfin := wpAny_mono h (Q' := fun fin s' => match fin with | .done f => R (.ok f) s' | .again c' => c'.quiet = true ∧ codeAny (model prog w) A c' R s') (fun fin s' h' => by obtain ⟨v, rfl, hv⟩ := h'; exact hv) fun _ _ x => x
  simp only [checkBuiltinCall, kind]
  cases hsig : Manifest.signature? id with
  | none => exact wpAny_pure hfin
  | some sig =>
    simp only [argsOk, hsig] at ok
    have h2 : Bind.checkArgs id sig ⟨args, []⟩ = pure () := ok
    show wpAny _ _ (Bind.checkArgs id sig ⟨args, []⟩) _ _ s
    rw [h2]; exact wpAny_pure hfin
noncomputable def HD.sLen (x : PySem.Str) : HD := HD.bi "len" (fun q => [.str x (argTok q 0)]) fun t => .int x.length t
theorem HDOk.sLen {x : PySem.Str} (hx : x.length ≤ 10000) : HDOk w G D s₀ X (HD.sLen x) := by
  intro cc st A s hA hD hF R
  refine code_function kind_len plain_len entry_len (args_len1 _) ?_
  unfold Builtin.«len»
  refine wpAny_bind (m := oneArg "len" _) (wpAny_pure ?_)
  refine wpAny_bind (m := callSpecial? (.str x _) (Str.ofString "__len__")) (wpAny_callSpecial?_slot (name := Str.ofString "__len__") (typeIs_str s x _) F.slot_str_len
    (call_gives F.slot_str_len (typeIs_str s x _) F.entry_str_len (F.args_str_len_1 _) (gives_str_len x _) ?_))
  show wpAny _ _ _ _ _ { s with toks := s.toks + 1 }
  refine wpAny_bind (wpAny_holding (wpAny_pure ?_))
  refine wpAny_bind (wpAny_letGo ?_)
  show wpAny _ _ (if ((x.length : Nat) : Int) < 0 then _ else _) _ _ _
  rw [if_neg (by lia)]
  show wpAny _ _ (if ((x.length : Nat) : Int) ≥ 2 ^ 63 then _ else _) _ _ _
  rw [if_neg (by lia)]
  exact wpAny_bind (wpAny_mkInt (wpAny_pure ⟨_, rfl, ⟨fun _ => s.toks + 1, fun _ _ => 0, fun _ _ => 0, fun _ => #[]⟩, rfl, (R.toks _)⟩))
end
end Mine
end
end
section
open PySem PySem.W PyProof.Rows
set_option maxRecDepth 100000
section
namespace Mine
noncomputable def bodyN (st : Stmt) (i : Nat) : Stmt := match nth (fnBody st) i with | some x => x | none => .Pass default
noncomputable def l3 (P : Params) (a d L : Nat) (m : Sm) (fr : Tm) (k v kf vf : Nat → Tok) : St := [(a, inO 878 d), (d, dictT P m k v), (L, fr kf vf)]
noncomputable def HD.loop (P : Params) (c : Code) (a d L : Nat) (m : Sm) (fr : Tm) (res : Result) (m' : Sm) (fr' : Tm) : HD :=
  ⟨fun _ _ => c, framePre P a d L m fr, fun _ => res, fun y st => setAt (setAt st 1 (dictT P m' (y.K 1) (y.V 1))) 2 (fr' (y.K 2) (y.V 2))⟩
section
variable {w : World} {G : Gs} {D : Nat} {s₀ s s' : Shared} {X : XS} {st : St} {a d L : Nat}
theorem HDOk.loop {c : Code} {m m' : Sm} {fr fr' : Tm} {res : Result}
    (h : ∀ k v kf vf, CSpec w G false D c (l3 w.params a d L m fr k v kf vf) fun r st2 _ => ∃ k' v' kf' vf', r = res ∧ st2 = l3 w.params a d L m' fr' k' v' kf' vf') : HDOk w G D s₀ X (HD.loop w.params c a d L m fr res m' fr') := by
  intro c st A s hA hD hF R
  refine codeAny_mono ((h (kTok st 1) (vTok st 1) (kTok st 2) (vTok st 2)).at (rest := dropN 3 st) hA hD R) fun r s' q => ?_
  obtain ⟨st2, ex, ⟨k', v', kf', vf', e, e2⟩, _, R'⟩ := q
  subst e2
  exact ⟨⟨fun _ => 0, fun i => if i = 1 then k' else kf', fun i => if i = 1 then v' else vf', fun _ => #[]⟩, e, Rel.cut R'⟩
end
noncomputable def skipV (b : Bool) : List Nat → Option Nat
  | [] => none
  | c :: r => if isV c = b then some 0 else (skipV b r).map (· + 1)
noncomputable def skipTo (b : Bool) (C : List Nat) : Nat := match skipV b C with | some i => i | none => C.length
noncomputable def withCu (m : Sm) (c : Int) : Sm := ⟨m.cur, c, m.li, m.lb, m.br, m.ke, m.p1, true⟩
end Mine
end
end
section
open PySem PySem.W PyProof.Rows
set_option maxRecDepth 100000
set_option maxHeartbeats 0
section
namespace Mine
noncomputable def setCurF : Fn := ⟨42, fnAt 2 (some 1), "BaseStemmer.set_current", 41, (sv "snowballstemmer.basestemmer" 194), ["self", "value"]⟩
noncomputable def getCurF : Fn := ⟨49, fnAt 2 (some 2), "BaseStemmer.get_current", 48, (sv "snowballstemmer.basestemmer" 194), ["self"]⟩
noncomputable def r1F : Fn := ⟨244, fnAt 6 (some 3), "HungarianStemmer.r_R1", 243, (sv "snowballstemmer.hungarian_stemmer" 459), ["self"]⟩
noncomputable def setCur_t (w : World) (G : Gs) (m : Sm) (x : PySem.Str) (t : Tok) := mRoad setCurF w G [.str x t] (Sm.mk m.cur m.cu m.li m.lb m.br m.ke m.p1 true) (Sm.mk x 0 x.length 0 0 x.length m.p1 true) (fun _ => .none) (fun a d L => [HD.sLen x]) [3,3,1,0,0,0,0,0,0,1,0,1,0,1,0,0,0,0,0,1,0,2,2,2,3,1,0,0,0,0,0,0,1,0,1,0,1,0,0,0,0,0,1,0,2,2,2,0,0,3,1,0,0,0,0,0,0,1,0,0,0,0,0,1,1,0,2,1,3,1,0,0,0,0,0,0,1,0,1,0,1,0,0,0,0,0,1,0,2,2,2,3,1,0,0,0,0,0,0,1,0,1,0,1,0,0,0,0,0,1,0,2,2,2,3,1,0,0,0,0,0,0,1,0,0,0,0,0,1,1,0,2,3,1,0,0,0,0,0,0,1,0,1,0,1,0,0,0,0,0,1,0,2,2,2,3,1,0,0,0,0,0,0,1,0,0,0,0,0,1,1,0,2,3,1,0,0,0,0,0,0,1,0,1,0,1,0,0,0,0,0,1,0,2,2,2]
noncomputable def setCur_f (w : World) (G : Gs) (m : Sm) (x : PySem.Str) (t : Tok) := mRoad setCurF w G [.str x t] (Sm.mk m.cur m.cu m.li m.lb m.br m.ke m.p1 false) (Sm.mk x 0 x.length 0 0 x.length m.p1 false) (fun _ => .none) (fun a d L => [HD.sLen x]) [3,3,1,0,0,0,0,0,0,1,0,1,0,1,0,0,0,0,0,1,0,2,2,2,3,1,0,0,0,0,0,0,1,0,1,0,1,0,0,0,0,0,1,0,2,2,2,0,0,3,1,0,0,0,0,0,0,1,0,0,0,0,0,1,1,0,2,1,3,1,0,0,0,0,0,0,1,0,1,0,1,0,0,0,0,0,1,0,2,2,2,3,1,0,0,0,0,0,0,1,0,1,0,1,0,0,0,0,0,1,0,2,2,2,3,1,0,0,0,0,0,0,1,0,0,0,0,0,1,1,0,2,3,1,0,0,0,0,0,0,1,0,1,0,1,0,0,0,0,0,1,0,2,2,2,3,1,0,0,0,0,0,0,1,0,0,0,0,0,1,1,0,2,3,1,0,0,0,0,0,0,1,0,1,0,1,0,0,0,0,0,1,0,2,2,2]
noncomputable def getCur (w : World) (G : Gs) (m : Sm) := mRoad getCurF w G [] m.F m.F (fun t => .str m.cur t) (fun a d L => []) [3,1,0,0,0,0,0,0,1,0,0,0,0,0,1,1,0,2]
noncomputable def r1_true (w : World) (G : Gs) (m : Sm) := mRoad r1F w G [] m.F m.F (fun _ => .bool true) (fun a d L => [HD.cmp "int.__le__" m.p1 m.cu true]) [3,1,0,0,0,0,0,0,1,0,0,0,1,1,0,2,3,1,0,0,0,0,0,0,1,0,0,0,0,0,1,1,0,2,1]
noncomputable def r1_false (w : World) (G : Gs) (m : Sm) := mRoad r1F w G [] m.F m.F (fun _ => .bool false) (fun a d L => [HD.cmp "int.__le__" m.p1 m.cu false]) [3,1,0,0,0,0,0,0,1,0,0,0,1,1,0,2,3,1,0,0,0,0,0,0,1,0,0,0,0,0,1,1,0,2,1]
theorem setCurF_ok (w : World) (G : Gs) (a d : Nat) (k v : Nat → Tok) (m : Sm) (x1 : Value) : setCurF.Ok w G [3,3,3,3] (selfSt w.params a d k v m) [.ref a, x1] := okN (FnAt.mk' (sv "snowballstemmer.basestemmer" 194) (by kernel_rfl) (by kernel_rfl) (by kernel_rfl) (by kernel_rfl)) (by kernel_rfl) (fun pm => by kernel_rfl) (by kernel_rfl)
theorem getCurF_ok (w : World) (G : Gs) (a d : Nat) (k v : Nat → Tok) (m : Sm)  : getCurF.Ok w G [3,3] (selfSt w.params a d k v m) [.ref a] := okN (FnAt.mk' (sv "snowballstemmer.basestemmer" 194) (by kernel_rfl) (by kernel_rfl) (by kernel_rfl) (by kernel_rfl)) (by kernel_rfl) (fun pm => by kernel_rfl) (by kernel_rfl)
theorem r1F_ok (w : World) (G : Gs) (a d : Nat) (k v : Nat → Tok) (m : Sm)  : r1F.Ok w G [3,3] (selfSt w.params a d k v m) [.ref a] := okN (FnAt.mk' (sv "snowballstemmer.hungarian_stemmer" 459) (by kernel_rfl) (by kernel_rfl) (by kernel_rfl) (by kernel_rfl)) (by kernel_rfl) (fun pm => by kernel_rfl) (by kernel_rfl)
theorem setCur_t_ok (w : World) (G : Gs) (m : Sm) (x : PySem.Str) (t : Tok) (a d L : Nat) (k v ts : Nat → Tok) : (setCur_t w G m x t a d L k v ts).Ok w := okC (S := fun w => setCur_t w G m x t a d L k v ts) (by kernel_rfl) (by kernel_rfl) w
theorem setCur_f_ok (w : World) (G : Gs) (m : Sm) (x : PySem.Str) (t : Tok) (a d L : Nat) (k v ts : Nat → Tok) : (setCur_f w G m x t a d L k v ts).Ok w := okC (S := fun w => setCur_f w G m x t a d L k v ts) (by kernel_rfl) (by kernel_rfl) w
theorem getCur_ok (w : World) (G : Gs) (m : Sm) (a d L : Nat) (k v ts : Nat → Tok) : (getCur w G m a d L k v ts).Ok w := okC (S := fun w => getCur w G m a d L k v ts) (by kernel_rfl) (by kernel_rfl) w
theorem r1_true_ok (w : World) (G : Gs) (m : Sm) (a d L : Nat) (k v ts : Nat → Tok) : (r1_true w G m a d L k v ts).Ok w := okC (S := fun w => r1_true w G m a d L k v ts) (by kernel_rfl) (by kernel_rfl) w
theorem r1_false_ok (w : World) (G : Gs) (m : Sm) (a d L : Nat) (k v ts : Nat → Tok) : (r1_false w G m a d L k v ts).Ok w := okC (S := fun w => r1_false w G m a d L k v ts) (by kernel_rfl) (by kernel_rfl) w
end Mine
end
end
section
open PySem PySem.W PyProof.Rows
set_option maxRecDepth 100000
set_option maxHeartbeats 0
section
namespace Mine
noncomputable def inGF : Fn := ⟨63, fnAt 2 (some 4), "BaseStemmer.in_grouping", 62, (sv "snowballstemmer.basestemmer" 194), ["self", "s"]⟩
noncomputable def goInF : Fn := ⟨70, fnAt 2 (some 5), "BaseStemmer.go_in_grouping", 69, (sv "snowballstemmer.basestemmer" 194), ["self", "s"]⟩
noncomputable def goOutF : Fn := ⟨98, fnAt 2 (some 9), "BaseStemmer.go_out_grouping", 97, (sv "snowballstemmer.basestemmer" 194), ["self", "s"]⟩
noncomputable def inG_true (w : World) (G : Gs) (m : Sm) (c : Nat) := mRoad inGF w G [.ref 230] m.F (withCu m (m.cu + 1)) (fun _ => .bool true) (fun a d L => [HD.cmp "int.__ge__" m.cu m.li false, HD.sGet m.cur m.cu c, HD.inV c true]) [3,1,0,0,0,0,0,0,1,0,0,0,0,0,1,1,0,2,3,1,0,0,0,0,0,0,1,0,0,0,0,0,1,1,0,2,1,3,1,0,0,0,0,0,0,1,0,0,0,0,0,1,1,0,2,3,1,0,0,0,0,0,0,1,0,0,0,0,0,1,1,0,2,1,3,0,0,1,3,1,0,0,0,0,0,0,1,0,0,0,0,0,1,1,0,2,0,1,0,0,0,0,0,0,1,0,1,0,1,0,0,0,0,0,1,0,2,2,2]
noncomputable def inG_false (w : World) (G : Gs) (m : Sm) (c : Nat) := mRoad inGF w G [.ref 230] m.F m.F (fun _ => .bool false) (fun a d L => [HD.cmp "int.__ge__" m.cu m.li false, HD.sGet m.cur m.cu c, HD.inV c false]) [3,1,0,0,0,0,0,0,1,0,0,0,0,0,1,1,0,2,3,1,0,0,0,0,0,0,1,0,0,0,0,0,1,1,0,2,1,3,1,0,0,0,0,0,0,1,0,0,0,0,0,1,1,0,2,3,1,0,0,0,0,0,0,1,0,0,0,0,0,1,1,0,2,1,3,0,0,1]
noncomputable def goInT_end (w : World) (G : Gs) (a d L : Nat) (k v kf vf : Nat → Tok) (m : Sm) (c0 : Nat) : ScT PySem.Fin := ⟨G, denote treeTable ((whileC (fenv 70 L (fnAt 2 (some 5)) "BaseStemmer.go_in_grouping" 69) (bodyN (fnAt 2 (some 5)) 0))), [3,1,0,0,0,0,0,0,1,0,0,0,0,0,1,1,0,2,3,1,0,0,0,0,0,0,1,0,0,0,0,0,1,1,0,2,1], (l3 w.params a d L m.F (frT w.params [("self", fun _ => .ref a), ("s", fun _ => .ref 230)]) k v kf vf), [HD.cmp "int.__lt__" m.cu m.li false], (fun _ => .ok (.done .next)), (fun _ => (framePre w.params a d L m.F (frT w.params [("self", fun _ => .ref a), ("s", fun _ => .ref 230)])))⟩
noncomputable def goInT_hit (w : World) (G : Gs) (a d L : Nat) (k v kf vf : Nat → Tok) (m : Sm) (c0 : Nat) : ScT PySem.Fin := ⟨G, denote treeTable ((whileC (fenv 70 L (fnAt 2 (some 5)) "BaseStemmer.go_in_grouping" 69) (bodyN (fnAt 2 (some 5)) 0))), [3,1,0,0,0,0,0,0,1,0,0,0,0,0,1,1,0,2,3,1,0,0,0,0,0,0,1,0,0,0,0,0,1,1,0,2,1,3,1,0,0,0,0,0,0,1,0,0,0,0,0,1,1,0,2,3,1,0,0,0,0,0,0,1,0,0,0,0,0,1,1,0,2,1,3,0,0,1], (l3 w.params a d L m.F (frT w.params [("self", fun _ => .ref a), ("s", fun _ => .ref 230)]) k v kf vf), [HD.cmp "int.__lt__" m.cu m.li true, HD.sGet m.cur m.cu c0, HD.inV c0 false], (fun _ => .ok (.done (.ret (.bool true)))), (fun _ => (framePre w.params a d L m.F (frT w.params [("self", fun _ => .ref a), ("s", fun _ => .ref 230)])))⟩
noncomputable def goInT_miss (w : World) (G : Gs) (a d L : Nat) (k v kf vf : Nat → Tok) (m : Sm) (c0 : Nat) : ScT PySem.Fin := ⟨G, denote treeTable ((whileC (fenv 70 L (fnAt 2 (some 5)) "BaseStemmer.go_in_grouping" 69) (bodyN (fnAt 2 (some 5)) 0))), [3,1,0,0,0,0,0,0,1,0,0,0,0,0,1,1,0,2,3,1,0,0,0,0,0,0,1,0,0,0,0,0,1,1,0,2,1,3,1,0,0,0,0,0,0,1,0,0,0,0,0,1,1,0,2,3,1,0,0,0,0,0,0,1,0,0,0,0,0,1,1,0,2,1,3,0,0,1,3,1,0,0,0,0,0,0,1,0,0,0,0,0,1,1,0,2,0,1,0,0,0,0,0,0,1,0,1,0,1,0,0,0,0,0,1,0,2,2,2], (l3 w.params a d L m.F (frT w.params [("self", fun _ => .ref a), ("s", fun _ => .ref 230)]) k v kf vf), [HD.cmp "int.__lt__" m.cu m.li true, HD.sGet m.cur m.cu c0, HD.inV c0 true], (fun _ => .ok (.again (whileC (fenv 70 L (fnAt 2 (some 5)) "BaseStemmer.go_in_grouping" 69) (bodyN (fnAt 2 (some 5)) 0)))), (fun _ => (framePre w.params a d L (withCu m (m.cu + 1)) (frT w.params [("self", fun _ => .ref a), ("s", fun _ => .ref 230)])))⟩
noncomputable def goIn_hit (w : World) (G : Gs) (m : Sm) (c : Int) := mRoad goInF w G [.ref 230] m.F (withCu m c) (fun _ => .bool true) (fun a d L => [HD.loop w.params (whileC (fenv 70 L (fnAt 2 (some 5)) "BaseStemmer.go_in_grouping" 69) (bodyN (fnAt 2 (some 5)) 0)) a d L m.F (frT w.params [("self", fun _ => .ref a), ("s", fun _ => .ref 230)]) (.ok (.ret (.bool true))) (withCu m c) (frT w.params [("self", fun _ => .ref a), ("s", fun _ => .ref 230)])]) [1]
noncomputable def goIn_end (w : World) (G : Gs) (m : Sm) (c : Int) := mRoad goInF w G [.ref 230] m.F (withCu m c) (fun _ => .bool false) (fun a d L => [HD.loop w.params (whileC (fenv 70 L (fnAt 2 (some 5)) "BaseStemmer.go_in_grouping" 69) (bodyN (fnAt 2 (some 5)) 0)) a d L m.F (frT w.params [("self", fun _ => .ref a), ("s", fun _ => .ref 230)]) (.ok .next) (withCu m c) (frT w.params [("self", fun _ => .ref a), ("s", fun _ => .ref 230)])]) [1]
noncomputable def goOutT_end (w : World) (G : Gs) (a d L : Nat) (k v kf vf : Nat → Tok) (m : Sm) (c0 : Nat) : ScT PySem.Fin := ⟨G, denote treeTable ((whileC (fenv 98 L (fnAt 2 (some 9)) "BaseStemmer.go_out_grouping" 97) (bodyN (fnAt 2 (some 9)) 0))), [3,1,0,0,0,0,0,0,1,0,0,0,0,0,1,1,0,2,3,1,0,0,0,0,0,0,1,0,0,0,0,0,1,1,0,2,1], (l3 w.params a d L m.F (frT w.params [("self", fun _ => .ref a), ("s", fun _ => .ref 230)]) k v kf vf), [HD.cmp "int.__lt__" m.cu m.li false], (fun _ => .ok (.done .next)), (fun _ => (framePre w.params a d L m.F (frT w.params [("self", fun _ => .ref a), ("s", fun _ => .ref 230)])))⟩
noncomputable def goOutT_hit (w : World) (G : Gs) (a d L : Nat) (k v kf vf : Nat → Tok) (m : Sm) (c0 : Nat) : ScT PySem.Fin := ⟨G, denote treeTable ((whileC (fenv 98 L (fnAt 2 (some 9)) "BaseStemmer.go_out_grouping" 97) (bodyN (fnAt 2 (some 9)) 0))), [3,1,0,0,0,0,0,0,1,0,0,0,0,0,1,1,0,2,3,1,0,0,0,0,0,0,1,0,0,0,0,0,1,1,0,2,1,3,1,0,0,0,0,0,0,1,0,0,0,0,0,1,1,0,2,3,1,0,0,0,0,0,0,1,0,0,0,0,0,1,1,0,2,1,3,0,0,1], (l3 w.params a d L m.F (frT w.params [("self", fun _ => .ref a), ("s", fun _ => .ref 230)]) k v kf vf), [HD.cmp "int.__lt__" m.cu m.li true, HD.sGet m.cur m.cu c0, HD.inV c0 true], (fun _ => .ok (.done (.ret (.bool true)))), (fun _ => (framePre w.params a d L m.F (frT w.params [("self", fun _ => .ref a), ("s", fun _ => .ref 230)])))⟩
noncomputable def goOutT_miss (w : World) (G : Gs) (a d L : Nat) (k v kf vf : Nat → Tok) (m : Sm) (c0 : Nat) : ScT PySem.Fin := ⟨G, denote treeTable ((whileC (fenv 98 L (fnAt 2 (some 9)) "BaseStemmer.go_out_grouping" 97) (bodyN (fnAt 2 (some 9)) 0))), [3,1,0,0,0,0,0,0,1,0,0,0,0,0,1,1,0,2,3,1,0,0,0,0,0,0,1,0,0,0,0,0,1,1,0,2,1,3,1,0,0,0,0,0,0,1,0,0,0,0,0,1,1,0,2,3,1,0,0,0,0,0,0,1,0,0,0,0,0,1,1,0,2,1,3,0,0,1,3,1,0,0,0,0,0,0,1,0,0,0,0,0,1,1,0,2,0,1,0,0,0,0,0,0,1,0,1,0,1,0,0,0,0,0,1,0,2,2,2], (l3 w.params a d L m.F (frT w.params [("self", fun _ => .ref a), ("s", fun _ => .ref 230)]) k v kf vf), [HD.cmp "int.__lt__" m.cu m.li true, HD.sGet m.cur m.cu c0, HD.inV c0 false], (fun _ => .ok (.again (whileC (fenv 98 L (fnAt 2 (some 9)) "BaseStemmer.go_out_grouping" 97) (bodyN (fnAt 2 (some 9)) 0)))), (fun _ => (framePre w.params a d L (withCu m (m.cu + 1)) (frT w.params [("self", fun _ => .ref a), ("s", fun _ => .ref 230)])))⟩
noncomputable def goOut_hit (w : World) (G : Gs) (m : Sm) (c : Int) := mRoad goOutF w G [.ref 230] m.F (withCu m c) (fun _ => .bool true) (fun a d L => [HD.loop w.params (whileC (fenv 98 L (fnAt 2 (some 9)) "BaseStemmer.go_out_grouping" 97) (bodyN (fnAt 2 (some 9)) 0)) a d L m.F (frT w.params [("self", fun _ => .ref a), ("s", fun _ => .ref 230)]) (.ok (.ret (.bool true))) (withCu m c) (frT w.params [("self", fun _ => .ref a), ("s", fun _ => .ref 230)])]) [1]
noncomputable def goOut_end (w : World) (G : Gs) (m : Sm) (c : Int) := mRoad goOutF w G [.ref 230] m.F (withCu m c) (fun _ => .bool false) (fun a d L => [HD.loop w.params (whileC (fenv 98 L (fnAt 2 (some 9)) "BaseStemmer.go_out_grouping" 97) (bodyN (fnAt 2 (some 9)) 0)) a d L m.F (frT w.params [("self", fun _ => .ref a), ("s", fun _ => .ref 230)]) (.ok .next) (withCu m c) (frT w.params [("self", fun _ => .ref a), ("s", fun _ => .ref 230)])]) [1]
theorem inGF_ok (w : World) (G : Gs) (a d : Nat) (k v : Nat → Tok) (m : Sm) (x1 : Value) : inGF.Ok w G [3,3,3,3] (selfSt w.params a d k v m) [.ref a, x1] := okN (FnAt.mk' (sv "snowballstemmer.basestemmer" 194) (by kernel_rfl) (by kernel_rfl) (by kernel_rfl) (by kernel_rfl)) (by kernel_rfl) (fun pm => by kernel_rfl) (by kernel_rfl)
theorem goInF_ok (w : World) (G : Gs) (a d : Nat) (k v : Nat → Tok) (m : Sm) (x1 : Value) : goInF.Ok w G [3,3,3,3] (selfSt w.params a d k v m) [.ref a, x1] := okN (FnAt.mk' (sv "snowballstemmer.basestemmer" 194) (by kernel_rfl) (by kernel_rfl) (by kernel_rfl) (by kernel_rfl)) (by kernel_rfl) (fun pm => by kernel_rfl) (by kernel_rfl)
theorem goOutF_ok (w : World) (G : Gs) (a d : Nat) (k v : Nat → Tok) (m : Sm) (x1 : Value) : goOutF.Ok w G [3,3,3,3] (selfSt w.params a d k v m) [.ref a, x1] := okN (FnAt.mk' (sv "snowballstemmer.basestemmer" 194) (by kernel_rfl) (by kernel_rfl) (by kernel_rfl) (by kernel_rfl)) (by kernel_rfl) (fun pm => by kernel_rfl) (by kernel_rfl)
theorem inG_true_ok (w : World) (G : Gs) (m : Sm) (c : Nat) (a d L : Nat) (k v ts : Nat → Tok) : (inG_true w G m c a d L k v ts).Ok w := okC (S := fun w => inG_true w G m c a d L k v ts) (by kernel_rfl) (by kernel_rfl) w
theorem inG_false_ok (w : World) (G : Gs) (m : Sm) (c : Nat) (a d L : Nat) (k v ts : Nat → Tok) : (inG_false w G m c a d L k v ts).Ok w := okC (S := fun w => inG_false w G m c a d L k v ts) (by kernel_rfl) (by kernel_rfl) w
theorem goInT_end_ok (w : World) (G : Gs) (a d L : Nat) (k v kf vf : Nat → Tok) (m : Sm) (c0 : Nat) : (goInT_end w G a d L k v kf vf m c0).Ok w := okD (S := fun w => goInT_end w G a d L k v kf vf m c0) (l := fun w => (whileC (fenv 70 L (fnAt 2 (some 5)) "BaseStemmer.go_in_grouping" 69) (bodyN (fnAt 2 (some 5)) 0))) (fun _ => rfl) (by kernel_rfl) (by kernel_rfl) w
theorem goInT_hit_ok (w : World) (G : Gs) (a d L : Nat) (k v kf vf : Nat → Tok) (m : Sm) (c0 : Nat) : (goInT_hit w G a d L k v kf vf m c0).Ok w := okD (S := fun w => goInT_hit w G a d L k v kf vf m c0) (l := fun w => (whileC (fenv 70 L (fnAt 2 (some 5)) "BaseStemmer.go_in_grouping" 69) (bodyN (fnAt 2 (some 5)) 0))) (fun _ => rfl) (by kernel_rfl) (by kernel_rfl) w
theorem goInT_miss_ok (w : World) (G : Gs) (a d L : Nat) (k v kf vf : Nat → Tok) (m : Sm) (c0 : Nat) : (goInT_miss w G a d L k v kf vf m c0).Ok w := okD (S := fun w => goInT_miss w G a d L k v kf vf m c0) (l := fun w => (whileC (fenv 70 L (fnAt 2 (some 5)) "BaseStemmer.go_in_grouping" 69) (bodyN (fnAt 2 (some 5)) 0))) (fun _ => rfl) (by kernel_rfl) (by kernel_rfl) w
theorem goIn_hit_ok (w : World) (G : Gs) (m : Sm) (c : Int) (a d L : Nat) (k v ts : Nat → Tok) : (goIn_hit w G m c a d L k v ts).Ok w := okC (S := fun w => goIn_hit w G m c a d L k v ts) (by kernel_rfl) (by kernel_rfl) w
theorem goIn_end_ok (w : World) (G : Gs) (m : Sm) (c : Int) (a d L : Nat) (k v ts : Nat → Tok) : (goIn_end w G m c a d L k v ts).Ok w := okC (S := fun w => goIn_end w G m c a d L k v ts) (by kernel_rfl) (by kernel_rfl) w
theorem goOutT_end_ok (w : World) (G : Gs) (a d L : Nat) (k v kf vf : Nat → Tok) (m : Sm) (c0 : Nat) : (goOutT_end w G a d L k v kf vf m c0).Ok w := okD (S := fun w => goOutT_end w G a d L k v kf vf m c0) (l := fun w => (whileC (fenv 98 L (fnAt 2 (some 9)) "BaseStemmer.go_out_grouping" 97) (bodyN (fnAt 2 (some 9)) 0))) (fun _ => rfl) (by kernel_rfl) (by kernel_rfl) w
theorem goOutT_hit_ok (w : World) (G : Gs) (a d L : Nat) (k v kf vf : Nat → Tok) (m : Sm) (c0 : Nat) : (goOutT_hit w G a d L k v kf vf m c0).Ok w := okD (S := fun w => goOutT_hit w G a d L k v kf vf m c0) (l := fun w => (whileC (fenv 98 L (fnAt 2 (some 9)) "BaseStemmer.go_out_grouping" 97) (bodyN (fnAt 2 (some 9)) 0))) (fun _ => rfl) (by kernel_rfl) (by kernel_rfl) w
theorem goOutT_miss_ok (w : World) (G : Gs) (a d L : Nat) (k v kf vf : Nat → Tok) (m : Sm) (c0 : Nat) : (goOutT_miss w G a d L k v kf vf m c0).Ok w := okD (S := fun w => goOutT_miss w G a d L k v kf vf m c0) (l := fun w => (whileC (fenv 98 L (fnAt 2 (some 9)) "BaseStemmer.go_out_grouping" 97) (bodyN (fnAt 2 (some 9)) 0))) (fun _ => rfl) (by kernel_rfl) (by kernel_rfl) w
theorem goOut_hit_ok (w : World) (G : Gs) (m : Sm) (c : Int) (a d L : Nat) (k v ts : Nat → Tok) : (goOut_hit w G m c a d L k v ts).Ok w := okC (S := fun w => goOut_hit w G m c a d L k v ts) (by kernel_rfl) (by kernel_rfl) w
theorem goOut_end_ok (w : World) (G : Gs) (m : Sm) (c : Int) (a d L : Nat) (k v ts : Nat → Tok) : (goOut_end w G m c a d L k v ts).Ok w := okC (S := fun w => goOut_end w G m c a d L k v ts) (by kernel_rfl) (by kernel_rfl) w
end Mine
end
end
section
open PySem PySem.W PyProof.Rows
set_option maxRecDepth 100000
section
namespace Mine
theorem List.getElem?_drop_zero' {α : Type} {l : List α} {j : Nat} {c : α} {C : List α} (h : l.drop j = c :: C) : some c = l[j]? := by
  have := congrArg (fun x : List α => x[0]?) h
  simp only [List.getElem?_drop, List.getElem?_cons_zero, Nat.add_zero] at this
  exact this.symm
noncomputable def goInFr (w : World) (a : Nat) : Tm := frT w.params [("self", fun _ => .ref a), ("s", fun _ => .ref 230)]
theorem goIn_loop {w : World} {G : Gs} (hG : GOk w G) {A : Around} {s₀ : Shared} {X : XS} (a d L : Nat) {D : Nat} (hA : A.handled = none) (hD : A.depth ≤ D) (hF : ∀ l, X.l = some l → A.frames = some l) : ∀ (C : List Nat) (m : Sm) (j : Nat), m.cu = j → m.cur.cps.toList.drop j = C → m.li = m.cur.length → j ≤ m.cur.length → m.cur.length ≤ 10000 →
    ∀ s k v kf vf, Rl w G s₀ X (l3 w.params a d L m.F (goInFr w a) k v kf vf) s → codeAny (model P0 w) A (whileC (fenv 70 L (fnAt 2 (some 5)) "BaseStemmer.go_in_grouping" 69) (bodyN (fnAt 2 (some 5)) 0))
      (fun r s' => ∃ k' v' kf' vf' ex, r = (match skipV false C with | some _ => .ok (.ret (.bool true)) | none => .ok .next) ∧ Rl w G s₀ X (l3 w.params a d L (withCu m (j + skipTo false C : Nat)) (goInFr w a) k' v' kf' vf' ++ ex) s') s
  | [], m, j, hj, hC, hl, hb, hs, s, k, v, kf, vf, R => by
    have hlen : m.cur.cps.toList.length = m.cur.length := rfl
    have hle : m.cur.length ≤ j := by
      have := congrArg List.length hC
      rw [List.length_drop, List.length_nil] at this
      lia
    refine (goInT_end_ok w G a d L k v kf vf m 0).turn (D := D) rfl rfl rfl (.c (HDOk.lt_false (by rw [hj, hl]; lia)) .n) hA hD hF R fun _ st' s' R' => ?_
    · refine ⟨kTok st' 1, vTok st' 1, kTok st' 2, vTok st' 2, dropN 3 st', rfl, ?_⟩
      have e : withCu m ((j + skipTo false [] : Nat) : Int) = m.F := by
        show Sm.mk _ _ _ _ _ _ _ _ = Sm.mk _ _ _ _ _ _ _ _
        rw [← hj.trans (show (j : Int) = ((j + skipTo false [] : Nat) : Int) from rfl)]
      rw [e]
      exact R'
  | c :: C, m, j, hj, hC, hl, hb, hs, s, k, v, kf, vf, R => by
    have hlen : m.cur.cps.toList.length = m.cur.length := rfl
    have hlt : j < m.cur.length := by
      have := congrArg List.length hC
      rw [List.length_drop, List.length_cons] at this
      lia
    have hc : m.cur.cps[m.cu.toNat]? = some c := by
      rw [hj]
      show m.cur.cps[j]? = some c
      rw [← Array.getElem?_toList, ← List.getElem?_drop_zero' hC]
    have hC' : m.cur.cps.toList.drop (j + 1) = C := by
      rw [← List.drop_drop, hC]; rfl
    by_cases hv : isV c = false
    · refine (goInT_hit_ok w G a d L k v kf vf m c).turn (D := D) rfl rfl rfl (.c (HDOk.lt_true (by rw [hj, hl]; lia)) <| .c (HDOk.sGet (by rw [hj]; lia) hc hs) <| .c (HDOk.inV hG hv) .n) hA hD hF R fun _ st' s' R' => ?_
      · have e0 : skipV false (c :: C) = some 0 := if_pos hv
        have e1 : skipTo false (c :: C) = 0 := by unfold skipTo; rw [e0]
        refine ⟨kTok st' 1, vTok st' 1, kTok st' 2, vTok st' 2, dropN 3 st', by rw [e0], ?_⟩
        have e : withCu m ((j + skipTo false (c :: C) : Nat) : Int) = m.F := by
          rw [e1]
          show Sm.mk _ _ _ _ _ _ _ _ = Sm.mk _ _ _ _ _ _ _ _
          rw [← hj.trans (show (j : Int) = ((j + 0 : Nat) : Int) from rfl)]
        rw [e]
        exact R'
    · refine (goInT_miss_ok w G a d L k v kf vf m c).turn (D := D) rfl rfl rfl (.c (HDOk.lt_true (by rw [hj, hl]; lia)) <| .c (HDOk.sGet (by rw [hj]; lia) hc hs) <| .c (HDOk.inV hG (by cases hq : isV c <;> simp_all)) .n) hA hD hF R fun _ st' s' R' => ?_
      · refine ⟨rfl, codeAny_mono (goIn_loop hG a d L hA hD hF C (withCu m (m.cu + 1)) (j + 1) (by show m.cu + 1 = _; rw [hj]; rfl) hC' hl hlt hs s' _ _ _ _ (Rel.cut (l := l3 w.params a d L (withCu m (m.cu + 1)) (goInFr w a) _ _ _ _) R')) fun r s'' q => ?_⟩
        obtain ⟨k', v', kf', vf', ex, e, R''⟩ := q
        have e0 : skipV false (c :: C) = (skipV false C).map (· + 1) := if_neg hv
        refine ⟨k', v', kf', vf', ex, ?_, ?_⟩
        · rw [e, e0]
          cases skipV false C <;> rfl
        · have e1 : j + 1 + skipTo false C = j + skipTo false (c :: C) := by
            unfold skipTo
            rw [e0]
            cases skipV false C with
            | none => simp only [Option.map_none, List.length_cons]; lia
            | some i => simp only [Option.map_some]; lia
          rw [← e1]
          exact R''
theorem goIn_spec {w : World} {G : Gs} (hG : GOk w G) {D : Nat} (hD : D < 850) {m : Sm} {j : Nat} (hj : m.cu = j) (hl : m.li = m.cur.length) (hb : j ≤ m.cur.length) (hs : m.cur.length ≤ 10000) :
    MSpec w G 70 D [.ref 230] m.F (fun v m' => (∃ t : Tok, v = (fun _ => .bool (skipV false (m.cur.cps.toList.drop j)).isSome) t) ∧ m' = withCu m (j + skipTo false (m.cur.cps.toList.drop j) : Nat)) := by
  cases hq : skipV false (m.cur.cps.toList.drop j) with
  | some i =>
    refine mRoad.spec (fun a d k v => goInF_ok w G a d k v m.F (.ref 230)) (fun a d L k v ts => goIn_hit_ok w G m _ a d L k v ts) hD fun a d L s₀ l => .c ?_ .n
    refine HDOk.loop fun k v kf vf A s l hA hD' _ R => ?_
    refine codeAny_mono (goIn_loop hG a d L hA hD' (fun l hl => by cases hl) _ m j hj rfl hl hb hs s k v kf vf R) fun r s' q => ?_
    rw [hq] at q
    obtain ⟨k', v', kf', vf', ex, e, R'⟩ := q
    exact ⟨_, ex, ⟨k', v', kf', vf', e, rfl⟩, rfl, R'⟩
  | none =>
    refine mRoad.spec (fun a d k v => goInF_ok w G a d k v m.F (.ref 230)) (fun a d L k v ts => goIn_end_ok w G m _ a d L k v ts) hD fun a d L s₀ l => .c ?_ .n
    refine HDOk.loop fun k v kf vf A s l hA hD' _ R => ?_
    refine codeAny_mono (goIn_loop hG a d L hA hD' (fun l hl => by cases hl) _ m j hj rfl hl hb hs s k v kf vf R) fun r s' q => ?_
    rw [hq] at q
    obtain ⟨k', v', kf', vf', ex, e, R'⟩ := q
    exact ⟨_, ex, ⟨k', v', kf', vf', e, rfl⟩, rfl, R'⟩
noncomputable def goOutFr (w : World) (a : Nat) : Tm := frT w.params [("self", fun _ => .ref a), ("s", fun _ => .ref 230)]
theorem goOut_loop {w : World} {G : Gs} (hG : GOk w G) {A : Around} {s₀ : Shared} {X : XS} (a d L : Nat) {D : Nat} (hA : A.handled = none) (hD : A.depth ≤ D) (hF : ∀ l, X.l = some l → A.frames = some l) : ∀ (C : List Nat) (m : Sm) (j : Nat), m.cu = j → m.cur.cps.toList.drop j = C → m.li = m.cur.length → j ≤ m.cur.length → m.cur.length ≤ 10000 →
    ∀ s k v kf vf, Rl w G s₀ X (l3 w.params a d L m.F (goOutFr w a) k v kf vf) s → codeAny (model P0 w) A (whileC (fenv 98 L (fnAt 2 (some 9)) "BaseStemmer.go_out_grouping" 97) (bodyN (fnAt 2 (some 9)) 0))
      (fun r s' => ∃ k' v' kf' vf' ex, r = (match skipV true C with | some _ => .ok (.ret (.bool true)) | none => .ok .next) ∧ Rl w G s₀ X (l3 w.params a d L (withCu m (j + skipTo true C : Nat)) (goOutFr w a) k' v' kf' vf' ++ ex) s') s
  | [], m, j, hj, hC, hl, hb, hs, s, k, v, kf, vf, R => by
    have hlen : m.cur.cps.toList.length = m.cur.length := rfl
    have hle : m.cur.length ≤ j := by
      have := congrArg List.length hC
      rw [List.length_drop, List.length_nil] at this
      lia
    refine (goOutT_end_ok w G a d L k v kf vf m 0).turn (D := D) rfl rfl rfl (.c (HDOk.lt_false (by rw [hj, hl]; lia)) .n) hA hD hF R fun _ st' s' R' => ?_
    · refine ⟨kTok st' 1, vTok st' 1, kTok st' 2, vTok st' 2, dropN 3 st', rfl, ?_⟩
      have e : withCu m ((j + skipTo true [] : Nat) : Int) = m.F := by
        show Sm.mk _ _ _ _ _ _ _ _ = Sm.mk _ _ _ _ _ _ _ _
        rw [← hj.trans (show (j : Int) = ((j + skipTo true [] : Nat) : Int) from rfl)]
      rw [e]
      exact R'
  | c :: C, m, j, hj, hC, hl, hb, hs, s, k, v, kf, vf, R => by
    have hlen : m.cur.cps.toList.length = m.cur.length := rfl
    have hlt : j < m.cur.length := by
      have := congrArg List.length hC
      rw [List.length_drop, List.length_cons] at this
      lia
    have hc : m.cur.cps[m.cu.toNat]? = some c := by
      rw [hj]
      show m.cur.cps[j]? = some c
      rw [← Array.getElem?_toList, ← List.getElem?_drop_zero' hC]
    have hC' : m.cur.cps.toList.drop (j + 1) = C := by
      rw [← List.drop_drop, hC]; rfl
    by_cases hv : isV c = true
    · refine (goOutT_hit_ok w G a d L k v kf vf m c).turn (D := D) rfl rfl rfl (.c (HDOk.lt_true (by rw [hj, hl]; lia)) <| .c (HDOk.sGet (by rw [hj]; lia) hc hs) <| .c (HDOk.inV hG hv) .n) hA hD hF R fun _ st' s' R' => ?_
      · have e0 : skipV true (c :: C) = some 0 := if_pos hv
        have e1 : skipTo true (c :: C) = 0 := by unfold skipTo; rw [e0]
        refine ⟨kTok st' 1, vTok st' 1, kTok st' 2, vTok st' 2, dropN 3 st', by rw [e0], ?_⟩
        have e : withCu m ((j + skipTo true (c :: C) : Nat) : Int) = m.F := by
          rw [e1]
          show Sm.mk _ _ _ _ _ _ _ _ = Sm.mk _ _ _ _ _ _ _ _
          rw [← hj.trans (show (j : Int) = ((j + 0 : Nat) : Int) from rfl)]
        rw [e]
        exact R'
    · refine (goOutT_miss_ok w G a d L k v kf vf m c).turn (D := D) rfl rfl rfl (.c (HDOk.lt_true (by rw [hj, hl]; lia)) <| .c (HDOk.sGet (by rw [hj]; lia) hc hs) <| .c (HDOk.inV hG (by cases hq : isV c <;> simp_all)) .n) hA hD hF R fun _ st' s' R' => ?_
      · refine ⟨rfl, codeAny_mono (goOut_loop hG a d L hA hD hF C (withCu m (m.cu + 1)) (j + 1) (by show m.cu + 1 = _; rw [hj]; rfl) hC' hl hlt hs s' _ _ _ _ (Rel.cut (l := l3 w.params a d L (withCu m (m.cu + 1)) (goOutFr w a) _ _ _ _) R')) fun r s'' q => ?_⟩
        obtain ⟨k', v', kf', vf', ex, e, R''⟩ := q
        have e0 : skipV true (c :: C) = (skipV true C).map (· + 1) := if_neg hv
        refine ⟨k', v', kf', vf', ex, ?_, ?_⟩
        · rw [e, e0]
          cases skipV true C <;> rfl
        · have e1 : j + 1 + skipTo true C = j + skipTo true (c :: C) := by
            unfold skipTo
            rw [e0]
            cases skipV true C with
            | none => simp only [Option.map_none, List.length_cons]; lia
            | some i => simp only [Option.map_some]; lia
          rw [← e1]
          exact R''
theorem goOut_spec {w : World} {G : Gs} (hG : GOk w G) {D : Nat} (hD : D < 850) {m : Sm} {j : Nat} (hj : m.cu = j) (hl : m.li = m.cur.length) (hb : j ≤ m.cur.length) (hs : m.cur.length ≤ 10000) :
    MSpec w G 98 D [.ref 230] m.F (fun v m' => (∃ t : Tok, v = (fun _ => .bool (skipV true (m.cur.cps.toList.drop j)).isSome) t) ∧ m' = withCu m (j + skipTo true (m.cur.cps.toList.drop j) : Nat)) := by
  cases hq : skipV true (m.cur.cps.toList.drop j) with
  | some i =>
    refine mRoad.spec (fun a d k v => goOutF_ok w G a d k v m.F (.ref 230)) (fun a d L k v ts => goOut_hit_ok w G m _ a d L k v ts) hD fun a d L s₀ l => .c ?_ .n
    refine HDOk.loop fun k v kf vf A s l hA hD' _ R => ?_
    refine codeAny_mono (goOut_loop hG a d L hA hD' (fun l hl => by cases hl) _ m j hj rfl hl hb hs s k v kf vf R) fun r s' q => ?_
    rw [hq] at q
    obtain ⟨k', v', kf', vf', ex, e, R'⟩ := q
    exact ⟨_, ex, ⟨k', v', kf', vf', e, rfl⟩, rfl, R'⟩
  | none =>
    refine mRoad.spec (fun a d k v => goOutF_ok w G a d k v m.F (.ref 230)) (fun a d L k v ts => goOut_end_ok w G m _ a d L k v ts) hD fun a d L s₀ l => .c ?_ .n
    refine HDOk.loop fun k v kf vf A s l hA hD' _ R => ?_
    refine codeAny_mono (goOut_loop hG a d L hA hD' (fun l hl => by cases hl) _ m j hj rfl hl hb hs s k v kf vf R) fun r s' q => ?_
    rw [hq] at q
    obtain ⟨k', v', kf', vf', ex, e, R'⟩ := q
    exact ⟨_, ex, ⟨k', v', kf', vf', e, rfl⟩, rfl, R'⟩
end Mine
end
end
section
open PySem PySem.W PyProof.Rows
set_option maxRecDepth 100000
set_option maxHeartbeats 0
section
namespace Mine
noncomputable def replF : Fn := ⟨147, fnAt 2 (some 16), "BaseStemmer.replace_s", 146, (sv "snowballstemmer.basestemmer" 194), ["self", "c_bra", "c_ket", "s"]⟩
noncomputable def sFromF : Fn := ⟨154, fnAt 2 (some 17), "BaseStemmer.slice_from", 153, (sv "snowballstemmer.basestemmer" 194), ["self", "s"]⟩
noncomputable def sDelF : Fn := ⟨161, fnAt 2 (some 18), "BaseStemmer.slice_del", 160, (sv "snowballstemmer.basestemmer" 194), ["self"]⟩
noncomputable def repl (w : World) (G : Gs) (m : Sm) (cb ck : Int) (x hd hx tl r : PySem.Str) (t1 t2 t3 : Tok) := mRoad replF w G [.int cb t1, .int ck t2, .str x t3] m.F (Sm.mk r m.cu (m.li + (x.length - (ck - cb))) m.lb m.br m.ke m.p1 true) (fun t => .int (x.length - (ck - cb)) t) (fun a d L => [HD.sLen x, HD.sCut m.cur 3 (some 0) (some cb) hd, HD.sAddR hd x hx, HD.sCut m.cur 4 (some ck) none tl, HD.sAddR hx tl r, HD.cmp "int.__ge__" m.cu ck false, HD.cmp "int.__gt__" m.cu cb false]) [0,0,3,1,3,3,0,0,3,3,3,1,0,0,0,0,0,0,1,0,0,0,0,0,1,1,0,2,3,1,3,1,3,1,0,0,0,0,0,0,1,0,0,0,0,0,1,1,0,2,3,1,1,3,1,0,0,0,0,0,0,1,0,1,0,1,0,0,0,0,0,1,0,2,2,2,3,1,0,0,0,0,0,0,1,0,0,0,0,0,1,1,0,2,3,0,1,0,0,0,0,0,0,1,0,1,0,1,0,0,0,0,0,1,0,2,2,2,3,1,0,0,0,0,0,0,1,0,0,0,0,0,1,1,0,2,3,1,3,1,0,0,0,0,0,0,1,0,0,0,0,0,1,1,0,2,3,1,3]
noncomputable def sFrom (w : World) (G : Gs) (m : Sm) (x cur2 : PySem.Str) (li2 ad : Int) (t : Tok) := mRoad sFromF w G [.str x t] m.F (Sm.mk cur2 m.cu li2 m.lb m.br (m.br + x.length) m.p1 true) (fun _ => .none) (fun a d L => [HD.cmp "int.__ge__" m.br 0 true, HD.cmp "int.__le__" m.br m.ke true, HD.cmp "int.__le__" m.ke m.li true, HD.sLen m.cur, HD.cmp "int.__le__" m.li m.cur.length true, HD.meth w.params 147 a d (fun q => [.int m.br (argTok q 1), .int m.ke (argTok q 2), .str x (argTok q 3)]) m.F (fun t => .int ad t) (Sm.mk cur2 m.cu li2 m.lb m.br m.ke m.p1 true), HD.sLen x]) [3,1,0,0,0,0,0,0,1,0,0,0,0,0,1,1,0,2,1,3,1,0,0,0,0,0,0,1,0,0,0,0,0,1,1,0,2,3,1,0,0,0,0,0,0,1,0,0,0,0,0,1,1,0,2,1,3,1,0,0,0,0,0,0,1,0,0,0,0,0,1,1,0,2,3,1,0,0,0,0,0,0,1,0,0,0,0,0,1,1,0,2,1,3,1,0,0,0,0,0,0,1,0,0,0,0,0,1,1,0,2,0,0,3,1,0,0,0,0,0,0,1,0,0,0,0,0,1,1,0,2,1,1,3,1,0,0,0,0,0,1,0,0,0,0,0,1,0,0,0,0,0,0,1,2,3,1,0,0,0,0,0,0,1,0,0,0,0,0,1,1,0,2,3,1,0,0,0,0,0,0,1,0,0,0,0,0,1,1,0,2,3,0,1,3,1,0,0,0,0,0,0,1,0,0,0,0,0,1,1,0,2,0,0,3,1,0,3,1,0,0,0,0,0,0,1,0,1,0,1,0,0,0,0,0,1,0,2,2,2]
noncomputable def sDel (w : World) (G : Gs) (m m2 : Sm) := mRoad sDelF w G [] m.F m2.F (fun _ => .none) (fun a d L => [HD.meth w.params 154 a d (fun q => [.str "" (argTok q 1)]) m.F (fun _ => .none) m2.F]) [3,1,0,0,0,0,0,1,0,0,0,0,0,1,0,0,0,0,0,0,1,2,0,1]
theorem replF_ok (w : World) (G : Gs) (a d : Nat) (k v : Nat → Tok) (m : Sm) (x1 x2 x3 : Value) : replF.Ok w G [3,3,3,3,3,3,3,3] (selfSt w.params a d k v m) [.ref a, x1, x2, x3] := okN (FnAt.mk' (sv "snowballstemmer.basestemmer" 194) (by kernel_rfl) (by kernel_rfl) (by kernel_rfl) (by kernel_rfl)) (by kernel_rfl) (fun pm => by kernel_rfl) (by kernel_rfl)
theorem sFromF_ok (w : World) (G : Gs) (a d : Nat) (k v : Nat → Tok) (m : Sm) (x1 : Value) : sFromF.Ok w G [3,3,3,3] (selfSt w.params a d k v m) [.ref a, x1] := okN (FnAt.mk' (sv "snowballstemmer.basestemmer" 194) (by kernel_rfl) (by kernel_rfl) (by kernel_rfl) (by kernel_rfl)) (by kernel_rfl) (fun pm => by kernel_rfl) (by kernel_rfl)
theorem sDelF_ok (w : World) (G : Gs) (a d : Nat) (k v : Nat → Tok) (m : Sm)  : sDelF.Ok w G [3,3] (selfSt w.params a d k v m) [.ref a] := okN (FnAt.mk' (sv "snowballstemmer.basestemmer" 194) (by kernel_rfl) (by kernel_rfl) (by kernel_rfl) (by kernel_rfl)) (by kernel_rfl) (fun pm => by kernel_rfl) (by kernel_rfl)
theorem repl_ok (w : World) (G : Gs) (m : Sm) (cb ck : Int) (x hd hx tl r : PySem.Str) (t1 t2 t3 : Tok) (a d L : Nat) (k v ts : Nat → Tok) : (repl w G m cb ck x hd hx tl r t1 t2 t3 a d L k v ts).Ok w := okC (S := fun w => repl w G m cb ck x hd hx tl r t1 t2 t3 a d L k v ts) (by kernel_rfl) (by kernel_rfl) w
theorem sFrom_ok (w : World) (G : Gs) (m : Sm) (x cur2 : PySem.Str) (li2 ad : Int) (t : Tok) (a d L : Nat) (k v ts : Nat → Tok) : (sFrom w G m x cur2 li2 ad t a d L k v ts).Ok w := okC (S := fun w => sFrom w G m x cur2 li2 ad t a d L k v ts) (by kernel_rfl) (by kernel_rfl) w
theorem sDel_ok (w : World) (G : Gs) (m m2 : Sm) (a d L : Nat) (k v ts : Nat → Tok) : (sDel w G m m2 a d L k v ts).Ok w := okC (S := fun w => sDel w G m m2 a d L k v ts) (by kernel_rfl) (by kernel_rfl) w
end Mine
end
end
section
open PySem PySem.W PyProof.Rows
set_option maxRecDepth 100000
section
namespace Mine
theorem isFreed_of_get {h : Heap} {a : Addr} {o : Obj} (e : h.get? a = some o) : o.isFreed = false := by
  have := alive_live e
  obtain ⟨c, d, dt, sl⟩ := o
  cases dt <;> first | rfl | cases this
section
variable {w : World} {G : Gs} {s₀ s : Shared} {X : XS} {st : St}
theorem Rel.slotF (R : Rl w G s₀ X st s) {f : Nat} (hf : f ∈ X.f) (g : Obj → Obj) (hg : ∀ o, ∃ sl, g o = { o with slots := sl }) : Rl w G s₀ X st { s with heap := s.heap.update f g } := by
  obtain ⟨h9, hlt⟩ := R.fl f hf
  have hne : ∀ b, b ≠ f → (s.heap.update f g).get? b = s.heap.get? b := fun b q => Heap.get?_update_ne _ _ _ _ q
  have hal : ∀ o, s.heap.get? f = some o → ∃ sl, (s.heap.update f g).get? f = some { o with slots := sl } := fun o e => by
    obtain ⟨sl, q⟩ := hg o
    refine ⟨sl, ?_⟩
    rw [← q]
    refine Heap.get?_update_self _ e ?_
    rw [q]
    have := isFreed_of_get e
    obtain ⟨c, d, dt, sl0⟩ := o
    cases dt <;> first | rfl | exact this
  have hst : ∀ p ∈ st, p.1 ≠ f := fun p hp q => R.sf p hp (q ▸ hf)
  refine ⟨fun a o e l => ?_, R.low, fun p hp => (hne _ (hst p hp)).trans (R.S p hp), R.hi, R.nd, R.mod, fun b o e hb hbf => ?_, ?_, R.n0, R.gens, R.drawn, R.os, fun p hp => ?_, fun b hb o e => ?_, R.sf, R.fl, fun b o e => ?_, R.fr⟩
  · have : a ≠ f := fun q => by have h1 := R.low a o e; subst q; exact absurd h1 (Nat.not_lt.mpr h9)
    exact (hne a this).trans (R.K a o e l)
  · have : b ≠ f := fun q => hbf (q ▸ hf)
    exact (hne b this).trans (R.keep b o e hb hbf)
  · show _ ≤ (s.heap.objs.modify f g).size
    rw [Array.size_modify]; exact R.size
  · obtain ⟨q1, q2⟩ := R.ro p hp
    exact ⟨q1, (hne p.1 (fun q => by rw [q] at q1; exact absurd q1 (Nat.not_lt.mpr h9))).trans q2⟩
  · obtain ⟨sl, e2⟩ := R.keepF b hb o e
    by_cases q : b = f
    · subst q
      obtain ⟨sl', e3⟩ := hal _ e2
      exact ⟨sl', e3⟩
    · exact ⟨sl, (hne b q).trans e2⟩
  · obtain ⟨o', e'⟩ := R.liv b o e
    by_cases q : b = f
    · subst q
      obtain ⟨sl', e3⟩ := hal _ e'
      exact ⟨_, e3⟩
    · exact ⟨o', (hne b q).trans e'⟩
end
section
variable {w : World} {G : Gs} {A : Around} {E : Value → Shared → Prop} {s₀ s : Shared} {m : List Nat} {env : Env} {l : List Env} {L : Nat} {st : St}
noncomputable abbrev XF (m : List Nat) (env : Env) (l : List Env) : XS := ⟨m, FRs l, some (env :: l)⟩
theorem wpAny_keptBack {env' : Env} {imp : Bool} {outer : List Env} {Q : Value → Shared → Prop} (h : ∀ v, Q v s) : wpAny (model P0 w) A (keptBack env' imp outer) Q E s := by
  cases outer with
  | cons c r => exact wpAny_pure (h _)
  | nil =>
    show wpAny _ _ (if (env'.scope.isGenerator || env'.scope.isCoroutine) = true then pure Value.none else do return if ← underTheClaimsCaller then .notImplemented else .none) _ _ _
    by_cases hb : (env'.scope.isGenerator || env'.scope.isCoroutine) = true
    · rw [if_pos hb]; exact wpAny_pure (h _)
    · rw [if_neg hb]
      unfold underTheClaimsCaller
      refine wpAny_bind (wpAny_bind (wpAny_stack fun st _ _ _ => wpAny_pure ?_))
      exact wpAny_pure (h _)
theorem ready_outer {Q : Unit → Shared → Prop} : ∀ (l' : List Env), (∀ e ∈ l', e ∈ l) → ∀ s, Rl w G s₀ (XF m env l) st s → (∀ s', Rl w G s₀ (XF m env l) st s' → Q () s') → wpAny (model P0 w) A (readyFrames l') Q E s
  | [], _, s, R, h => wpAny_pure (h s R)
  | e :: l', hl, s, R, h => by
    obtain ⟨hk, f, o, h1, h9, h2, _⟩ := R.fr _ rfl e (.tail _ (hl e (.head _)))
    obtain ⟨o', h3⟩ := R.liv _ _ h2
    have hf : f ∈ FRs l := FRs_mem.mpr ⟨e, hl e (.head _), h1⟩
    simp only [readyFrames, h1]
    refine wpAny_bind (wpAny_load h3 ?_)
    by_cases hr : ((o'.slots.getD 3 none).isSome) = true
    · rw [if_pos hr]; exact wpAny_pure (h _ R)
    · rw [if_neg hr]
      refine wpAny_bind (wpAny_of_eq (a := false) (by simp [behindIsImport, hk]) ?_)
      refine wpAny_bind (wpAny_keptBack fun v => ?_)
      refine wpAny_bind (wpAny_update h3 ?_)
      exact ready_outer l' (fun e he => hl e (.tail _ he)) _ (Rel.slotF R hf _ fun o => ⟨_, rfl⟩) h
noncomputable def excO (C t tb : Value) : Obj := ⟨C, none, .fields #[t, tb, .none, .none, .bool false, .none], #[]⟩
noncomputable def tbO (L : Nat) (fl x5 x6 x7 x8 x9 x10 : Value) : Obj := ⟨.type "traceback", none, .fields #[.none, .ref L, .none, fl, .none, x5, x6, x7, x8, x9, x10], #[]⟩
theorem noteFrame_ok {C t : Value} {e : Nat} {p1 p2 : Nat × Obj} {oL : Obj} {rest : St} {Q : Unit → Shared → Prop} (hF : A.frames = some (env :: l)) (hL : env.frame = some L)
    (R : Rl w G s₀ (XF m env l) (p1 :: p2 :: (L, oL) :: (e, excO C t .none) :: rest) s)
    (h : ∀ sl tb x5 x6 x7 x8 x9 x10 s', Rl w G s₀ (XF m env l) (p1 :: p2 :: (L, slotO oL sl) :: (e, excO C t (.ref tb)) :: (tb, tbO L (rawInt L) x5 x6 x7 x8 x9 x10) :: rest) s' → Q () s') :
    wpAny (model P0 w) A (noteFrame (.ref e) env) Q E s := by
  have he := R.S (e, excO C t .none) (.tail _ (.tail _ (.tail _ (.head _))))
  have hLo := R.S (L, oL) (.tail _ (.tail _ (.head _)))
  unfold noteFrame
  simp only [hL]
  refine wpAny_bind (wpAny_field (x := .none) he rfl rfl ?_)
  rw [if_neg (show ¬ (Value.none != Value.none) = true from by decide)]
  unfold PySem.frameOf
  refine wpAny_bind (wpAny_bind (wpAny_frameEnvs hF ?_))
  have hdw : ((env :: l).dropWhile fun x => x.frame != env.frame) = env :: l := by simp [List.dropWhile]
  rw [hdw]
  unfold frameObject
  have key : wpAny (model P0 w) A (readyFrames (env :: l)) (fun _ s' => ∃ sl, Rl w G s₀ (XF m env l) (p1 :: p2 :: (L, slotO oL sl) :: (e, excO C t .none) :: rest) s') E s := by
    have hk := (R.fr _ rfl env (.head _)).1
    simp only [readyFrames, hL]
    refine wpAny_bind (wpAny_load hLo ?_)
    by_cases hr : ((oL.slots.getD 3 none).isSome) = true
    · rw [if_pos hr]; exact wpAny_pure ⟨oL.slots, R⟩
    · rw [if_neg hr]
      refine wpAny_bind (wpAny_of_eq (a := false) (by simp [behindIsImport, hk]) ?_)
      refine wpAny_bind (wpAny_keptBack fun v => ?_)
      refine wpAny_bind (wpAny_update hLo ?_)
      have R' := Rel.update R (m := 2) (x := L) (o := oL) (f := fun o => { o with slots := #[some env.code, some (.ref env.globals), o.slots.getD 2 none, some v, o.slots.getD 4 none, env.func.map Value.ref,
                                            some (.ref env.builtins)] ++ (env.cells.map fun c => some (Value.ref c.2)).toArray }) rfl (by
        have := alive_live hLo
        obtain ⟨c, d, dt, sl⟩ := oL
        cases dt <;> first | rfl | cases this)
      exact ready_outer l (fun e he => he) _ R' fun s' R2 => ⟨_, R2⟩
  refine wpAny_bind (wpAny_bind (wpAny_mono key (fun _ s1 q => ?_) fun _ _ x => x))
  obtain ⟨sl, R1⟩ := q
  rw [hL]
  refine wpAny_pure ?_
  refine wpAny_pure ?_
  refine wpAny_bind (wpAny_entryPlaceOf fun pl hpl => ?_)
  unfold EntryCells.newEntry newFields
  refine wpAny_bind (wpAny_newObj_type ?_ (hpl.sizeOk5 _ _ _ _ _))
  have hsh : ∃ x5 x6 x7 x8 x9 x10, ([Value.none, .ref L, .none, rawInt L, .none] ++ (if pl.isEmpty then List.replicate 6 Value.none else pl)).toArray = #[.none, .ref L, .none, rawInt L, .none, x5, x6, x7, x8, x9, x10] := by
    rcases hpl with rfl | ⟨a, b, c, d, c9, b10, _, rfl⟩
    · exact ⟨_, _, _, _, _, _, rfl⟩
    · exact ⟨_, _, _, _, _, _, rfl⟩
  obtain ⟨x5, x6, x7, x8, x9, x10, hsh⟩ := hsh
  rw [hsh]
  have R2 := Rel.push R1 (o := tbO L (rawInt L) x5 x6 x7 x8 x9 x10) rfl
  rw [push_eq] at R2
  have he2 := R2.S (e, excO C t .none) (.tail _ (.tail _ (.tail _ (.head _))))
  refine wpAny_setField he2 rfl (show 1 < 6 from by decide) ?_
  have R3 := Rel.update R2 (m := 3) (x := e) (o := excO C t .none) (f := Obj.mapFields (·.setIfInBounds 1 (Value.ref s1.heap.objs.size))) rfl rfl
  refine h sl s1.heap.objs.size x5 x6 x7 x8 x9 x10 _ ?_
  have R4 : Rl w G s₀ (XF m env l) (p1 :: p2 :: (L, slotO oL sl) :: (e, excO C t (.ref s1.heap.objs.size)) :: (rest ++ [(s1.heap.objs.size, tbO L (rawInt L) x5 x6 x7 x8 x9 x10)])) _ := R3
  exact Rel.perm R4 (by
    refine .cons _ (.cons _ (.cons _ (.cons _ ?_)))
    exact List.perm_append_singleton _ _)
end
end Mine
end
end
section
open PySem PySem.W PyProof.Rows
set_option maxRecDepth 100000
section
namespace Mine
section
variable {w : World} {G : Gs} {D : Nat} {s₀ s : Shared} {X : XS}
theorem wpG_execs_app {Γ : PySem.Ctx} {env : Env} {Q : Flow → Pos → Shared → Prop} {E : Value → Pos → Shared → Prop} {l2 : List Stmt} : ∀ (l1 : List Stmt) (p : Pos) (s : Shared),
    Sem.wp (model P0 w) Γ (execs l1 env) (fun f p' s' => (f = .next ∧ Sem.wp (model P0 w) Γ (execs l2 env) Q E p' s') ∨ (f ≠ .next ∧ Q f p' s')) E p s → Sem.wp (model P0 w) Γ (execs (l1 ++ l2) env) Q E p s
  | [], p, s, h => by
    have h' : Sem.wp (model P0 w) Γ (pure Flow.next : Sem Flow) (fun f p' s' => (f = .next ∧ Sem.wp (model P0 w) Γ (execs l2 env) Q E p' s') ∨ (f ≠ .next ∧ Q f p' s')) E p s := h
    rw [Sem.wp_pure'] at h'
    rcases h' with ⟨_, h'⟩ | ⟨h', _⟩
    · exact h'
    · exact absurd rfl h'
  | st :: l1, p, s, h => by
    have h' : Sem.wp (model P0 w) Γ (exec st env >>= fun f => match f with
      | .next => execs l1 env
      | f => pure f) (fun f p' s' => (f = .next ∧ Sem.wp (model P0 w) Γ (execs l2 env) Q E p' s') ∨ (f ≠ .next ∧ Q f p' s')) E p s := h
    rw [Sem.wp_bind'] at h'
    show Sem.wp (model P0 w) Γ (exec st env >>= fun f => match f with
      | .next => execs (l1 ++ l2) env
      | f => pure f) Q E p s
    rw [Sem.wp_bind']
    refine Sem.wp_mono _ _ _ (fun f p' s' q => ?_) (fun _ _ _ q => q) p s h'
    cases f with
    | next => exact wpG_execs_app l1 p' s' q
    | _ =>
      simp only [Sem.wp_pure'] at q ⊢
      rcases q with ⟨e, _⟩ | ⟨_, q⟩
      · cases e
      · exact q
theorem wpAny_execs_app {A : Around} {env : Env} {Q : Flow → Shared → Prop} {E : Value → Shared → Prop} {l2 : List Stmt} (l1 : List Stmt) {s : Shared}
    (h : wpAny (model P0 w) A (execs l1 env) (fun f s' => (f = .next ∧ wpAny (model P0 w) A (execs l2 env) Q E s') ∨ (f ≠ .next ∧ Q f s')) E s) : wpAny (model P0 w) A (execs (l1 ++ l2) env) Q E s := fun Γ p hΓ => by
  refine wpG_execs_app l1 p s (Sem.wp_mono _ _ _ (fun f p' s' q => ?_) (fun _ _ _ q => q) p s (h Γ p hΓ))
  rcases q with ⟨e, q⟩ | q
  · exact .inl ⟨e, q Γ p' hΓ⟩
  · exact .inr q
theorem wpAny_execs_one {A : Around} {env : Env} {Q : Flow → Shared → Prop} {E : Value → Shared → Prop} {st : Stmt} {s : Shared}
    (h : wpAny (model P0 w) A (exec st env) Q E s) : wpAny (model P0 w) A (execs [st] env) Q E s := by
  show wpAny (model P0 w) A (exec st env >>= fun f => match f with
      | .next => (pure .next : Sem Flow)
      | f => pure f) Q E s
  refine wpAny_bind (wpAny_mono h (fun f s' q => ?_) fun _ _ q => q)
  cases f <;> exact wpAny_pure q
noncomputable def bodyRet : Flow → Value
  | .ret v => v
  | _ => .none
theorem func_of_execs {A : Around} {body : List Stmt} {env : Env} {Post : Result → Shared → Prop} {s : Shared}
    (h : wpAny (model P0 w) (A.under (.func body env)) (execs body env) (fun f s' => Post (.ok (.ret (bodyRet f))) s') (fun _ _ => False) s) : codeAny (model P0 w) A (.func body env) Post s := by
  refine codeAny_of_tree ?_
  have hden : (model P0 w).den (.func body env) = (point >>= fun _ => ((execs body env).onRaise (leaving env)) >>= fun f => match f with
      | .ret v => (ret v : Sem PySem.Fin)
      | _ => ret .none) := by
    show denote table (.func body env) = _
    rfl
  rw [hden]
  refine wpAny_bind (wpAny_point ?_)
  refine wpAny_bind (wpAny_onRaise (wpAny_mono h (fun f s' q => ?_) fun _ _ q => q.elim))
  cases f <;> exact wpAny_pure q
end
end Mine
end
end
section
open PySem PySem.W PyProof.Rows
set_option maxRecDepth 100000
set_option maxHeartbeats 0
section
namespace Mine
noncomputable def rmA (w : World) (G : Gs) (a d L : Nat) (k v kf vf : Nat → Tok) (m : Sm) (c1 : Int) : ScT PySem.Fin := ⟨G, denote treeTable ((whileC (fenv 237 L (fnAt 6 (some 2)) "HungarianStemmer.r_mark_regions" 236) (atP (fnAt 6 (some 2)) [1]))), [3,1,0,0,0,0,0,0,1,0,0,0,0,0,1,1,0,2,3,3,3,1,0,0,0,0,0,1,0,0,0,0,0,1,0,0,0,0,0,0,1,2,0,0,0,0,0,0,0,0,0,0,0,0,1,3,1,0,0,0,0,0,0,1,0,0,0,0,0,1,1,0,2,3,3,3,1,0,0,0,0,0,1,0,0,0,0,0,1,0,0,0,0,0,0,1,2,0,0,0,0,0,0,0,0,0,0,0,0,1,3,1,0,0,0,0,0,0,1,0,0,0,0,0,1,1,0,2,0,1,0,0,0,0,0,0,1,0,1,0,1,0,0,0,0,0,1,0,2,2,2,3,1,0,0,0,0,0,0,1,0,0,0,0,0,1,1,0,2,3,1,0,0,0,0,0,0,1,0,1,0,1,0,0,0,1,0,2,2,2,3,3,1,0,0,0,0,0,0,1,0,1,0,1,0,0,0,0,0,1,0,2,2,2], (l3 w.params a d L m.F (frT w.params [("self", fun _ => .ref a)]) k v kf vf), [HD.meth w.params 63 a d (fun _ => [.ref 230]) m.F (fun _ => .bool true) (withCu m (m.cu + 1)), HD.meth w.params 70 a d (fun _ => [.ref 230]) (withCu m (m.cu + 1)) (fun _ => .bool true) (withCu m c1)], (fun _ => .ok (.done .next)), (fun _ => (framePre w.params a d L (Sm.mk m.cur (m.cu + 1) m.li m.lb m.br m.ke (c1 + 1) true) (frT w.params [("self", fun _ => .ref a), ("v_1", fun t => .int m.cu t), ("v_2", fun t => .int (m.cu + 1) t)])))⟩
noncomputable def rmT0 (w : World) (G : Gs) (a d L : Nat) (k v kf vf : Nat → Tok) (m : Sm) : ScT Bool := ⟨G, isTrue (tstOf (atP (fnAt 6 (some 2)) [1])) (fenv 237 L (fnAt 6 (some 2)) "HungarianStemmer.r_mark_regions" 236) (eval (tstOf (atP (fnAt 6 (some 2)) [1])) (fenv 237 L (fnAt 6 (some 2)) "HungarianStemmer.r_mark_regions" 236)), [], (l3 w.params a d L m.F (frT w.params [("self", fun _ => .ref a)]) k v kf vf), ([] : List HD), (fun _ => .ok true), (fun _ => framePre w.params a d L m.F (frT w.params [("self", fun _ => .ref a)]))⟩
noncomputable def rmT0Q (w : World) (G : Gs) (a d L : Nat) (k v kf vf : Nat → Tok) (m : Sm) : Road Bool := (rmT0 w G a d L k v kf vf m).Q w
theorem rmT0Q_self : rmT0Q = rmT0Q := rfl
noncomputable def rmT1 (w : World) (G : Gs) (a d L : Nat) (k v kf vf : Nat → Tok) (m : Sm) : ScT Flow := ⟨G, execs (stms (fnAt 6 (some 2)) [1] 0 1) (fenv 237 L (fnAt 6 (some 2)) "HungarianStemmer.r_mark_regions" 236), [3,1,0,0,0,0,0,0,1,0,0,0,0,0,1,1,0,2,3,3], (l3 w.params a d L m.F (frT w.params [("self", fun _ => .ref a)]) k v kf vf), ([] : List HD), (fun _ => .ok .next), (fun _ => framePre w.params a d L m.F (frT w.params [("self", fun _ => .ref a), ("v_1", fun t => .int m.cu t)]))⟩
noncomputable def rmT2 (w : World) (G : Gs) (a d L : Nat) (k v kf vf : Nat → Tok) (m : Sm) : ScT Flow := ⟨G, execs (stms (fnAt 6 (some 2)) [1, 1] 0 5) (fenv 237 L (fnAt 6 (some 2)) "HungarianStemmer.r_mark_regions" 236), [3,1,0,0,0,0,0,1,0,0,0,0,0,1,0,0,0,0,0,0,1,2,0,0,0,0,0,0,0,0,0,0,0,0,1,0,0,0,0,0,0,0,0,0,0,0,0,0,0,0,0,0,0,0,0,0,0,0,0,0,0,0,0,5,0,5,0,0,0,0,5,0,5,0,5,5,5,5,5,0,5,5,0,5], (l3 w.params a d L m.F (frT w.params [("self", fun _ => .ref a), ("v_1", fun t => .int m.cu t)]) k v kf vf), [HD.meth w.params 63 a d (fun _ => [.ref 230]) m.F (fun _ => .bool false) m.F], (fun xo => .error (.ref (refOf xo))), (fun xo st => (a, inO 878 d) :: (d, dictT w.params m.F (kTok st 1) (vTok st 1)) :: (L, (frT w.params [("self", fun _ => .ref a), ("v_1", fun t => .int m.cu t)]) (kTok st 2) (vTok st 2)) :: pairAt st 3 :: (refOf xo, excO (.ref 890) (.ref (addrAt st 5)) .none) :: pairAt st 5 :: [])⟩
noncomputable def rmT3 (w : World) (G : Gs) (a d L : Nat) (k v kf vf : Nat → Tok) (m : Sm) (e tb tv : Nat) (sl : Array (Option Value)) (x5 x6 x7 x8 x9 x10 : Value) : ScT Flow := ⟨G, setFlight (.ref e) none >>= fun _ => handleBy (.ref e) (fenv 237 L (fnAt 6 (some 2)) "HungarianStemmer.r_mark_regions" 236) (hdls (atP (fnAt 6 (some 2)) [1, 1])), [4,5,5,0,0,0,0,0,4,0,0,4,5,5], [(a, inO 878 d), (d, dictT w.params m.F k v), (L, (slotO ((frT w.params [("self", fun _ => .ref a), ("v_1", fun t => .int m.cu t)]) kf vf) sl)), (e, excO (.ref 890) (.ref tv) (.ref tb)), (tb, tbO L (rawInt L) x5 x6 x7 x8 x9 x10)], ([] : List HD), (fun _ => .ok .next), (fun _ st => [(a, inO 878 d), (d, dictT w.params m.F (kTok st 1) (vTok st 1)), (L, slotO ((frT w.params [("self", fun _ => .ref a), ("v_1", fun t => .int m.cu t)]) (kTok st 2) (vTok st 2)) sl), pairAt st 3, pairAt st 4])⟩
noncomputable def rmT3Q (w : World) (G : Gs) (a d L : Nat) (k v kf vf : Nat → Tok) (m : Sm) (e tb tv : Nat) (sl : Array (Option Value)) (x5 x6 x7 x8 x9 x10 : Value) : Road Flow := (rmT3 w G a d L k v kf vf m e tb tv sl x5 x6 x7 x8 x9 x10).Q w
theorem rmT3Q_self : rmT3Q = rmT3Q := rfl
noncomputable def rmT4B (w : World) (G : Gs) (a d L : Nat) (k v kf vf : Nat → Tok) (m : Sm) (sl : Array (Option Value)) (c1 : Int) : ScT Flow := ⟨G, execs (stms (fnAt 6 (some 2)) [1] 2 5) (fenv 237 L (fnAt 6 (some 2)) "HungarianStemmer.r_mark_regions" 236), [3,3,1,0,0,0,0,0,0,1,0,1,0,1,0,0,0,0,0,1,0,2,2,2,3,1,0,0,0,0,0,1,0,0,0,0,0,1,0,0,0,0,0,0,1,2,0,0,0,0,0,0,0,0,0,0,0,0,1,3,1,0,0,0,0,0,0,1,0,0,0,0,0,1,1,0,2,0,1,0,0,0,0,0,0,1,0,1,0,1,0,0,0,0,0,1,0,2,2,2,3,1,0,0,0,0,0,0,1,0,0,0,0,0,1,1,0,2,3,1,0,0,0,0,0,0,1,0,1,0,1,0,0,0,1,0,2,2,2], [(a, inO 878 d), (d, dictT w.params m.F k v), (L, (slotO ((frT w.params [("self", fun _ => .ref a), ("v_1", fun t => .int m.cu t)]) kf vf) sl))], [HD.meth w.params 98 a d (fun _ => [.ref 230]) m.F (fun _ => .bool true) (withCu m c1)], (fun _ => .ok .brk), (fun _ st => [(a, inO 878 d), (d, dictT w.params (Sm.mk m.cur (c1 + 1) m.li m.lb m.br m.ke (c1 + 1) true) (kTok st 1) (vTok st 1)), (L, slotO ((frT w.params [("self", fun _ => .ref a), ("v_1", fun t => .int m.cu t)]) (kTok st 2) (vTok st 2)) sl)])⟩
noncomputable def rmT4C (w : World) (G : Gs) (a d L : Nat) (k v kf vf : Nat → Tok) (m : Sm) (sl : Array (Option Value)) (c1 : Int) : ScT Flow := ⟨G, execs (stms (fnAt 6 (some 2)) [1] 2 5) (fenv 237 L (fnAt 6 (some 2)) "HungarianStemmer.r_mark_regions" 236), [3,3,1,0,0,0,0,0,0,1,0,1,0,1,0,0,0,0,0,1,0,2,2,2,3,1,0,0,0,0,0,1,0,0,0,0,0,1,0,0,0,0,0,0,1,2,0,0,0,0,0,0,0,0,0,0,0,0,1], [(a, inO 878 d), (d, dictT w.params m.F k v), (L, (slotO ((frT w.params [("self", fun _ => .ref a), ("v_1", fun t => .int m.cu t)]) kf vf) sl))], [HD.meth w.params 98 a d (fun _ => [.ref 230]) m.F (fun _ => .bool false) (withCu m c1)], (fun _ => .ok (.ret (.bool false))), (fun _ st => [(a, inO 878 d), (d, dictT w.params (withCu m c1) (kTok st 1) (vTok st 1)), (L, slotO ((frT w.params [("self", fun _ => .ref a), ("v_1", fun t => .int m.cu t)]) (kTok st 2) (vTok st 2)) sl)])⟩
end Mine
end
open PySem.W.Fast
name_quick rmT0Qq for Mine.rmT0Q by Mine.rmT0Q_self
name_quick rmT3Qq for Mine.rmT3Q by Mine.rmT3Q_self
section
namespace Mine
theorem rmA_ok (w : World) (G : Gs) (a d L : Nat) (k v kf vf : Nat → Tok) (m : Sm) (c1 : Int) : (rmA w G a d L k v kf vf m c1).Ok w := okD (S := fun w => rmA w G a d L k v kf vf m c1) (l := fun w => (whileC (fenv 237 L (fnAt 6 (some 2)) "HungarianStemmer.r_mark_regions" 236) (atP (fnAt 6 (some 2)) [1]))) (fun _ => rfl) (by kernel_rfl) (by kernel_rfl) w
theorem rmT0_ok (w : World) (G : Gs) (a d L : Nat) (k v kf vf : Nat → Tok) (m : Sm) : (rmT0 w G a d L k v kf vf m).Ok w := okT (S := fun w => rmT0 w G a d L k v kf vf m) (fun w => PySem.W.Fast.rmT0Qq w G a d L k v kf vf m) (fun w => by rw [← PySem.W.Fast.rmT0Qq_eq]; rfl) (fun w c own past below p σ => by kernel_rfl) (fun w c own past below p σ => by kernel_rfl) w
theorem rmT1_ok (w : World) (G : Gs) (a d L : Nat) (k v kf vf : Nat → Tok) (m : Sm) : (rmT1 w G a d L k v kf vf m).Ok w := okE (S := fun w => rmT1 w G a d L k v kf vf m) (fun _ => rfl) (by kernel_rfl) (by kernel_rfl) w
theorem rmT2_ok (w : World) (G : Gs) (a d L : Nat) (k v kf vf : Nat → Tok) (m : Sm) : (rmT2 w G a d L k v kf vf m).Ok w := okE (S := fun w => rmT2 w G a d L k v kf vf m) (fun _ => rfl) (by kernel_rfl) (by kernel_rfl) w
theorem rmT3_ok (w : World) (G : Gs) (a d L : Nat) (k v kf vf : Nat → Tok) (m : Sm) (e tb tv : Nat) (sl : Array (Option Value)) (x5 x6 x7 x8 x9 x10 : Value) : (rmT3 w G a d L k v kf vf m e tb tv sl x5 x6 x7 x8 x9 x10).Ok w := okT (S := fun w => rmT3 w G a d L k v kf vf m e tb tv sl x5 x6 x7 x8 x9 x10) (fun w => PySem.W.Fast.rmT3Qq w G a d L k v kf vf m e tb tv sl x5 x6 x7 x8 x9 x10) (fun w => by rw [← PySem.W.Fast.rmT3Qq_eq]; rfl) (fun w c own past below p σ => by kernel_rfl) (fun w c own past below p σ => by kernel_rfl) w
theorem rmT4B_ok (w : World) (G : Gs) (a d L : Nat) (k v kf vf : Nat → Tok) (m : Sm) (sl : Array (Option Value)) (c1 : Int) : (rmT4B w G a d L k v kf vf m sl c1).Ok w := okE (S := fun w => rmT4B w G a d L k v kf vf m sl c1) (fun _ => rfl) (by kernel_rfl) (by kernel_rfl) w
theorem rmT4C_ok (w : World) (G : Gs) (a d L : Nat) (k v kf vf : Nat → Tok) (m : Sm) (sl : Array (Option Value)) (c1 : Int) : (rmT4C w G a d L k v kf vf m sl c1).Ok w := okE (S := fun w => rmT4C w G a d L k v kf vf m sl c1) (fun _ => rfl) (by kernel_rfl) (by kernel_rfl) w
end Mine
end
end
section
open PySem PySem.W PyProof.Rows
set_option maxRecDepth 100000
section
namespace Mine
noncomputable def HD.loopF (P : Params) (c : Code) (a d L : Nat) (m : Sm) (fr : Tm) (res : Result) (m' : Sm) (fr' : Tm) : HD :=
  ⟨fun _ _ => c, fun st => [(a, inO 878 d), (d, dictT P m (kTok st 1) (vTok st 1)), (L, fr (kTok st 2) (vTok st 2))], fun _ => res,
    fun y _ => [(a, inO 878 d), (d, dictT P m' (y.K 1) (y.V 1)), (L, slotO (fr' (y.K 2) (y.V 2)) (y.S 0))]⟩
theorem HDOk.loopF {w : World} {G : Gs} {D a d L : Nat} {s₀ : Shared} {X : XS} {c : Code} {m m' : Sm} {fr fr' : Tm} {res : Result}
    (h : ∀ A s k v kf vf, A.handled = none → A.depth ≤ D → (∀ l, X.l = some l → A.frames = some l) → Rl w G s₀ X (l3 w.params a d L m fr k v kf vf) s →
      codeAny (model P0 w) A c (fun r s' => ∃ k' v' kf' vf' sl, r = res ∧ Rl w G s₀ X [(a, inO 878 d), (d, dictT w.params m' k' v'), (L, slotO (fr' kf' vf') sl)] s') s) : HDOk w G D s₀ X (HD.loopF w.params c a d L m fr res m' fr') := by
  intro cc st A s hA hD hF R
  refine codeAny_mono (h A s (kTok st 1) (vTok st 1) (kTok st 2) (vTok st 2) hA hD hF R) fun r s' q => ?_
  obtain ⟨k', v', kf', vf', sl, e, R'⟩ := q
  exact ⟨⟨fun _ => 0, fun i => if i = 1 then k' else kf', fun i => if i = 1 then v' else vf', fun _ => sl⟩, e, R'⟩
noncomputable abbrev rmS : Stmt := fnAt 6 (some 2)
noncomputable def rmEnv (L : Nat) : Env := fenv 237 L rmS "HungarianStemmer.r_mark_regions" 236
noncomputable def rmC (L : Nat) : Code := whileC (rmEnv L) (atP rmS [1])
noncomputable def rmF1 (w : World) (a : Nat) : Tm := frT w.params [("self", fun _ => .ref a)]
noncomputable def rmF2 (w : World) (a : Nat) (c : Int) : Tm := frT w.params [("self", fun _ => .ref a), ("v_1", fun t => .int c t)]
noncomputable def rmF3 (w : World) (a : Nat) (c : Int) : Tm := frT w.params [("self", fun _ => .ref a), ("v_1", fun t => .int c t), ("v_2", fun t => .int (c + 1) t)]
noncomputable def rmRes : Bool → Result
  | true => .ok .next
  | false => .ok (.ret (.bool false))
noncomputable def rmM (m : Sm) (c1 : Int) : Bool → Sm
  | true => Sm.mk m.cur (c1 + 1) m.li m.lb m.br m.ke (c1 + 1) true
  | false => withCu m c1
theorem rm_body : atP rmS [1] = .While (tstOf (atP rmS [1])) (stms rmS [1] 0 1 ++ (stms rmS [1] 1 1 ++ stms rmS [1] 2 5)) [] (match atP rmS [1] with | .While _ _ _ p => p | _ => default) := by kernel_rfl
theorem rm_try : stms rmS [1] 1 1 = [.Try (stms rmS [1, 1] 0 5) (hdls (atP rmS [1, 1])) [] [] (match atP rmS [1, 1] with | .Try _ _ _ _ p => p | _ => default)] := by kernel_rfl
theorem rm_hdls : (hdls (atP rmS [1, 1])).isEmpty = false := by kernel_rfl
section
variable {w : World} {G : Gs} {s₀ s : Shared} {a d L : Nat} {m : Sm} {l : List Env} {A : Around} {D : Nat}
noncomputable abbrev rmX (a d L : Nat) (l : List Env) : XS := XF [a, d, L] (rmEnv L) l
theorem rm_while {Post : Result → Shared → Prop} (h : wpAny (model P0 w) A (isTrue (tstOf (atP rmS [1])) (rmEnv L) (eval (tstOf (atP rmS [1])) (rmEnv L))) (fun b s' => b = true ∧
      wpAny (model P0 w) A (execs (stms rmS [1] 0 1 ++ (stms rmS [1] 1 1 ++ stms rmS [1] 2 5)) (rmEnv L)) (fun f s' => (f = .brk ∧ Post (.ok .next) s') ∨ ∃ v, f = .ret v ∧ Post (.ok (.ret v)) s') (fun _ _ => False) s') (fun _ _ => False) s) :
    codeAny (model P0 w) A (rmC L) Post s := by
  unfold rmC
  rw [rm_body]
  refine codeAny_of_tree ?_
  have hden : (model P0 w).den (whileC (rmEnv L) (.While (tstOf (atP rmS [1])) (stms rmS [1] 0 1 ++ (stms rmS [1] 1 1 ++ stms rmS [1] 2 5)) [] (match atP rmS [1] with | .While _ _ _ p => p | _ => default))) =
      (whileTurn (tstOf (atP rmS [1])) (stms rmS [1] 0 1 ++ (stms rmS [1] 1 1 ++ stms rmS [1] 2 5)) [] (rmEnv L)).onRaise (fun x => do noteFrame x (rmEnv L); theTreesLotGoes x) := rfl
  rw [hden, Around.under_of_weight rfl]
  refine wpAny_onRaise ?_
  unfold whileTurn
  refine wpAny_bind (wpAny_mono h (fun b s' q => ?_) fun _ _ q => q.elim)
  obtain ⟨rfl, q⟩ := q
  rw [if_pos rfl]
  refine wpAny_bind (wpAny_mono q (fun f s' q => ?_) fun _ _ q => q.elim)
  rcases q with ⟨rfl, q⟩ | ⟨v, rfl, q⟩
  · exact wpAny_pure q
  · exact wpAny_pure q
theorem rm_loopR {hit : Bool} {c1 : Int} (hA : A.handled = none) (hD : A.depth ≤ D) (hF : A.frames = some (rmEnv L :: l)) {k v kf vf : Nat → Tok}
    (h63 : ∀ s₀ X, HDOk w G (D + 20) s₀ X (HD.meth w.params 63 a d (fun _ => [.ref 230]) m.F (fun _ => .bool false) m.F))
    (h98 : ∀ s₀ X, HDOk w G (D + 20) s₀ X (HD.meth w.params 98 a d (fun _ => [.ref 230]) m.F (fun _ => .bool hit) (withCu m c1)))
    (R : Rl w G s₀ (rmX a d L l) (l3 w.params a d L m.F (rmF1 w a) k v kf vf) s) :
    codeAny (model P0 w) A (rmC L) (fun r s' => ∃ k' v' kf' vf' sl, r = rmRes hit ∧ Rl w G s₀ (rmX a d L l) [(a, inO 878 d), (d, dictT w.params (rmM m c1 hit) k' v'), (L, slotO (rmF2 w a m.cu kf' vf') sl)] s') s := by
  have hFX : ∀ l', (rmX a d L l).l = some l' → A.frames = some l' := fun l' h => by cases h; exact hF
  refine rm_while ?_
  refine wpAny_mono ((rmT0_ok w G a d L k v kf vf m).tree (D := D) .n hA hD hFX R) (fun b s1 q => ?_) (fun _ _ q => by obtain ⟨_, _, q, _⟩ := q; cases q)
  obtain ⟨_, st1, e, R1⟩ := q
  obtain rfl : b = true := Except.ok.inj e
  refine ⟨rfl, ?_⟩
  refine wpAny_execs_app _ ?_
  refine (rmT1_ok w G a d L _ _ _ _ m).next (D := D) .n hA hD hFX (Rel.cut (l := l3 w.params a d L m.F (rmF1 w a) _ _ _ _) R1) fun _ st2 s2 R2 => ?_
  refine .inl ⟨rfl, ?_⟩
  refine wpAny_execs_app _ ?_
  rw [rm_try]
  refine wpAny_execs_one ?_
  rw [arm_exec_Try]
  refine wpAny_bind (wpAny_standAt ?_)
  unfold tryStmt
  rw [if_pos (show ([] : List Stmt).isEmpty = true from rfl)]
  refine wpAny_bind (wpAny_attempt ?_)
  refine wpAny_mono ((rmT2_ok w G a d L _ _ _ _ m).tree (D := D) (.c (h63 _ _) .n) hA hD hFX (Rel.cut (l := l3 w.params a d L m.F (rmF2 w a m.cu) _ _ _ _) R2)) (fun f s3 q => by obtain ⟨_, _, q, _⟩ := q; cases q) (fun ev s3 q => ?_)
  obtain ⟨xo, st3, e, R3⟩ := q
  obtain rfl : ev = .ref (refOf xo) := Except.error.inj e
  refine wpAny_bind (noteFrame_ok (p1 := (a, inO 878 d)) (p2 := (d, dictT w.params m.F (kTok st3 1) (vTok st3 1))) (L := L) (oL := rmF2 w a m.cu (kTok st3 2) (vTok st3 2)) (C := .ref 890) (t := .ref (addrAt st3 5)) (rest := [pairAt st3 3, pairAt st3 5]) hF rfl
    (Rel.perm R3 (by refine .cons _ (.cons _ (.cons _ (.swap _ _ _)))) ) fun sl tb x5 x6 x7 x8 x9 x10 s4 R4 => ?_)
  rw [rm_hdls]
  show wpAny _ _ (setFlight (.ref (refOf xo)) none >>= fun _ => handleBy (.ref (refOf xo)) (rmEnv L) (hdls (atP rmS [1, 1]))) _ _ _
  refine (rmT3_ok w G a d L _ _ _ _ m (refOf xo) tb (addrAt st3 5) sl x5 x6 x7 x8 x9 x10).next (D := D) .n hA hD hFX (Rel.cut (l' := [pairAt st3 3, pairAt st3 5]) R4) fun _ st5 s5 R5 => ?_
  refine .inl ⟨rfl, ?_⟩
  have R6 := Rel.cut (l := [(a, inO 878 d), (d, dictT w.params m.F (kTok st5 1) (vTok st5 1)), (L, slotO (rmF2 w a m.cu (kTok st5 2) (vTok st5 2)) sl)]) (l' := [pairAt st5 3, pairAt st5 4]) R5
  cases hit with
  | true => exact (rmT4B_ok w G a d L _ _ _ _ m sl c1).next (D := D) (.c (h98 _ _) .n) hA hD hFX R6 fun _ st6 s6 R7 => .inl ⟨rfl, _, _, _, _, sl, rfl, R7⟩
  | false => exact (rmT4C_ok w G a d L _ _ _ _ m sl c1).next (D := D) (.c (h98 _ _) .n) hA hD hFX R6 fun _ st6 s6 R7 => .inr ⟨_, rfl, _, _, _, _, sl, rfl, R7⟩
end
end Mine
end
end
section
open PySem PySem.W PyProof.Rows
set_option maxRecDepth 100000
set_option maxHeartbeats 0
section
namespace Mine
noncomputable def rMarkF : Fn := ⟨237, fnAt 6 (some 2), "HungarianStemmer.r_mark_regions", 236, (sv "snowballstemmer.hungarian_stemmer" 459), ["self"]⟩
noncomputable def rMarkA_t (w : World) (G : Gs) (m : Sm) (c1 : Int) := mRoad rMarkF w G [] (Sm.mk m.cur m.cu m.li m.lb m.br m.ke m.p1 true) (Sm.mk m.cur (m.cu + 1) m.li m.lb m.br m.ke (c1 + 1) true) (fun _ => .bool true) (fun a d L => [HD.loopF w.params (rmC L) a d L (Sm.mk m.cur m.cu m.li m.lb m.br m.ke m.li true) (rmF1 w a) (.ok .next) (Sm.mk m.cur (m.cu + 1) m.li m.lb m.br m.ke (c1 + 1) true) (rmF3 w a m.cu)]) [3,1,0,0,0,0,0,0,1,0,0,0,0,0,1,1,0,2,3,1,0,0,0,0,0,0,1,0,1,0,1,0,0,0,1,0,2,2,2,1]
noncomputable def rMarkB_t (w : World) (G : Gs) (m : Sm) (c1 : Int) := mRoad rMarkF w G [] (Sm.mk m.cur m.cu m.li m.lb m.br m.ke m.p1 true) (rmM (Sm.mk m.cur m.cu m.li m.lb m.br m.ke m.li true) c1 true) (fun _ => .bool true) (fun a d L => [HD.loopF w.params (rmC L) a d L (Sm.mk m.cur m.cu m.li m.lb m.br m.ke m.li true) (rmF1 w a) (rmRes true) (rmM (Sm.mk m.cur m.cu m.li m.lb m.br m.ke m.li true) c1 true) (rmF2 w a m.cu)]) [3,1,0,0,0,0,0,0,1,0,0,0,0,0,1,1,0,2,3,1,0,0,0,0,0,0,1,0,1,0,1,0,0,0,1,0,2,2,2,1]
noncomputable def rMarkC_t (w : World) (G : Gs) (m : Sm) (c1 : Int) := mRoad rMarkF w G [] (Sm.mk m.cur m.cu m.li m.lb m.br m.ke m.p1 true) (rmM (Sm.mk m.cur m.cu m.li m.lb m.br m.ke m.li true) c1 false) (fun _ => .bool false) (fun a d L => [HD.loopF w.params (rmC L) a d L (Sm.mk m.cur m.cu m.li m.lb m.br m.ke m.li true) (rmF1 w a) (rmRes false) (rmM (Sm.mk m.cur m.cu m.li m.lb m.br m.ke m.li true) c1 false) (rmF2 w a m.cu)]) [3,1,0,0,0,0,0,0,1,0,0,0,0,0,1,1,0,2,3,1,0,0,0,0,0,0,1,0,1,0,1,0,0,0,1,0,2,2,2,1]
noncomputable def rMarkA_f (w : World) (G : Gs) (m : Sm) (c1 : Int) := mRoad rMarkF w G [] (Sm.mk m.cur m.cu m.li m.lb m.br m.ke m.p1 false) (Sm.mk m.cur (m.cu + 1) m.li m.lb m.br m.ke (c1 + 1) true) (fun _ => .bool true) (fun a d L => [HD.loopF w.params (rmC L) a d L (Sm.mk m.cur m.cu m.li m.lb m.br m.ke m.li true) (rmF1 w a) (.ok .next) (Sm.mk m.cur (m.cu + 1) m.li m.lb m.br m.ke (c1 + 1) true) (rmF3 w a m.cu)]) [3,1,0,0,0,0,0,0,1,0,0,0,0,0,1,1,0,2,3,1,0,0,0,0,0,0,1,0,1,0,1,0,0,0,1,0,2,2,2,1]
noncomputable def rMarkB_f (w : World) (G : Gs) (m : Sm) (c1 : Int) := mRoad rMarkF w G [] (Sm.mk m.cur m.cu m.li m.lb m.br m.ke m.p1 false) (rmM (Sm.mk m.cur m.cu m.li m.lb m.br m.ke m.li true) c1 true) (fun _ => .bool true) (fun a d L => [HD.loopF w.params (rmC L) a d L (Sm.mk m.cur m.cu m.li m.lb m.br m.ke m.li true) (rmF1 w a) (rmRes true) (rmM (Sm.mk m.cur m.cu m.li m.lb m.br m.ke m.li true) c1 true) (rmF2 w a m.cu)]) [3,1,0,0,0,0,0,0,1,0,0,0,0,0,1,1,0,2,3,1,0,0,0,0,0,0,1,0,1,0,1,0,0,0,1,0,2,2,2,1]
noncomputable def rMarkC_f (w : World) (G : Gs) (m : Sm) (c1 : Int) := mRoad rMarkF w G [] (Sm.mk m.cur m.cu m.li m.lb m.br m.ke m.p1 false) (rmM (Sm.mk m.cur m.cu m.li m.lb m.br m.ke m.li true) c1 false) (fun _ => .bool false) (fun a d L => [HD.loopF w.params (rmC L) a d L (Sm.mk m.cur m.cu m.li m.lb m.br m.ke m.li true) (rmF1 w a) (rmRes false) (rmM (Sm.mk m.cur m.cu m.li m.lb m.br m.ke m.li true) c1 false) (rmF2 w a m.cu)]) [3,1,0,0,0,0,0,0,1,0,0,0,0,0,1,1,0,2,3,1,0,0,0,0,0,0,1,0,1,0,1,0,0,0,1,0,2,2,2,1]
theorem rMarkF_ok (w : World) (G : Gs) (a d : Nat) (k v : Nat → Tok) (m : Sm)  : rMarkF.Ok w G [3,3] (selfSt w.params a d k v m) [.ref a] := okN (FnAt.mk' (sv "snowballstemmer.hungarian_stemmer" 459) (by kernel_rfl) (by kernel_rfl) (by kernel_rfl) (by kernel_rfl)) (by kernel_rfl) (fun pm => by kernel_rfl) (by kernel_rfl)
theorem rMarkA_t_ok (w : World) (G : Gs) (m : Sm) (c1 : Int) (a d L : Nat) (k v ts : Nat → Tok) : (rMarkA_t w G m c1 a d L k v ts).Ok w := okC (S := fun w => rMarkA_t w G m c1 a d L k v ts) (by kernel_rfl) (by kernel_rfl) w
theorem rMarkB_t_ok (w : World) (G : Gs) (m : Sm) (c1 : Int) (a d L : Nat) (k v ts : Nat → Tok) : (rMarkB_t w G m c1 a d L k v ts).Ok w := okC (S := fun w => rMarkB_t w G m c1 a d L k v ts) (by kernel_rfl) (by kernel_rfl) w
theorem rMarkC_t_ok (w : World) (G : Gs) (m : Sm) (c1 : Int) (a d L : Nat) (k v ts : Nat → Tok) : (rMarkC_t w G m c1 a d L k v ts).Ok w := okC (S := fun w => rMarkC_t w G m c1 a d L k v ts) (by kernel_rfl) (by kernel_rfl) w
theorem rMarkA_f_ok (w : World) (G : Gs) (m : Sm) (c1 : Int) (a d L : Nat) (k v ts : Nat → Tok) : (rMarkA_f w G m c1 a d L k v ts).Ok w := okC (S := fun w => rMarkA_f w G m c1 a d L k v ts) (by kernel_rfl) (by kernel_rfl) w
theorem rMarkB_f_ok (w : World) (G : Gs) (m : Sm) (c1 : Int) (a d L : Nat) (k v ts : Nat → Tok) : (rMarkB_f w G m c1 a d L k v ts).Ok w := okC (S := fun w => rMarkB_f w G m c1 a d L k v ts) (by kernel_rfl) (by kernel_rfl) w
theorem rMarkC_f_ok (w : World) (G : Gs) (m : Sm) (c1 : Int) (a d L : Nat) (k v ts : Nat → Tok) : (rMarkC_f w G m c1 a d L k v ts).Ok w := okC (S := fun w => rMarkC_f w G m c1 a d L k v ts) (by kernel_rfl) (by kernel_rfl) w
end Mine
end
end
section
open PySem PySem.W PyProof.Rows
set_option maxRecDepth 100000
section
namespace Mine
noncomputable def markP : List Nat → Nat
  | [] => 0
  | c :: r => if isV c = true then (match skipV false r with | some i => i + 2 | none => r.length + 1) else match skipV true (c :: r) with | some i => i + 1 | none => r.length + 1
theorem inG_spec {w : World} {G : Gs} (hG : GOk w G) {D : Nat} (hD : D < 850) {m : Sm} {c : Nat} {b : Bool} (h0 : 0 ≤ m.cu) (hx : m.cur.cps[m.cu.toNat]? = some c) (hl : m.li = m.cur.length) (hs : m.cur.length ≤ 10000) (hb : isV c = b) :
    MSpec w G 63 D [.ref 230] m.F (fun v m' => (∃ t : Tok, v = (fun _ => .bool b) t) ∧ m' = if b then withCu m (m.cu + 1) else m.F) := by
  have hlt : m.cu < m.li := by
    have := (Array.getElem?_eq_some_iff.mp hx).1
    have e : m.cur.length = m.cur.cps.size := rfl
    rw [hl, e]; lia
  cases b with
  | true =>
    exact mRoad.spec (fun a d k v => inGF_ok w G a d k v m.F (.ref 230)) (fun a d L k v ts => inG_true_ok w G m c a d L k v ts) hD fun a d L s₀ l => .c (HDOk.ge_false (by lia)) <| .c (HDOk.sGet h0 hx hs) <| .c (HDOk.inV hG hb) .n
  | false =>
    exact mRoad.spec (fun a d k v => inGF_ok w G a d k v m.F (.ref 230)) (fun a d L k v ts => inG_false_ok w G m c a d L k v ts) hD fun a d L s₀ l => .c (HDOk.ge_false (by lia)) <| .c (HDOk.sGet h0 hx hs) <| .c (HDOk.inV hG hb) .n
theorem rm_h63 {w : World} {G : Gs} (hG : GOk w G) {D : Nat} (hD : D < 800) {m : Sm} {c : Nat} {r : List Nat} (h0 : m.cu = 0) (hx : m.cur.cps.toList = c :: r) (hl : m.li = m.cur.length) (hs : m.cur.length ≤ 10000) (a d : Nat) (s₀ : Shared) (X : XS) :
    HDOk w G (D + 20) s₀ X (HD.meth w.params 63 a d (fun _ => [.ref 230]) m.F (fun _ => .bool (isV c)) (if isV c then withCu m (m.cu + 1) else m.F)) :=
  HDOk.meth (D' := D + 20) (fun _ => inG_spec hG (by lia) (by lia) (by rw [h0]; show m.cur.cps[0]? = _; rw [← Array.getElem?_toList, hx]; rfl) hl hs rfl) (Nat.le_refl _)
theorem rMark_spec {w : World} {G : Gs} (hG : GOk w G) {D : Nat} (hD : D < 750) {m : Sm} (h0 : m.cu = 0) (hl : m.li = m.cur.length) (hs : m.cur.length ≤ 10000) {c : Nat} {r : List Nat} (hx : m.cur.cps.toList = c :: r) (hv : isV c = true → (skipV false r).isSome = true) (full : Bool) :
    ∃ b cu', MSpecK true w G 237 D [] (Sm.mk m.cur m.cu m.li m.lb m.br m.ke m.p1 full) (fun v m' => (∃ t : Tok, v = (fun _ => .bool b) t) ∧ m' = Sm.mk m.cur cu' m.li m.lb m.br m.ke (markP (c :: r)) true) := by
  have hlen : (m.cur.length : Int) = r.length + 1 := by
    have : m.cur.cps.toList.length = r.length + 1 := by rw [hx]; rfl
    have e : m.cur.cps.toList.length = m.cur.length := rfl
    lia
  cases hc : isV c with
  | true =>
    cases hq : skipV false r with
    | none => rw [hq] at hv; exact absurd (hv hc) (by decide)
    | some i =>
      have e1 : skipTo false r = i := by unfold skipTo; rw [hq]
      have e2 : markP (c :: r) = i + 2 := by show (if isV c = true then _ else _) = _; rw [if_pos hc, hq]
      refine ⟨true, m.cu + 1, ?_⟩
      have key : ∀ (a d L : Nat) (s₀ : Shared) (l : List Env), AllH w G (D + 20) s₀ (XK rMarkF a d L l true) [HD.loopF w.params (rmC L) a d L (Sm.mk m.cur m.cu m.li m.lb m.br m.ke m.li true) (rmF1 w a) (.ok .next) (Sm.mk m.cur (m.cu + 1) m.li m.lb m.br m.ke (((1 + i : Nat) : Int) + 1) true) (rmF3 w a m.cu)] := fun a d L s₀ l => .c (by
        refine HDOk.loopF fun A s k v kf vf hA hD' hF R => ?_
        have hs1 := goIn_spec hG (D := D + 40) (by lia) (m := withCu (Sm.mk m.cur m.cu m.li m.lb m.br m.ke m.li true) (m.cu + 1)) (j := 1) (by show m.cu + 1 = _; rw [h0]; rfl) hl (by have e : m.cur.cps.toList.length = m.cur.length := rfl; show 1 ≤ m.cur.length; lia) hs
        have hdr : (withCu (Sm.mk m.cur m.cu m.li m.lb m.br m.ke m.li true) (m.cu + 1)).cur.cps.toList.drop 1 = r := by show m.cur.cps.toList.drop 1 = r; rw [hx]; rfl
        rw [hdr, hq, e1] at hs1
        have h63 := rm_h63 hG (D := D + 20) (by lia) (m := Sm.mk m.cur m.cu m.li m.lb m.br m.ke m.li true) h0 hx hl hs a d s₀ (rmX a d L l)
        rw [hc] at h63
        refine (rmA_ok w G a d L k v kf vf (Sm.mk m.cur m.cu m.li m.lb m.br m.ke m.li true) ((1 + i : Nat) : Int)).turn (D := D + 20) (s₀ := s₀) (X := rmX a d L l) rfl rfl rfl (.c h63 <| .c (HDOk.meth (D' := D + 40) (fun _ => hs1) (Nat.le_refl _)) .n) hA hD' hF R fun _ st' s' R' => ?_
        exact ⟨_, _, _, _, #[], rfl, Rel.cut (l := [(a, inO 878 d), (d, dictT w.params (Sm.mk m.cur (m.cu + 1) m.li m.lb m.br m.ke (((1 + i : Nat) : Int) + 1) true) (kTok st' 1) (vTok st' 1)), (L, slotO (rmF3 w a m.cu (kTok st' 2) (vTok st' 2)) #[])]) R'⟩) .n
      have e3 : (((1 + i : Nat) : Int) + 1) = ((markP (c :: r) : Nat) : Int) := by rw [e2]; lia
      cases full with
      | true => have := mRoad.spec (kn := true) (fun a d k v => rMarkF_ok w G a d k v _) (fun a d L k v ts => rMarkA_t_ok w G m ((1 + i : Nat) : Int) a d L k v ts) (D := D) (by lia) key; rw [e3] at this; exact this
      | false => have := mRoad.spec (kn := true) (fun a d k v => rMarkF_ok w G a d k v _) (fun a d L k v ts => rMarkA_f_ok w G m ((1 + i : Nat) : Int) a d L k v ts) (D := D) (by lia) key; rw [e3] at this; exact this
  | false =>
    have keyR : ∀ (hit : Bool) (c1 : Int), hit = (skipV true (c :: r)).isSome → c1 = ((skipTo true (c :: r) : Nat) : Int) → ∀ (a d L : Nat) (s₀ : Shared) (l : List Env), AllH w G (D + 20) s₀ (XK rMarkF a d L l true) [HD.loopF w.params (rmC L) a d L (Sm.mk m.cur m.cu m.li m.lb m.br m.ke m.li true) (rmF1 w a) (rmRes hit) (rmM (Sm.mk m.cur m.cu m.li m.lb m.br m.ke m.li true) c1 hit) (rmF2 w a m.cu)] := fun hit c1 ehit ec1 a d L s₀ l => .c (by
        refine HDOk.loopF fun A s k v kf vf hA hD' hF R => ?_
        refine rm_loopR (m := Sm.mk m.cur m.cu m.li m.lb m.br m.ke m.li true) (D := D + 20) hA hD' (hF _ rfl) (fun s₀ X => ?_) (fun s₀ X => ?_) R
        · have := rm_h63 hG (D := D + 20) (by lia) (m := Sm.mk m.cur m.cu m.li m.lb m.br m.ke m.li true) h0 hx hl hs a d s₀ X
          rw [hc] at this; exact this
        · have hs1 := goOut_spec hG (D := D + 40) (by lia) (m := Sm.mk m.cur m.cu m.li m.lb m.br m.ke m.li true) (j := 0) (by show m.cu = _; rw [h0]; rfl) hl (Nat.zero_le _) hs
          have hdr : (Sm.mk m.cur m.cu m.li m.lb m.br m.ke m.li true).cur.cps.toList.drop 0 = c :: r := by show m.cur.cps.toList.drop 0 = _; rw [hx]; rfl
          rw [hdr, ← ehit, Nat.zero_add, ← ec1] at hs1
          exact HDOk.meth (D' := D + 40) (fun _ => hs1) (Nat.le_refl _)) .n
    cases hq : skipV true (c :: r) with
    | some i =>
      have e1 : skipTo true (c :: r) = i := by unfold skipTo; rw [hq]
      have e2 : markP (c :: r) = i + 1 := by show (if isV c = true then _ else _) = _; rw [if_neg (by rw [hc]; decide), hq]
      have key := keyR true (i : Int) (by rw [hq]; rfl) (by rw [e1])
      have e3 : ((i : Int) + 1) = ((markP (c :: r) : Nat) : Int) := by rw [e2]; lia
      refine ⟨true, (i : Int) + 1, ?_⟩
      cases full with
      | true => have := mRoad.spec (kn := true) (fun a d k v => rMarkF_ok w G a d k v _) (fun a d L k v ts => rMarkB_t_ok w G m (i : Int) a d L k v ts) (D := D) (by lia) key; refine this.mono fun v m' h => ⟨h.1, h.2.trans ?_⟩; show Sm.mk _ _ _ _ _ _ ((i : Int) + 1) true = _; rw [e3]
      | false => have := mRoad.spec (kn := true) (fun a d k v => rMarkF_ok w G a d k v _) (fun a d L k v ts => rMarkB_f_ok w G m (i : Int) a d L k v ts) (D := D) (by lia) key; refine this.mono fun v m' h => ⟨h.1, h.2.trans ?_⟩; show Sm.mk _ _ _ _ _ _ ((i : Int) + 1) true = _; rw [e3]
    | none =>
      have e2 : markP (c :: r) = r.length + 1 := by show (if isV c = true then _ else _) = _; rw [if_neg (by rw [hc]; decide), hq]
      have key := keyR false ((skipTo true (c :: r) : Nat) : Int) (by rw [hq]; rfl) rfl
      have e3 : m.li = ((markP (c :: r) : Nat) : Int) := by rw [e2, hl, hlen]; lia
      refine ⟨false, ((skipTo true (c :: r) : Nat) : Int), ?_⟩
      cases full with
      | true => have := mRoad.spec (kn := true) (fun a d k v => rMarkF_ok w G a d k v _) (fun a d L k v ts => rMarkC_t_ok w G m ((skipTo true (c :: r) : Nat) : Int) a d L k v ts) (D := D) (by lia) key; refine this.mono fun v m' h => ⟨h.1, h.2.trans ?_⟩; show Sm.mk _ _ _ _ _ _ m.li true = _; rw [← e3]
      | false => have := mRoad.spec (kn := true) (fun a d k v => rMarkF_ok w G a d k v _) (fun a d L k v ts => rMarkC_f_ok w G m ((skipTo true (c :: r) : Nat) : Int) a d L k v ts) (D := D) (by lia) key; refine this.mono fun v m' h => ⟨h.1, h.2.trans ?_⟩; show Sm.mk _ _ _ _ _ _ m.li true = _; rw [← e3]
end Mine
end
end
section
open PySem PySem.W PyProof.Rows
set_option maxRecDepth 100000
set_option maxHeartbeats 0
section
namespace Mine
noncomputable def oMin_true (w : World) (G : Gs) (x y : Int) (t u : Tok) : ScC := ⟨G, .call (.builtin "min") ⟨[.int x t, .int y u], []⟩, [1,1,0,1,2,3,2,0,2,2,2,1,2,2,3,3,3,3,2,0,2,2,2,1,2,2,1,3,3,3,3,2,0,2,2,2,1,2,2,5,3,3,3], ([] : St), [HD.cmp "int.__lt__" y x true], (retR fun t => .int y t), (fun _ => (fun st => st))⟩
noncomputable def oMin_false (w : World) (G : Gs) (x y : Int) (t u : Tok) : ScC := ⟨G, .call (.builtin "min") ⟨[.int x t, .int y u], []⟩, [1,1,0,1,2,3,2,0,2,2,2,1,2,2,3,3,3,3,2,0,2,2,2,1,2,2,1,3,2,0,2,2,2,1,2,2,5,3,3,3], ([] : St), [HD.cmp "int.__lt__" y x false], (retR fun t => .int x t), (fun _ => (fun st => st))⟩
noncomputable def oOrd (w : World) (G : Gs) (c : Nat) (t : Tok) : ScC := ⟨G, .call (.builtin "ord") ⟨[.str ⟨#[c]⟩ t], []⟩, [], ([] : St), ([] : List HD), (retR fun t => .int c t), (fun _ => (fun st => st))⟩
theorem oMin_true_ok (w : World) (G : Gs) (x y : Int) (t u : Tok) : (oMin_true w G x y t u).Ok w := okC (S := fun w => oMin_true w G x y t u) (by kernel_rfl) (by kernel_rfl) w
theorem oMin_false_ok (w : World) (G : Gs) (x y : Int) (t u : Tok) : (oMin_false w G x y t u).Ok w := okC (S := fun w => oMin_false w G x y t u) (by kernel_rfl) (by kernel_rfl) w
theorem oOrd_ok (w : World) (G : Gs) (c : Nat) (t : Tok) : (oOrd w G c t).Ok w := okC (S := fun w => oOrd w G c t) (by kernel_rfl) (by kernel_rfl) w
end Mine
end
end
section
open PySem PySem.W PyProof.Rows Builtin Builtin.Str Builtin.Int
set_option maxRecDepth 100000
section
namespace Mine
section
variable {w : World} {G : Gs} {D : Nat} {s₀ s : Shared} {X : XS} {st : St}
theorem HDOk.ofCS {op : String} {args : Code → List Value} {V : Tok → Value} (h : ∀ c, CSpec w G false D (.call (.builtin op) ⟨args c, []⟩) [] (fun r _ _ => ∃ t, r = .ok (.ret (V t)))) : HDOk w G D s₀ X (HD.bi op args V) := by
  intro cc st A s hA hD hF R
  refine codeAny_mono ((h cc).at (rest := st) hA hD R) fun r s' q => ?_
  obtain ⟨st2, ex, ⟨t, e⟩, hm, R'⟩ := q
  have : st2 = [] := by cases st2 with
    | nil => rfl
    | cons a b => cases hm
  subst this
  exact ⟨⟨fun _ => t, fun _ _ => 0, fun _ _ => 0, fun _ => #[]⟩, e, Rel.cut R'⟩
noncomputable def HD.minI (x y : Int) : HD := HD.bi "min" (fun q => [.int x (argTok q 0), .int y (argTok q 1)]) fun t => .int (min x y) t
theorem HDOk.minI {x y : Int} : HDOk w G D s₀ X (HD.minI x y) := HDOk.ofCS fun c A s l hA hD hF R => by
  by_cases h : y < x
  · refine codeAny_mono ((oMin_true_ok w G x y _ _).run (.c (HDOk.lt_true h) .n) hA hD (fun l h => by cases h) R) fun r s' q => ?_
    obtain ⟨xo, st', e, R'⟩ := q
    have hmin : min x y = y := by lia
    exact ⟨[], st', ⟨_, by rw [hmin]; exact e⟩, rfl, R'⟩
  · refine codeAny_mono ((oMin_false_ok w G x y _ _).run (.c (HDOk.lt_false h) .n) hA hD (fun l h => by cases h) R) fun r s' q => ?_
    obtain ⟨xo, st', e, R'⟩ := q
    have hmin : min x y = x := by lia
    exact ⟨[], st', ⟨_, by rw [hmin]; exact e⟩, rfl, R'⟩
noncomputable def HD.ordC (c : Nat) : HD := HD.bi "ord" (fun q => [.str ⟨#[c]⟩ (argTok q 0)]) fun t => .int c t
theorem HDOk.ordC {c : Nat} : HDOk w G D s₀ X (HD.ordC c) := HDOk.ofCS fun q A s l hA hD hF R => by
  refine codeAny_mono ((oOrd_ok w G c _).run .n hA hD (fun l h => by cases h) R) fun r s' q => ?_
  obtain ⟨xo, st', e, R'⟩ := q
  exact ⟨[], st', ⟨_, e⟩, rfl, R'⟩
theorem HDOk.ofInt {op : String} {name : PySem.Str} {B : Builtin} {i j z : Int} (slot : Slot "int" name op) (entry : entryFor table op = some B) (args : ∀ t u, argsOk op ⟨[.int i t, .int j u], []⟩) (g : ∀ t u, Gives (B ⟨[.int i t, .int j u], []⟩) (.int z)) :
    HDOk w G D s₀ X (HD.ii op i j fun t => .int z t) := by
  intro cc st A s hA hD hF R
  exact code_slot slot (typeIs_int s i _) entry (args _ _) (g _ _).meets ⟨⟨fun _ => s.toks, fun _ _ => 0, fun _ _ => 0, fun _ => #[]⟩, rfl, R.toks _⟩
noncomputable abbrev HD.modI (i j : Int) : HD := HD.ii "int.__mod__" i j fun t => .int (i % j) t
noncomputable abbrev HD.divI (i j : Int) : HD := HD.ii "int.__floordiv__" i j fun t => .int (i / j) t
noncomputable abbrev HD.shr1 (i : Int) : HD := HD.ii "int.__rshift__" i 1 fun t => .int (i / 2) t
theorem HDOk.modI {i j : Int} (h : 0 < j) : HDOk w G D s₀ X (HD.modI i j) :=
  HDOk.ofInt F.slot_int_mod F.entry_int_mod (fun _ _ => F.args_int_mod_2 _ _) fun t u => by
    have := AutoIntG6.int___mod___int_int_1 i t j u (by simp; lia)
    rw [Int.fmod_eq_emod_of_nonneg _ (Int.le_of_lt h)] at this
    exact this
theorem HDOk.divI {i j : Int} (h : 0 < j) (hj : j < 1000) : HDOk w G D s₀ X (HD.divI i j) :=
  HDOk.ofInt F.slot_int_floordiv F.entry_int_floordiv (fun _ _ => F.args_int_floordiv_2 _ _) fun t u => by
    have := AutoIntG4.int___floordiv___int_int_1 i t j u (by simp; lia) (by rw [PyProof.noPylong_small (by lia)]; decide)
    rw [Int.fdiv_eq_ediv_of_nonneg _ (Int.le_of_lt h)] at this
    exact this
theorem HDOk.shr1 {i : Int} (h : 0 ≤ i) : HDOk w G D s₀ X (HD.shr1 i) := by
  by_cases hb : (1 : Int) ≥ ((intBits i : Nat) : Int)
  · refine HDOk.ofInt F.slot_int_rshift F.entry_int_rshift (fun _ _ => F.args_int_rshift_2 _ _) fun t u => ?_
    have := AutoIntG9.int___rshift___int_int_1 i t 1 u (by decide) hb
    rw [if_neg (Int.not_lt.mpr h)] at this
    rw [half_of_few_bits h hb]; exact this
  · refine HDOk.ofInt F.slot_int_rshift F.entry_int_rshift (fun _ _ => F.args_int_rshift_2 _ _) fun t u => ?_
    have := AutoIntG0.int___rshift___int_int_2 i t 1 u (by decide) hb
    rw [fdiv_two] at this
    exact this
noncomputable def HD.lLen (tv n : Nat) : HD := HD.bi "len" (fun q => [.ref tv]) fun t => .int n t
theorem code_len_list {A : Around} {l : Addr} {items : Array Value} {Q : Result → Shared → Prop} (hl : s.heap.IsList l items) (hfit : (items.size : Int) < 2 ^ 63)
    (h : Q (.ok (.ret (.int items.size (s.toks + 1)))) { s with toks := s.toks + 1 + 1 }) : codeAny (model P0 w) A (.call (.builtin "len") ⟨[.ref l], []⟩) Q s := by
  obtain ⟨o, ho, hc, n, hd⟩ := id hl
  refine code_function kind_len plain_len entry_len (args_len1 _) ?_
  unfold Builtin.«len»
  refine wpAny_bind (m := oneArg "len" _) (wpAny_pure ?_)
  refine wpAny_bind (m := callSpecial? (.ref l) (Str.ofString "__len__")) (wpAny_callSpecial?_slot (name := Str.ofString "__len__") hl.typeIs slot_list_len
    (wpAny_call_entry slot_list_len hl.typeIs entry_list_len ?_ (args_list_len _)))
  · show wpAny _ _ (do retInt (← seqSize l)) _ _ s
    unfold seqSize
    refine wpAny_bind (wpAny_bind (wpAny_load ho ?_))
    rw [hd]
    refine wpAny_pure (wpAny_bind (wpAny_mkInt (wpAny_pure ⟨_, rfl, ?_⟩)))
    refine wpAny_bind (wpAny_holding (wpAny_pure ?_))
    refine wpAny_bind (wpAny_letGo ?_)
    show wpAny _ _ (if ((items.size : Nat) : Int) < 0 then _ else _) _ _ _
    rw [if_neg (by lia)]
    show wpAny _ _ (if ((items.size : Nat) : Int) ≥ 2 ^ 63 then _ else _) _ _ _
    rw [if_neg (by lia)]
    exact wpAny_bind (wpAny_mkInt (wpAny_pure ⟨_, rfl, h⟩))
theorem HDOk.lLen {tv : Nat} {items : List Value} {n : Nat} (h : (TKb w.params G).get tv = some ⟨.type "list", none, .seq items.toArray n, #[]⟩) (hfit : (items.length : Int) < 2 ^ 63) : HDOk w G D s₀ X (HD.lLen tv items.length) := by
  intro cc st A s hA hD hF R
  have ho := R.K tv _ h rfl
  exact code_len_list (items := items.toArray) ⟨_, ho, rfl, n, rfl⟩ hfit ⟨⟨fun _ => s.toks + 1, fun _ _ => 0, fun _ _ => 0, fun _ => #[]⟩, rfl, R.toks _⟩
theorem setAt_setAt : ∀ (l : St) (i : Nat) (o o' : Obj), setAt (setAt l i o) i o' = setAt l i o'
  | [], _, _, _ => rfl
  | a :: l, 0, o, o' => rfl
  | a :: l, i + 1, o, o' => by show a :: setAt (setAt l i o) i o' = a :: setAt l i o'; rw [setAt_setAt l i o o']
noncomputable def rangeO (a b c : Int) (t u v : Tok) : Obj := ⟨.type "range", none, .fields #[.int a t, .int b u, .int c v], #[]⟩
noncomputable def rIterO (x left step : Int) : Obj := ⟨.type "range_iterator", none, .fields #[rawInt x, rawInt left, rawInt step], #[]⟩
noncomputable def putO (st : St) (ix : Nat) (o : Obj) : St := match nth st ix with | some _ => setAt st ix o | none => [(0, o)]
theorem putO_mem (st : St) (ix : Nat) (o : Obj) : (addrAt st ix, o) ∈ putO st ix o := by
  unfold putO addrAt
  cases h : nth st ix with
  | none => exact .head _
  | some p => exact nth_mem (nth_setAt h)
theorem putO_putO (st : St) (ix : Nat) (o o' : Obj) : putO (putO st ix o) ix o' = putO st ix o' := by
  unfold putO
  cases h : nth st ix with
  | some p => dsimp only; rw [nth_setAt h]; dsimp only; rw [setAt_setAt]
  | none => cases ix <;> rfl
noncomputable def HD.rIter (ix : Nat) (a b c n : Int) : HD :=
  ⟨fun _ st => .call (.builtin "range.__iter__") ⟨[.ref (addrAt st ix)], []⟩, fun st => putO st ix (rangeO a b c (vTok st ix 0) (vTok st ix 1) (vTok st ix 2)),
    fun y => .ok (.ret (.ref (y.t 0))), fun y st => push st (y.t 0, rIterO a n c)⟩
theorem HDOk.rIter {ix : Nat} {a b c n : Int} (hs : Builtin.Range.small a b c = true) (hn : Builtin.Range.rangeSize a b c = n) : HDOk w G D s₀ X (HD.rIter ix a b c n) := by
  intro cc st A s hA hD hF R
  have ho : s.heap.get? (addrAt st ix) = some (rangeO a b c (vTok st ix 0) (vTok st ix 1) (vTok st ix 2)) := R.S _ (putO_mem st ix _)
  refine code_slot F.slot_range_iter ⟨_, ho, rfl⟩ F.entry_range_iter (F.args_range_iter_1 _) (AutoRange.range___iter___range_1 _ a b c _ _ _ (by unfold Builtin.Range.small at hs; simp [hs])) ⟨ho, ?_⟩
  unfold Builtin.Range.small at hs
  simp only [hs, if_true]
  rw [hn]
  exact ⟨⟨fun _ => s.heap.objs.size, fun _ _ => 0, fun _ _ => 0, fun _ => #[]⟩, rfl, Rel.push R (o := rIterO a n c) rfl⟩
noncomputable def HD.rNext (ix : Nat) (x left step : Int) : HD :=
  ⟨fun _ st => .call (.builtin "range_iterator.__next__") ⟨[.ref (addrAt st ix)], []⟩, fun st => putO st ix (rIterO x left step),
    fun y => .ok (.ret (.int x (y.t 0))), fun _ st => putO st ix (rIterO (x + step) (left - 1) step)⟩
theorem Rel.updPut {ix : Nat} {o : Obj} {f : Obj → Obj} (R : Rl w G s₀ X (putO st ix o) s) (hl : alive (f o) = some (f o)) :
    Rl w G s₀ X (putO (putO st ix o) ix (f o)) { s with heap := s.heap.update (addrAt st ix) f } := by
  unfold putO addrAt at *
  cases h : nth st ix with
  | some p =>
    rw [h] at R
    have h2 := nth_setAt (o := o) h
    dsimp only at R ⊢
    rw [h2]
    exact Rel.update R h2 hl
  | none =>
    rw [h] at R
    dsimp only at R ⊢
    have R2 := Rel.update R (m := 0) (x := 0) (o := o) (f := f) rfl hl
    cases ix with
    | zero => exact R2
    | succ i => exact R2
theorem HDOk.rNext {ix : Nat} {x left step : Int} (hl : 0 < left) : HDOk w G D s₀ X (HD.rNext ix x left step) := by
  intro cc st A s hA hD hF R
  have ho : s.heap.get? (addrAt st ix) = some (rIterO x left step) := R.S _ (putO_mem st ix _)
  refine code_slot F.slot_range_iterator_next ⟨_, ho, rfl⟩ F.entry_range_iterator_next (F.args_range_iterator_next_1 _) (AutoRange.range_iterator___next___range_iterator_1 _ x left step (by lia)) ⟨ho, ?_⟩
  refine ⟨⟨fun _ => s.toks, fun _ _ => 0, fun _ _ => 0, fun _ => #[]⟩, rfl, ?_⟩
  have R2 := Rel.updPut R (f := Obj.mapFields fun x_1 => x_1.setIfInBounds 0 (rawInt (x + step))) rfl
  have e : (Obj.mapFields (fun x_1 => x_1.setIfInBounds 0 (rawInt (x + step))) (rIterO x left step)) = rIterO (x + step) left step := rfl
  rw [e] at R2
  have R3 : Rl w G s₀ X (putO st ix (rIterO (x + step) left step)) { s with heap := s.heap.update (addrAt st ix) (Obj.mapFields fun x_1 => x_1.setIfInBounds 0 (rawInt (x + step))) } := by
    rw [← putO_putO]; exact R2
  have R4 := Rel.updPut R3 (f := Obj.mapFields fun x => x.setIfInBounds 1 (rawInt (left - 1))) rfl
  have R5 := Rel.toks R4 (s.toks + 1)
  rw [putO_putO] at R5
  show Rl w G s₀ X (putO (putO st ix (rIterO x left step)) ix (rIterO (x + step) (left - 1) step)) _
  rw [putO_putO]
  exact R5
end
end Mine
end
end
section
open PySem PySem.W PyProof.Rows
set_option maxRecDepth 100000
section
namespace Mine
noncomputable def amSt (P : Params) (e : Am) : St := [(e.wa, inO 218 e.wd), (e.wd, e.dO P)]
noncomputable def tvSt (tv : Nat) (its : Array Value) : St := [(tv, ⟨.type "list", none, .seq its 0, #[]⟩)]
noncomputable def Gs.at (G : Gs) (r : St) : Gs := ⟨G.es, G.ep, G.t, r⟩
noncomputable abbrev faS : Stmt := fnAt 2 (some 15)
noncomputable def faEnv (L : Nat) : Env := fenv 140 L faS "BaseStemmer.find_among_b" 139
structure FaF where
  i : Int
  j : Int
  c : Int
  ci : Int
  cj : Int
  fki : Bool
noncomputable def faN0 (a tv : Nat) : List (PySem.Str × (Tok → Value)) := [("self", fun _ => .ref a), ("v", fun _ => .ref tv)]
noncomputable def faN1 (a tv : Nat) (f : FaF) : List (PySem.Str × (Tok → Value)) := [("self", fun _ => .ref a), ("v", fun _ => .ref tv), ("i", fun t => .int f.i t), ("j", fun t => .int f.j t), ("c", fun t => .int f.c t), ("lb", fun t => .int 0 t), ("common_i", fun t => .int f.ci t), ("common_j", fun t => .int f.cj t), ("first_key_inspected", fun _ => .bool f.fki)]
noncomputable def faN2 (a tv : Nat) (f : FaF) (k diff common : Int) (w : Nat) : List (PySem.Str × (Tok → Value)) := [("self", fun _ => .ref a), ("v", fun _ => .ref tv), ("i", fun t => .int f.i t), ("j", fun t => .int f.j t), ("c", fun t => .int f.c t), ("lb", fun t => .int 0 t), ("common_i", fun t => .int f.ci t), ("common_j", fun t => .int f.cj t), ("first_key_inspected", fun _ => .bool f.fki), ("k", fun t => .int k t), ("diff", fun t => .int diff t), ("common", fun t => .int common t), ("w", fun _ => .ref w)]
noncomputable def faN3 (a tv : Nat) (f : FaF) (k diff common : Int) (w : Nat) (i2 : Int) : List (PySem.Str × (Tok → Value)) := [("self", fun _ => .ref a), ("v", fun _ => .ref tv), ("i", fun t => .int f.i t), ("j", fun t => .int f.j t), ("c", fun t => .int f.c t), ("lb", fun t => .int 0 t), ("common_i", fun t => .int f.ci t), ("common_j", fun t => .int f.cj t), ("first_key_inspected", fun _ => .bool f.fki), ("k", fun t => .int k t), ("diff", fun t => .int diff t), ("common", fun t => .int common t), ("w", fun _ => .ref w), ("i2", fun t => .int i2 t)]
noncomputable def HD.faFor (P : Params) (a d L : Nat) (m : Sm) (fr fr' : Tm) (x left : Int) : HD :=
  ⟨fun _ st => forC (faEnv L) (.ref (addrAt st 4)) (atP faS [7, 4]), fun st => [(a, inO 878 d), (d, dictT P m (kTok st 1) (vTok st 1)), (L, fr (kTok st 2) (vTok st 2)), pairAt st 3, (addrAt st 4, rIterO x left (-1))], fun _ => .ok .next,
    fun y _ => [(a, inO 878 d), (d, dictT P m (y.K 1) (y.V 1)), (L, fr' (y.K 2) (y.V 2))]⟩
end Mine
end
end
section
open PySem PySem.W PyProof.Rows
set_option maxRecDepth 100000
set_option maxHeartbeats 0
section
namespace Mine
noncomputable def faA (w : World) (G : Gs) (a d L : Nat) (k v kf vf : Nat → Tok) (m : Sm) (tv : Nat) (n : Nat) : ScT Flow := ⟨G, execs (stms faS [] 0 7) (faEnv L), [3,3,0,0,3,1,3,3,3,1,0,0,0,0,0,0,1,0,0,0,0,0,1,1,0,2,3,3,3,1,0,0,0,0,0,0,1,0,0,0,0,0,1,1,0,2,3,3,3,3,3,3,3,3], (l3 w.params a d L (Sm.mk m.cur m.cu m.li 0 m.br m.ke m.p1 true) (frT w.params (faN0 a tv)) k v kf vf), [HD.lLen tv n], (fun _ => .ok .next), (fun _ => framePre w.params a d L (Sm.mk m.cur m.cu m.li 0 m.br m.ke m.p1 true) (frT w.params (faN1 a tv ⟨0, n, m.cu, 0, 0, false⟩)))⟩
noncomputable def faU1 (w : World) (G : Gs) (a d L : Nat) (k v kf vf : Nat → Tok) (m : Sm) (tv : Nat) (f : FaF) (wa : Nat) (its : Array Value) : ScT Flow := ⟨(G.at (tvSt tv its)), execs (stms faS [7] 0 4) (faEnv L), [3,3,3,0,1,0,3,3,3,3,0,0,3,3,1,3,3,3,3,501,501,501,1,3,3], (l3 w.params a d L m.F (frT w.params (faN1 a tv f)) k v kf vf), [HD.shr1 (f.j - f.i), HD.minI f.ci f.cj, HD.lGet tv (f.i + (f.j - f.i) / 2) (.ref wa)], (fun _ => .ok .next), (fun _ => framePre w.params a d L m.F (frT w.params (faN2 a tv f (f.i + (f.j - f.i) / 2) 0 (min f.ci f.cj) wa)))⟩
noncomputable def faU1s (w : World) (G : Gs) (a d L : Nat) (k v kf vf : Nat → Tok) (m : Sm) (tv : Nat) (f : FaF) (wa : Nat) (its : Array Value) (k0 d0 c0 i0 : Int) (w0 : Nat) : ScT Flow := ⟨(G.at (tvSt tv its)), execs (stms faS [7] 0 4) (faEnv L), [3,3,3,0,1,0,3,3,3,3,0,0,3,3,1,3,3,3,3,501,501,501,1,3,3], (l3 w.params a d L m.F (frT w.params (faN3 a tv f k0 d0 c0 w0 i0)) k v kf vf), [HD.shr1 (f.j - f.i), HD.minI f.ci f.cj, HD.lGet tv (f.i + (f.j - f.i) / 2) (.ref wa)], (fun _ => .ok .next), (fun _ => framePre w.params a d L m.F (frT w.params (faN3 a tv f (f.i + (f.j - f.i) / 2) 0 (min f.ci f.cj) wa i0)))⟩
noncomputable def faH2 (w : World) (G : Gs) (a d L : Nat) (k v kf vf : Nat → Tok) (m : Sm) (tv : Nat) (f : FaF) (k1 d1 cm i0 : Int) (e : Am) (dr cr ir nn : Int) : ScT Flow := ⟨(G.at (amSt w.params e)), execs (stms faS [7] 4 1) (faEnv L), [0,0,0,0,3,501,0,0,0,0,501,0,0,0,501,501,0,502,1,0,3,0,0,0,0,0,4,4,0,4,4,4,4,1,5,1], (l3 w.params a d L m.F (frT w.params (faN2 a tv f k1 d1 cm e.wa)) k v kf vf), [HD.sLen e.s, HD.rIter 3 (e.s.length - 1 - cm) (-1) (-1) nn, HD.faFor w.params a d L m.F (frT w.params (faN2 a tv f k1 d1 cm e.wa)) (frT w.params (faN3 a tv f k1 dr cr e.wa ir)) (e.s.length - 1 - cm) nn], (fun _ => .ok .next), (fun _ => framePre w.params a d L m.F (frT w.params (faN3 a tv f k1 dr cr e.wa ir)))⟩
noncomputable def faH3 (w : World) (G : Gs) (a d L : Nat) (k v kf vf : Nat → Tok) (m : Sm) (tv : Nat) (f : FaF) (k1 d1 cm i0 : Int) (e : Am) (dr cr ir nn : Int) : ScT Flow := ⟨(G.at (amSt w.params e)), execs (stms faS [7] 4 1) (faEnv L), [0,0,0,0,3,501,0,0,0,0,501,0,0,0,501,501,0,502,1,0,3,0,0,0,0,0,4,4,0,4,4,4,4,1,5,1], (l3 w.params a d L m.F (frT w.params (faN3 a tv f k1 d1 cm e.wa i0)) k v kf vf), [HD.sLen e.s, HD.rIter 3 (e.s.length - 1 - cm) (-1) (-1) nn, HD.faFor w.params a d L m.F (frT w.params (faN3 a tv f k1 d1 cm e.wa i0)) (frT w.params (faN3 a tv f k1 dr cr e.wa ir)) (e.s.length - 1 - cm) nn], (fun _ => .ok .next), (fun _ => framePre w.params a d L m.F (frT w.params (faN3 a tv f k1 dr cr e.wa ir)))⟩
noncomputable def faT2_lb (w : World) (G : Gs) (a d L : Nat) (k v kf vf : Nat → Tok) (m : Sm) (tv : Nat) (f : FaF) (k1 d1 cm i0 : Int) (e : Am) (rA iA : Nat) (rO : Obj) (x left : Int) : ScT PySem.Fin := ⟨(G.at (amSt w.params e)), denote treeTable ((forC (faEnv L) (.ref iA) (atP faS [7, 4]))), [5,1,3,3,3,3,0,3,1,0,3,3], [(a, inO 878 d), (d, dictT w.params m.F k v), (L, (frT w.params (faN2 a tv f k1 d1 cm e.wa)) kf vf), (rA, rO), (iA, rIterO x left (-1))], [HD.rNext 4 x left (-1), HD.cmp "int.__eq__" (f.c - cm) 0 true], (fun _ => .ok (.done .next)), (fun _ => (fun st => [(a, inO 878 d), (d, dictT w.params m.F (kTok st 1) (vTok st 1)), (L, (frT w.params (faN3 a tv f k1 (-1) cm e.wa x)) (kTok st 2) (vTok st 2)), (rA, rO), (iA, rIterO (x + (-1)) (left - 1) (-1))]))⟩
noncomputable def faT2_ne (w : World) (G : Gs) (a d L : Nat) (k v kf vf : Nat → Tok) (m : Sm) (tv : Nat) (f : FaF) (k1 d1 cm i0 : Int) (e : Am) (rA iA : Nat) (rO : Obj) (x left : Int) (c1 c2 : Nat) : ScT PySem.Fin := ⟨(G.at (amSt w.params e)), denote treeTable ((forC (faEnv L) (.ref iA) (atP faS [7, 4]))), [5,1,3,3,3,3,0,3,1,0,0,3,1,0,0,0,0,0,0,1,0,0,0,0,0,1,1,0,2,3,0,3,0,1,1,0,0,3,501,0,0,0,0,501,0,0,0,501,501,0,502,3,1,1,0,3,3,3,1], [(a, inO 878 d), (d, dictT w.params m.F k v), (L, (frT w.params (faN2 a tv f k1 d1 cm e.wa)) kf vf), (rA, rO), (iA, rIterO x left (-1))], [HD.rNext 4 x left (-1), HD.cmp "int.__eq__" (f.c - cm) 0 false, HD.sGet m.cur (f.c - 1 - cm) c1, HD.ordC c1, HD.sGet e.s x c2, HD.ordC c2, HD.cmp "int.__ne__" ((c1 : Int) - (c2 : Int)) 0 true], (fun _ => .ok (.done .next)), (fun _ => (fun st => [(a, inO 878 d), (d, dictT w.params m.F (kTok st 1) (vTok st 1)), (L, (frT w.params (faN3 a tv f k1 ((c1 : Int) - (c2 : Int)) cm e.wa x)) (kTok st 2) (vTok st 2)), (rA, rO), (iA, rIterO (x + (-1)) (left - 1) (-1))]))⟩
noncomputable def faT2_eq (w : World) (G : Gs) (a d L : Nat) (k v kf vf : Nat → Tok) (m : Sm) (tv : Nat) (f : FaF) (k1 d1 cm i0 : Int) (e : Am) (rA iA : Nat) (rO : Obj) (x left : Int) (c1 c2 : Nat) : ScT PySem.Fin := ⟨(G.at (amSt w.params e)), denote treeTable ((forC (faEnv L) (.ref iA) (atP faS [7, 4]))), [5,1,3,3,3,3,0,3,1,0,0,3,1,0,0,0,0,0,0,1,0,0,0,0,0,1,1,0,2,3,0,3,0,1,1,0,0,3,501,0,0,0,0,501,0,0,0,501,501,0,502,3,1,1,0,3,3,3,1,3,0,3,3], [(a, inO 878 d), (d, dictT w.params m.F k v), (L, (frT w.params (faN2 a tv f k1 d1 cm e.wa)) kf vf), (rA, rO), (iA, rIterO x left (-1))], [HD.rNext 4 x left (-1), HD.cmp "int.__eq__" (f.c - cm) 0 false, HD.sGet m.cur (f.c - 1 - cm) c1, HD.ordC c1, HD.sGet e.s x c2, HD.ordC c2, HD.cmp "int.__ne__" ((c1 : Int) - (c2 : Int)) 0 false], (fun _ => .ok (.again (forC (faEnv L) (.ref iA) (atP faS [7, 4])))), (fun _ => (fun st => [(a, inO 878 d), (d, dictT w.params m.F (kTok st 1) (vTok st 1)), (L, (frT w.params (faN3 a tv f k1 ((c1 : Int) - (c2 : Int)) (cm + 1) e.wa x)) (kTok st 2) (vTok st 2)), (rA, rO), (iA, rIterO (x + (-1)) (left - 1) (-1))]))⟩
noncomputable def faT3_lb (w : World) (G : Gs) (a d L : Nat) (k v kf vf : Nat → Tok) (m : Sm) (tv : Nat) (f : FaF) (k1 d1 cm i0 : Int) (e : Am) (rA iA : Nat) (rO : Obj) (x left : Int) : ScT PySem.Fin := ⟨(G.at (amSt w.params e)), denote treeTable ((forC (faEnv L) (.ref iA) (atP faS [7, 4]))), [5,1,3,3,3,3,0,3,1,0,3,3], [(a, inO 878 d), (d, dictT w.params m.F k v), (L, (frT w.params (faN3 a tv f k1 d1 cm e.wa i0)) kf vf), (rA, rO), (iA, rIterO x left (-1))], [HD.rNext 4 x left (-1), HD.cmp "int.__eq__" (f.c - cm) 0 true], (fun _ => .ok (.done .next)), (fun _ => (fun st => [(a, inO 878 d), (d, dictT w.params m.F (kTok st 1) (vTok st 1)), (L, (frT w.params (faN3 a tv f k1 (-1) cm e.wa x)) (kTok st 2) (vTok st 2)), (rA, rO), (iA, rIterO (x + (-1)) (left - 1) (-1))]))⟩
noncomputable def faT3_ne (w : World) (G : Gs) (a d L : Nat) (k v kf vf : Nat → Tok) (m : Sm) (tv : Nat) (f : FaF) (k1 d1 cm i0 : Int) (e : Am) (rA iA : Nat) (rO : Obj) (x left : Int) (c1 c2 : Nat) : ScT PySem.Fin := ⟨(G.at (amSt w.params e)), denote treeTable ((forC (faEnv L) (.ref iA) (atP faS [7, 4]))), [5,1,3,3,3,3,0,3,1,0,0,3,1,0,0,0,0,0,0,1,0,0,0,0,0,1,1,0,2,3,0,3,0,1,1,0,0,3,501,0,0,0,0,501,0,0,0,501,501,0,502,3,1,1,0,3,3,3,1], [(a, inO 878 d), (d, dictT w.params m.F k v), (L, (frT w.params (faN3 a tv f k1 d1 cm e.wa i0)) kf vf), (rA, rO), (iA, rIterO x left (-1))], [HD.rNext 4 x left (-1), HD.cmp "int.__eq__" (f.c - cm) 0 false, HD.sGet m.cur (f.c - 1 - cm) c1, HD.ordC c1, HD.sGet e.s x c2, HD.ordC c2, HD.cmp "int.__ne__" ((c1 : Int) - (c2 : Int)) 0 true], (fun _ => .ok (.done .next)), (fun _ => (fun st => [(a, inO 878 d), (d, dictT w.params m.F (kTok st 1) (vTok st 1)), (L, (frT w.params (faN3 a tv f k1 ((c1 : Int) - (c2 : Int)) cm e.wa x)) (kTok st 2) (vTok st 2)), (rA, rO), (iA, rIterO (x + (-1)) (left - 1) (-1))]))⟩
noncomputable def faT3_eq (w : World) (G : Gs) (a d L : Nat) (k v kf vf : Nat → Tok) (m : Sm) (tv : Nat) (f : FaF) (k1 d1 cm i0 : Int) (e : Am) (rA iA : Nat) (rO : Obj) (x left : Int) (c1 c2 : Nat) : ScT PySem.Fin := ⟨(G.at (amSt w.params e)), denote treeTable ((forC (faEnv L) (.ref iA) (atP faS [7, 4]))), [5,1,3,3,3,3,0,3,1,0,0,3,1,0,0,0,0,0,0,1,0,0,0,0,0,1,1,0,2,3,0,3,0,1,1,0,0,3,501,0,0,0,0,501,0,0,0,501,501,0,502,3,1,1,0,3,3,3,1,3,0,3,3], [(a, inO 878 d), (d, dictT w.params m.F k v), (L, (frT w.params (faN3 a tv f k1 d1 cm e.wa i0)) kf vf), (rA, rO), (iA, rIterO x left (-1))], [HD.rNext 4 x left (-1), HD.cmp "int.__eq__" (f.c - cm) 0 false, HD.sGet m.cur (f.c - 1 - cm) c1, HD.ordC c1, HD.sGet e.s x c2, HD.ordC c2, HD.cmp "int.__ne__" ((c1 : Int) - (c2 : Int)) 0 false], (fun _ => .ok (.again (forC (faEnv L) (.ref iA) (atP faS [7, 4])))), (fun _ => (fun st => [(a, inO 878 d), (d, dictT w.params m.F (kTok st 1) (vTok st 1)), (L, (frT w.params (faN3 a tv f k1 ((c1 : Int) - (c2 : Int)) (cm + 1) e.wa x)) (kTok st 2) (vTok st 2)), (rA, rO), (iA, rIterO (x + (-1)) (left - 1) (-1))]))⟩
noncomputable def faT3_end (w : World) (G : Gs) (a d L : Nat) (k v kf vf : Nat → Tok) (m : Sm) (tv : Nat) (f : FaF) (k1 d1 cm i0 : Int) (e : Am) (rA iA : Nat) (rO : Obj) (x left : Int) : ScT PySem.Fin := ⟨(G.at (amSt w.params e)), denote treeTable ((forC (faEnv L) (.ref iA) (atP faS [7, 4]))), [5,0,5,5,5,5,7], [(a, inO 878 d), (d, dictT w.params m.F k v), (L, (frT w.params (faN3 a tv f k1 d1 cm e.wa i0)) kf vf), (rA, rO), (iA, rIterO x 0 (-1))], ([] : List HD), (fun _ => .ok (.again (.block [] (faEnv L)))), (fun _ => (fun st => [(a, inO 878 d), (d, dictT w.params m.F (kTok st 1) (vTok st 1)), (L, (frT w.params (faN3 a tv f k1 d1 cm e.wa i0)) (kTok st 2) (vTok st 2)), (rA, rO), (iA, rIterO x 0 (-1)), pairAt st 5, pairAt st 6]))⟩
noncomputable def faI_neg (w : World) (G : Gs) (a d L : Nat) (k v kf vf : Nat → Tok) (m : Sm) (tv : Nat) (f : FaF) (k1 d1 cm i0 : Int) (w0 : Nat) : ScT Flow := ⟨G, execs (stms faS [7] 5 1) (faEnv L), [3,1,3,3,3,3,3,3], (l3 w.params a d L m.F (frT w.params (faN3 a tv f k1 d1 cm w0 i0)) k v kf vf), [HD.cmp "int.__lt__" d1 0 true], (fun _ => .ok .next), (fun _ => framePre w.params a d L m.F (frT w.params (faN3 a tv ⟨f.i, k1, f.c, f.ci, cm, f.fki⟩ k1 d1 cm w0 i0)))⟩
noncomputable def faI_pos (w : World) (G : Gs) (a d L : Nat) (k v kf vf : Nat → Tok) (m : Sm) (tv : Nat) (f : FaF) (k1 d1 cm i0 : Int) (w0 : Nat) : ScT Flow := ⟨G, execs (stms faS [7] 5 1) (faEnv L), [3,1,3,3,3,3,3,3], (l3 w.params a d L m.F (frT w.params (faN3 a tv f k1 d1 cm w0 i0)) k v kf vf), [HD.cmp "int.__lt__" d1 0 false], (fun _ => .ok .next), (fun _ => framePre w.params a d L m.F (frT w.params (faN3 a tv ⟨k1, f.j, f.c, cm, f.cj, f.fki⟩ k1 d1 cm w0 i0)))⟩
noncomputable def faE_go (w : World) (G : Gs) (a d L : Nat) (k v kf vf : Nat → Tok) (m : Sm) (tv : Nat) (f : FaF) (k1 d1 cm i0 : Int) (w0 : Nat) : ScT Flow := ⟨G, execs (stms faS [7] 6 1) (faEnv L), [3,3,0,1], (l3 w.params a d L m.F (frT w.params (faN3 a tv f k1 d1 cm w0 i0)) k v kf vf), [HD.cmp "int.__le__" (f.j - f.i) 1 false], (fun _ => .ok .next), (fun _ => framePre w.params a d L m.F (frT w.params (faN3 a tv f k1 d1 cm w0 i0)))⟩
noncomputable def faE_i (w : World) (G : Gs) (a d L : Nat) (k v kf vf : Nat → Tok) (m : Sm) (tv : Nat) (f : FaF) (k1 d1 cm i0 : Int) (w0 : Nat) : ScT Flow := ⟨G, execs (stms faS [7] 6 1) (faEnv L), [3,3,0,1,3,1], (l3 w.params a d L m.F (frT w.params (faN3 a tv f k1 d1 cm w0 i0)) k v kf vf), [HD.cmp "int.__le__" (f.j - f.i) 1 true, HD.cmp "int.__gt__" f.i 0 true], (fun _ => .ok .brk), (fun _ => framePre w.params a d L m.F (frT w.params (faN3 a tv f k1 d1 cm w0 i0)))⟩
noncomputable def faE_j (w : World) (G : Gs) (a d L : Nat) (k v kf vf : Nat → Tok) (m : Sm) (tv : Nat) (f : FaF) (k1 d1 cm i0 : Int) (w0 : Nat) : ScT Flow := ⟨G, execs (stms faS [7] 6 1) (faEnv L), [3,3,0,1,3,1,3,3,1], (l3 w.params a d L m.F (frT w.params (faN3 a tv f k1 d1 cm w0 i0)) k v kf vf), [HD.cmp "int.__le__" (f.j - f.i) 1 true, HD.cmp "int.__gt__" f.i 0 false, HD.cmp "int.__eq__" f.j f.i true], (fun _ => .ok .brk), (fun _ => framePre w.params a d L m.F (frT w.params (faN3 a tv f k1 d1 cm w0 i0)))⟩
noncomputable def faE_f (w : World) (G : Gs) (a d L : Nat) (k v kf vf : Nat → Tok) (m : Sm) (tv : Nat) (f : FaF) (k1 d1 cm i0 : Int) (w0 : Nat) : ScT Flow := ⟨G, execs (stms faS [7] 6 1) (faEnv L), [3,3,0,1,3,1,3,3,1,3], (l3 w.params a d L m.F (frT w.params (faN3 a tv ⟨f.i, f.j, f.c, f.ci, f.cj, true⟩ k1 d1 cm w0 i0)) k v kf vf), [HD.cmp "int.__le__" (f.j - f.i) 1 true, HD.cmp "int.__gt__" f.i 0 false, HD.cmp "int.__eq__" f.j f.i false], (fun _ => .ok .brk), (fun _ => framePre w.params a d L m.F (frT w.params (faN3 a tv ⟨f.i, f.j, f.c, f.ci, f.cj, true⟩ k1 d1 cm w0 i0)))⟩
noncomputable def faE_n (w : World) (G : Gs) (a d L : Nat) (k v kf vf : Nat → Tok) (m : Sm) (tv : Nat) (f : FaF) (k1 d1 cm i0 : Int) (w0 : Nat) : ScT Flow := ⟨G, execs (stms faS [7] 6 1) (faEnv L), [3,3,0,1,3,1,3,3,1,3,3,3], (l3 w.params a d L m.F (frT w.params (faN3 a tv ⟨f.i, f.j, f.c, f.ci, f.cj, false⟩ k1 d1 cm w0 i0)) k v kf vf), [HD.cmp "int.__le__" (f.j - f.i) 1 true, HD.cmp "int.__gt__" f.i 0 false, HD.cmp "int.__eq__" f.j f.i false], (fun _ => .ok .next), (fun _ => framePre w.params a d L m.F (frT w.params (faN3 a tv ⟨f.i, f.j, f.c, f.ci, f.cj, true⟩ k1 d1 cm w0 i0)))⟩
noncomputable def faJ_hit (w : World) (G : Gs) (a d L : Nat) (k v kf vf : Nat → Tok) (m : Sm) (tv : Nat) (f : FaF) (k1 d1 cm i0 : Int) (w0 : Nat) (e : Am) (its : Array Value) : ScT Flow := ⟨(G.at (amSt w.params e ++ tvSt tv its)), execs (stms faS [8] 0 4) (faEnv L), [3,3,503,503,503,1,3,3,3,0,0,3,501,0,0,0,0,501,0,0,0,501,501,0,502,1,1,3,0,0,3,501,0,0,0,0,501,0,0,0,501,501,0,502,1,0,3,1,0,0,0,0,0,0,1,0,1,0,1,0,0,0,0,0,1,0,2,2,2,3,501,0,0,0,0,501,0,0,0,501,501,0,502], (l3 w.params a d L m.F (frT w.params (faN3 a tv f k1 d1 cm w0 i0)) k v kf vf), [HD.lGet tv f.i (.ref e.wa), HD.sLen e.s, HD.cmp "int.__ge__" f.ci e.s.length true, HD.sLen e.s], (fun _ => .ok (.ret (.int e.res e.v3))), (fun _ => framePre w.params a d L (Sm.mk m.cur (f.c - e.s.length) m.li m.lb m.br m.ke m.p1 true) (frT w.params (faN3 a tv f k1 d1 cm e.wa i0)))⟩
noncomputable def faJ_zero (w : World) (G : Gs) (a d L : Nat) (k v kf vf : Nat → Tok) (m : Sm) (tv : Nat) (f : FaF) (k1 d1 cm i0 : Int) (w0 : Nat) (e : Am) (its : Array Value) : ScT Flow := ⟨(G.at (amSt w.params e ++ tvSt tv its)), execs (stms faS [8] 0 4) (faEnv L), [3,3,503,503,503,1,3,3,3,0,0,3,501,0,0,0,0,501,0,0,0,501,501,0,502,1,1,3,501,0,0,0,0,501,0,0,0,501,501,0,502,3,3,3,1], (l3 w.params a d L m.F (frT w.params (faN3 a tv f k1 d1 cm w0 i0)) k v kf vf), [HD.lGet tv f.i (.ref e.wa), HD.sLen e.s, HD.cmp "int.__ge__" f.ci e.s.length false, HD.cmp "int.__lt__" e.sub 0 true], (fun xo => .ok (.ret (.int 0 (match xo with | .ok (.ret v) => tokOf v | _ => 0)))), (fun _ => framePre w.params a d L m.F (frT w.params (faN3 a tv ⟨e.sub, f.j, f.c, f.ci, f.cj, f.fki⟩ k1 d1 cm e.wa i0)))⟩
noncomputable def faJ_next (w : World) (G : Gs) (a d L : Nat) (k v kf vf : Nat → Tok) (m : Sm) (tv : Nat) (f : FaF) (k1 d1 cm i0 : Int) (w0 : Nat) (e : Am) (its : Array Value) : ScT Flow := ⟨(G.at (amSt w.params e ++ tvSt tv its)), execs (stms faS [8] 0 4) (faEnv L), [3,3,503,503,503,1,3,3,3,0,0,3,501,0,0,0,0,501,0,0,0,501,501,0,502,1,1,3,501,0,0,0,0,501,0,0,0,501,501,0,502,3,3,3,1], (l3 w.params a d L m.F (frT w.params (faN3 a tv f k1 d1 cm w0 i0)) k v kf vf), [HD.lGet tv f.i (.ref e.wa), HD.sLen e.s, HD.cmp "int.__ge__" f.ci e.s.length false, HD.cmp "int.__lt__" e.sub 0 false], (fun _ => .ok .next), (fun _ => framePre w.params a d L m.F (frT w.params (faN3 a tv ⟨e.sub, f.j, f.c, f.ci, f.cj, f.fki⟩ k1 d1 cm e.wa i0)))⟩
theorem faA_ok (w : World) (G : Gs) (a d L : Nat) (k v kf vf : Nat → Tok) (m : Sm) (tv : Nat) (n : Nat) : (faA w G a d L k v kf vf m tv n).Ok w := okE (S := fun w => faA w G a d L k v kf vf m tv n) (fun _ => rfl) (by kernel_rfl) (by kernel_rfl) w
theorem faU1_ok (w : World) (G : Gs) (a d L : Nat) (k v kf vf : Nat → Tok) (m : Sm) (tv : Nat) (f : FaF) (wa : Nat) (its : Array Value) : (faU1 w G a d L k v kf vf m tv f wa its).Ok w := okE (S := fun w => faU1 w G a d L k v kf vf m tv f wa its) (fun _ => rfl) (by kernel_rfl) (by kernel_rfl) w
theorem faU1s_ok (w : World) (G : Gs) (a d L : Nat) (k v kf vf : Nat → Tok) (m : Sm) (tv : Nat) (f : FaF) (wa : Nat) (its : Array Value) (k0 d0 c0 i0 : Int) (w0 : Nat) : (faU1s w G a d L k v kf vf m tv f wa its k0 d0 c0 i0 w0).Ok w := okE (S := fun w => faU1s w G a d L k v kf vf m tv f wa its k0 d0 c0 i0 w0) (fun _ => rfl) (by kernel_rfl) (by kernel_rfl) w
theorem faH2_ok (w : World) (G : Gs) (a d L : Nat) (k v kf vf : Nat → Tok) (m : Sm) (tv : Nat) (f : FaF) (k1 d1 cm i0 : Int) (e : Am) (dr cr ir nn : Int) : (faH2 w G a d L k v kf vf m tv f k1 d1 cm i0 e dr cr ir nn).Ok w := okE (S := fun w => faH2 w G a d L k v kf vf m tv f k1 d1 cm i0 e dr cr ir nn) (fun _ => rfl) (by kernel_rfl) (by kernel_rfl) w
theorem faH3_ok (w : World) (G : Gs) (a d L : Nat) (k v kf vf : Nat → Tok) (m : Sm) (tv : Nat) (f : FaF) (k1 d1 cm i0 : Int) (e : Am) (dr cr ir nn : Int) : (faH3 w G a d L k v kf vf m tv f k1 d1 cm i0 e dr cr ir nn).Ok w := okE (S := fun w => faH3 w G a d L k v kf vf m tv f k1 d1 cm i0 e dr cr ir nn) (fun _ => rfl) (by kernel_rfl) (by kernel_rfl) w
theorem faT2_lb_ok (w : World) (G : Gs) (a d L : Nat) (k v kf vf : Nat → Tok) (m : Sm) (tv : Nat) (f : FaF) (k1 d1 cm i0 : Int) (e : Am) (rA iA : Nat) (rO : Obj) (x left : Int) : (faT2_lb w G a d L k v kf vf m tv f k1 d1 cm i0 e rA iA rO x left).Ok w := okD (S := fun w => faT2_lb w G a d L k v kf vf m tv f k1 d1 cm i0 e rA iA rO x left) (l := fun w => (forC (faEnv L) (.ref iA) (atP faS [7, 4]))) (fun _ => rfl) (by kernel_rfl) (by kernel_rfl) w
theorem faT2_ne_ok (w : World) (G : Gs) (a d L : Nat) (k v kf vf : Nat → Tok) (m : Sm) (tv : Nat) (f : FaF) (k1 d1 cm i0 : Int) (e : Am) (rA iA : Nat) (rO : Obj) (x left : Int) (c1 c2 : Nat) : (faT2_ne w G a d L k v kf vf m tv f k1 d1 cm i0 e rA iA rO x left c1 c2).Ok w := okD (S := fun w => faT2_ne w G a d L k v kf vf m tv f k1 d1 cm i0 e rA iA rO x left c1 c2) (l := fun w => (forC (faEnv L) (.ref iA) (atP faS [7, 4]))) (fun _ => rfl) (by kernel_rfl) (by kernel_rfl) w
theorem faT2_eq_ok (w : World) (G : Gs) (a d L : Nat) (k v kf vf : Nat → Tok) (m : Sm) (tv : Nat) (f : FaF) (k1 d1 cm i0 : Int) (e : Am) (rA iA : Nat) (rO : Obj) (x left : Int) (c1 c2 : Nat) : (faT2_eq w G a d L k v kf vf m tv f k1 d1 cm i0 e rA iA rO x left c1 c2).Ok w := okD (S := fun w => faT2_eq w G a d L k v kf vf m tv f k1 d1 cm i0 e rA iA rO x left c1 c2) (l := fun w => (forC (faEnv L) (.ref iA) (atP faS [7, 4]))) (fun _ => rfl) (by kernel_rfl) (by kernel_rfl) w
theorem faT3_lb_ok (w : World) (G : Gs) (a d L : Nat) (k v kf vf : Nat → Tok) (m : Sm) (tv : Nat) (f : FaF) (k1 d1 cm i0 : Int) (e : Am) (rA iA : Nat) (rO : Obj) (x left : Int) : (faT3_lb w G a d L k v kf vf m tv f k1 d1 cm i0 e rA iA rO x left).Ok w := okD (S := fun w => faT3_lb w G a d L k v kf vf m tv f k1 d1 cm i0 e rA iA rO x left) (l := fun w => (forC (faEnv L) (.ref iA) (atP faS [7, 4]))) (fun _ => rfl) (by kernel_rfl) (by kernel_rfl) w
theorem faT3_ne_ok (w : World) (G : Gs) (a d L : Nat) (k v kf vf : Nat → Tok) (m : Sm) (tv : Nat) (f : FaF) (k1 d1 cm i0 : Int) (e : Am) (rA iA : Nat) (rO : Obj) (x left : Int) (c1 c2 : Nat) : (faT3_ne w G a d L k v kf vf m tv f k1 d1 cm i0 e rA iA rO x left c1 c2).Ok w := okD (S := fun w => faT3_ne w G a d L k v kf vf m tv f k1 d1 cm i0 e rA iA rO x left c1 c2) (l := fun w => (forC (faEnv L) (.ref iA) (atP faS [7, 4]))) (fun _ => rfl) (by kernel_rfl) (by kernel_rfl) w
theorem faT3_eq_ok (w : World) (G : Gs) (a d L : Nat) (k v kf vf : Nat → Tok) (m : Sm) (tv : Nat) (f : FaF) (k1 d1 cm i0 : Int) (e : Am) (rA iA : Nat) (rO : Obj) (x left : Int) (c1 c2 : Nat) : (faT3_eq w G a d L k v kf vf m tv f k1 d1 cm i0 e rA iA rO x left c1 c2).Ok w := okD (S := fun w => faT3_eq w G a d L k v kf vf m tv f k1 d1 cm i0 e rA iA rO x left c1 c2) (l := fun w => (forC (faEnv L) (.ref iA) (atP faS [7, 4]))) (fun _ => rfl) (by kernel_rfl) (by kernel_rfl) w
theorem faT3_end_ok (w : World) (G : Gs) (a d L : Nat) (k v kf vf : Nat → Tok) (m : Sm) (tv : Nat) (f : FaF) (k1 d1 cm i0 : Int) (e : Am) (rA iA : Nat) (rO : Obj) (x left : Int) : (faT3_end w G a d L k v kf vf m tv f k1 d1 cm i0 e rA iA rO x left).Ok w := okD (S := fun w => faT3_end w G a d L k v kf vf m tv f k1 d1 cm i0 e rA iA rO x left) (l := fun w => (forC (faEnv L) (.ref iA) (atP faS [7, 4]))) (fun _ => rfl) (by kernel_rfl) (by kernel_rfl) w
theorem faI_neg_ok (w : World) (G : Gs) (a d L : Nat) (k v kf vf : Nat → Tok) (m : Sm) (tv : Nat) (f : FaF) (k1 d1 cm i0 : Int) (w0 : Nat) : (faI_neg w G a d L k v kf vf m tv f k1 d1 cm i0 w0).Ok w := okE (S := fun w => faI_neg w G a d L k v kf vf m tv f k1 d1 cm i0 w0) (fun _ => rfl) (by kernel_rfl) (by kernel_rfl) w
theorem faI_pos_ok (w : World) (G : Gs) (a d L : Nat) (k v kf vf : Nat → Tok) (m : Sm) (tv : Nat) (f : FaF) (k1 d1 cm i0 : Int) (w0 : Nat) : (faI_pos w G a d L k v kf vf m tv f k1 d1 cm i0 w0).Ok w := okE (S := fun w => faI_pos w G a d L k v kf vf m tv f k1 d1 cm i0 w0) (fun _ => rfl) (by kernel_rfl) (by kernel_rfl) w
theorem faE_go_ok (w : World) (G : Gs) (a d L : Nat) (k v kf vf : Nat → Tok) (m : Sm) (tv : Nat) (f : FaF) (k1 d1 cm i0 : Int) (w0 : Nat) : (faE_go w G a d L k v kf vf m tv f k1 d1 cm i0 w0).Ok w := okE (S := fun w => faE_go w G a d L k v kf vf m tv f k1 d1 cm i0 w0) (fun _ => rfl) (by kernel_rfl) (by kernel_rfl) w
theorem faE_i_ok (w : World) (G : Gs) (a d L : Nat) (k v kf vf : Nat → Tok) (m : Sm) (tv : Nat) (f : FaF) (k1 d1 cm i0 : Int) (w0 : Nat) : (faE_i w G a d L k v kf vf m tv f k1 d1 cm i0 w0).Ok w := okE (S := fun w => faE_i w G a d L k v kf vf m tv f k1 d1 cm i0 w0) (fun _ => rfl) (by kernel_rfl) (by kernel_rfl) w
theorem faE_j_ok (w : World) (G : Gs) (a d L : Nat) (k v kf vf : Nat → Tok) (m : Sm) (tv : Nat) (f : FaF) (k1 d1 cm i0 : Int) (w0 : Nat) : (faE_j w G a d L k v kf vf m tv f k1 d1 cm i0 w0).Ok w := okE (S := fun w => faE_j w G a d L k v kf vf m tv f k1 d1 cm i0 w0) (fun _ => rfl) (by kernel_rfl) (by kernel_rfl) w
theorem faE_f_ok (w : World) (G : Gs) (a d L : Nat) (k v kf vf : Nat → Tok) (m : Sm) (tv : Nat) (f : FaF) (k1 d1 cm i0 : Int) (w0 : Nat) : (faE_f w G a d L k v kf vf m tv f k1 d1 cm i0 w0).Ok w := okE (S := fun w => faE_f w G a d L k v kf vf m tv f k1 d1 cm i0 w0) (fun _ => rfl) (by kernel_rfl) (by kernel_rfl) w
theorem faE_n_ok (w : World) (G : Gs) (a d L : Nat) (k v kf vf : Nat → Tok) (m : Sm) (tv : Nat) (f : FaF) (k1 d1 cm i0 : Int) (w0 : Nat) : (faE_n w G a d L k v kf vf m tv f k1 d1 cm i0 w0).Ok w := okE (S := fun w => faE_n w G a d L k v kf vf m tv f k1 d1 cm i0 w0) (fun _ => rfl) (by kernel_rfl) (by kernel_rfl) w
theorem faJ_hit_ok (w : World) (G : Gs) (a d L : Nat) (k v kf vf : Nat → Tok) (m : Sm) (tv : Nat) (f : FaF) (k1 d1 cm i0 : Int) (w0 : Nat) (e : Am) (its : Array Value) : (faJ_hit w G a d L k v kf vf m tv f k1 d1 cm i0 w0 e its).Ok w := okE (S := fun w => faJ_hit w G a d L k v kf vf m tv f k1 d1 cm i0 w0 e its) (fun _ => rfl) (by kernel_rfl) (by kernel_rfl) w
theorem faJ_zero_ok (w : World) (G : Gs) (a d L : Nat) (k v kf vf : Nat → Tok) (m : Sm) (tv : Nat) (f : FaF) (k1 d1 cm i0 : Int) (w0 : Nat) (e : Am) (its : Array Value) : (faJ_zero w G a d L k v kf vf m tv f k1 d1 cm i0 w0 e its).Ok w := okE (S := fun w => faJ_zero w G a d L k v kf vf m tv f k1 d1 cm i0 w0 e its) (fun _ => rfl) (by kernel_rfl) (by kernel_rfl) w
theorem faJ_next_ok (w : World) (G : Gs) (a d L : Nat) (k v kf vf : Nat → Tok) (m : Sm) (tv : Nat) (f : FaF) (k1 d1 cm i0 : Int) (w0 : Nat) (e : Am) (its : Array Value) : (faJ_next w G a d L k v kf vf m tv f k1 d1 cm i0 w0 e its).Ok w := okE (S := fun w => faJ_next w G a d L k v kf vf m tv f k1 d1 cm i0 w0 e its) (fun _ => rfl) (by kernel_rfl) (by kernel_rfl) w
end Mine
end
end
section
open PySem PySem.W PyProof.Rows
set_option maxRecDepth 100000
section
namespace Mine
theorem TKb_at (P : Params) (G : Gs) (r : St) : TKb P (G.at r) = TKb P G := by kernel_rfl
section
variable {w : World} {G : Gs} {s₀ s : Shared} {X : XS} {st : St}
theorem Rel.at (R : Rl w G s₀ X st s) {r : St} (h : ∀ p ∈ r, (TKb w.params G).get p.1 = some p.2 ∧ alive p.2 = some p.2) : Rl w (G.at r) s₀ X st s :=
  ⟨fun a o e l => R.K a o (by rw [← e]; show (TKb w.params G).get a = (TKb w.params (G.at r)).get a; rw [TKb_at]) l, fun a o e => R.low a o (by rw [← e]; show (TKb w.params G).get a = (TKb w.params (G.at r)).get a; rw [TKb_at]),
    R.S, R.hi, R.nd, R.mod, R.keep, R.size, R.n0, R.gens, R.drawn, R.os, fun p hp => ⟨R.low p.1 p.2 (h p hp).1, R.K p.1 p.2 (h p hp).1 (h p hp).2⟩, R.keepF, R.sf, R.fl, R.liv, R.fr⟩
theorem Rel.un {r : St} (R : Rl w (G.at r) s₀ X st s) (hG : G.ro = []) : Rl w G s₀ X st s :=
  ⟨fun a o e l => R.K a o (by rw [← e]; show (TKb w.params (G.at r)).get a = (TKb w.params G).get a; rw [TKb_at]) l, fun a o e => R.low a o (by rw [← e]; show (TKb w.params (G.at r)).get a = (TKb w.params G).get a; rw [TKb_at]),
    R.S, R.hi, R.nd, R.mod, R.keep, R.size, R.n0, R.gens, R.drawn, R.os, fun p hp => absurd ((show (TK w.params G).ro = [] from hG) ▸ hp) List.not_mem_nil, R.keepF, R.sf, R.fl, R.liv, R.fr⟩
end
noncomputable def Am.r (e : Am) : List Nat := e.s.cps.toList.reverse
theorem Am.r_len (e : Am) : e.r.length = e.s.length := by unfold Am.r; rw [List.length_reverse]; rfl
structure TbOk (w : World) (G : Gs) (tv : Nat) (es : List Am) : Prop where
  list : (TKb w.params G).get tv = some ⟨.type "list", none, .seq (es.map fun e => Value.ref e.wa).toArray 0, #[]⟩
  ent : ∀ e ∈ es, (TKb w.params G).get e.wa = some (inO 218 e.wd) ∧ (TKb w.params G).get e.wd = some (e.dO w.params)
  small : ∀ e ∈ es, 0 < e.s.length ∧ e.s.length ≤ 100
  len : es.length ≤ 100
theorem TbOk.ro1 {w : World} {G : Gs} {tv : Nat} {es : List Am} (h : TbOk w G tv es) {e : Am} (he : e ∈ es) : ∀ p ∈ amSt w.params e, (TKb w.params G).get p.1 = some p.2 ∧ alive p.2 = some p.2 := fun p hp => by
  obtain ⟨h1, h2⟩ := h.ent e he
  rcases List.mem_cons.mp hp with rfl | hp
  · exact ⟨h1, rfl⟩
  · obtain rfl := List.mem_singleton.mp hp
    exact ⟨h2, rfl⟩
theorem TbOk.ro2 {w : World} {G : Gs} {tv : Nat} {es : List Am} (h : TbOk w G tv es) : ∀ p ∈ tvSt tv (es.map fun e => Value.ref e.wa).toArray, (TKb w.params G).get p.1 = some p.2 ∧ alive p.2 = some p.2 := fun p hp => by
  obtain rfl := List.mem_singleton.mp hp
  exact ⟨h.list, rfl⟩
theorem TbOk.at {w : World} {G : Gs} {tv : Nat} {es : List Am} (h : TbOk w G tv es) (r : St) : TbOk w (G.at r) tv es := ⟨by rw [TKb_at]; exact h.list, fun e he => by rw [TKb_at]; exact h.ent e he, h.small, h.len⟩
noncomputable def cmpL : List Nat → List Nat → Int × Nat
  | _, [] => (0, 0)
  | [], _ :: _ => (-1, 0)
  | a :: A, b :: B => if a = b then ((cmpL A B).1, (cmpL A B).2 + 1) else ((a : Int) - b, 0)
noncomputable def cmpI (len : Nat) : Nat → List Nat → List Nat → Int → Int
  | _, _, [], i0 => i0
  | cm, [], _ :: _, _ => (len : Int) - 1 - cm
  | cm, a :: A, b :: B, _ => if a = b then cmpI len (cm + 1) A B ((len : Int) - 1 - cm) else (len : Int) - 1 - cm
theorem drop_cons {α : Type} {L : List α} {n : Nat} {a : α} {A : List α} (h : L.drop n = a :: A) : n < L.length ∧ L[n]? = some a ∧ L.drop (n + 1) = A := by
  have h1 : n < L.length := by
    have := congrArg List.length h
    rw [List.length_drop, List.length_cons] at this
    lia
  refine ⟨h1, ?_, ?_⟩
  · have := congrArg (fun x : List α => x[0]?) h
    simpa using this
  · rw [← List.drop_drop, h]; rfl
theorem rev_get {l : List Nat} {c n a : Nat} {A : List Nat} (hc : c ≤ l.length) (h : (l.take c).reverse.drop n = a :: A) : n < c ∧ l[c - 1 - n]? = some a := by
  obtain ⟨h1, h2, _⟩ := drop_cons h
  rw [List.length_reverse, List.length_take, Nat.min_eq_left hc] at h1
  refine ⟨h1, ?_⟩
  rw [List.getElem?_reverse (by rw [List.length_take, Nat.min_eq_left hc]; exact h1), List.length_take, Nat.min_eq_left hc] at h2
  rw [List.getElem?_take_of_lt (by lia)] at h2
  exact h2
theorem block_nil {w : World} {A : Around} {env : Env} {Post : Result → Shared → Prop} {s : Shared} (h : Post (.ok .next) s) : codeAny (model P0 w) A (.block [] env) Post s := by
  refine codeAny_of_tree ?_
  have hden : (model P0 w).den (.block [] env) = ((execs [] env).onRaise (fun x => do noteFrame x env; theTreesLotGoes x) >>= fun f => pure (Fin.done f)) := rfl
  rw [hden]
  refine wpAny_bind (wpAny_onRaise ?_)
  exact wpAny_pure (wpAny_pure h)
section
variable {w : World} {G : Gs} {s₀ : Shared} {X : XS} {a d L tv : Nat} {m : Sm} {f : FaF} {k1 : Int} {e : Am} {rA iA : Nat} {rO : Obj} {c : Nat} {A : Around} {D : Nat}
noncomputable def forSt (P : Params) (a d L : Nat) (m : Sm) (fr : Tm) (rA iA : Nat) (rO : Obj) (x left : Int) (k v kf vf : Nat → Tok) : St := [(a, inO 878 d), (d, dictT P m.F k v), (L, fr kf vf), (rA, rO), (iA, rIterO x left (-1))]
noncomputable abbrev forSt3 (w : World) (a d L tv : Nat) (m : Sm) (f : FaF) (k1 d1 cm : Int) (e : Am) (i0 : Int) (rA iA : Nat) (rO : Obj) (k v kf vf : Nat → Tok) : St :=
  forSt w.params a d L m (frT w.params (faN3 a tv f k1 d1 cm e.wa i0)) rA iA rO ((e.s.length : Int) - 1 - cm) ((e.s.length : Int) - cm) k v kf vf
theorem faFor3 (hA : A.handled = none) (hD : A.depth ≤ D) (hF : ∀ l, X.l = some l → A.frames = some l) (hc : f.c = c) (hcl : c ≤ m.cur.length) (hml : m.cur.length ≤ 10000) (hel : e.s.length ≤ 100) :
    ∀ (B : List Nat) (cm : Nat) (i0 : Int), e.r.drop cm = B → cm ≤ e.s.length → cm ≤ c → ∀ s k v kf vf, Rl w (G.at (amSt w.params e)) s₀ X (forSt3 w a d L tv m f k1 0 cm e i0 rA iA rO k v kf vf) s →
    codeAny (model P0 w) A (forC (faEnv L) (.ref iA) (atP faS [7, 4])) (fun r s' => ∃ k' v' kf' vf' ex, r = .ok .next ∧
      Rl w (G.at (amSt w.params e)) s₀ X (l3 w.params a d L m.F (frT w.params (faN3 a tv f k1 (cmpL ((m.cur.cps.toList.take c).reverse.drop cm) B).1 ((cm + (cmpL ((m.cur.cps.toList.take c).reverse.drop cm) B).2 : Nat) : Int) e.wa (cmpI e.s.length cm ((m.cur.cps.toList.take c).reverse.drop cm) B i0))) k' v' kf' vf' ++ ex) s') s
  | [], cm, i0, hB, hcm, hcmc, s, k, v, kf, vf, R => by
    have hcm' : cm = e.s.length := by
      have := congrArg List.length hB
      rw [List.length_drop, e.r_len, List.length_nil] at this
      lia
    have hz : ((e.s.length : Int) - cm) = 0 := by lia
    unfold forSt3 at R
    rw [hz] at R
    refine (faT3_end_ok w G a d L k v kf vf m tv f k1 0 cm i0 e rA iA rO ((e.s.length : Int) - 1 - cm) 0).turn (D := D) rfl rfl rfl .n hA hD hF R fun _ st' s' R' => ⟨rfl, block_nil ?_⟩
    have e1 : ∀ Z : List Nat, cmpL Z [] = (0, 0) := fun Z => by cases Z <;> rfl
    have e2 : ∀ (Z : List Nat) n, cmpI n cm Z [] i0 = i0 := fun Z n => by cases Z <;> rfl
    rw [e1, e2]
    exact ⟨kTok st' 1, vTok st' 1, kTok st' 2, vTok st' 2, [(rA, rO), (iA, rIterO ((e.s.length : Int) - 1 - cm) 0 (-1)), pairAt st' 5, pairAt st' 6], rfl, R'⟩
  | b :: B, cm, i0, hB, hcm, hcmc, s, k, v, kf, vf, R => by
    obtain ⟨hlt, hb, hB'⟩ := drop_cons hB
    rw [e.r_len] at hlt
    have hbs : e.s.cps[((e.s.length : Int) - 1 - cm).toNat]? = some b := by
      have := rev_get (l := e.s.cps.toList) (c := e.s.length) (Nat.le_refl _) (n := cm) (a := b) (A := B) (by rw [show e.s.length = e.s.cps.toList.length from rfl, List.take_of_length_le (Nat.le_refl _)]; exact hB)
      have e3 : ((e.s.length : Int) - 1 - cm).toNat = e.s.length - 1 - cm := by lia
      rw [e3, ← Array.getElem?_toList]; exact this.2
    have ex1 : (((e.s.length : Int) - 1 - cm) + (-1)) = (e.s.length : Int) - 1 - ((cm + 1 : Nat) : Int) := by lia
    have ex2 : ((e.s.length : Int) - cm - 1) = (e.s.length : Int) - ((cm + 1 : Nat) : Int) := by lia
    have hcm2 : ((cm : Int) + 1) = ((cm + 1 : Nat) : Int) := by lia
    cases hR : (m.cur.cps.toList.take c).reverse.drop cm with
    | nil =>
      have hcc : c ≤ cm := by
        have := congrArg List.length hR
        have e4 : m.cur.cps.toList.length = m.cur.length := rfl
        rw [List.length_drop, List.length_reverse, List.length_take, List.length_nil] at this
        lia
      refine (faT3_lb_ok w G a d L k v kf vf m tv f k1 0 cm i0 e rA iA rO ((e.s.length : Int) - 1 - cm) ((e.s.length : Int) - cm)).turn (D := D) rfl rfl rfl (.c (HDOk.rNext (by lia)) <| .c (HDOk.eq_true ?_) .n) hA hD hF R fun _ st' s' R' => ?_
      · have := hcmc
        lia
      · exact ⟨kTok st' 1, vTok st' 1, kTok st' 2, vTok st' 2, [(rA, rO), (iA, rIterO (((e.s.length : Int) - 1 - cm) + (-1)) ((e.s.length : Int) - cm - 1) (-1))], rfl, R'⟩
    | cons a1 A1 =>
      obtain ⟨hlt2, ha⟩ := rev_get hcl hR
      have has : m.cur.cps[(f.c - 1 - cm).toNat]? = some a1 := by
        have e3 : (f.c - 1 - (cm : Int)).toNat = c - 1 - cm := by lia
        rw [e3, ← Array.getElem?_toList]; exact ha
      by_cases hab : a1 = b
      · subst hab
        refine (faT3_eq_ok w G a d L k v kf vf m tv f k1 0 cm i0 e rA iA rO ((e.s.length : Int) - 1 - cm) ((e.s.length : Int) - cm) a1 a1).turn (D := D) rfl rfl rfl (.c (HDOk.rNext (by lia)) <| .c (HDOk.eq_false (by lia)) <| .c (HDOk.sGet (by lia) has hml) <| .c HDOk.ordC <| .c (HDOk.sGet (by lia) hbs (by lia)) <| .c HDOk.ordC <| .c (HDOk.ne_false (by lia)) .n) hA hD hF R fun _ st' s' R' => ⟨rfl, ?_⟩
        have R2 : Rl w (G.at (amSt w.params e)) s₀ X (forSt w.params a d L m (frT w.params (faN3 a tv f k1 ((a1 : Int) - a1) ((cm : Int) + 1) e.wa ((e.s.length : Int) - 1 - cm))) rA iA rO (((e.s.length : Int) - 1 - cm) + (-1)) ((e.s.length : Int) - cm - 1) (kTok st' 1) (vTok st' 1) (kTok st' 2) (vTok st' 2)) s' := R'
        rw [ex1, ex2, hcm2, Int.sub_self] at R2
        have ih := faFor3 hA hD hF hc hcl hml hel B (cm + 1) _ hB' hlt hlt2 _ _ _ _ _ R2
        have hR2 : (m.cur.cps.toList.take c).reverse.drop (cm + 1) = A1 := (drop_cons hR).2.2
        rw [hR2] at ih
        have e5 : cmpL (a1 :: A1) (a1 :: B) = ((cmpL A1 B).1, (cmpL A1 B).2 + 1) := if_pos rfl
        have e6 : cmpI e.s.length cm (a1 :: A1) (a1 :: B) i0 = cmpI e.s.length (cm + 1) A1 B ((e.s.length : Int) - 1 - cm) := if_pos rfl
        rw [e5, e6]
        refine codeAny_mono ih fun r s'' q => ?_
        obtain ⟨k', v', kf', vf', ex, er, R3⟩ := q
        refine ⟨k', v', kf', vf', ex, er, ?_⟩
        rw [show cm + ((cmpL A1 B).2 + 1) = cm + 1 + (cmpL A1 B).2 by lia]
        exact R3
      · have e5 : cmpL (a1 :: A1) (b :: B) = ((a1 : Int) - b, 0) := if_neg hab
        have e6 : cmpI e.s.length cm (a1 :: A1) (b :: B) i0 = (e.s.length : Int) - 1 - cm := if_neg hab
        rw [e5, e6]
        refine (faT3_ne_ok w G a d L k v kf vf m tv f k1 0 cm i0 e rA iA rO ((e.s.length : Int) - 1 - cm) ((e.s.length : Int) - cm) a1 b).turn (D := D) rfl rfl rfl (.c (HDOk.rNext (by lia)) <| .c (HDOk.eq_false (by lia)) <| .c (HDOk.sGet (by lia) has hml) <| .c HDOk.ordC <| .c (HDOk.sGet (by lia) hbs (by lia)) <| .c HDOk.ordC <| .c (HDOk.ne_true (by lia)) .n) hA hD hF R fun _ st' s' R' => ?_
        exact ⟨kTok st' 1, vTok st' 1, kTok st' 2, vTok st' 2, [(rA, rO), (iA, rIterO (((e.s.length : Int) - 1 - cm) + (-1)) ((e.s.length : Int) - cm - 1) (-1))], rfl, R'⟩
theorem faFor2 (hA : A.handled = none) (hD : A.depth ≤ D) (hF : ∀ l, X.l = some l → A.frames = some l) (hc : f.c = c) (hcl : c ≤ m.cur.length) (hml : m.cur.length ≤ 10000) (hel : e.s.length ≤ 100) (hne : 0 < e.s.length) :
    ∀ s k v kf vf, Rl w (G.at (amSt w.params e)) s₀ X (forSt w.params a d L m (frT w.params (faN2 a tv f k1 0 0 e.wa)) rA iA rO ((e.s.length : Int) - 1 - (0 : Nat)) ((e.s.length : Int) - (0 : Nat)) k v kf vf) s →
    codeAny (model P0 w) A (forC (faEnv L) (.ref iA) (atP faS [7, 4])) (fun r s' => ∃ k' v' kf' vf' ex, r = .ok .next ∧
      Rl w (G.at (amSt w.params e)) s₀ X (l3 w.params a d L m.F (frT w.params (faN3 a tv f k1 (cmpL (m.cur.cps.toList.take c).reverse e.r).1 (((cmpL (m.cur.cps.toList.take c).reverse e.r).2 : Nat) : Int) e.wa (cmpI e.s.length 0 (m.cur.cps.toList.take c).reverse e.r 0))) k' v' kf' vf' ++ ex) s') s := by
  intro s k v kf vf R
  cases hB : e.r with
  | nil => have := e.r_len; rw [hB] at this; simp at this; lia
  | cons b B =>
    have hB0 : e.r.drop 0 = b :: B := hB
    obtain ⟨hlt, hb, hB'⟩ := drop_cons hB0
    rw [e.r_len] at hlt
    have hbs : e.s.cps[((e.s.length : Int) - 1 - (0 : Nat)).toNat]? = some b := by
      have := rev_get (l := e.s.cps.toList) (c := e.s.length) (Nat.le_refl _) (n := 0) (a := b) (A := B) (by rw [show e.s.length = e.s.cps.toList.length from rfl, List.take_of_length_le (Nat.le_refl _)]; exact hB)
      have e3 : ((e.s.length : Int) - 1 - (0 : Nat)).toNat = e.s.length - 1 - 0 := by lia
      rw [e3, ← Array.getElem?_toList]; exact this.2
    have ex1 : (((e.s.length : Int) - 1 - (0 : Nat)) + (-1)) = (e.s.length : Int) - 1 - ((0 + 1 : Nat) : Int) := by lia
    have ex2 : ((e.s.length : Int) - (0 : Nat) - 1) = (e.s.length : Int) - ((0 + 1 : Nat) : Int) := by lia
    have hR0 : (m.cur.cps.toList.take c).reverse.drop 0 = (m.cur.cps.toList.take c).reverse := rfl
    cases hR : (m.cur.cps.toList.take c).reverse with
    | nil =>
      have hcc : c = 0 := by
        have := congrArg List.length hR
        have e4 : m.cur.cps.toList.length = m.cur.length := rfl
        rw [List.length_reverse, List.length_take, List.length_nil] at this
        lia
      refine (faT2_lb_ok w G a d L k v kf vf m tv f k1 0 ((0 : Nat) : Int) 0 e rA iA rO ((e.s.length : Int) - 1 - (0 : Nat)) ((e.s.length : Int) - (0 : Nat))).turn (D := D) rfl rfl rfl (.c (HDOk.rNext (by lia)) <| .c (HDOk.eq_true (by lia)) .n) hA hD hF R fun _ st' s' R' => ?_
      exact ⟨kTok st' 1, vTok st' 1, kTok st' 2, vTok st' 2, [(rA, rO), (iA, rIterO (((e.s.length : Int) - 1 - (0 : Nat)) + (-1)) ((e.s.length : Int) - (0 : Nat) - 1) (-1))], rfl, R'⟩
    | cons a1 A1 =>
      obtain ⟨hlt2, ha⟩ := rev_get (n := 0) hcl hR
      have has : m.cur.cps[(f.c - 1 - ((0 : Nat) : Int)).toNat]? = some a1 := by
        have e3 : (f.c - 1 - ((0 : Nat) : Int)).toNat = c - 1 - 0 := by lia
        rw [e3, ← Array.getElem?_toList]; exact ha
      by_cases hab : a1 = b
      · subst hab
        refine (faT2_eq_ok w G a d L k v kf vf m tv f k1 0 ((0 : Nat) : Int) 0 e rA iA rO ((e.s.length : Int) - 1 - (0 : Nat)) ((e.s.length : Int) - (0 : Nat)) a1 a1).turn (D := D) rfl rfl rfl (.c (HDOk.rNext (by lia)) <| .c (HDOk.eq_false (by lia)) <| .c (HDOk.sGet (by lia) has hml) <| .c HDOk.ordC <| .c (HDOk.sGet (by lia) hbs (by lia)) <| .c HDOk.ordC <| .c (HDOk.ne_false (by lia)) .n) hA hD hF R fun _ st' s' R' => ⟨rfl, ?_⟩
        have R2 : Rl w (G.at (amSt w.params e)) s₀ X (forSt w.params a d L m (frT w.params (faN3 a tv f k1 ((a1 : Int) - a1) (((0 : Nat) : Int) + 1) e.wa ((e.s.length : Int) - 1 - (0 : Nat)))) rA iA rO (((e.s.length : Int) - 1 - (0 : Nat)) + (-1)) ((e.s.length : Int) - (0 : Nat) - 1) (kTok st' 1) (vTok st' 1) (kTok st' 2) (vTok st' 2)) s' := R'
        rw [ex1, ex2, show (((0 : Nat) : Int) + 1) = ((0 + 1 : Nat) : Int) from rfl, Int.sub_self] at R2
        have ih := faFor3 hA hD hF hc hcl hml hel B (0 + 1) _ hB' hlt hlt2 _ _ _ _ _ R2
        have hR2 : (m.cur.cps.toList.take c).reverse.drop (0 + 1) = A1 := by rw [hR]; rfl
        rw [hR2] at ih
        have e5 : cmpL (a1 :: A1) (a1 :: B) = ((cmpL A1 B).1, (cmpL A1 B).2 + 1) := if_pos rfl
        have e6 : cmpI e.s.length 0 (a1 :: A1) (a1 :: B) 0 = cmpI e.s.length (0 + 1) A1 B ((e.s.length : Int) - 1 - (0 : Nat)) := if_pos rfl
        rw [e5, e6]
        refine codeAny_mono ih fun r s'' q => ?_
        obtain ⟨k', v', kf', vf', ex, er, R3⟩ := q
        refine ⟨k', v', kf', vf', ex, er, ?_⟩
        rw [show ((cmpL A1 B).2 + 1) = 0 + 1 + (cmpL A1 B).2 by lia]
        exact R3
      · have e5 : cmpL (a1 :: A1) (b :: B) = ((a1 : Int) - b, 0) := if_neg hab
        have e6 : cmpI e.s.length 0 (a1 :: A1) (b :: B) 0 = (e.s.length : Int) - 1 - (0 : Nat) := if_neg hab
        rw [e5, e6]
        refine (faT2_ne_ok w G a d L k v kf vf m tv f k1 0 ((0 : Nat) : Int) 0 e rA iA rO ((e.s.length : Int) - 1 - (0 : Nat)) ((e.s.length : Int) - (0 : Nat)) a1 b).turn (D := D) rfl rfl rfl (.c (HDOk.rNext (by lia)) <| .c (HDOk.eq_false (by lia)) <| .c (HDOk.sGet (by lia) has hml) <| .c HDOk.ordC <| .c (HDOk.sGet (by lia) hbs (by lia)) <| .c HDOk.ordC <| .c (HDOk.ne_true (by lia)) .n) hA hD hF R fun _ st' s' R' => ?_
        exact ⟨kTok st' 1, vTok st' 1, kTok st' 2, vTok st' 2, [(rA, rO), (iA, rIterO (((e.s.length : Int) - 1 - (0 : Nat)) + (-1)) ((e.s.length : Int) - (0 : Nat) - 1) (-1))], rfl, R'⟩
end
end Mine
end
end
section
open PySem PySem.W PyProof.Rows
set_option maxRecDepth 100000
section
namespace Mine
structure BS where
  i : Nat
  j : Nat
  ci : Nat
  cj : Nat
  fki : Bool
noncomputable def toE (e : Am) : List Nat × Int × Int := (e.r, e.sub, e.res)
noncomputable def stepB (T : TabP) (R : List Nat) (b : BS) : BS :=
  if (cmpL (R.drop (min b.ci b.cj)) ((T.getD (b.i + (b.j - b.i) / 2) ([], 0, 0)).1.drop (min b.ci b.cj))).1 < 0 then
    ⟨b.i, b.i + (b.j - b.i) / 2, b.ci, min b.ci b.cj + (cmpL (R.drop (min b.ci b.cj)) ((T.getD (b.i + (b.j - b.i) / 2) ([], 0, 0)).1.drop (min b.ci b.cj))).2, b.fki⟩
  else ⟨b.i + (b.j - b.i) / 2, b.j, min b.ci b.cj + (cmpL (R.drop (min b.ci b.cj)) ((T.getD (b.i + (b.j - b.i) / 2) ([], 0, 0)).1.drop (min b.ci b.cj))).2, b.cj, b.fki⟩
noncomputable def endB (b : BS) : Bool × BS :=
  if b.j - b.i ≤ 1 then (if 0 < b.i then (true, b) else if b.j = b.i then (true, b) else if b.fki then (true, b) else (false, ⟨b.i, b.j, b.ci, b.cj, true⟩)) else (false, b)
noncomputable def runB (T : TabP) (R : List Nat) : Nat → BS → Option BS
  | 0, _ => none
  | n + 1, b => if (endB (stepB T R b)).1 = true then some (endB (stepB T R b)).2 else runB T R n (endB (stepB T R b)).2
theorem cmpL_le : ∀ (A B : List Nat), (cmpL A B).2 ≤ A.length ∧ (cmpL A B).2 ≤ B.length
  | A, [] => by cases A <;> exact ⟨Nat.zero_le _, Nat.le_refl _⟩
  | [], _ :: _ => ⟨Nat.le_refl _, Nat.zero_le _⟩
  | a :: A, b :: B => by
    obtain ⟨h1, h2⟩ := cmpL_le A B
    by_cases h : a = b
    · have e : cmpL (a :: A) (b :: B) = ((cmpL A B).1, (cmpL A B).2 + 1) := if_pos h
      rw [e]; exact ⟨Nat.succ_le_succ h1, Nat.succ_le_succ h2⟩
    · have e : cmpL (a :: A) (b :: B) = ((a : Int) - b, 0) := if_neg h
      rw [e]; exact ⟨Nat.zero_le _, Nat.zero_le _⟩
theorem range_size (n : Nat) (cm : Int) (hn : n ≤ 100) (h0 : 0 ≤ cm) (hc : cm ≤ 20000) : Builtin.Range.small ((n : Int) - 1 - cm) (-1) (-1) = true ∧ Builtin.Range.rangeSize ((n : Int) - 1 - cm) (-1) (-1) = (if cm ≤ n then (n : Int) - cm else 0) := by
  have hs : Builtin.Range.rangeSize ((n : Int) - 1 - cm) (-1) (-1) = (if cm ≤ n then (n : Int) - cm else 0) := by
    unfold Builtin.Range.rangeSize
    rw [if_neg (by decide)]
    by_cases h : cm ≤ n
    · rw [if_pos h]
      by_cases h2 : (n : Int) - 1 - cm > -1
      · rw [if_pos h2, show (- -1 : Int) = 1 from rfl, Int.ediv_one]; lia
      · rw [if_neg h2]; lia
    · rw [if_neg h, if_neg (by lia)]
  refine ⟨?_, hs⟩
  unfold Builtin.Range.small
  rw [hs]
  unfold Builtin.Range.rangeFitsLong
  simp only [Bool.and_eq_true, decide_eq_true_eq, Bool.or_eq_true, beq_iff_eq]
  refine ⟨⟨⟨⟨⟨?_, ?_⟩, ?_⟩, ?_⟩, ?_⟩, .inr (by decide)⟩ <;> (try split) <;> lia
section
variable {w : World} {G : Gs} {s₀ : Shared} {X : XS} {a d L tv : Nat} {m : Sm} {f : FaF} {k1 : Int} {e : Am} {c : Nat} {A : Around} {D : Nat}
theorem HDOk.faFor {G' : Gs} {m' : Sm} {fr fr' : Tm} {x left : Int}
    (h : ∀ A s k v kf vf rA iA rO, A.handled = none → A.depth ≤ D → (∀ l, X.l = some l → A.frames = some l) → Rl w G' s₀ X (forSt w.params a d L m' fr rA iA rO x left k v kf vf) s →
      codeAny (model P0 w) A (forC (faEnv L) (.ref iA) (atP faS [7, 4])) (fun r s' => ∃ k' v' kf' vf' ex, r = .ok .next ∧ Rl w G' s₀ X (l3 w.params a d L m'.F fr' k' v' kf' vf' ++ ex) s') s) : HDOk w G' D s₀ X (HD.faFor w.params a d L m'.F fr fr' x left) := by
  intro cc st A s hA hD hF R
  refine codeAny_mono (h A s (kTok st 1) (vTok st 1) (kTok st 2) (vTok st 2) (addrAt st 3) (addrAt st 4) (objAt st 3) hA hD hF R) fun r s' q => ?_
  obtain ⟨k', v', kf', vf', ex, e, R'⟩ := q
  exact ⟨⟨fun _ => 0, fun i => if i = 1 then k' else kf', fun i => if i = 1 then v' else vf', fun _ => #[]⟩, e, Rel.cut R'⟩
theorem rIter_ok {ix : Nat} {n : Nat} {cm : Int} (hn : n ≤ 100) (h0 : 0 ≤ cm) (hc : cm ≤ 20000) : HDOk w G D s₀ X (HD.rIter ix ((n : Int) - 1 - cm) (-1) (-1) (if cm ≤ n then (n : Int) - cm else 0)) :=
  HDOk.rIter (range_size n cm hn h0 hc).1 (range_size n cm hn h0 hc).2
theorem faHead3 (hA : A.handled = none) (hD : A.depth ≤ D) (hF : ∀ l, X.l = some l → A.frames = some l) (hc : f.c = c) (hcl : c ≤ m.cur.length) (hml : m.cur.length ≤ 10000) (hel : e.s.length ≤ 100) {cm : Nat} (hcm : cm ≤ c) {i0 : Int} {k v kf vf : Nat → Tok} {s : Shared}
    {Q : Flow → Shared → Prop} {E : Value → Shared → Prop} (R : Rl w (G.at (amSt w.params e)) s₀ X (l3 w.params a d L m.F (frT w.params (faN3 a tv f k1 0 cm e.wa i0)) k v kf vf) s)
    (K : ∀ i1 k v kf vf s', Rl w (G.at (amSt w.params e)) s₀ X (l3 w.params a d L m.F (frT w.params (faN3 a tv f k1 (cmpL ((m.cur.cps.toList.take c).reverse.drop cm) (e.r.drop cm)).1 ((cm + (cmpL ((m.cur.cps.toList.take c).reverse.drop cm) (e.r.drop cm)).2 : Nat) : Int) e.wa i1)) k v kf vf) s' → Q .next s') :
    wpAny (model P0 w) A (execs (stms faS [7] 4 1) (faEnv L)) Q E s := by
  by_cases hle : cm ≤ e.s.length
  · refine (faH3_ok w G a d L k v kf vf m tv f k1 0 cm i0 e (cmpL ((m.cur.cps.toList.take c).reverse.drop cm) (e.r.drop cm)).1 ((cm + (cmpL ((m.cur.cps.toList.take c).reverse.drop cm) (e.r.drop cm)).2 : Nat) : Int) (cmpI e.s.length cm ((m.cur.cps.toList.take c).reverse.drop cm) (e.r.drop cm) i0) (if (cm : Int) ≤ e.s.length then (e.s.length : Int) - cm else 0)).next (D := D)
      (.c (HDOk.sLen (by lia)) <| .c (rIter_ok hel (by lia) (by lia)) <| .c (HDOk.faFor fun A s k v kf vf rA iA rO hA hD hF R => ?_) .n) hA hD hF R fun _ st' s' R' => K _ _ _ _ _ _ (Rel.cut (l := l3 w.params a d L m.F _ _ _ _ _) R')
    rw [if_pos (by lia)] at R
    exact faFor3 hA hD hF hc hcl hml hel _ cm i0 rfl hle hcm s k v kf vf R
  · have hnil : e.r.drop cm = [] := List.drop_eq_nil_of_le (by rw [e.r_len]; lia)
    have e1 : ∀ Z : List Nat, cmpL Z [] = (0, 0) := fun Z => by cases Z <;> rfl
    rw [hnil, e1] at K
    refine (faH3_ok w G a d L k v kf vf m tv f k1 0 cm i0 e 0 ((cm + 0 : Nat) : Int) i0 (if (cm : Int) ≤ e.s.length then (e.s.length : Int) - cm else 0)).next (D := D)
      (.c (HDOk.sLen (by lia)) <| .c (rIter_ok hel (by lia) (by lia)) <| .c (HDOk.faFor fun A s k v kf vf rA iA rO hA hD hF R => ?_) .n) hA hD hF R fun _ st' s' R' => K _ _ _ _ _ _ (Rel.cut (l := l3 w.params a d L m.F _ _ _ _ _) R')
    rw [if_neg (by lia)] at R
    refine (faT3_end_ok w G a d L k v kf vf m tv f k1 0 cm i0 e rA iA rO ((e.s.length : Int) - 1 - cm) 0).turn (D := D + 20) rfl rfl rfl .n hA hD hF R fun _ st' s' R' => ⟨rfl, block_nil ?_⟩
    exact ⟨kTok st' 1, vTok st' 1, kTok st' 2, vTok st' 2, [(rA, rO), (iA, rIterO ((e.s.length : Int) - 1 - cm) 0 (-1)), pairAt st' 5, pairAt st' 6], rfl, R'⟩
theorem faHead2 (hA : A.handled = none) (hD : A.depth ≤ D) (hF : ∀ l, X.l = some l → A.frames = some l) (hc : f.c = c) (hcl : c ≤ m.cur.length) (hml : m.cur.length ≤ 10000) (hel : e.s.length ≤ 100) (hne : 0 < e.s.length) {k v kf vf : Nat → Tok} {s : Shared}
    {Q : Flow → Shared → Prop} {E : Value → Shared → Prop} (R : Rl w (G.at (amSt w.params e)) s₀ X (l3 w.params a d L m.F (frT w.params (faN2 a tv f k1 0 0 e.wa)) k v kf vf) s)
    (K : ∀ i1 k v kf vf s', Rl w (G.at (amSt w.params e)) s₀ X (l3 w.params a d L m.F (frT w.params (faN3 a tv f k1 (cmpL (m.cur.cps.toList.take c).reverse e.r).1 (((cmpL (m.cur.cps.toList.take c).reverse e.r).2 : Nat) : Int) e.wa i1)) k v kf vf) s' → Q .next s') :
    wpAny (model P0 w) A (execs (stms faS [7] 4 1) (faEnv L)) Q E s := by
  refine (faH2_ok w G a d L k v kf vf m tv f k1 0 0 0 e (cmpL (m.cur.cps.toList.take c).reverse e.r).1 (((cmpL (m.cur.cps.toList.take c).reverse e.r).2 : Nat) : Int) (cmpI e.s.length 0 (m.cur.cps.toList.take c).reverse e.r 0) (if (0 : Int) ≤ e.s.length then (e.s.length : Int) - 0 else 0)).next (D := D)
      (.c (HDOk.sLen (by lia)) <| .c (rIter_ok hel (by lia) (by lia)) <| .c (HDOk.faFor fun A s k v kf vf rA iA rO hA hD hF R => ?_) .n) hA hD hF R fun _ st' s' R' => K _ _ _ _ _ _ (Rel.cut (l := l3 w.params a d L m.F _ _ _ _ _) R')
  rw [if_pos (by lia)] at R
  exact faFor2 hA hD hF hc hcl hml hel hne s k v kf vf R
end
end Mine
end
end
section
open PySem PySem.W PyProof.Rows
set_option maxRecDepth 100000
section
namespace Mine
noncomputable def BS.f (b : BS) (c : Nat) : FaF := ⟨b.i, b.j, c, b.ci, b.cj, b.fki⟩
structure BS.In (b : BS) (n c : Nat) : Prop where
  ij : b.i < b.j
  jn : b.j ≤ n
  ci : b.ci ≤ c
  cj : b.cj ≤ c
theorem stepB_in {T : TabP} {R : List Nat} {b : BS} {n c : Nat} (h : b.In n c) (hR : R.length = c) : (stepB T R b).i ≤ (stepB T R b).j ∧ (stepB T R b).j ≤ n ∧ (stepB T R b).ci ≤ c ∧ (stepB T R b).cj ≤ c ∧ (stepB T R b).fki = b.fki := by
  obtain ⟨h1, h2, h3, h4⟩ := h
  have hl := (cmpL_le (R.drop (min b.ci b.cj)) ((T.getD (b.i + (b.j - b.i) / 2) ([], 0, 0)).1.drop (min b.ci b.cj))).1
  rw [List.length_drop] at hl
  unfold stepB
  split <;> refine ⟨?_, ?_, ?_, ?_, rfl⟩ <;> dsimp only <;> lia
theorem endB_in {b : BS} {n c : Nat} (h1 : b.i ≤ b.j) (h2 : b.j ≤ n) (h3 : b.ci ≤ c) (h4 : b.cj ≤ c) (h : (endB b).1 = false) : (endB b).2.In n c := by
  revert h
  unfold endB
  split
  · split
    · intro h; cases h
    · split
      · intro h; cases h
      · split
        · intro h; cases h
        · intro _; exact ⟨by dsimp only; lia, h2, h3, h4⟩
  · intro _; exact ⟨by dsimp only; lia, h2, h3, h4⟩
section
variable {w : World} {G : Gs} {s₀ : Shared} {X : XS} {a d L tv : Nat} {m : Sm} {c : Nat} {A : Around} {D : Nat} {es : List Am}
noncomputable def FaSt (w : World) (G : Gs) (s₀ : Shared) (X : XS) (a d L tv : Nat) (m : Sm) (f : FaF) (s : Shared) : Prop :=
  ∃ k1 d1 cm i0 w0 k v kf vf, Rl w G s₀ X (l3 w.params a d L m.F (frT w.params (faN3 a tv f k1 d1 cm w0 i0)) k v kf vf) s
noncomputable def FaSt0 (w : World) (G : Gs) (s₀ : Shared) (X : XS) (a d L tv : Nat) (m : Sm) (f : FaF) (s : Shared) : Prop :=
  ∃ k v kf vf, Rl w G s₀ X (l3 w.params a d L m.F (frT w.params (faN1 a tv f)) k v kf vf) s
theorem faE_all (hA : A.handled = none) (hD : A.depth ≤ D) (hF : ∀ l, X.l = some l → A.frames = some l) {b : BS} (hij : b.i ≤ b.j) {s : Shared} {Q : Flow → Shared → Prop} {E : Value → Shared → Prop} (R : FaSt w G s₀ X a d L tv m (b.f c) s)
    (K : ∀ s', FaSt w G s₀ X a d L tv m ((endB b).2.f c) s' → Q (if (endB b).1 = true then .brk else .next) s') : wpAny (model P0 w) A (execs (stms faS [7] 6 1) (faEnv L)) Q E s := by
  obtain ⟨k1, d1, cm, i0, w0, k, v, kf, vf, R⟩ := R
  revert K
  unfold endB
  by_cases h1 : b.j - b.i ≤ 1
  · rw [if_pos h1]
    by_cases h2 : 0 < b.i
    · rw [if_pos h2]
      intro K
      refine (faE_i_ok w G a d L k v kf vf m tv (b.f c) k1 d1 cm i0 w0).next (D := D) (.c (HDOk.le_true (by show (b.j : Int) - b.i ≤ 1; lia)) <| .c (HDOk.gt_true (by show (0 : Int) < b.i; lia)) .n) hA hD hF R fun _ st' s' R' => K s' ⟨k1, d1, cm, i0, w0, _, _, _, _, Rel.cut (l := l3 w.params a d L m.F _ _ _ _ _) R'⟩
    · rw [if_neg h2]
      by_cases h3 : b.j = b.i
      · rw [if_pos h3]
        intro K
        refine (faE_j_ok w G a d L k v kf vf m tv (b.f c) k1 d1 cm i0 w0).next (D := D) (.c (HDOk.le_true (by show (b.j : Int) - b.i ≤ 1; lia)) <| .c (HDOk.gt_false (by show ¬ (0 : Int) < b.i; lia)) <| .c (HDOk.eq_true (by show (b.j : Int) = b.i; lia)) .n) hA hD hF R fun _ st' s' R' => K s' ⟨k1, d1, cm, i0, w0, _, _, _, _, Rel.cut (l := l3 w.params a d L m.F _ _ _ _ _) R'⟩
      · rw [if_neg h3]
        obtain ⟨bi, bj, bci, bcj, bf⟩ := b
        cases bf with
        | true =>
          intro K
          refine (faE_f_ok w G a d L k v kf vf m tv ((⟨bi, bj, bci, bcj, true⟩ : BS).f c) k1 d1 cm i0 w0).next (D := D) (.c (HDOk.le_true (by show (bj : Int) - bi ≤ 1; dsimp only at h1; lia)) <| .c (HDOk.gt_false (by show ¬ (0 : Int) < bi; dsimp only at h2; lia)) <| .c (HDOk.eq_false (by show ¬ (bj : Int) = bi; dsimp only at h3; lia)) .n) hA hD hF R fun _ st' s' R' => K s' ⟨k1, d1, cm, i0, w0, _, _, _, _, Rel.cut (l := l3 w.params a d L m.F _ _ _ _ _) R'⟩
        | false =>
          intro K
          refine (faE_n_ok w G a d L k v kf vf m tv ((⟨bi, bj, bci, bcj, false⟩ : BS).f c) k1 d1 cm i0 w0).next (D := D) (.c (HDOk.le_true (by show (bj : Int) - bi ≤ 1; dsimp only at h1; lia)) <| .c (HDOk.gt_false (by show ¬ (0 : Int) < bi; dsimp only at h2; lia)) <| .c (HDOk.eq_false (by show ¬ (bj : Int) = bi; dsimp only at h3; lia)) .n) hA hD hF R fun _ st' s' R' => K s' ⟨k1, d1, cm, i0, w0, _, _, _, _, Rel.cut (l := l3 w.params a d L m.F _ _ _ _ _) R'⟩
  · rw [if_neg h1]
    intro K
    refine (faE_go_ok w G a d L k v kf vf m tv (b.f c) k1 d1 cm i0 w0).next (D := D) (.c (HDOk.le_false (by show ¬ (b.j : Int) - b.i ≤ 1; lia)) .n) hA hD hF R fun _ st' s' R' => K s' ⟨k1, d1, cm, i0, w0, _, _, _, _, Rel.cut (l := l3 w.params a d L m.F _ _ _ _ _) R'⟩
theorem faTail (hA : A.handled = none) (hD : A.depth ≤ D) (hF : ∀ l, X.l = some l → A.frames = some l) {b : BS} (hb : b.In es.length c) (hc : c ≤ m.cur.length) {s : Shared} {Q : Flow → Shared → Prop} {E : Value → Shared → Prop} {e : Am} (he : (es.map toE).getD (b.i + (b.j - b.i) / 2) ([], 0, 0) = toE e) {i0 : Int} {k v kf vf : Nat → Tok}
    (R : Rl w G s₀ X (l3 w.params a d L m.F (frT w.params (faN3 a tv (b.f c) ((b.i + (b.j - b.i) / 2 : Nat) : Int) (cmpL ((m.cur.cps.toList.take c).reverse.drop (min b.ci b.cj)) (e.r.drop (min b.ci b.cj))).1 ((min b.ci b.cj + (cmpL ((m.cur.cps.toList.take c).reverse.drop (min b.ci b.cj)) (e.r.drop (min b.ci b.cj))).2 : Nat) : Int) e.wa i0)) k v kf vf) s)
    (K : ∀ s', FaSt w G s₀ X a d L tv m ((endB (stepB (es.map toE) (m.cur.cps.toList.take c).reverse b)).2.f c) s' → Q (if (endB (stepB (es.map toE) (m.cur.cps.toList.take c).reverse b)).1 = true then .brk else .next) s') :
    wpAny (model P0 w) A (execs (stms faS [7] 5 1 ++ stms faS [7] 6 1) (faEnv L)) Q E s := by
  have hlen : (m.cur.cps.toList.take c).reverse.length = c := by
    have e4 : m.cur.cps.toList.length = m.cur.length := rfl
    rw [List.length_reverse, List.length_take]; lia
  have hin := stepB_in (T := es.map toE) hb hlen
  refine wpAny_execs_app _ ?_
  have hstep : stepB (es.map toE) (m.cur.cps.toList.take c).reverse b = if (cmpL ((m.cur.cps.toList.take c).reverse.drop (min b.ci b.cj)) (e.r.drop (min b.ci b.cj))).1 < 0 then
      ⟨b.i, b.i + (b.j - b.i) / 2, b.ci, min b.ci b.cj + (cmpL ((m.cur.cps.toList.take c).reverse.drop (min b.ci b.cj)) (e.r.drop (min b.ci b.cj))).2, b.fki⟩
    else ⟨b.i + (b.j - b.i) / 2, b.j, min b.ci b.cj + (cmpL ((m.cur.cps.toList.take c).reverse.drop (min b.ci b.cj)) (e.r.drop (min b.ci b.cj))).2, b.cj, b.fki⟩ := by
    unfold stepB
    rw [he]; rfl
  by_cases hn : (cmpL ((m.cur.cps.toList.take c).reverse.drop (min b.ci b.cj)) (e.r.drop (min b.ci b.cj))).1 < 0
  · rw [if_pos hn] at hstep
    refine (faI_neg_ok w G a d L k v kf vf m tv (b.f c) _ _ _ i0 e.wa).next (D := D) (.c (HDOk.lt_true hn) .n) hA hD hF R fun _ st' s' R' => .inl ⟨rfl, ?_⟩
    refine faE_all hA hD hF hin.1 ?_ K
    rw [hstep]
    exact ⟨_, _, _, _, _, _, _, _, _, Rel.cut (l := l3 w.params a d L m.F _ _ _ _ _) R'⟩
  · rw [if_neg hn] at hstep
    refine (faI_pos_ok w G a d L k v kf vf m tv (b.f c) _ _ _ i0 e.wa).next (D := D) (.c (HDOk.lt_false hn) .n) hA hD hF R fun _ st' s' R' => .inl ⟨rfl, ?_⟩
    refine faE_all hA hD hF hin.1 ?_ K
    rw [hstep]
    exact ⟨_, _, _, _, _, _, _, _, _, Rel.cut (l := l3 w.params a d L m.F _ _ _ _ _) R'⟩
theorem getD_map_toE {k : Nat} {e : Am} (h : es[k]? = some e) : (es.map toE).getD k ([], 0, 0) = toE e := by
  rw [List.getD_eq_getElem?_getD, List.getElem?_map, h]; rfl
theorem fa_body : stms faS [7] 0 7 = stms faS [7] 0 4 ++ (stms faS [7] 4 1 ++ (stms faS [7] 5 1 ++ stms faS [7] 6 1)) := by kernel_rfl
theorem faTurn (hG : G.ro = []) (T : TbOk w G tv es) (hA : A.handled = none) (hD : A.depth ≤ D) (hF : ∀ l, X.l = some l → A.frames = some l) {b : BS} (hb : b.In es.length c) (hc : c ≤ m.cur.length) (hml : m.cur.length ≤ 10000) {s : Shared} {Q : Flow → Shared → Prop} {E : Value → Shared → Prop}
    (R : FaSt w G s₀ X a d L tv m (b.f c) s)
    (K : ∀ s', FaSt w G s₀ X a d L tv m ((endB (stepB (es.map toE) (m.cur.cps.toList.take c).reverse b)).2.f c) s' → Q (if (endB (stepB (es.map toE) (m.cur.cps.toList.take c).reverse b)).1 = true then .brk else .next) s') :
    wpAny (model P0 w) A (execs (stms faS [7] 0 7) (faEnv L)) Q E s := by
  obtain ⟨k1, d1, cm, i0, w0, k, v, kf, vf, R⟩ := R
  obtain ⟨h1, h2, h3, h4⟩ := hb
  have hk : b.i + (b.j - b.i) / 2 < es.length := by lia
  have he : es[b.i + (b.j - b.i) / 2]? = some es[b.i + (b.j - b.i) / 2] := List.getElem?_eq_getElem hk
  generalize es[b.i + (b.j - b.i) / 2] = e at he
  have hem : e ∈ es := List.mem_of_getElem? he
  have hkI : ((b.i : Int) + ((b.j : Int) - b.i) / 2) = ((b.i + (b.j - b.i) / 2 : Nat) : Int) := by lia
  have hm : min (b.ci : Int) (b.cj : Int) = ((min b.ci b.cj : Nat) : Int) := by lia
  rw [fa_body]
  refine wpAny_execs_app _ ?_
  refine (faU1s_ok w G a d L k v kf vf m tv (b.f c) e.wa (es.map fun e => Value.ref e.wa).toArray k1 d1 cm i0 w0).next (D := D)
    (.c (HDOk.shr1 (by show (0 : Int) ≤ (b.j : Int) - b.i; lia)) <| .c HDOk.minI <| .c (HDOk.lGet (T.at _).list (by show (0 : Int) ≤ (b.i : Int) + ((b.j : Int) - b.i) / 2; lia) (by show (es.map fun e => Value.ref e.wa)[((b.i : Int) + ((b.j : Int) - b.i) / 2).toNat]? = _; rw [hkI]; show (es.map fun e => Value.ref e.wa)[b.i + (b.j - b.i) / 2]? = _; rw [List.getElem?_map, he]; rfl) (by have := T.len; show ((b.i : Int) + ((b.j : Int) - b.i) / 2) < _; lia)) .n) hA hD hF (Rel.at R T.ro2) fun _ st' s' R' => .inl ⟨rfl, ?_⟩
  have R1 : Rl w G s₀ X (l3 w.params a d L m.F (frT w.params (faN3 a tv (b.f c) ((b.i : Int) + ((b.j : Int) - b.i) / 2) 0 (min (b.ci : Int) (b.cj : Int)) e.wa i0)) (kTok st' 1) (vTok st' 1) (kTok st' 2) (vTok st' 2)) s' := (Rel.cut (l := l3 w.params a d L m.F _ _ _ _ _) R').un hG
  rw [hkI, hm] at R1
  refine wpAny_execs_app _ ?_
  refine faHead3 hA hD hF rfl hc hml (T.small e hem).2 (cm := min b.ci b.cj) (by lia) (Rel.at R1 (T.ro1 hem)) fun i1 k v kf vf s2 R2 => .inl ⟨rfl, ?_⟩
  exact faTail hA hD hF ⟨h1, h2, h3, h4⟩ hc (getD_map_toE he) (R2.un hG) K
theorem faTurn0 (hG : G.ro = []) (T : TbOk w G tv es) (hA : A.handled = none) (hD : A.depth ≤ D) (hF : ∀ l, X.l = some l → A.frames = some l) {b : BS} (hb : b.In es.length c) (hci : b.ci = 0) (hcj : b.cj = 0) (hc : c ≤ m.cur.length) (hml : m.cur.length ≤ 10000) {s : Shared} {Q : Flow → Shared → Prop} {E : Value → Shared → Prop}
    (R : FaSt0 w G s₀ X a d L tv m (b.f c) s)
    (K : ∀ s', FaSt w G s₀ X a d L tv m ((endB (stepB (es.map toE) (m.cur.cps.toList.take c).reverse b)).2.f c) s' → Q (if (endB (stepB (es.map toE) (m.cur.cps.toList.take c).reverse b)).1 = true then .brk else .next) s') :
    wpAny (model P0 w) A (execs (stms faS [7] 0 7) (faEnv L)) Q E s := by
  obtain ⟨k, v, kf, vf, R⟩ := R
  obtain ⟨h1, h2, h3, h4⟩ := id hb
  have hk : b.i + (b.j - b.i) / 2 < es.length := by lia
  have he : es[b.i + (b.j - b.i) / 2]? = some es[b.i + (b.j - b.i) / 2] := List.getElem?_eq_getElem hk
  generalize es[b.i + (b.j - b.i) / 2] = e at he
  have hem : e ∈ es := List.mem_of_getElem? he
  have hkI : ((b.i : Int) + ((b.j : Int) - b.i) / 2) = ((b.i + (b.j - b.i) / 2 : Nat) : Int) := by lia
  have hm : min (b.ci : Int) (b.cj : Int) = 0 := by lia
  have hm0 : min b.ci b.cj = 0 := by lia
  rw [fa_body]
  refine wpAny_execs_app _ ?_
  refine (faU1_ok w G a d L k v kf vf m tv (b.f c) e.wa (es.map fun e => Value.ref e.wa).toArray).next (D := D)
    (.c (HDOk.shr1 (by show (0 : Int) ≤ (b.j : Int) - b.i; lia)) <| .c HDOk.minI <| .c (HDOk.lGet (T.at _).list (by show (0 : Int) ≤ (b.i : Int) + ((b.j : Int) - b.i) / 2; lia) (by show (es.map fun e => Value.ref e.wa)[((b.i : Int) + ((b.j : Int) - b.i) / 2).toNat]? = _; rw [hkI]; show (es.map fun e => Value.ref e.wa)[b.i + (b.j - b.i) / 2]? = _; rw [List.getElem?_map, he]; rfl) (by have := T.len; show ((b.i : Int) + ((b.j : Int) - b.i) / 2) < _; lia)) .n) hA hD hF (Rel.at R T.ro2) fun _ st' s' R' => .inl ⟨rfl, ?_⟩
  have R1 : Rl w G s₀ X (l3 w.params a d L m.F (frT w.params (faN2 a tv (b.f c) ((b.i : Int) + ((b.j : Int) - b.i) / 2) 0 (min (b.ci : Int) (b.cj : Int)) e.wa)) (kTok st' 1) (vTok st' 1) (kTok st' 2) (vTok st' 2)) s' := (Rel.cut (l := l3 w.params a d L m.F _ _ _ _ _) R').un hG
  rw [hkI, hm] at R1
  refine wpAny_execs_app _ ?_
  refine faHead2 hA hD hF rfl hc hml (T.small e hem).2 (T.small e hem).1 (Rel.at R1 (T.ro1 hem)) fun i1 k v kf vf s2 R2 => .inl ⟨rfl, ?_⟩
  have R3 := R2.un hG
  refine faTail hA hD hF hb hc (getD_map_toE he) (i0 := i1) (k := k) (v := v) (kf := kf) (vf := vf) ?_ K
  rw [hm0, Nat.zero_add]
  exact R3
end
end Mine
end
end
section
open PySem PySem.W PyProof.Rows
set_option maxRecDepth 100000
set_option maxHeartbeats 0
section
namespace Mine
noncomputable def faF : Fn := ⟨140, fnAt 2 (some 15), "BaseStemmer.find_among_b", 139, (sv "snowballstemmer.basestemmer" 194), ["self", "v"]⟩
noncomputable def wTrue (w : World) (G : Gs) (env : Env) (pos : Pos) (st : St) : ScT Bool := ⟨G, isTrue (.Constant (.bool true) 0 pos) env (eval (.Constant (.bool true) 0 pos) env), [], st, [], (fun _ => .ok true), (fun _ _ => st)⟩
noncomputable def wTrueQ (w : World) (G : Gs) (env : Env) (pos : Pos) (st : St) : Road Bool := (wTrue w G env pos st).Q w
theorem wTrueQ_self : wTrueQ = wTrueQ := rfl
end Mine
end
open PySem.W.Fast
name_quick wTrueQq for Mine.wTrueQ by Mine.wTrueQ_self
section
namespace Mine
theorem faF_ok (w : World) (G : Gs) (a d : Nat) (k v : Nat → Tok) (m : Sm) (x1 : Value) : faF.Ok w G [3,3,3,3] (selfSt w.params a d k v m) [.ref a, x1] := okN (FnAt.mk' (sv "snowballstemmer.basestemmer" 194) (by kernel_rfl) (by kernel_rfl) (by kernel_rfl) (by kernel_rfl)) (by kernel_rfl) (fun pm => by kernel_rfl) (by kernel_rfl)
theorem wTrue_ok (w : World) (G : Gs) (env : Env) (pos : Pos) (st : St) : (wTrue w G env pos st).Ok w := okT (S := fun w => wTrue w G env pos st) (fun w => PySem.W.Fast.wTrueQq w G env pos st) (fun w => by rw [← PySem.W.Fast.wTrueQq_eq]; rfl) (fun w c own past below p σ => by kernel_rfl) (fun w c own past below p σ => by kernel_rfl) w
end Mine
end
end
section
open PySem PySem.W PyProof.Rows
set_option maxRecDepth 100000
section
namespace Mine
theorem while_true {w : World} {G : Gs} {s₀ s : Shared} {X : XS} {st : St} {D : Nat} {A : Around} {body orelse : List Stmt} {env : Env} {pos : Pos} {Post : Result → Shared → Prop} (hA : A.handled = none) (hD : A.depth ≤ D) (hF : ∀ l, X.l = some l → A.frames = some l) (R : Rl w G s₀ X st s)
    (h : ∀ s', Rl w G s₀ X st s' → wpAny (model P0 w) A (execs body env) (fun f s' => match f with
      | .brk => Post (.ok .next) s'
      | .ret v => Post (.ok (.ret v)) s'
      | _ => codeAny (model P0 w) A (.whileLoop (.Constant (.bool true) 0 pos) body orelse env) Post s') (fun _ _ => False) s') :
    codeAny (model P0 w) A (.whileLoop (.Constant (.bool true) 0 pos) body orelse env) Post s := by
  refine codeAny_of_tree ?_
  have hden : (model P0 w).den (.whileLoop (.Constant (.bool true) 0 pos) body orelse env) = (whileTurn (.Constant (.bool true) 0 pos) body orelse env).onRaise (fun x => do noteFrame x env; theTreesLotGoes x) := rfl
  rw [hden, Around.under_of_weight rfl]
  refine wpAny_onRaise ?_
  unfold whileTurn
  refine wpAny_bind (wpAny_mono ((wTrue_ok w G env pos st).tree (D := D) .n hA hD hF R) (fun b s' q => ?_) (fun _ _ q => by obtain ⟨_, _, q, _⟩ := q; cases q))
  obtain ⟨_, st1, e, R1⟩ := q
  obtain rfl : b = true := Except.ok.inj e
  rw [if_pos rfl]
  refine wpAny_bind (wpAny_mono (h s' R1) (fun f s' q => ?_) fun _ _ q => q.elim)
  cases f with
  | next => exact wpAny_pure ⟨rfl, q⟩
  | cont => exact wpAny_pure ⟨rfl, q⟩
  | brk => exact wpAny_pure q
  | ret v => exact wpAny_pure q
theorem wpAny_While {w : World} {A : Around} {s : Shared} {t : PySem.Expr} {body orelse : List Stmt} {pos : Pos} {env : Env} {Q : Flow → Shared → Prop} {E : Value → Shared → Prop}
    (h : codeAny (model P0 w) A (.whileLoop t body orelse env) (fun r s' => ∃ f, r = .ok f ∧ Q f s') s) : wpAny (model P0 w) A (exec (.While t body orelse pos) env) Q E s := by
  rw [arm_exec_While]
  refine wpAny_bind (wpAny_standAt ?_)
  unfold runOwn
  refine wpAny_onRaise ?_
  refine wpAny_run ?_
  refine codeAny_mono h fun r s' q => ?_
  obtain ⟨f, rfl, q⟩ := q
  exact q
noncomputable def itsOf (es : List Am) : Array Value := (es.map fun e => Value.ref e.wa).toArray
noncomputable def chainB (T : TabP) (ci : Nat) : Nat → Nat → Option (Option (Nat × Int))
  | 0, _ => none
  | n + 1, i => if (T.getD i ([], 0, 0)).1.length ≤ ci then some (some ((T.getD i ([], 0, 0)).1.length, (T.getD i ([], 0, 0)).2.2)) else if (T.getD i ([], 0, 0)).2.1 < 0 then some none else chainB T ci n (T.getD i ([], 0, 0)).2.1.toNat
noncomputable def fabP (T : TabP) (R : List Nat) : Option (Option (Nat × Int)) := (runB T R 100 ⟨0, T.length, 0, 0, false⟩).bind fun b => chainB T b.ci 100 b.i
noncomputable def posOf : PySem.Expr → Pos
  | .Constant _ _ p => p
  | _ => default
noncomputable def posS : Stmt → Pos
  | .While _ _ _ p => p
  | _ => default
theorem fa_stmts : fnBody faS = stms faS [] 0 7 ++ (.While (.Constant (.bool true) 0 (posOf (tstOf (atP faS [7])))) (stms faS [7] 0 7) [] (posS (atP faS [7])) :: (.While (.Constant (.bool true) 0 (posOf (tstOf (atP faS [8])))) (stms faS [8] 0 4) [] (posS (atP faS [8])) :: stms faS [] 9 1)) := by kernel_rfl
theorem stepB_i {T : TabP} {R : List Nat} {b : BS} {n c : Nat} (h : b.In n c) : (stepB T R b).i < n := by
  obtain ⟨h1, h2, h3, h4⟩ := h
  unfold stepB
  split <;> dsimp only <;> lia
theorem endB_i (b : BS) : (endB b).2.i = b.i := by
  unfold endB
  split
  · split
    · rfl
    · split
      · rfl
      · split <;> rfl
  · rfl
theorem runB_i {T : TabP} {R : List Nat} {n' c : Nat} (hR : R.length = c) {b' : BS} : ∀ (n : Nat) (b : BS), b.In n' c → runB T R n b = some b' → b'.i < n'
  | 0, b, hb, h => by cases h
  | n + 1, b, hb, h => by
    have hin := stepB_in (T := T) hb hR
    rw [runB] at h
    by_cases he : (endB (stepB T R b)).1 = true
    · rw [if_pos he] at h
      cases h
      rw [endB_i]; exact stepB_i hb
    · rw [if_neg he] at h
      have he : (endB (stepB T R b)).1 = false := by simpa using he
      exact runB_i hR n _ (endB_in hin.1 hin.2.1 hin.2.2.1 hin.2.2.2.1 he) h
section
variable {w : World} {G : Gs} {s₀ : Shared} {X : XS} {a d L tv : Nat} {m : Sm} {c : Nat} {A : Around} {D : Nat} {es : List Am}
theorem faLoop (hG : G.ro = []) (T : TbOk w G tv es) (hA : A.handled = none) (hD : A.depth ≤ D) (hF : ∀ l, X.l = some l → A.frames = some l) (hc : c ≤ m.cur.length) (hml : m.cur.length ≤ 10000) {b' : BS} {p : Pos} : ∀ (n : Nat) (b : BS), b.In es.length c → runB (es.map toE) (m.cur.cps.toList.take c).reverse n b = some b' → ∀ s, FaSt w G s₀ X a d L tv m (b.f c) s →
    codeAny (model P0 w) A (.whileLoop (.Constant (.bool true) 0 p) (stms faS [7] 0 7) [] (faEnv L)) (fun r s' => r = .ok .next ∧ FaSt w G s₀ X a d L tv m (b'.f c) s') s
  | 0, b, hb, h, s, R => by cases h
  | n + 1, b, hb, h, s, R => by
    obtain ⟨k1, d1, cm, i0, w0, k, v, kf, vf, R⟩ := R
    have hlen : (m.cur.cps.toList.take c).reverse.length = c := by
      have e4 : m.cur.cps.toList.length = m.cur.length := rfl
      rw [List.length_reverse, List.length_take]; lia
    have hin := stepB_in (T := es.map toE) hb hlen
    refine while_true hA hD hF R fun s1 R1 => ?_
    refine faTurn hG T hA hD hF hb hc hml ⟨_, _, _, _, _, _, _, _, _, R1⟩ fun s2 R2 => ?_
    rw [runB] at h
    by_cases he : (endB (stepB (es.map toE) (m.cur.cps.toList.take c).reverse b)).1 = true
    · rw [if_pos he] at h ⊢
      cases h
      exact ⟨rfl, R2⟩
    · rw [if_neg he] at h ⊢
      have he : (endB (stepB (es.map toE) (m.cur.cps.toList.take c).reverse b)).1 = false := by simpa using he
      exact faLoop hG T hA hD hF hc hml n _ (endB_in hin.1 hin.2.1 hin.2.2.1 hin.2.2.2.1 he) h s2 R2
theorem faLoop0 (hG : G.ro = []) (T : TbOk w G tv es) (hA : A.handled = none) (hD : A.depth ≤ D) (hF : ∀ l, X.l = some l → A.frames = some l) (hc : c ≤ m.cur.length) (hml : m.cur.length ≤ 10000) {b b' : BS} {p : Pos} {n : Nat} (hb : b.In es.length c) (hci : b.ci = 0) (hcj : b.cj = 0) (h : runB (es.map toE) (m.cur.cps.toList.take c).reverse n b = some b') {s : Shared} (R : FaSt0 w G s₀ X a d L tv m (b.f c) s) :
    codeAny (model P0 w) A (.whileLoop (.Constant (.bool true) 0 p) (stms faS [7] 0 7) [] (faEnv L)) (fun r s' => r = .ok .next ∧ FaSt w G s₀ X a d L tv m (b'.f c) s') s := by
  cases n with
  | zero => cases h
  | succ n =>
    obtain ⟨k, v, kf, vf, R⟩ := R
    have hlen : (m.cur.cps.toList.take c).reverse.length = c := by
      have e4 : m.cur.cps.toList.length = m.cur.length := rfl
      rw [List.length_reverse, List.length_take]; lia
    have hin := stepB_in (T := es.map toE) hb hlen
    refine while_true hA hD hF R fun s1 R1 => ?_
    refine faTurn0 hG T hA hD hF hb hci hcj hc hml ⟨_, _, _, _, R1⟩ fun s2 R2 => ?_
    rw [runB] at h
    by_cases he : (endB (stepB (es.map toE) (m.cur.cps.toList.take c).reverse b)).1 = true
    · rw [if_pos he] at h ⊢
      cases h
      exact ⟨rfl, R2⟩
    · rw [if_neg he] at h ⊢
      have he : (endB (stepB (es.map toE) (m.cur.cps.toList.take c).reverse b)).1 = false := by simpa using he
      exact faLoop hG T hA hD hF hc hml n _ (endB_in hin.1 hin.2.1 hin.2.2.1 hin.2.2.2.1 he) h s2 R2
noncomputable def outV : Option (Nat × Int) → Int
  | none => 0
  | some q => q.2
noncomputable def outM (m : Sm) : Option (Nat × Int) → Sm
  | none => m.F
  | some q => Sm.mk m.cur (m.cu - q.1) m.li m.lb m.br m.ke m.p1 true
noncomputable def FaEnd (w : World) (G : Gs) (s₀ : Shared) (X : XS) (a d L : Nat) (m : Sm) (out : Option (Nat × Int)) (r : Result) (s : Shared) : Prop :=
  ∃ t k v oL, r = .ok (.ret (.int (outV out) t)) ∧ Rl w G s₀ X [(a, inO 878 d), (d, dictT w.params (outM m out) k v), (L, oL)] s
theorem faChain (hG : G.ro = []) (T : TbOk w G tv es) (hsub : ∀ e ∈ es, e.sub < es.length) (hA : A.handled = none) (hD : A.depth ≤ D) (hF : ∀ l, X.l = some l → A.frames = some l) (hmc : m.cu = c) (hml : m.cur.length ≤ 10000) {out : Option (Nat × Int)} {p : Pos} {ci : Nat} {j cj : Int} {fki : Bool} : ∀ (n i : Nat), i < es.length → chainB (es.map toE) ci n i = some out → ∀ s, FaSt w G s₀ X a d L tv m ⟨i, j, c, ci, cj, fki⟩ s →
    codeAny (model P0 w) A (.whileLoop (.Constant (.bool true) 0 p) (stms faS [8] 0 4) [] (faEnv L)) (fun r s' => FaEnd w G s₀ X a d L m out r s') s
  | 0, i, _, h, s, R => by cases h
  | n + 1, i, hi, h, s, R => by
    obtain ⟨k1, d1, cm, i0, w0, k, v, kf, vf, R⟩ := R
    have he : es[i]? = some es[i] := List.getElem?_eq_getElem hi
    generalize es[i] = e at he
    have hem : e ∈ es := List.mem_of_getElem? he
    have hgd : (es.map toE).getD i ([], 0, 0) = (e.r, e.sub, e.res) := getD_map_toE he
    rw [chainB, hgd] at h
    have hr := e.r_len
    have hro : ∀ q ∈ amSt w.params e ++ tvSt tv (itsOf es), (TKb w.params G).get q.1 = some q.2 ∧ alive q.2 = some q.2 := fun q hq => by
      rcases List.mem_append.mp hq with hq | hq
      · exact T.ro1 hem q hq
      · exact T.ro2 q hq
    have hsm := T.small e hem
    have hln := T.len
    refine while_true hA hD hF R fun s1 R1 => ?_
    have hget : ∀ D, HDOk w (G.at (amSt w.params e ++ tvSt tv (itsOf es))) D s₀ X (HD.lGet tv (i : Int) (.ref e.wa)) := fun D => HDOk.lGet (T.at _).list (by lia) (by show (es.map fun e => Value.ref e.wa)[i]? = _; rw [List.getElem?_map, he]; rfl) (by lia)
    by_cases h1 : e.r.length ≤ ci
    · rw [if_pos h1] at h
      cases h
      refine (faJ_hit_ok w G a d L k v kf vf m tv ⟨i, j, c, ci, cj, fki⟩ k1 d1 cm i0 w0 e (itsOf es)).next (D := D) (.c (hget _) <| .c (HDOk.sLen (by lia)) <| .c (HDOk.ge_true (by show (e.s.length : Int) ≤ ci; lia)) <| .c (HDOk.sLen (by lia)) .n) hA hD hF (Rel.at R1 hro) fun _ st' s' R' => ?_
      have R2 := (Rel.cut (l := l3 w.params a d L (Sm.mk m.cur ((c : Int) - e.s.length) m.li m.lb m.br m.ke m.p1 true) _ _ _ _ _) R').un hG
      have e3 : outM m (some (e.r.length, e.res)) = Sm.mk m.cur ((c : Int) - e.s.length) m.li m.lb m.br m.ke m.p1 true := by
        show Sm.mk _ _ _ _ _ _ _ _ = _
        rw [hmc, hr]
      rw [← e3] at R2
      exact ⟨e.v3, kTok st' 1, vTok st' 1, _, rfl, R2⟩
    · rw [if_neg h1] at h
      by_cases h2 : e.sub < 0
      · rw [if_pos h2] at h
        cases h
        refine (faJ_zero_ok w G a d L k v kf vf m tv ⟨i, j, c, ci, cj, fki⟩ k1 d1 cm i0 w0 e (itsOf es)).next (D := D) (.c (hget _) <| .c (HDOk.sLen (by lia)) <| .c (HDOk.ge_false (by show ¬ (e.s.length : Int) ≤ ci; lia)) <| .c (HDOk.lt_true h2) .n) hA hD hF (Rel.at R1 hro) fun _ st' s' R' => ?_
        exact ⟨_, kTok st' 1, vTok st' 1, _, rfl, (Rel.cut (l := l3 w.params a d L m.F _ _ _ _ _) R').un hG⟩
      · rw [if_neg h2] at h
        refine (faJ_next_ok w G a d L k v kf vf m tv ⟨i, j, c, ci, cj, fki⟩ k1 d1 cm i0 w0 e (itsOf es)).next (D := D) (.c (hget _) <| .c (HDOk.sLen (by lia)) <| .c (HDOk.ge_false (by show ¬ (e.s.length : Int) ≤ ci; lia)) <| .c (HDOk.lt_false h2) .n) hA hD hF (Rel.at R1 hro) fun _ st' s' R' => ?_
        have hs := hsub e hem
        have R2 := (Rel.cut (l := l3 w.params a d L m.F _ _ _ _ _) R').un hG
        have e4 : e.sub = ((e.sub.toNat : Nat) : Int) := by lia
        have key : FaSt w G s₀ X a d L tv m ⟨((e.sub.toNat : Nat) : Int), j, c, ci, cj, fki⟩ s' := by
          rw [← e4]; exact ⟨_, _, _, _, _, _, _, _, _, R2⟩
        exact faChain hG T hsub hA hD hF hmc hml n e.sub.toNat (by lia) h s' key
end
theorem fa_spec {w : World} {G : Gs} {tv : Nat} {es : List Am} (hG : G.ro = []) (T : TbOk w G tv es) (hsub : ∀ e ∈ es, e.sub < es.length) (hne : 0 < es.length) {D : Nat} (hD : D < 850) {m : Sm} {c : Nat} (hmc : m.cu = c) (hc : c ≤ m.cur.length) (hml : m.cur.length ≤ 10000) (hlb : m.lb = 0) {out : Option (Nat × Int)}
    (h : fabP (es.map toE) (m.cur.cps.toList.take c).reverse = some out) :
    MSpec w G 140 D [.ref tv] m.F (fun v m' => (∃ t : Tok, v = (fun t => .int (outV out) t) t) ∧ m' = outM m out) := by
  intro a d k v
  refine Fn.Ok.call (faF_ok w G a d k v m.F (.ref tv)) (Nat.lt_of_lt_of_le hD (by decide)) fun L ts A s l hA hD' _ R => ?_
  obtain ⟨b', hb', hch⟩ := Option.bind_eq_some_iff.mp h
  rw [List.length_map] at hb'
  have hF : ∀ l', (⟨((selfSt w.params a d k v m.F).map (·.1)) ++ [L], [], none⟩ : XS).l = some l' → (A.under (.func (fnBody faS) (faEnv L))).frames = some l' := fun l' h => by cases h
  have hAu : (A.under (.func (fnBody faS) (faEnv L))).handled = none := hA
  have hDu : (A.under (.func (fnBody faS) (faEnv L))).depth ≤ D + 1 := Nat.add_le_add_right hD' 1
  have hlen : (m.cur.cps.toList.take c).reverse.length = c := by
    have e4 : m.cur.cps.toList.length = m.cur.length := rfl
    rw [List.length_reverse, List.length_take]; lia
  have hb0 : (⟨0, es.length, 0, 0, false⟩ : BS).In es.length c := ⟨hne, Nat.le_refl _, Nat.zero_le _, Nat.zero_le _⟩
  have hi := runB_i hlen 100 _ hb0 hb'
  have hm0 : m.F = Sm.mk m.cur m.cu m.li 0 m.br m.ke m.p1 true := by rw [← hlb]
  refine func_of_execs ?_
  have hbd : fnBody faF.st = stms faS [] 0 7 ++ (.While (.Constant (.bool true) 0 (posOf (tstOf (atP faS [7])))) (stms faS [7] 0 7) [] (posS (atP faS [7])) :: (.While (.Constant (.bool true) 0 (posOf (tstOf (atP faS [8])))) (stms faS [8] 0 4) [] (posS (atP faS [8])) :: stms faS [] 9 1)) := fa_stmts
  have hgo : ∀ A', A'.handled = none → A'.depth ≤ D + 1 → wpAny (model P0 w) A' (execs (stms faS [] 0 7 ++ (.While (.Constant (.bool true) 0 (posOf (tstOf (atP faS [7])))) (stms faS [7] 0 7) [] (posS (atP faS [7])) :: (.While (.Constant (.bool true) 0 (posOf (tstOf (atP faS [8])))) (stms faS [8] 0 4) [] (posS (atP faS [8])) :: stms faS [] 9 1))) (faEnv L))
      (fun f s' => ∃ t k v oL, f = .ret (.int (outV out) t) ∧ Rl w G s ⟨((selfSt w.params a d k v m.F).map (·.1)) ++ [L], [], none⟩ [(a, inO 878 d), (d, dictT w.params (outM m out) k v), (L, oL)] s') (fun _ _ => False) s := by
    intro A' hA' hD''
    have hF : ∀ l', (⟨((selfSt w.params a d k v m.F).map (·.1)) ++ [L], [], none⟩ : XS).l = some l' → A'.frames = some l' := fun l' h => by cases h
    refine wpAny_execs_app _ ?_
    rw [hm0] at R
    refine (faA_ok w G a d L k v ts (fun _ => 0) m tv es.length).next (D := D + 1) (.c ?_ .n) hA' hD'' hF R fun _ st' s' R' => .inl ⟨rfl, ?_⟩
    · have := HDOk.lLen (D := D + 1 + 20) (s₀ := s) (X := ⟨((selfSt w.params a d k v m.F).map (·.1)) ++ [L], [], none⟩) T.list (by rw [List.length_map]; have := T.len; lia)
      rw [List.length_map] at this
      exact this
    refine wpAny_execs_app [_] (wpAny_execs_one (wpAny_While ?_))
    have R1 := Rel.cut (l := l3 w.params a d L (Sm.mk m.cur m.cu m.li 0 m.br m.ke m.p1 true) (frT w.params (faN1 a tv ⟨0, es.length, m.cu, 0, 0, false⟩)) (kTok st' 1) (vTok st' 1) (kTok st' 2) (vTok st' 2)) R'
    rw [← hm0, hmc] at R1
    refine codeAny_mono (faLoop0 hG T hA' hD'' hF hc hml hb0 rfl rfl hb' ⟨_, _, _, _, R1⟩) fun r s2 q => ?_
    obtain ⟨rfl, R2⟩ := q
    refine ⟨.next, rfl, .inl ⟨rfl, ?_⟩⟩
    refine wpAny_execs_app [_] (wpAny_execs_one (wpAny_While ?_))
    refine codeAny_mono (faChain hG T hsub hA' hD'' hF hmc hml 100 b'.i hi hch s2 R2) fun r s3 q => ?_
    obtain ⟨t, k', v', oL, rfl, R3⟩ := q
    exact ⟨_, rfl, .inr ⟨(fun h => by cases h), t, k', v', oL, rfl, R3⟩⟩
  have := hgo (A.under (.func (fnBody faF.st) (faF.env L))) hA (Nat.add_le_add_right hD' 1)
  rw [← hbd] at this
  refine wpAny_mono this (fun f s' q => ?_) fun _ _ h => h
  obtain ⟨t, k', v', oL, rfl, R3⟩ := q
  exact ⟨[(a, inO 878 d), (d, dictT w.params (outM m out) k' v')], oL, [], ⟨_, _, k', v', rfl, ⟨⟨t, rfl⟩, rfl⟩, rfl⟩, rfl, R3⟩
end Mine
end
end
section
open PySem PySem.W PyProof.Rows
set_option maxRecDepth 100000
section
namespace Mine
theorem TbOk.mk' {w : World} {G : Gs} {tv : Nat} {es : List Am} (h1 : (TKb w.params G).get tv = some ⟨.type "list", none, .seq (es.map fun e => Value.ref e.wa).toArray 0, #[]⟩)
    (h2 : (es.map fun e => (TKb w.params G).get e.wa) = es.map fun e => some (inO 218 e.wd)) (h3 : (es.map fun e => (TKb w.params G).get e.wd) = es.map fun e => some (e.dO w.params))
    (h4 : (es.all fun e => Nat.blt 0 e.s.length && Nat.ble e.s.length 100) = true) (h5 : Nat.ble es.length 100 = true) : TbOk w G tv es :=
  ⟨h1, fun e he => ⟨List.map_inj_left.mp h2 e he, List.map_inj_left.mp h3 e he⟩, fun e he => by
    have := List.all_eq_true.mp h4 e he
    obtain ⟨a, b⟩ := Bool.and_eq_true_iff.mp this
    exact ⟨Nat.le_of_ble_eq_true a, Nat.le_of_ble_eq_true b⟩, Nat.le_of_ble_eq_true h5⟩
theorem tab0_ok (w : World) (G : Gs) : TbOk w G 342 tab0 := TbOk.mk' (by kernel_rfl) (by kernel_rfl) (by kernel_rfl) (by kernel_rfl) (by kernel_rfl)
theorem tab0_sub : ∀ e ∈ tab0, e.sub < tab0.length := fun e he => of_decide_eq_true (List.all_eq_true.mp (by kernel_rfl : (tab0.all fun e => decide (e.sub < tab0.length)) = true) e he)
theorem tabP0_eq : tab0.map toE = tabP0 := by kernel_rfl
theorem tab1_ok (w : World) (G : Gs) : TbOk w G 413 tab1 := TbOk.mk' (by kernel_rfl) (by kernel_rfl) (by kernel_rfl) (by kernel_rfl) (by kernel_rfl)
theorem tab1_sub : ∀ e ∈ tab1, e.sub < tab1.length := fun e he => of_decide_eq_true (List.all_eq_true.mp (by kernel_rfl : (tab1.all fun e => decide (e.sub < tab1.length)) = true) e he)
theorem tabP1_eq : tab1.map toE = tabP1 := by kernel_rfl
theorem tab2_ok (w : World) (G : Gs) : TbOk w G 420 tab2 := TbOk.mk' (by kernel_rfl) (by kernel_rfl) (by kernel_rfl) (by kernel_rfl) (by kernel_rfl)
theorem tab2_sub : ∀ e ∈ tab2, e.sub < tab2.length := fun e he => of_decide_eq_true (List.all_eq_true.mp (by kernel_rfl : (tab2.all fun e => decide (e.sub < tab2.length)) = true) e he)
theorem tabP2_eq : tab2.map toE = tabP2 := by kernel_rfl
theorem tab3_ok (w : World) (G : Gs) : TbOk w G 553 tab3 := TbOk.mk' (by kernel_rfl) (by kernel_rfl) (by kernel_rfl) (by kernel_rfl) (by kernel_rfl)
theorem tab3_sub : ∀ e ∈ tab3, e.sub < tab3.length := fun e he => of_decide_eq_true (List.all_eq_true.mp (by kernel_rfl : (tab3.all fun e => decide (e.sub < tab3.length)) = true) e he)
theorem tabP3_eq : tab3.map toE = tabP3 := by kernel_rfl
theorem tab4_ok (w : World) (G : Gs) : TbOk w G 563 tab4 := TbOk.mk' (by kernel_rfl) (by kernel_rfl) (by kernel_rfl) (by kernel_rfl) (by kernel_rfl)
theorem tab4_sub : ∀ e ∈ tab4, e.sub < tab4.length := fun e he => of_decide_eq_true (List.all_eq_true.mp (by kernel_rfl : (tab4.all fun e => decide (e.sub < tab4.length)) = true) e he)
theorem tabP4_eq : tab4.map toE = tabP4 := by kernel_rfl
theorem tab5_ok (w : World) (G : Gs) : TbOk w G 583 tab5 := TbOk.mk' (by kernel_rfl) (by kernel_rfl) (by kernel_rfl) (by kernel_rfl) (by kernel_rfl)
theorem tab5_sub : ∀ e ∈ tab5, e.sub < tab5.length := fun e he => of_decide_eq_true (List.all_eq_true.mp (by kernel_rfl : (tab5.all fun e => decide (e.sub < tab5.length)) = true) e he)
theorem tabP5_eq : tab5.map toE = tabP5 := by kernel_rfl
theorem tab6_ok (w : World) (G : Gs) : TbOk w G 591 tab6 := TbOk.mk' (by kernel_rfl) (by kernel_rfl) (by kernel_rfl) (by kernel_rfl) (by kernel_rfl)
theorem tab6_sub : ∀ e ∈ tab6, e.sub < tab6.length := fun e he => of_decide_eq_true (List.all_eq_true.mp (by kernel_rfl : (tab6.all fun e => decide (e.sub < tab6.length)) = true) e he)
theorem tabP6_eq : tab6.map toE = tabP6 := by kernel_rfl
theorem tab7_ok (w : World) (G : Gs) : TbOk w G 613 tab7 := TbOk.mk' (by kernel_rfl) (by kernel_rfl) (by kernel_rfl) (by kernel_rfl) (by kernel_rfl)
theorem tab7_sub : ∀ e ∈ tab7, e.sub < tab7.length := fun e he => of_decide_eq_true (List.all_eq_true.mp (by kernel_rfl : (tab7.all fun e => decide (e.sub < tab7.length)) = true) e he)
theorem tabP7_eq : tab7.map toE = tabP7 := by kernel_rfl
theorem tab8_ok (w : World) (G : Gs) : TbOk w G 651 tab8 := TbOk.mk' (by kernel_rfl) (by kernel_rfl) (by kernel_rfl) (by kernel_rfl) (by kernel_rfl)
theorem tab8_sub : ∀ e ∈ tab8, e.sub < tab8.length := fun e he => of_decide_eq_true (List.all_eq_true.mp (by kernel_rfl : (tab8.all fun e => decide (e.sub < tab8.length)) = true) e he)
theorem tabP8_eq : tab8.map toE = tabP8 := by kernel_rfl
theorem tab9_ok (w : World) (G : Gs) : TbOk w G 746 tab9 := TbOk.mk' (by kernel_rfl) (by kernel_rfl) (by kernel_rfl) (by kernel_rfl) (by kernel_rfl)
theorem tab9_sub : ∀ e ∈ tab9, e.sub < tab9.length := fun e he => of_decide_eq_true (List.all_eq_true.mp (by kernel_rfl : (tab9.all fun e => decide (e.sub < tab9.length)) = true) e he)
theorem tabP9_eq : tab9.map toE = tabP9 := by kernel_rfl
theorem tab10_ok (w : World) (G : Gs) : TbOk w G 874 tab10 := TbOk.mk' (by kernel_rfl) (by kernel_rfl) (by kernel_rfl) (by kernel_rfl) (by kernel_rfl)
theorem tab10_sub : ∀ e ∈ tab10, e.sub < tab10.length := fun e he => of_decide_eq_true (List.all_eq_true.mp (by kernel_rfl : (tab10.all fun e => decide (e.sub < tab10.length)) = true) e he)
theorem tabP10_eq : tab10.map toE = tabP10 := by kernel_rfl
end Mine
end
end
section
open PySem PySem.W PyProof.Rows Builtin Builtin.Str Builtin.Int
set_option maxRecDepth 100000
section
namespace Mine
noncomputable def sOf (l : List Nat) : PySem.Str := ⟨l.toArray⟩
theorem sOf_list (l : List Nat) : (sOf l).cps.toList = l := by show l.toArray.toList = l; simp
theorem sOf_len (l : List Nat) : (sOf l).length = l.length := by show l.toArray.size = _; simp
theorem sOf_self (x : PySem.Str) : sOf x.cps.toList = x := by obtain ⟨c⟩ := x; show (⟨c.toList.toArray⟩ : PySem.Str) = _; simp
noncomputable def stm (t : List Nat) (cu br ke : Int) (p1 : Nat) : Sm := ⟨sOf t, cu, (t.length : Int), 0, br, ke, (p1 : Int), true⟩
theorem stm_F (t : List Nat) (cu br ke : Int) (p1 : Nat) : (stm t cu br ke p1).F = stm t cu br ke p1 := rfl
section
variable {w : World} {G : Gs} {D : Nat} {s₀ s : Shared} {X : XS} {st : St}
noncomputable def HD.tGet (tv : Nat) (k : Int) (x : Value) : HD := HD.bi "tuple.__getitem__" (fun q => [.ref tv, .int k (argTok q 1)]) fun _ => x
theorem HDOk.tGet {tv : Nat} {items : List Value} {n : Nat} {k : Int} {x : Value} (h : (TKb w.params G).get tv = some ⟨.type "tuple", none, .seq items.toArray n, #[]⟩) (h0 : 0 ≤ k) (hx : items[k.toNat]? = some x) (hfit : k < 2 ^ 63) : HDOk w G D s₀ X (HD.tGet tv k x) := by
  intro cc st A s hA hD hF R
  have ho := R.K tv _ h rfl
  obtain ⟨j, rfl⟩ := Int.eq_ofNat_of_zero_le h0
  have hx' : items.toArray[j]? = some x := by rw [List.getElem?_toArray]; exact hx
  have hj : j < items.toArray.size := (Array.getElem?_eq_some_iff.mp hx').1
  have hs : seqIndex? (j : Int) items.toArray.size = some j := by
    unfold seqIndex?
    have : ¬ ((j : Int) < 0) := by lia
    simp only [this, if_false]
    have h2 : ¬ ((j : Int) < 0 ∨ (j : Int) ≥ (items.toArray.size : Nat)) := by lia
    simp_all
  refine code_slot F.slot_tuple_getitem ⟨_, ho, rfl⟩ F.entry_tuple_getitem (F.args_tuple_getitem_2 _ _) (MeetsSeq.tuple_getitem_at tv items.toArray n j _ j x (by lia) hfit hs hx') ⟨ho, ?_⟩
  exact ⟨⟨fun _ => 0, fun _ _ => 0, fun _ _ => 0, fun _ => #[]⟩, rfl, R⟩
end
theorem repl_spec {w : World} {G : Gs} {D : Nat} (hD : D < 800) {t x : List Nat} {cu br ke cb ck : Int} {p1 : Nat} {T1 T2 T3 : Tok} (ht : t.length ≤ 5000) (hx : x.length ≤ 100) (h0 : 0 ≤ cb) (h1 : cb ≤ ck) (h2 : ck ≤ t.length) (h3 : cu ≤ cb) (h4 : cu < ck) :
    MSpec w G 147 D [.int cb T1, .int ck T2, .str (sOf x) T3] (stm t cu br ke p1) (fun v m' => (∃ tk : Tok, v = (fun tk => .int ((x.length : Int) - (ck - cb)) tk) tk) ∧ m' = stm (t.take cb.toNat ++ x ++ t.drop ck.toNat) cu br ke p1) := by
  have hlen : (t.take cb.toNat ++ x ++ t.drop ck.toNat).length = (t.length : Int) + (x.length - (ck - cb)) := by
    rw [List.length_append, List.length_append, List.length_take, List.length_drop]; lia
  have := mRoad.spec (kn := false) (fun a d k v => replF_ok w G a d k v (stm t cu br ke p1) (.int cb T1) (.int ck T2) (.str (sOf x) T3)) (fun a d L k v ts => repl_ok w G (stm t cu br ke p1) cb ck (sOf x) (sOf (t.take cb.toNat)) (sOf (t.take cb.toNat ++ x)) (sOf (t.drop ck.toNat)) (sOf (t.take cb.toNat ++ x ++ t.drop ck.toNat)) T1 T2 T3 a d L k v ts) (D := D) (by lia) (fun a d L s₀ l => by
    have hl : (sOf t).length = t.length := sOf_len t
    have c1 : (⟨((sOf t).cps.toList.take cb.toNat).toArray⟩ : PySem.Str) = sOf (t.take cb.toNat) := by rw [sOf_list]; rfl
    have c2 : (⟨((sOf t).cps.toList.drop ck.toNat).toArray⟩ : PySem.Str) = sOf (t.drop ck.toNat) := by rw [sOf_list]; rfl
    have a1 : ∀ y z : List Nat, sOf (y ++ z) = sOf y ++ sOf z := fun y z => by
      show (⟨(y ++ z).toArray⟩ : PySem.Str) = ⟨y.toArray ++ z.toArray⟩
      simp
    refine .c (HDOk.sLen (by rw [sOf_len]; lia)) <| .c ?_ <| .c (HDOk.sAddR (a1 _ _) (by rw [sOf_len, List.length_take]; lia) (by rw [sOf_len]; lia)) <| .c ?_ <| .c (HDOk.sAddR (a1 _ _) (by rw [sOf_len, List.length_append, List.length_take]; lia) (by rw [sOf_len, List.length_drop]; lia)) <| .c (HDOk.ge_false (by show ¬ ck ≤ cu; lia)) <| .c (HDOk.gt_false (by show ¬ cb < cu; lia)) .n
    · have := HDOk.sHead (w := w) (G := G) (D := D + 20) (s₀ := s₀) (X := XK replF a d L l false) (x := sOf t) (ix := 3) h0 (by rw [hl]; lia) (by rw [hl]; lia)
      rw [c1] at this; exact this
    · have := HDOk.sTail (w := w) (G := G) (D := D + 20) (s₀ := s₀) (X := XK replF a d L l false) (x := sOf t) (ix := 4) (b := ck) (by lia) (by rw [hl]; lia) (by rw [hl]; lia)
      rw [c2] at this; exact this)
  refine this.mono fun v m' h => ⟨?_, ?_⟩
  · obtain ⟨tk, e⟩ := h.1
    exact ⟨tk, by rw [e, sOf_len]⟩
  · rw [h.2, sOf_len]
    show Sm.mk _ _ ((t.length : Int) + ((x.length : Int) - (ck - cb))) _ _ _ _ _ = Sm.mk _ _ (((t.take cb.toNat ++ x ++ t.drop ck.toNat).length : Nat) : Int) _ _ _ _ _
    rw [hlen]; rfl
theorem sFrom_spec {w : World} {G : Gs} {D : Nat} (hD : D < 780) {t x : List Nat} {br ke : Int} {p1 : Nat} {T : Tok} (ht : t.length ≤ 5000) (hx : x.length ≤ 100) (h0 : 0 ≤ br) (h1 : br < ke) (h2 : ke ≤ t.length) :
    MSpec w G 154 D [.str (sOf x) T] (stm t br br ke p1) (fun v m' => (∃ tk : Tok, v = (fun _ => .none) tk) ∧ m' = stm (t.take br.toNat ++ x ++ t.drop ke.toNat) br br (br + x.length) p1) := by
  have hlen : (t.take br.toNat ++ x ++ t.drop ke.toNat).length = (t.length : Int) + (x.length - (ke - br)) := by
    rw [List.length_append, List.length_append, List.length_take, List.length_drop]; lia
  have := mRoad.spec (kn := false) (fun a d k v => sFromF_ok w G a d k v (stm t br br ke p1) (.str (sOf x) T)) (fun a d L k v ts => sFrom_ok w G (stm t br br ke p1) (sOf x) (sOf (t.take br.toNat ++ x ++ t.drop ke.toNat)) ((t.take br.toNat ++ x ++ t.drop ke.toNat).length : Int) ((x.length : Int) - (ke - br)) T a d L k v ts) (D := D) (by lia) (fun a d L s₀ l =>
    .c (HDOk.ge_true (by show (0 : Int) ≤ br; lia)) <| .c (HDOk.le_true (by show br ≤ ke; lia)) <| .c (HDOk.le_true (by show ke ≤ t.length; lia)) <| .c (HDOk.sLen (by show (sOf t).length ≤ _; rw [sOf_len]; lia)) <| .c (HDOk.le_true (by show (t.length : Int) ≤ (sOf t).length; rw [sOf_len]; exact Int.le_refl _)) <|
    .c (HDOk.meth (D' := D + 20) (fun q => repl_spec (by lia) ht hx h0 (by lia) h2 (Int.le_refl _) h1) (Nat.le_refl _)) <| .c (HDOk.sLen (by rw [sOf_len]; lia)) .n)
  refine this.mono fun v m' h => ⟨h.1, ?_⟩
  rw [h.2]
  show Sm.mk _ _ _ _ _ _ _ _ = Sm.mk _ _ _ _ _ _ _ _
  rw [sOf_len]
  rfl
theorem sDel_spec {w : World} {G : Gs} {D : Nat} (hD : D < 760) {t : List Nat} {br ke : Int} {p1 : Nat} (ht : t.length ≤ 5000) (h0 : 0 ≤ br) (h1 : br < ke) (h2 : ke ≤ t.length) :
    MSpec w G 161 D [] (stm t br br ke p1) (fun v m' => (∃ tk : Tok, v = (fun _ => .none) tk) ∧ m' = stm (t.take br.toNat ++ t.drop ke.toNat) br br br p1) := by
  have := mRoad.spec (kn := false) (fun a d k v => sDelF_ok w G a d k v (stm t br br ke p1)) (fun a d L k v ts => sDel_ok w G (stm t br br ke p1) (stm (t.take br.toNat ++ t.drop ke.toNat) br br br p1) a d L k v ts) (D := D) (by lia) (fun a d L s₀ l =>
    .c (HDOk.meth (D' := D + 20) (fun q => by
      have := sFrom_spec (w := w) (G := G) (D := D + 20) (by lia) (t := t) (x := []) (br := br) (ke := ke) (p1 := p1) (T := argTok q 1) ht (by simp) h0 h1 h2
      simp only [List.append_nil, List.length_nil, Int.ofNat_zero, Int.add_zero] at this
      exact this) (Nat.le_refl _)) .n)
  exact this
end Mine
end
end
section
open PySem PySem.W PyProof.Rows
set_option maxRecDepth 100000
set_option maxHeartbeats 0
section
namespace Mine
noncomputable def vEndF : Fn := ⟨251, fnAt 6 (some 4), "HungarianStemmer.r_v_ending", 250, (sv "snowballstemmer.hungarian_stemmer" 459), ["self"]⟩
noncomputable def cSpecF : Fn := ⟨286, fnAt 6 (some 9), "HungarianStemmer.r_case_special", 285, (sv "snowballstemmer.hungarian_stemmer" 459), ["self"]⟩
noncomputable def cOthF : Fn := ⟨293, fnAt 6 (some 10), "HungarianStemmer.r_case_other", 292, (sv "snowballstemmer.hungarian_stemmer" 459), ["self"]⟩
noncomputable def plurF : Fn := ⟨307, fnAt 6 (some 12), "HungarianStemmer.r_plural", 306, (sv "snowballstemmer.hungarian_stemmer" 459), ["self"]⟩
noncomputable def ownedF : Fn := ⟨314, fnAt 6 (some 13), "HungarianStemmer.r_owned", 313, (sv "snowballstemmer.hungarian_stemmer" 459), ["self"]⟩
noncomputable def sOwnF : Fn := ⟨321, fnAt 6 (some 14), "HungarianStemmer.r_sing_owner", 320, (sv "snowballstemmer.hungarian_stemmer" 459), ["self"]⟩
noncomputable def pOwnF : Fn := ⟨328, fnAt 6 (some 15), "HungarianStemmer.r_plur_owner", 327, (sv "snowballstemmer.hungarian_stemmer" 459), ["self"]⟩
noncomputable def rCaseF : Fn := ⟨279, fnAt 6 (some 8), "HungarianStemmer.r_case", 278, (sv "snowballstemmer.hungarian_stemmer" 459), ["self"]⟩
noncomputable def instrF : Fn := ⟨272, fnAt 6 (some 7), "HungarianStemmer.r_instrum", 271, (sv "snowballstemmer.hungarian_stemmer" 459), ["self"]⟩
noncomputable def factF : Fn := ⟨300, fnAt 6 (some 11), "HungarianStemmer.r_factive", 299, (sv "snowballstemmer.hungarian_stemmer" 459), ["self"]⟩
noncomputable def dblF : Fn := ⟨258, fnAt 6 (some 5), "HungarianStemmer.r_double", 257, (sv "snowballstemmer.hungarian_stemmer" 459), ["self"]⟩
noncomputable def undbF : Fn := ⟨265, fnAt 6 (some 6), "HungarianStemmer.r_undouble", 264, (sv "snowballstemmer.hungarian_stemmer" 459), ["self"]⟩
noncomputable def sb0 (F : Fn) (tv : Nat) (w : World) (G : Gs) (t : List Nat) (cu br ke : Int) (p1 : Nat) := mRoad F w G [] (stm t cu br ke p1) (stm t cu br cu p1) (fun _ => .bool false) (fun a d L => [HD.meth w.params 140 a d (fun q => [.ref tv]) (stm t cu br cu p1) (fun t' => .int 0 t') (stm t cu br cu p1), HD.cmp "int.__eq__" 0 0 true]) [3,1,0,0,0,0,0,0,1,0,0,0,0,0,1,1,0,2,3,1,0,0,0,0,0,0,1,0,1,0,1,0,0,0,0,0,1,0,2,2,2,3,1,0,0,0,0,0,1,0,0,0,0,0,1,0,0,0,0,0,0,1,2,0,0,0,0,0,0,0,0,0,0,0,0,1,3,3,3,1]
noncomputable def sbn (F : Fn) (tv : Nat) (w : World) (G : Gs) (t : List Nat) (cu br ke : Int) (p1 : Nat) (av c2 : Int) := mRoad F w G [] (stm t cu br ke p1) (stm t c2 c2 cu p1) (fun _ => .bool false) (fun a d L => [HD.meth w.params 140 a d (fun q => [.ref tv]) (stm t cu br cu p1) (fun t' => .int av t') (stm t c2 br cu p1), HD.cmp "int.__eq__" av 0 false, HD.meth w.params 244 a d (fun q => []) (stm t c2 c2 cu p1) (fun _ => .bool false) (stm t c2 c2 cu p1)]) [3,1,0,0,0,0,0,0,1,0,0,0,0,0,1,1,0,2,3,1,0,0,0,0,0,0,1,0,1,0,1,0,0,0,0,0,1,0,2,2,2,3,1,0,0,0,0,0,1,0,0,0,0,0,1,0,0,0,0,0,0,1,2,0,0,0,0,0,0,0,0,0,0,0,0,1,3,3,3,1,3,1,0,0,0,0,0,0,1,0,0,0,0,0,1,1,0,2,3,1,0,0,0,0,0,0,1,0,1,0,1,0,0,0,0,0,1,0,2,2,2,3,1,0,0,0,0,0,1,0,0,0,0,0,1,0,0,0,0,1,2,0,1]
noncomputable def sby (F : Fn) (tv : Nat) (ta : Nat) (w : World) (G : Gs) (t : List Nat) (cu br ke : Int) (p1 : Nat) (av c2 : Int) (x : PySem.Str) (xt : Tok) (m4 : Sm) := mRoad F w G [] (stm t cu br ke p1) m4.F (fun _ => .bool true) (fun a d L => [HD.meth w.params 140 a d (fun q => [.ref tv]) (stm t cu br cu p1) (fun t' => .int av t') (stm t c2 br cu p1), HD.cmp "int.__eq__" av 0 false, HD.meth w.params 244 a d (fun q => []) (stm t c2 c2 cu p1) (fun _ => .bool true) (stm t c2 c2 cu p1), HD.tGet ta (av - 1) (.str x xt), HD.meth w.params 154 a d (fun q => [.str x (argTok q 1)]) (stm t c2 c2 cu p1) (fun _ => .none) m4.F]) [3,1,0,0,0,0,0,0,1,0,0,0,0,0,1,1,0,2,3,1,0,0,0,0,0,0,1,0,1,0,1,0,0,0,0,0,1,0,2,2,2,3,1,0,0,0,0,0,1,0,0,0,0,0,1,0,0,0,0,0,0,1,2,0,0,0,0,0,0,0,0,0,0,0,0,1,3,3,3,1,3,1,0,0,0,0,0,0,1,0,0,0,0,0,1,1,0,2,3,1,0,0,0,0,0,0,1,0,1,0,1,0,0,0,0,0,1,0,2,2,2,3,1,0,0,0,0,0,1,0,0,0,0,0,1,0,0,0,0,1,2,0,1,3,1,0,0,0,0,0,1,0,0,0,0,0,1,0,0,0,0,0,0,1,2,0,0,0,0,0,0,0,0,0,0,0,3,0,0,0,0,1,0,0,1]
noncomputable def rCase_0 (w : World) (G : Gs) (t : List Nat) (cu br ke : Int) (p1 : Nat) := mRoad rCaseF w G [] (stm t cu br ke p1) (stm t cu br cu p1) (fun _ => .bool false) (fun a d L => [HD.meth w.params 140 a d (fun q => [.ref 553]) (stm t cu br cu p1) (fun t' => .int 0 t') (stm t cu br cu p1), HD.cmp "int.__eq__" 0 0 true]) [3,1,0,0,0,0,0,0,1,0,0,0,0,0,1,1,0,2,3,1,0,0,0,0,0,0,1,0,1,0,1,0,0,0,0,0,1,0,2,2,2,3,1,0,0,0,0,0,1,0,0,0,0,0,1,0,0,0,0,0,0,1,2,0,0,0,0,0,0,0,0,0,0,0,0,1,1]
noncomputable def rCase_n (w : World) (G : Gs) (t : List Nat) (cu br ke : Int) (p1 : Nat) (av c2 : Int) := mRoad rCaseF w G [] (stm t cu br ke p1) (stm t c2 c2 cu p1) (fun _ => .bool false) (fun a d L => [HD.meth w.params 140 a d (fun q => [.ref 553]) (stm t cu br cu p1) (fun t' => .int av t') (stm t c2 br cu p1), HD.cmp "int.__eq__" av 0 false, HD.meth w.params 244 a d (fun q => []) (stm t c2 c2 cu p1) (fun _ => .bool false) (stm t c2 c2 cu p1)]) [3,1,0,0,0,0,0,0,1,0,0,0,0,0,1,1,0,2,3,1,0,0,0,0,0,0,1,0,1,0,1,0,0,0,0,0,1,0,2,2,2,3,1,0,0,0,0,0,1,0,0,0,0,0,1,0,0,0,0,0,0,1,2,0,0,0,0,0,0,0,0,0,0,0,0,1,1,3,1,0,0,0,0,0,0,1,0,0,0,0,0,1,1,0,2,3,1,0,0,0,0,0,0,1,0,1,0,1,0,0,0,0,0,1,0,2,2,2,3,1,0,0,0,0,0,1,0,0,0,0,0,1,0,0,0,0,1,2,0,1]
noncomputable def rCase_y (w : World) (G : Gs) (t : List Nat) (cu br ke : Int) (p1 : Nat) (av c2 : Int) (m4 m5 : Sm) (b : Bool) := mRoad rCaseF w G [] (stm t cu br ke p1) m5.F (fun _ => .bool b) (fun a d L => [HD.meth w.params 140 a d (fun q => [.ref 553]) (stm t cu br cu p1) (fun t' => .int av t') (stm t c2 br cu p1), HD.cmp "int.__eq__" av 0 false, HD.meth w.params 244 a d (fun q => []) (stm t c2 c2 cu p1) (fun _ => .bool true) (stm t c2 c2 cu p1), HD.meth w.params 161 a d (fun q => []) (stm t c2 c2 cu p1) (fun _ => .none) m4.F, HD.meth w.params 251 a d (fun q => []) m4.F (fun _ => .bool b) m5.F]) [3,1,0,0,0,0,0,0,1,0,0,0,0,0,1,1,0,2,3,1,0,0,0,0,0,0,1,0,1,0,1,0,0,0,0,0,1,0,2,2,2,3,1,0,0,0,0,0,1,0,0,0,0,0,1,0,0,0,0,0,0,1,2,0,0,0,0,0,0,0,0,0,0,0,0,1,1,3,1,0,0,0,0,0,0,1,0,0,0,0,0,1,1,0,2,3,1,0,0,0,0,0,0,1,0,1,0,1,0,0,0,0,0,1,0,2,2,2,3,1,0,0,0,0,0,1,0,0,0,0,0,1,0,0,0,0,1,2,0,1,3,1,0,0,0,0,0,1,0,0,0,0,0,1,0,0,0,0,0,0,1,2,0,1,3,1,0,0,0,0,0,1,0,0,0,0,0,1,0,0,0,0,1,2,0,1]
noncomputable def in0 (F : Fn) (tv : Nat) (w : World) (G : Gs) (t : List Nat) (cu br ke : Int) (p1 : Nat) := mRoad F w G [] (stm t cu br ke p1) (stm t cu br cu p1) (fun _ => .bool false) (fun a d L => [HD.meth w.params 140 a d (fun q => [.ref tv]) (stm t cu br cu p1) (fun t' => .int 0 t') (stm t cu br cu p1), HD.cmp "int.__eq__" 0 0 true]) [3,1,0,0,0,0,0,0,1,0,0,0,0,0,1,1,0,2,3,1,0,0,0,0,0,0,1,0,1,0,1,0,0,0,0,0,1,0,2,2,2,3,1,0,0,0,0,0,1,0,0,0,0,0,1,0,0,0,0,0,0,1,2,0,0,0,0,0,0,0,0,0,0,0,0,1,1]
noncomputable def inn (F : Fn) (tv : Nat) (w : World) (G : Gs) (t : List Nat) (cu br ke : Int) (p1 : Nat) (av c2 : Int) := mRoad F w G [] (stm t cu br ke p1) (stm t c2 c2 cu p1) (fun _ => .bool false) (fun a d L => [HD.meth w.params 140 a d (fun q => [.ref tv]) (stm t cu br cu p1) (fun t' => .int av t') (stm t c2 br cu p1), HD.cmp "int.__eq__" av 0 false, HD.meth w.params 244 a d (fun q => []) (stm t c2 c2 cu p1) (fun _ => .bool false) (stm t c2 c2 cu p1)]) [3,1,0,0,0,0,0,0,1,0,0,0,0,0,1,1,0,2,3,1,0,0,0,0,0,0,1,0,1,0,1,0,0,0,0,0,1,0,2,2,2,3,1,0,0,0,0,0,1,0,0,0,0,0,1,0,0,0,0,0,0,1,2,0,0,0,0,0,0,0,0,0,0,0,0,1,1,3,1,0,0,0,0,0,0,1,0,0,0,0,0,1,1,0,2,3,1,0,0,0,0,0,0,1,0,1,0,1,0,0,0,0,0,1,0,2,2,2,3,1,0,0,0,0,0,1,0,0,0,0,0,1,0,0,0,0,1,2,0,1]
noncomputable def ind (F : Fn) (tv : Nat) (w : World) (G : Gs) (t : List Nat) (cu br ke : Int) (p1 : Nat) (av c2 : Int) (m3 : Sm) := mRoad F w G [] (stm t cu br ke p1) m3.F (fun _ => .bool false) (fun a d L => [HD.meth w.params 140 a d (fun q => [.ref tv]) (stm t cu br cu p1) (fun t' => .int av t') (stm t c2 br cu p1), HD.cmp "int.__eq__" av 0 false, HD.meth w.params 244 a d (fun q => []) (stm t c2 c2 cu p1) (fun _ => .bool true) (stm t c2 c2 cu p1), HD.meth w.params 258 a d (fun q => []) (stm t c2 c2 cu p1) (fun _ => .bool false) m3.F]) [3,1,0,0,0,0,0,0,1,0,0,0,0,0,1,1,0,2,3,1,0,0,0,0,0,0,1,0,1,0,1,0,0,0,0,0,1,0,2,2,2,3,1,0,0,0,0,0,1,0,0,0,0,0,1,0,0,0,0,0,0,1,2,0,0,0,0,0,0,0,0,0,0,0,0,1,1,3,1,0,0,0,0,0,0,1,0,0,0,0,0,1,1,0,2,3,1,0,0,0,0,0,0,1,0,1,0,1,0,0,0,0,0,1,0,2,2,2,3,1,0,0,0,0,0,1,0,0,0,0,0,1,0,0,0,0,1,2,0,1,3,1,0,0,0,0,0,1,0,0,0,0,0,1,0,0,0,0,1,2,0,1]
noncomputable def iny (F : Fn) (tv : Nat) (w : World) (G : Gs) (t : List Nat) (cu br ke : Int) (p1 : Nat) (av c2 : Int) (m3 m4 m5 : Sm) (b : Bool) := mRoad F w G [] (stm t cu br ke p1) m5.F (fun _ => .bool b) (fun a d L => [HD.meth w.params 140 a d (fun q => [.ref tv]) (stm t cu br cu p1) (fun t' => .int av t') (stm t c2 br cu p1), HD.cmp "int.__eq__" av 0 false, HD.meth w.params 244 a d (fun q => []) (stm t c2 c2 cu p1) (fun _ => .bool true) (stm t c2 c2 cu p1), HD.meth w.params 258 a d (fun q => []) (stm t c2 c2 cu p1) (fun _ => .bool true) m3.F, HD.meth w.params 161 a d (fun q => []) m3.F (fun _ => .none) m4.F, HD.meth w.params 265 a d (fun q => []) m4.F (fun _ => .bool b) m5.F]) [3,1,0,0,0,0,0,0,1,0,0,0,0,0,1,1,0,2,3,1,0,0,0,0,0,0,1,0,1,0,1,0,0,0,0,0,1,0,2,2,2,3,1,0,0,0,0,0,1,0,0,0,0,0,1,0,0,0,0,0,0,1,2,0,0,0,0,0,0,0,0,0,0,0,0,1,1,3,1,0,0,0,0,0,0,1,0,0,0,0,0,1,1,0,2,3,1,0,0,0,0,0,0,1,0,1,0,1,0,0,0,0,0,1,0,2,2,2,3,1,0,0,0,0,0,1,0,0,0,0,0,1,0,0,0,0,1,2,0,1,3,1,0,0,0,0,0,1,0,0,0,0,0,1,0,0,0,0,1,2,0,1,3,1,0,0,0,0,0,1,0,0,0,0,0,1,0,0,0,0,0,0,1,2,0,1,3,1,0,0,0,0,0,1,0,0,0,0,0,1,0,0,0,0,1,2,0,1]
noncomputable def dbl_0 (w : World) (G : Gs) (t : List Nat) (cu br ke : Int) (p1 : Nat) := mRoad dblF w G [] (stm t cu br ke p1) (stm t cu br ke p1) (fun _ => .bool false) (fun a d L => [HD.meth w.params 140 a d (fun q => [.ref 413]) (stm t cu br ke p1) (fun t' => .int 0 t') (stm t cu br ke p1), HD.cmp "int.__eq__" 0 0 true]) [3,1,0,0,0,0,0,0,1,0,0,0,0,0,1,1,0,2,3,1,0,0,0,0,0,0,1,0,0,0,0,0,1,1,0,2,0,3,3,3,1,0,0,0,0,0,1,0,0,0,0,0,1,0,0,0,0,0,0,1,2,0,0,0,0,0,0,0,0,0,0,0,0,1,1]
noncomputable def dbl_y (w : World) (G : Gs) (t : List Nat) (cu br ke : Int) (p1 : Nat) (av c2 : Int) := mRoad dblF w G [] (stm t cu br ke p1) (stm t ((t.length : Int) - ((t.length : Int) - cu)) br ke p1) (fun _ => .bool true) (fun a d L => [HD.meth w.params 140 a d (fun q => [.ref 413]) (stm t cu br ke p1) (fun t' => .int av t') (stm t c2 br ke p1), HD.cmp "int.__eq__" av 0 false]) [3,1,0,0,0,0,0,0,1,0,0,0,0,0,1,1,0,2,3,1,0,0,0,0,0,0,1,0,0,0,0,0,1,1,0,2,0,3,3,3,1,0,0,0,0,0,1,0,0,0,0,0,1,0,0,0,0,0,0,1,2,0,0,0,0,0,0,0,0,0,0,0,0,1,1,3,1,0,0,0,0,0,0,1,0,0,0,0,0,1,1,0,2,3,0,3,1,0,0,0,0,0,0,1,0,1,0,1,0,0,0,0,0,1,0,2,2,2]
noncomputable def undb_y (w : World) (G : Gs) (t : List Nat) (cu br ke : Int) (p1 : Nat) (m4 : Sm) := mRoad undbF w G [] (stm t cu br ke p1) m4.F (fun _ => .bool true) (fun a d L => [HD.cmp "int.__le__" cu 0 false, HD.cmp "int.__le__" (cu - 1) 0 false, HD.meth w.params 161 a d (fun q => []) (stm t (cu - 1 - 1) (cu - 1 - 1) (cu - 1) p1) (fun _ => .none) m4.F]) [3,1,0,0,0,0,0,0,1,0,0,0,0,0,1,1,0,2,3,1,0,0,0,0,0,0,1,0,0,0,0,0,1,1,0,2,1,3,1,0,0,0,0,0,0,1,0,0,0,0,0,1,1,0,2,0,1,0,0,0,0,0,0,1,0,1,0,1,0,0,0,0,0,1,0,2,2,2,3,1,0,0,0,0,0,0,1,0,0,0,0,0,1,1,0,2,3,1,0,0,0,0,0,0,1,0,1,0,1,0,0,0,0,0,1,0,2,2,2,3,1,0,0,0,0,0,0,1,0,0,0,0,0,1,1,0,2,3,1,0,0,0,0,0,0,1,0,0,0,0,0,1,1,0,2,1,3,1,0,0,0,0,0,0,1,0,0,0,0,0,1,1,0,2,0,1,0,0,0,0,0,0,1,0,1,0,1,0,0,0,0,0,1,0,2,2,2,3,1,0,0,0,0,0,0,1,0,0,0,0,0,1,1,0,2,3,1,0,0,0,0,0,0,1,0,1,0,1,0,0,0,0,0,1,0,2,2,2,3,1,0,0,0,0,0,1,0,0,0,0,0,1,0,0,0,0,0,0,1,2,0,1]
theorem vEndF_ok (w : World) (G : Gs) (a d : Nat) (k v : Nat → Tok) (m : Sm)  : vEndF.Ok w G [3,3] (selfSt w.params a d k v m) [.ref a] := okN (FnAt.mk' (sv "snowballstemmer.hungarian_stemmer" 459) (by kernel_rfl) (by kernel_rfl) (by kernel_rfl) (by kernel_rfl)) (by kernel_rfl) (fun pm => by kernel_rfl) (by kernel_rfl)
theorem cSpecF_ok (w : World) (G : Gs) (a d : Nat) (k v : Nat → Tok) (m : Sm)  : cSpecF.Ok w G [3,3] (selfSt w.params a d k v m) [.ref a] := okN (FnAt.mk' (sv "snowballstemmer.hungarian_stemmer" 459) (by kernel_rfl) (by kernel_rfl) (by kernel_rfl) (by kernel_rfl)) (by kernel_rfl) (fun pm => by kernel_rfl) (by kernel_rfl)
theorem cOthF_ok (w : World) (G : Gs) (a d : Nat) (k v : Nat → Tok) (m : Sm)  : cOthF.Ok w G [3,3] (selfSt w.params a d k v m) [.ref a] := okN (FnAt.mk' (sv "snowballstemmer.hungarian_stemmer" 459) (by kernel_rfl) (by kernel_rfl) (by kernel_rfl) (by kernel_rfl)) (by kernel_rfl) (fun pm => by kernel_rfl) (by kernel_rfl)
theorem plurF_ok (w : World) (G : Gs) (a d : Nat) (k v : Nat → Tok) (m : Sm)  : plurF.Ok w G [3,3] (selfSt w.params a d k v m) [.ref a] := okN (FnAt.mk' (sv "snowballstemmer.hungarian_stemmer" 459) (by kernel_rfl) (by kernel_rfl) (by kernel_rfl) (by kernel_rfl)) (by kernel_rfl) (fun pm => by kernel_rfl) (by kernel_rfl)
theorem ownedF_ok (w : World) (G : Gs) (a d : Nat) (k v : Nat → Tok) (m : Sm)  : ownedF.Ok w G [3,3] (selfSt w.params a d k v m) [.ref a] := okN (FnAt.mk' (sv "snowballstemmer.hungarian_stemmer" 459) (by kernel_rfl) (by kernel_rfl) (by kernel_rfl) (by kernel_rfl)) (by kernel_rfl) (fun pm => by kernel_rfl) (by kernel_rfl)
theorem sOwnF_ok (w : World) (G : Gs) (a d : Nat) (k v : Nat → Tok) (m : Sm)  : sOwnF.Ok w G [3,3] (selfSt w.params a d k v m) [.ref a] := okN (FnAt.mk' (sv "snowballstemmer.hungarian_stemmer" 459) (by kernel_rfl) (by kernel_rfl) (by kernel_rfl) (by kernel_rfl)) (by kernel_rfl) (fun pm => by kernel_rfl) (by kernel_rfl)
theorem pOwnF_ok (w : World) (G : Gs) (a d : Nat) (k v : Nat → Tok) (m : Sm)  : pOwnF.Ok w G [3,3] (selfSt w.params a d k v m) [.ref a] := okN (FnAt.mk' (sv "snowballstemmer.hungarian_stemmer" 459) (by kernel_rfl) (by kernel_rfl) (by kernel_rfl) (by kernel_rfl)) (by kernel_rfl) (fun pm => by kernel_rfl) (by kernel_rfl)
theorem rCaseF_ok (w : World) (G : Gs) (a d : Nat) (k v : Nat → Tok) (m : Sm)  : rCaseF.Ok w G [3,3] (selfSt w.params a d k v m) [.ref a] := okN (FnAt.mk' (sv "snowballstemmer.hungarian_stemmer" 459) (by kernel_rfl) (by kernel_rfl) (by kernel_rfl) (by kernel_rfl)) (by kernel_rfl) (fun pm => by kernel_rfl) (by kernel_rfl)
theorem instrF_ok (w : World) (G : Gs) (a d : Nat) (k v : Nat → Tok) (m : Sm)  : instrF.Ok w G [3,3] (selfSt w.params a d k v m) [.ref a] := okN (FnAt.mk' (sv "snowballstemmer.hungarian_stemmer" 459) (by kernel_rfl) (by kernel_rfl) (by kernel_rfl) (by kernel_rfl)) (by kernel_rfl) (fun pm => by kernel_rfl) (by kernel_rfl)
theorem factF_ok (w : World) (G : Gs) (a d : Nat) (k v : Nat → Tok) (m : Sm)  : factF.Ok w G [3,3] (selfSt w.params a d k v m) [.ref a] := okN (FnAt.mk' (sv "snowballstemmer.hungarian_stemmer" 459) (by kernel_rfl) (by kernel_rfl) (by kernel_rfl) (by kernel_rfl)) (by kernel_rfl) (fun pm => by kernel_rfl) (by kernel_rfl)
theorem dblF_ok (w : World) (G : Gs) (a d : Nat) (k v : Nat → Tok) (m : Sm)  : dblF.Ok w G [3,3] (selfSt w.params a d k v m) [.ref a] := okN (FnAt.mk' (sv "snowballstemmer.hungarian_stemmer" 459) (by kernel_rfl) (by kernel_rfl) (by kernel_rfl) (by kernel_rfl)) (by kernel_rfl) (fun pm => by kernel_rfl) (by kernel_rfl)
theorem undbF_ok (w : World) (G : Gs) (a d : Nat) (k v : Nat → Tok) (m : Sm)  : undbF.Ok w G [3,3] (selfSt w.params a d k v m) [.ref a] := okN (FnAt.mk' (sv "snowballstemmer.hungarian_stemmer" 459) (by kernel_rfl) (by kernel_rfl) (by kernel_rfl) (by kernel_rfl)) (by kernel_rfl) (fun pm => by kernel_rfl) (by kernel_rfl)
theorem vEnd_0_ok (w : World) (G : Gs) (t : List Nat) (cu br ke : Int) (p1 : Nat) (a d L : Nat) (k v ts : Nat → Tok) : (sb0 vEndF 342 w G t cu br ke p1 a d L k v ts).Ok w := okC (S := fun w => sb0 vEndF 342 w G t cu br ke p1 a d L k v ts) (by kernel_rfl) (by kernel_rfl) w
theorem vEnd_n_ok (w : World) (G : Gs) (t : List Nat) (cu br ke : Int) (p1 : Nat) (av c2 : Int) (a d L : Nat) (k v ts : Nat → Tok) : (sbn vEndF 342 w G t cu br ke p1 av c2 a d L k v ts).Ok w := okC (S := fun w => sbn vEndF 342 w G t cu br ke p1 av c2 a d L k v ts) (by kernel_rfl) (by kernel_rfl) w
theorem vEnd_y_ok (w : World) (G : Gs) (t : List Nat) (cu br ke : Int) (p1 : Nat) (av c2 : Int) (x : PySem.Str) (xt : Tok) (m4 : Sm) (a d L : Nat) (k v ts : Nat → Tok) : (sby vEndF 342 343 w G t cu br ke p1 av c2 x xt m4 a d L k v ts).Ok w := okC (S := fun w => sby vEndF 342 343 w G t cu br ke p1 av c2 x xt m4 a d L k v ts) (by kernel_rfl) (by kernel_rfl) w
theorem cSpec_0_ok (w : World) (G : Gs) (t : List Nat) (cu br ke : Int) (p1 : Nat) (a d L : Nat) (k v ts : Nat → Tok) : (sb0 cSpecF 563 w G t cu br ke p1 a d L k v ts).Ok w := okC (S := fun w => sb0 cSpecF 563 w G t cu br ke p1 a d L k v ts) (by kernel_rfl) (by kernel_rfl) w
theorem cSpec_n_ok (w : World) (G : Gs) (t : List Nat) (cu br ke : Int) (p1 : Nat) (av c2 : Int) (a d L : Nat) (k v ts : Nat → Tok) : (sbn cSpecF 563 w G t cu br ke p1 av c2 a d L k v ts).Ok w := okC (S := fun w => sbn cSpecF 563 w G t cu br ke p1 av c2 a d L k v ts) (by kernel_rfl) (by kernel_rfl) w
theorem cSpec_y_ok (w : World) (G : Gs) (t : List Nat) (cu br ke : Int) (p1 : Nat) (av c2 : Int) (x : PySem.Str) (xt : Tok) (m4 : Sm) (a d L : Nat) (k v ts : Nat → Tok) : (sby cSpecF 563 564 w G t cu br ke p1 av c2 x xt m4 a d L k v ts).Ok w := okC (S := fun w => sby cSpecF 563 564 w G t cu br ke p1 av c2 x xt m4 a d L k v ts) (by kernel_rfl) (by kernel_rfl) w
theorem cOth_0_ok (w : World) (G : Gs) (t : List Nat) (cu br ke : Int) (p1 : Nat) (a d L : Nat) (k v ts : Nat → Tok) : (sb0 cOthF 583 w G t cu br ke p1 a d L k v ts).Ok w := okC (S := fun w => sb0 cOthF 583 w G t cu br ke p1 a d L k v ts) (by kernel_rfl) (by kernel_rfl) w
theorem cOth_n_ok (w : World) (G : Gs) (t : List Nat) (cu br ke : Int) (p1 : Nat) (av c2 : Int) (a d L : Nat) (k v ts : Nat → Tok) : (sbn cOthF 583 w G t cu br ke p1 av c2 a d L k v ts).Ok w := okC (S := fun w => sbn cOthF 583 w G t cu br ke p1 av c2 a d L k v ts) (by kernel_rfl) (by kernel_rfl) w
theorem cOth_y_ok (w : World) (G : Gs) (t : List Nat) (cu br ke : Int) (p1 : Nat) (av c2 : Int) (x : PySem.Str) (xt : Tok) (m4 : Sm) (a d L : Nat) (k v ts : Nat → Tok) : (sby cOthF 583 584 w G t cu br ke p1 av c2 x xt m4 a d L k v ts).Ok w := okC (S := fun w => sby cOthF 583 584 w G t cu br ke p1 av c2 x xt m4 a d L k v ts) (by kernel_rfl) (by kernel_rfl) w
theorem plur_0_ok (w : World) (G : Gs) (t : List Nat) (cu br ke : Int) (p1 : Nat) (a d L : Nat) (k v ts : Nat → Tok) : (sb0 plurF 613 w G t cu br ke p1 a d L k v ts).Ok w := okC (S := fun w => sb0 plurF 613 w G t cu br ke p1 a d L k v ts) (by kernel_rfl) (by kernel_rfl) w
theorem plur_n_ok (w : World) (G : Gs) (t : List Nat) (cu br ke : Int) (p1 : Nat) (av c2 : Int) (a d L : Nat) (k v ts : Nat → Tok) : (sbn plurF 613 w G t cu br ke p1 av c2 a d L k v ts).Ok w := okC (S := fun w => sbn plurF 613 w G t cu br ke p1 av c2 a d L k v ts) (by kernel_rfl) (by kernel_rfl) w
theorem plur_y_ok (w : World) (G : Gs) (t : List Nat) (cu br ke : Int) (p1 : Nat) (av c2 : Int) (x : PySem.Str) (xt : Tok) (m4 : Sm) (a d L : Nat) (k v ts : Nat → Tok) : (sby plurF 613 614 w G t cu br ke p1 av c2 x xt m4 a d L k v ts).Ok w := okC (S := fun w => sby plurF 613 614 w G t cu br ke p1 av c2 x xt m4 a d L k v ts) (by kernel_rfl) (by kernel_rfl) w
theorem owned_0_ok (w : World) (G : Gs) (t : List Nat) (cu br ke : Int) (p1 : Nat) (a d L : Nat) (k v ts : Nat → Tok) : (sb0 ownedF 651 w G t cu br ke p1 a d L k v ts).Ok w := okC (S := fun w => sb0 ownedF 651 w G t cu br ke p1 a d L k v ts) (by kernel_rfl) (by kernel_rfl) w
theorem owned_n_ok (w : World) (G : Gs) (t : List Nat) (cu br ke : Int) (p1 : Nat) (av c2 : Int) (a d L : Nat) (k v ts : Nat → Tok) : (sbn ownedF 651 w G t cu br ke p1 av c2 a d L k v ts).Ok w := okC (S := fun w => sbn ownedF 651 w G t cu br ke p1 av c2 a d L k v ts) (by kernel_rfl) (by kernel_rfl) w
theorem owned_y_ok (w : World) (G : Gs) (t : List Nat) (cu br ke : Int) (p1 : Nat) (av c2 : Int) (x : PySem.Str) (xt : Tok) (m4 : Sm) (a d L : Nat) (k v ts : Nat → Tok) : (sby ownedF 651 652 w G t cu br ke p1 av c2 x xt m4 a d L k v ts).Ok w := okC (S := fun w => sby ownedF 651 652 w G t cu br ke p1 av c2 x xt m4 a d L k v ts) (by kernel_rfl) (by kernel_rfl) w
theorem sOwn_0_ok (w : World) (G : Gs) (t : List Nat) (cu br ke : Int) (p1 : Nat) (a d L : Nat) (k v ts : Nat → Tok) : (sb0 sOwnF 746 w G t cu br ke p1 a d L k v ts).Ok w := okC (S := fun w => sb0 sOwnF 746 w G t cu br ke p1 a d L k v ts) (by kernel_rfl) (by kernel_rfl) w
theorem sOwn_n_ok (w : World) (G : Gs) (t : List Nat) (cu br ke : Int) (p1 : Nat) (av c2 : Int) (a d L : Nat) (k v ts : Nat → Tok) : (sbn sOwnF 746 w G t cu br ke p1 av c2 a d L k v ts).Ok w := okC (S := fun w => sbn sOwnF 746 w G t cu br ke p1 av c2 a d L k v ts) (by kernel_rfl) (by kernel_rfl) w
theorem sOwn_y_ok (w : World) (G : Gs) (t : List Nat) (cu br ke : Int) (p1 : Nat) (av c2 : Int) (x : PySem.Str) (xt : Tok) (m4 : Sm) (a d L : Nat) (k v ts : Nat → Tok) : (sby sOwnF 746 747 w G t cu br ke p1 av c2 x xt m4 a d L k v ts).Ok w := okC (S := fun w => sby sOwnF 746 747 w G t cu br ke p1 av c2 x xt m4 a d L k v ts) (by kernel_rfl) (by kernel_rfl) w
theorem pOwn_0_ok (w : World) (G : Gs) (t : List Nat) (cu br ke : Int) (p1 : Nat) (a d L : Nat) (k v ts : Nat → Tok) : (sb0 pOwnF 874 w G t cu br ke p1 a d L k v ts).Ok w := okC (S := fun w => sb0 pOwnF 874 w G t cu br ke p1 a d L k v ts) (by kernel_rfl) (by kernel_rfl) w
theorem pOwn_n_ok (w : World) (G : Gs) (t : List Nat) (cu br ke : Int) (p1 : Nat) (av c2 : Int) (a d L : Nat) (k v ts : Nat → Tok) : (sbn pOwnF 874 w G t cu br ke p1 av c2 a d L k v ts).Ok w := okC (S := fun w => sbn pOwnF 874 w G t cu br ke p1 av c2 a d L k v ts) (by kernel_rfl) (by kernel_rfl) w
theorem pOwn_y_ok (w : World) (G : Gs) (t : List Nat) (cu br ke : Int) (p1 : Nat) (av c2 : Int) (x : PySem.Str) (xt : Tok) (m4 : Sm) (a d L : Nat) (k v ts : Nat → Tok) : (sby pOwnF 874 875 w G t cu br ke p1 av c2 x xt m4 a d L k v ts).Ok w := okC (S := fun w => sby pOwnF 874 875 w G t cu br ke p1 av c2 x xt m4 a d L k v ts) (by kernel_rfl) (by kernel_rfl) w
theorem rCase_0_ok (w : World) (G : Gs) (t : List Nat) (cu br ke : Int) (p1 : Nat) (a d L : Nat) (k v ts : Nat → Tok) : (rCase_0 w G t cu br ke p1 a d L k v ts).Ok w := okC (S := fun w => rCase_0 w G t cu br ke p1 a d L k v ts) (by kernel_rfl) (by kernel_rfl) w
theorem rCase_n_ok (w : World) (G : Gs) (t : List Nat) (cu br ke : Int) (p1 : Nat) (av c2 : Int) (a d L : Nat) (k v ts : Nat → Tok) : (rCase_n w G t cu br ke p1 av c2 a d L k v ts).Ok w := okC (S := fun w => rCase_n w G t cu br ke p1 av c2 a d L k v ts) (by kernel_rfl) (by kernel_rfl) w
theorem rCase_y_ok (w : World) (G : Gs) (t : List Nat) (cu br ke : Int) (p1 : Nat) (av c2 : Int) (m4 m5 : Sm) (b : Bool) (a d L : Nat) (k v ts : Nat → Tok) : (rCase_y w G t cu br ke p1 av c2 m4 m5 b a d L k v ts).Ok w := okC (S := fun w => rCase_y w G t cu br ke p1 av c2 m4 m5 b a d L k v ts) (by kernel_rfl) (by kernel_rfl) w
theorem instr_0_ok (w : World) (G : Gs) (t : List Nat) (cu br ke : Int) (p1 : Nat) (a d L : Nat) (k v ts : Nat → Tok) : (in0 instrF 420 w G t cu br ke p1 a d L k v ts).Ok w := okC (S := fun w => in0 instrF 420 w G t cu br ke p1 a d L k v ts) (by kernel_rfl) (by kernel_rfl) w
theorem instr_n_ok (w : World) (G : Gs) (t : List Nat) (cu br ke : Int) (p1 : Nat) (av c2 : Int) (a d L : Nat) (k v ts : Nat → Tok) : (inn instrF 420 w G t cu br ke p1 av c2 a d L k v ts).Ok w := okC (S := fun w => inn instrF 420 w G t cu br ke p1 av c2 a d L k v ts) (by kernel_rfl) (by kernel_rfl) w
theorem instr_d_ok (w : World) (G : Gs) (t : List Nat) (cu br ke : Int) (p1 : Nat) (av c2 : Int) (m3 : Sm) (a d L : Nat) (k v ts : Nat → Tok) : (ind instrF 420 w G t cu br ke p1 av c2 m3 a d L k v ts).Ok w := okC (S := fun w => ind instrF 420 w G t cu br ke p1 av c2 m3 a d L k v ts) (by kernel_rfl) (by kernel_rfl) w
theorem instr_y_ok (w : World) (G : Gs) (t : List Nat) (cu br ke : Int) (p1 : Nat) (av c2 : Int) (m3 m4 m5 : Sm) (b : Bool) (a d L : Nat) (k v ts : Nat → Tok) : (iny instrF 420 w G t cu br ke p1 av c2 m3 m4 m5 b a d L k v ts).Ok w := okC (S := fun w => iny instrF 420 w G t cu br ke p1 av c2 m3 m4 m5 b a d L k v ts) (by kernel_rfl) (by kernel_rfl) w
theorem fact_0_ok (w : World) (G : Gs) (t : List Nat) (cu br ke : Int) (p1 : Nat) (a d L : Nat) (k v ts : Nat → Tok) : (in0 factF 591 w G t cu br ke p1 a d L k v ts).Ok w := okC (S := fun w => in0 factF 591 w G t cu br ke p1 a d L k v ts) (by kernel_rfl) (by kernel_rfl) w
theorem fact_n_ok (w : World) (G : Gs) (t : List Nat) (cu br ke : Int) (p1 : Nat) (av c2 : Int) (a d L : Nat) (k v ts : Nat → Tok) : (inn factF 591 w G t cu br ke p1 av c2 a d L k v ts).Ok w := okC (S := fun w => inn factF 591 w G t cu br ke p1 av c2 a d L k v ts) (by kernel_rfl) (by kernel_rfl) w
theorem fact_d_ok (w : World) (G : Gs) (t : List Nat) (cu br ke : Int) (p1 : Nat) (av c2 : Int) (m3 : Sm) (a d L : Nat) (k v ts : Nat → Tok) : (ind factF 591 w G t cu br ke p1 av c2 m3 a d L k v ts).Ok w := okC (S := fun w => ind factF 591 w G t cu br ke p1 av c2 m3 a d L k v ts) (by kernel_rfl) (by kernel_rfl) w
theorem fact_y_ok (w : World) (G : Gs) (t : List Nat) (cu br ke : Int) (p1 : Nat) (av c2 : Int) (m3 m4 m5 : Sm) (b : Bool) (a d L : Nat) (k v ts : Nat → Tok) : (iny factF 591 w G t cu br ke p1 av c2 m3 m4 m5 b a d L k v ts).Ok w := okC (S := fun w => iny factF 591 w G t cu br ke p1 av c2 m3 m4 m5 b a d L k v ts) (by kernel_rfl) (by kernel_rfl) w
theorem dbl_0_ok (w : World) (G : Gs) (t : List Nat) (cu br ke : Int) (p1 : Nat) (a d L : Nat) (k v ts : Nat → Tok) : (dbl_0 w G t cu br ke p1 a d L k v ts).Ok w := okC (S := fun w => dbl_0 w G t cu br ke p1 a d L k v ts) (by kernel_rfl) (by kernel_rfl) w
theorem dbl_y_ok (w : World) (G : Gs) (t : List Nat) (cu br ke : Int) (p1 : Nat) (av c2 : Int) (a d L : Nat) (k v ts : Nat → Tok) : (dbl_y w G t cu br ke p1 av c2 a d L k v ts).Ok w := okC (S := fun w => dbl_y w G t cu br ke p1 av c2 a d L k v ts) (by kernel_rfl) (by kernel_rfl) w
theorem undb_y_ok (w : World) (G : Gs) (t : List Nat) (cu br ke : Int) (p1 : Nat) (m4 : Sm) (a d L : Nat) (k v ts : Nat → Tok) : (undb_y w G t cu br ke p1 m4 a d L k v ts).Ok w := okC (S := fun w => undb_y w G t cu br ke p1 m4 a d L k v ts) (by kernel_rfl) (by kernel_rfl) w
end Mine
end
end
section
open PySem PySem.W PyProof.Rows
set_option maxRecDepth 100000
set_option maxHeartbeats 0
section
namespace Mine
noncomputable def stemF0F : Fn := ⟨335, fnAt 6 (some 16), "HungarianStemmer._stem", 334, (sv "snowballstemmer.hungarian_stemmer" 459), ["self"]⟩
noncomputable def sWordF : Fn := ⟨189, fnAt 2 (some 22), "BaseStemmer.stemWord", 188, (sv "snowballstemmer.basestemmer" 194), ["self", "word"]⟩
noncomputable def stem_t (w : World) (G : Gs) (q0 : Int) (p1 : Nat) (cu1 : Int) (b0 : Bool) (t1 : List Nat) (t2 : List Nat) (c2 r2 e2 : Int) (b2 : Bool) (t3 : List Nat) (c3 r3 e3 : Int) (b3 : Bool) (t4 : List Nat) (c4 r4 e4 : Int) (b4 : Bool) (t5 : List Nat) (c5 r5 e5 : Int) (b5 : Bool) (t6 : List Nat) (c6 r6 e6 : Int) (b6 : Bool) (t7 : List Nat) (c7 r7 e7 : Int) (b7 : Bool) (t8 : List Nat) (c8 r8 e8 : Int) (b8 : Bool) (t9 : List Nat) (c9 r9 e9 : Int) (b9 : Bool) (t10 : List Nat) (c10 r10 e10 : Int) (b10 : Bool) := mRoad stemF0F w G [] (Sm.mk (sOf t1) 0 t1.length 0 0 t1.length q0 true) (stm t10 0 r10 e10 p1) (fun _ => .bool true) (fun a d L => [HD.methF w.params 237 a d L (fun _ => []) (Sm.mk (sOf t1) 0 t1.length 0 0 t1.length q0 true) (fun _ => .bool b0) (Sm.mk (sOf t1) cu1 t1.length 0 0 t1.length p1 true), HD.meth w.params 272 a d (fun _ => []) (stm t1 (t1.length : Int) 0 t1.length p1) (fun _ => .bool b2) (stm t2 c2 r2 e2 p1), HD.meth w.params 279 a d (fun _ => []) (stm t2 ((t2.length : Int) - ((t1.length : Int) - (t1.length : Int))) r2 e2 p1) (fun _ => .bool b3) (stm t3 c3 r3 e3 p1), HD.meth w.params 286 a d (fun _ => []) (stm t3 ((t3.length : Int) - ((t2.length : Int) - ((t2.length : Int) - ((t1.length : Int) - (t1.length : Int))))) r3 e3 p1) (fun _ => .bool b4) (stm t4 c4 r4 e4 p1), HD.meth w.params 293 a d (fun _ => []) (stm t4 ((t4.length : Int) - ((t3.length : Int) - ((t3.length : Int) - ((t2.length : Int) - ((t2.length : Int) - ((t1.length : Int) - (t1.length : Int))))))) r4 e4 p1) (fun _ => .bool b5) (stm t5 c5 r5 e5 p1), HD.meth w.params 300 a d (fun _ => []) (stm t5 ((t5.length : Int) - ((t4.length : Int) - ((t4.length : Int) - ((t3.length : Int) - ((t3.length : Int) - ((t2.length : Int) - ((t2.length : Int) - ((t1.length : Int) - (t1.length : Int))))))))) r5 e5 p1) (fun _ => .bool b6) (stm t6 c6 r6 e6 p1), HD.meth w.params 314 a d (fun _ => []) (stm t6 ((t6.length : Int) - ((t5.length : Int) - ((t5.length : Int) - ((t4.length : Int) - ((t4.length : Int) - ((t3.length : Int) - ((t3.length : Int) - ((t2.length : Int) - ((t2.length : Int) - ((t1.length : Int) - (t1.length : Int))))))))))) r6 e6 p1) (fun _ => .bool b7) (stm t7 c7 r7 e7 p1), HD.meth w.params 321 a d (fun _ => []) (stm t7 ((t7.length : Int) - ((t6.length : Int) - ((t6.length : Int) - ((t5.length : Int) - ((t5.length : Int) - ((t4.length : Int) - ((t4.length : Int) - ((t3.length : Int) - ((t3.length : Int) - ((t2.length : Int) - ((t2.length : Int) - ((t1.length : Int) - (t1.length : Int))))))))))))) r7 e7 p1) (fun _ => .bool b8) (stm t8 c8 r8 e8 p1), HD.meth w.params 328 a d (fun _ => []) (stm t8 ((t8.length : Int) - ((t7.length : Int) - ((t7.length : Int) - ((t6.length : Int) - ((t6.length : Int) - ((t5.length : Int) - ((t5.length : Int) - ((t4.length : Int) - ((t4.length : Int) - ((t3.length : Int) - ((t3.length : Int) - ((t2.length : Int) - ((t2.length : Int) - ((t1.length : Int) - (t1.length : Int))))))))))))))) r8 e8 p1) (fun _ => .bool b9) (stm t9 c9 r9 e9 p1), HD.meth w.params 307 a d (fun _ => []) (stm t9 ((t9.length : Int) - ((t8.length : Int) - ((t8.length : Int) - ((t7.length : Int) - ((t7.length : Int) - ((t6.length : Int) - ((t6.length : Int) - ((t5.length : Int) - ((t5.length : Int) - ((t4.length : Int) - ((t4.length : Int) - ((t3.length : Int) - ((t3.length : Int) - ((t2.length : Int) - ((t2.length : Int) - ((t1.length : Int) - (t1.length : Int))))))))))))))))) r9 e9 p1) (fun _ => .bool b10) (stm t10 c10 r10 e10 p1)]) [3,1,0,0,0,0,0,0,1,0,0,0,0,0,1,1,0,2,3,3,3,1,0,0,0,0,0,1,0,0,0,0,0,1,0,0,0,0,1,2,0,1,3,3,1,0,0,0,0,0,0,1,0,1,0,1,0,0,0,0,0,1,0,2,2,2,3,1,0,0,0,0,0,0,1,0,0,0,0,0,1,1,0,2,3,1,0,0,0,0,0,0,1,0,1,0,1,0,0,0,0,0,1,0,2,2,2,3,1,0,0,0,0,0,0,1,0,0,0,0,0,1,1,0,2,3,1,0,0,0,0,0,0,1,0,1,0,1,0,0,0,0,0,1,0,2,2,2,3,1,0,0,0,0,0,0,1,0,0,0,0,0,1,1,0,2,3,1,0,0,0,0,0,0,1,0,0,0,0,0,1,1,0,2,0,3,3,3,1,0,0,0,0,0,1,0,0,0,0,0,1,0,0,0,0,1,2,0,1,3,1,0,0,0,0,0,0,1,0,0,0,0,0,1,1,0,2,3,0,3,1,0,0,0,0,0,0,1,0,1,0,1,0,0,0,0,0,1,0,2,2,2,3,1,0,0,0,0,0,0,1,0,0,0,0,0,1,1,0,2,3,1,0,0,0,0,0,0,1,0,0,0,0,0,1,1,0,2,0,3,3,3,1,0,0,0,0,0,1,0,0,0,0,0,1,0,0,0,0,1,2,0,1,3,1,0,0,0,0,0,0,1,0,0,0,0,0,1,1,0,2,3,0,3,1,0,0,0,0,0,0,1,0,1,0,1,0,0,0,0,0,1,0,2,2,2,3,1,0,0,0,0,0,0,1,0,0,0,0,0,1,1,0,2,3,1,0,0,0,0,0,0,1,0,0,0,0,0,1,1,0,2,0,3,3,3,1,0,0,0,0,0,1,0,0,0,0,0,1,0,0,0,0,1,2,0,1,3,1,0,0,0,0,0,0,1,0,0,0,0,0,1,1,0,2,3,0,3,1,0,0,0,0,0,0,1,0,1,0,1,0,0,0,0,0,1,0,2,2,2,3,1,0,0,0,0,0,0,1,0,0,0,0,0,1,1,0,2,3,1,0,0,0,0,0,0,1,0,0,0,0,0,1,1,0,2,0,3,3,3,1,0,0,0,0,0,1,0,0,0,0,0,1,0,0,0,0,1,2,0,1,3,1,0,0,0,0,0,0,1,0,0,0,0,0,1,1,0,2,3,0,3,1,0,0,0,0,0,0,1,0,1,0,1,0,0,0,0,0,1,0,2,2,2,3,1,0,0,0,0,0,0,1,0,0,0,0,0,1,1,0,2,3,1,0,0,0,0,0,0,1,0,0,0,0,0,1,1,0,2,0,3,3,3,1,0,0,0,0,0,1,0,0,0,0,0,1,0,0,0,0,1,2,0,1,3,1,0,0,0,0,0,0,1,0,0,0,0,0,1,1,0,2,3,0,3,1,0,0,0,0,0,0,1,0,1,0,1,0,0,0,0,0,1,0,2,2,2,3,1,0,0,0,0,0,0,1,0,0,0,0,0,1,1,0,2,3,1,0,0,0,0,0,0,1,0,0,0,0,0,1,1,0,2,0,3,3,3,1,0,0,0,0,0,1,0,0,0,0,0,1,0,0,0,0,1,2,0,1,3,1,0,0,0,0,0,0,1,0,0,0,0,0,1,1,0,2,3,0,3,1,0,0,0,0,0,0,1,0,1,0,1,0,0,0,0,0,1,0,2,2,2,3,1,0,0,0,0,0,0,1,0,0,0,0,0,1,1,0,2,3,1,0,0,0,0,0,0,1,0,0,0,0,0,1,1,0,2,0,3,3,3,1,0,0,0,0,0,1,0,0,0,0,0,1,0,0,0,0,1,2,0,1,3,1,0,0,0,0,0,0,1,0,0,0,0,0,1,1,0,2,3,0,3,1,0,0,0,0,0,0,1,0,1,0,1,0,0,0,0,0,1,0,2,2,2,3,1,0,0,0,0,0,0,1,0,0,0,0,0,1,1,0,2,3,1,0,0,0,0,0,0,1,0,0,0,0,0,1,1,0,2,0,3,3,3,1,0,0,0,0,0,1,0,0,0,0,0,1,0,0,0,0,1,2,0,1,3,1,0,0,0,0,0,0,1,0,0,0,0,0,1,1,0,2,3,0,3,1,0,0,0,0,0,0,1,0,1,0,1,0,0,0,0,0,1,0,2,2,2,3,1,0,0,0,0,0,0,1,0,0,0,0,0,1,1,0,2,3,1,0,0,0,0,0,0,1,0,0,0,0,0,1,1,0,2,0,3,3,3,1,0,0,0,0,0,1,0,0,0,0,0,1,0,0,0,0,1,2,0,1,3,1,0,0,0,0,0,0,1,0,0,0,0,0,1,1,0,2,3,0,3,1,0,0,0,0,0,0,1,0,1,0,1,0,0,0,0,0,1,0,2,2,2,3,1,0,0,0,0,0,0,1,0,0,0,0,0,1,1,0,2,3,1,0,0,0,0,0,0,1,0,1,0,1,0,0,0,0,0,1,0,2,2,2]
noncomputable def sWord_t (w : World) (G : Gs) (m : Sm) (x : PySem.Str) (xt : Tok) (m2 : Sm) (b : Bool) := mRoad sWordF w G [.str x xt] (Sm.mk m.cur m.cu m.li m.lb m.br m.ke m.p1 true) m2.F (fun t => .str m2.cur t) (fun a d L => [HD.meth w.params 42 a d (fun q => [.str x (argTok q 1)]) (Sm.mk m.cur m.cu m.li m.lb m.br m.ke m.p1 true) (fun _ => .none) (Sm.mk x 0 x.length 0 0 x.length m.p1 true), HD.methF w.params 335 a d L (fun _ => []) (Sm.mk x 0 x.length 0 0 x.length m.p1 true) (fun _ => .bool b) m2.F, HD.meth w.params 49 a d (fun _ => []) m2.F (fun t => .str m2.cur t) m2.F]) [3,1,0,0,0,0,0,1,0,0,0,0,0,1,0,0,0,0,0,0,1,2,3,0,1,3,1,0,0,0,0,0,1,0,0,0,0,0,1,0,0,0,0,1,2,0,1,3,1,0,0,0,0,0,1,0,0,0,0,0,1,0,0,0,0,0,0,1,2,0,1]
noncomputable def stem_f (w : World) (G : Gs) (q0 : Int) (p1 : Nat) (cu1 : Int) (b0 : Bool) (t1 : List Nat) (t2 : List Nat) (c2 r2 e2 : Int) (b2 : Bool) (t3 : List Nat) (c3 r3 e3 : Int) (b3 : Bool) (t4 : List Nat) (c4 r4 e4 : Int) (b4 : Bool) (t5 : List Nat) (c5 r5 e5 : Int) (b5 : Bool) (t6 : List Nat) (c6 r6 e6 : Int) (b6 : Bool) (t7 : List Nat) (c7 r7 e7 : Int) (b7 : Bool) (t8 : List Nat) (c8 r8 e8 : Int) (b8 : Bool) (t9 : List Nat) (c9 r9 e9 : Int) (b9 : Bool) (t10 : List Nat) (c10 r10 e10 : Int) (b10 : Bool) := mRoad stemF0F w G [] (Sm.mk (sOf t1) 0 t1.length 0 0 t1.length q0 false) (stm t10 0 r10 e10 p1) (fun _ => .bool true) (fun a d L => [HD.methF w.params 237 a d L (fun _ => []) (Sm.mk (sOf t1) 0 t1.length 0 0 t1.length q0 false) (fun _ => .bool b0) (Sm.mk (sOf t1) cu1 t1.length 0 0 t1.length p1 true), HD.meth w.params 272 a d (fun _ => []) (stm t1 (t1.length : Int) 0 t1.length p1) (fun _ => .bool b2) (stm t2 c2 r2 e2 p1), HD.meth w.params 279 a d (fun _ => []) (stm t2 ((t2.length : Int) - ((t1.length : Int) - (t1.length : Int))) r2 e2 p1) (fun _ => .bool b3) (stm t3 c3 r3 e3 p1), HD.meth w.params 286 a d (fun _ => []) (stm t3 ((t3.length : Int) - ((t2.length : Int) - ((t2.length : Int) - ((t1.length : Int) - (t1.length : Int))))) r3 e3 p1) (fun _ => .bool b4) (stm t4 c4 r4 e4 p1), HD.meth w.params 293 a d (fun _ => []) (stm t4 ((t4.length : Int) - ((t3.length : Int) - ((t3.length : Int) - ((t2.length : Int) - ((t2.length : Int) - ((t1.length : Int) - (t1.length : Int))))))) r4 e4 p1) (fun _ => .bool b5) (stm t5 c5 r5 e5 p1), HD.meth w.params 300 a d (fun _ => []) (stm t5 ((t5.length : Int) - ((t4.length : Int) - ((t4.length : Int) - ((t3.length : Int) - ((t3.length : Int) - ((t2.length : Int) - ((t2.length : Int) - ((t1.length : Int) - (t1.length : Int))))))))) r5 e5 p1) (fun _ => .bool b6) (stm t6 c6 r6 e6 p1), HD.meth w.params 314 a d (fun _ => []) (stm t6 ((t6.length : Int) - ((t5.length : Int) - ((t5.length : Int) - ((t4.length : Int) - ((t4.length : Int) - ((t3.length : Int) - ((t3.length : Int) - ((t2.length : Int) - ((t2.length : Int) - ((t1.length : Int) - (t1.length : Int))))))))))) r6 e6 p1) (fun _ => .bool b7) (stm t7 c7 r7 e7 p1), HD.meth w.params 321 a d (fun _ => []) (stm t7 ((t7.length : Int) - ((t6.length : Int) - ((t6.length : Int) - ((t5.length : Int) - ((t5.length : Int) - ((t4.length : Int) - ((t4.length : Int) - ((t3.length : Int) - ((t3.length : Int) - ((t2.length : Int) - ((t2.length : Int) - ((t1.length : Int) - (t1.length : Int))))))))))))) r7 e7 p1) (fun _ => .bool b8) (stm t8 c8 r8 e8 p1), HD.meth w.params 328 a d (fun _ => []) (stm t8 ((t8.length : Int) - ((t7.length : Int) - ((t7.length : Int) - ((t6.length : Int) - ((t6.length : Int) - ((t5.length : Int) - ((t5.length : Int) - ((t4.length : Int) - ((t4.length : Int) - ((t3.length : Int) - ((t3.length : Int) - ((t2.length : Int) - ((t2.length : Int) - ((t1.length : Int) - (t1.length : Int))))))))))))))) r8 e8 p1) (fun _ => .bool b9) (stm t9 c9 r9 e9 p1), HD.meth w.params 307 a d (fun _ => []) (stm t9 ((t9.length : Int) - ((t8.length : Int) - ((t8.length : Int) - ((t7.length : Int) - ((t7.length : Int) - ((t6.length : Int) - ((t6.length : Int) - ((t5.length : Int) - ((t5.length : Int) - ((t4.length : Int) - ((t4.length : Int) - ((t3.length : Int) - ((t3.length : Int) - ((t2.length : Int) - ((t2.length : Int) - ((t1.length : Int) - (t1.length : Int))))))))))))))))) r9 e9 p1) (fun _ => .bool b10) (stm t10 c10 r10 e10 p1)]) [3,1,0,0,0,0,0,0,1,0,0,0,0,0,1,1,0,2,3,3,3,1,0,0,0,0,0,1,0,0,0,0,0,1,0,0,0,0,1,2,0,1,3,3,1,0,0,0,0,0,0,1,0,1,0,1,0,0,0,0,0,1,0,2,2,2,3,1,0,0,0,0,0,0,1,0,0,0,0,0,1,1,0,2,3,1,0,0,0,0,0,0,1,0,1,0,1,0,0,0,0,0,1,0,2,2,2,3,1,0,0,0,0,0,0,1,0,0,0,0,0,1,1,0,2,3,1,0,0,0,0,0,0,1,0,1,0,1,0,0,0,0,0,1,0,2,2,2,3,1,0,0,0,0,0,0,1,0,0,0,0,0,1,1,0,2,3,1,0,0,0,0,0,0,1,0,0,0,0,0,1,1,0,2,0,3,3,3,1,0,0,0,0,0,1,0,0,0,0,0,1,0,0,0,0,1,2,0,1,3,1,0,0,0,0,0,0,1,0,0,0,0,0,1,1,0,2,3,0,3,1,0,0,0,0,0,0,1,0,1,0,1,0,0,0,0,0,1,0,2,2,2,3,1,0,0,0,0,0,0,1,0,0,0,0,0,1,1,0,2,3,1,0,0,0,0,0,0,1,0,0,0,0,0,1,1,0,2,0,3,3,3,1,0,0,0,0,0,1,0,0,0,0,0,1,0,0,0,0,1,2,0,1,3,1,0,0,0,0,0,0,1,0,0,0,0,0,1,1,0,2,3,0,3,1,0,0,0,0,0,0,1,0,1,0,1,0,0,0,0,0,1,0,2,2,2,3,1,0,0,0,0,0,0,1,0,0,0,0,0,1,1,0,2,3,1,0,0,0,0,0,0,1,0,0,0,0,0,1,1,0,2,0,3,3,3,1,0,0,0,0,0,1,0,0,0,0,0,1,0,0,0,0,1,2,0,1,3,1,0,0,0,0,0,0,1,0,0,0,0,0,1,1,0,2,3,0,3,1,0,0,0,0,0,0,1,0,1,0,1,0,0,0,0,0,1,0,2,2,2,3,1,0,0,0,0,0,0,1,0,0,0,0,0,1,1,0,2,3,1,0,0,0,0,0,0,1,0,0,0,0,0,1,1,0,2,0,3,3,3,1,0,0,0,0,0,1,0,0,0,0,0,1,0,0,0,0,1,2,0,1,3,1,0,0,0,0,0,0,1,0,0,0,0,0,1,1,0,2,3,0,3,1,0,0,0,0,0,0,1,0,1,0,1,0,0,0,0,0,1,0,2,2,2,3,1,0,0,0,0,0,0,1,0,0,0,0,0,1,1,0,2,3,1,0,0,0,0,0,0,1,0,0,0,0,0,1,1,0,2,0,3,3,3,1,0,0,0,0,0,1,0,0,0,0,0,1,0,0,0,0,1,2,0,1,3,1,0,0,0,0,0,0,1,0,0,0,0,0,1,1,0,2,3,0,3,1,0,0,0,0,0,0,1,0,1,0,1,0,0,0,0,0,1,0,2,2,2,3,1,0,0,0,0,0,0,1,0,0,0,0,0,1,1,0,2,3,1,0,0,0,0,0,0,1,0,0,0,0,0,1,1,0,2,0,3,3,3,1,0,0,0,0,0,1,0,0,0,0,0,1,0,0,0,0,1,2,0,1,3,1,0,0,0,0,0,0,1,0,0,0,0,0,1,1,0,2,3,0,3,1,0,0,0,0,0,0,1,0,1,0,1,0,0,0,0,0,1,0,2,2,2,3,1,0,0,0,0,0,0,1,0,0,0,0,0,1,1,0,2,3,1,0,0,0,0,0,0,1,0,0,0,0,0,1,1,0,2,0,3,3,3,1,0,0,0,0,0,1,0,0,0,0,0,1,0,0,0,0,1,2,0,1,3,1,0,0,0,0,0,0,1,0,0,0,0,0,1,1,0,2,3,0,3,1,0,0,0,0,0,0,1,0,1,0,1,0,0,0,0,0,1,0,2,2,2,3,1,0,0,0,0,0,0,1,0,0,0,0,0,1,1,0,2,3,1,0,0,0,0,0,0,1,0,0,0,0,0,1,1,0,2,0,3,3,3,1,0,0,0,0,0,1,0,0,0,0,0,1,0,0,0,0,1,2,0,1,3,1,0,0,0,0,0,0,1,0,0,0,0,0,1,1,0,2,3,0,3,1,0,0,0,0,0,0,1,0,1,0,1,0,0,0,0,0,1,0,2,2,2,3,1,0,0,0,0,0,0,1,0,0,0,0,0,1,1,0,2,3,1,0,0,0,0,0,0,1,0,0,0,0,0,1,1,0,2,0,3,3,3,1,0,0,0,0,0,1,0,0,0,0,0,1,0,0,0,0,1,2,0,1,3,1,0,0,0,0,0,0,1,0,0,0,0,0,1,1,0,2,3,0,3,1,0,0,0,0,0,0,1,0,1,0,1,0,0,0,0,0,1,0,2,2,2,3,1,0,0,0,0,0,0,1,0,0,0,0,0,1,1,0,2,3,1,0,0,0,0,0,0,1,0,1,0,1,0,0,0,0,0,1,0,2,2,2]
noncomputable def sWord_f (w : World) (G : Gs) (m : Sm) (x : PySem.Str) (xt : Tok) (m2 : Sm) (b : Bool) := mRoad sWordF w G [.str x xt] (Sm.mk m.cur m.cu m.li m.lb m.br m.ke m.p1 false) m2.F (fun t => .str m2.cur t) (fun a d L => [HD.meth w.params 42 a d (fun q => [.str x (argTok q 1)]) (Sm.mk m.cur m.cu m.li m.lb m.br m.ke m.p1 false) (fun _ => .none) (Sm.mk x 0 x.length 0 0 x.length m.p1 false), HD.methF w.params 335 a d L (fun _ => []) (Sm.mk x 0 x.length 0 0 x.length m.p1 false) (fun _ => .bool b) m2.F, HD.meth w.params 49 a d (fun _ => []) m2.F (fun t => .str m2.cur t) m2.F]) [3,1,0,0,0,0,0,1,0,0,0,0,0,1,0,0,0,0,0,0,1,2,3,0,1,3,1,0,0,0,0,0,1,0,0,0,0,0,1,0,0,0,0,1,2,0,1,3,1,0,0,0,0,0,1,0,0,0,0,0,1,0,0,0,0,0,0,1,2,0,1]
theorem stemF0F_ok (w : World) (G : Gs) (a d : Nat) (k v : Nat → Tok) (m : Sm)  : stemF0F.Ok w G [3,3] (selfSt w.params a d k v m) [.ref a] := okN (FnAt.mk' (sv "snowballstemmer.hungarian_stemmer" 459) (by kernel_rfl) (by kernel_rfl) (by kernel_rfl) (by kernel_rfl)) (by kernel_rfl) (fun pm => by kernel_rfl) (by kernel_rfl)
theorem sWordF_ok (w : World) (G : Gs) (a d : Nat) (k v : Nat → Tok) (m : Sm) (x1 : Value) : sWordF.Ok w G [3,3,3,3] (selfSt w.params a d k v m) [.ref a, x1] := okN (FnAt.mk' (sv "snowballstemmer.basestemmer" 194) (by kernel_rfl) (by kernel_rfl) (by kernel_rfl) (by kernel_rfl)) (by kernel_rfl) (fun pm => by kernel_rfl) (by kernel_rfl)
theorem stem_t_ok (w : World) (G : Gs) (q0 : Int) (p1 : Nat) (cu1 : Int) (b0 : Bool) (t1 : List Nat) (t2 : List Nat) (c2 r2 e2 : Int) (b2 : Bool) (t3 : List Nat) (c3 r3 e3 : Int) (b3 : Bool) (t4 : List Nat) (c4 r4 e4 : Int) (b4 : Bool) (t5 : List Nat) (c5 r5 e5 : Int) (b5 : Bool) (t6 : List Nat) (c6 r6 e6 : Int) (b6 : Bool) (t7 : List Nat) (c7 r7 e7 : Int) (b7 : Bool) (t8 : List Nat) (c8 r8 e8 : Int) (b8 : Bool) (t9 : List Nat) (c9 r9 e9 : Int) (b9 : Bool) (t10 : List Nat) (c10 r10 e10 : Int) (b10 : Bool) (a d L : Nat) (k v ts : Nat → Tok) : (stem_t w G q0 p1 cu1 b0 t1 t2 c2 r2 e2 b2 t3 c3 r3 e3 b3 t4 c4 r4 e4 b4 t5 c5 r5 e5 b5 t6 c6 r6 e6 b6 t7 c7 r7 e7 b7 t8 c8 r8 e8 b8 t9 c9 r9 e9 b9 t10 c10 r10 e10 b10 a d L k v ts).Ok w := okC (S := fun w => stem_t w G q0 p1 cu1 b0 t1 t2 c2 r2 e2 b2 t3 c3 r3 e3 b3 t4 c4 r4 e4 b4 t5 c5 r5 e5 b5 t6 c6 r6 e6 b6 t7 c7 r7 e7 b7 t8 c8 r8 e8 b8 t9 c9 r9 e9 b9 t10 c10 r10 e10 b10 a d L k v ts) (by kernel_rfl) (by kernel_rfl) w
theorem sWord_t_ok (w : World) (G : Gs) (m : Sm) (x : PySem.Str) (xt : Tok) (m2 : Sm) (b : Bool) (a d L : Nat) (k v ts : Nat → Tok) : (sWord_t w G m x xt m2 b a d L k v ts).Ok w := okC (S := fun w => sWord_t w G m x xt m2 b a d L k v ts) (by kernel_rfl) (by kernel_rfl) w
theorem stem_f_ok (w : World) (G : Gs) (q0 : Int) (p1 : Nat) (cu1 : Int) (b0 : Bool) (t1 : List Nat) (t2 : List Nat) (c2 r2 e2 : Int) (b2 : Bool) (t3 : List Nat) (c3 r3 e3 : Int) (b3 : Bool) (t4 : List Nat) (c4 r4 e4 : Int) (b4 : Bool) (t5 : List Nat) (c5 r5 e5 : Int) (b5 : Bool) (t6 : List Nat) (c6 r6 e6 : Int) (b6 : Bool) (t7 : List Nat) (c7 r7 e7 : Int) (b7 : Bool) (t8 : List Nat) (c8 r8 e8 : Int) (b8 : Bool) (t9 : List Nat) (c9 r9 e9 : Int) (b9 : Bool) (t10 : List Nat) (c10 r10 e10 : Int) (b10 : Bool) (a d L : Nat) (k v ts : Nat → Tok) : (stem_f w G q0 p1 cu1 b0 t1 t2 c2 r2 e2 b2 t3 c3 r3 e3 b3 t4 c4 r4 e4 b4 t5 c5 r5 e5 b5 t6 c6 r6 e6 b6 t7 c7 r7 e7 b7 t8 c8 r8 e8 b8 t9 c9 r9 e9 b9 t10 c10 r10 e10 b10 a d L k v ts).Ok w := okC (S := fun w => stem_f w G q0 p1 cu1 b0 t1 t2 c2 r2 e2 b2 t3 c3 r3 e3 b3 t4 c4 r4 e4 b4 t5 c5 r5 e5 b5 t6 c6 r6 e6 b6 t7 c7 r7 e7 b7 t8 c8 r8 e8 b8 t9 c9 r9 e9 b9 t10 c10 r10 e10 b10 a d L k v ts) (by kernel_rfl) (by kernel_rfl) w
theorem sWord_f_ok (w : World) (G : Gs) (m : Sm) (x : PySem.Str) (xt : Tok) (m2 : Sm) (b : Bool) (a d L : Nat) (k v ts : Nat → Tok) : (sWord_f w G m x xt m2 b a d L k v ts).Ok w := okC (S := fun w => sWord_f w G m x xt m2 b a d L k v ts) (by kernel_rfl) (by kernel_rfl) w
end Mine
end
end
section
open PySem PySem.W PyProof.Rows
set_option maxRecDepth 100000
section
namespace Mine
theorem runB_ci {T : TabP} {R : List Nat} {n' c : Nat} (hR : R.length = c) {b' : BS} : ∀ (n : Nat) (b : BS), b.In n' c → runB T R n b = some b' → b'.ci ≤ c
  | 0, b, hb, h => by cases h
  | n + 1, b, hb, h => by
    have hin := stepB_in (T := T) hb hR
    rw [runB] at h
    by_cases he : (endB (stepB T R b)).1 = true
    · rw [if_pos he] at h
      cases h
      have : (endB (stepB T R b)).2.ci = (stepB T R b).ci := by
        unfold endB
        split
        · split
          · rfl
          · split
            · rfl
            · split <;> rfl
        · rfl
      rw [this]; exact hin.2.2.1
    · rw [if_neg he] at h
      have he : (endB (stepB T R b)).1 = false := by simpa using he
      exact runB_ci hR n _ (endB_in hin.1 hin.2.1 hin.2.2.1 hin.2.2.2.1 he) h
theorem chainB_mem {T : TabP} {ci : Nat} {n' : Nat} {r : Int} : ∀ (n i : Nat), chainB T ci n i = some (some (n', r)) → n' ≤ ci ∧ ∃ i, n' = (T.getD i ([], 0, 0)).1.length ∧ r = (T.getD i ([], 0, 0)).2.2
  | 0, i, h => by cases h
  | n + 1, i, h => by
    rw [chainB] at h
    split at h
    · rename_i h1
      have h := Option.some.inj (Option.some.inj h)
      exact ⟨by rw [← (Prod.mk.inj h).1]; exact h1, i, (Prod.mk.inj h).1.symm, (Prod.mk.inj h).2.symm⟩
    · split at h
      · cases h
      · exact chainB_mem n _ h
theorem fab_out {es : List Am} (hne : 0 < es.length) {R : List Nat} {n : Nat} {r : Int} (h : fabP (es.map toE) R = some (some (n, r))) (hr : r ≠ 0) : n ≤ R.length ∧ ∃ e ∈ es, e.s.length = n ∧ e.res = r := by
  obtain ⟨b', hb, hc⟩ := Option.bind_eq_some_iff.mp h
  rw [List.length_map] at hb
  have hci := runB_ci rfl 100 _ (⟨hne, Nat.le_refl _, Nat.zero_le _, Nat.zero_le _⟩ : (⟨0, es.length, 0, 0, false⟩ : BS).In es.length R.length) hb
  obtain ⟨h1, i, h2, h3⟩ := chainB_mem 100 _ hc
  refine ⟨Nat.le_trans h1 hci, ?_⟩
  rw [List.getD_eq_getElem?_getD, List.getElem?_map] at h2 h3
  cases he : es[i]? with
  | none => rw [he] at h3; exact absurd h3 hr
  | some e =>
    rw [he] at h2 h3
    exact ⟨e, List.mem_of_getElem? he, by rw [h2]; exact (e.r_len).symm, h3.symm⟩
noncomputable def subP (T : TabP) (as : List (List Nat)) (p1 : Nat) (t : List Nat) : Option (List Nat) := (fabP T t.reverse).map fun o => match o with
  | none => t
  | some (n, r) => if p1 ≤ t.length - n then t.take (t.length - n) ++ as.getD (r - 1).toNat [] else t
theorem R1_spec {w : World} {G : Gs} {D : Nat} (hD : D < 850) {t : List Nat} {cu br ke : Int} {p1 : Nat} : MSpec w G 244 D [] (stm t cu br ke p1) (fun v m' => (∃ tk : Tok, v = (fun _ => .bool (decide ((p1 : Int) ≤ cu))) tk) ∧ m' = stm t cu br ke p1) := by
  by_cases h : (p1 : Int) ≤ cu
  · rw [decide_eq_true h]
    exact mRoad.spec (fun a d k v => r1F_ok w G a d k v (stm t cu br ke p1)) (fun a d L k v ts => r1_true_ok w G (stm t cu br ke p1) a d L k v ts) hD fun a d L s₀ l => .c (HDOk.le_true h) .n
  · rw [decide_eq_false h]
    exact mRoad.spec (fun a d k v => r1F_ok w G a d k v (stm t cu br ke p1)) (fun a d L k v ts => r1_false_ok w G (stm t cu br ke p1) a d L k v ts) hD fun a d L s₀ l => .c (HDOk.le_false h) .n
theorem fa_at {w : World} {G : Gs} {tv : Nat} {es : List Am} (hG : G.ro = []) (T : TbOk w G tv es) (hsub : ∀ e ∈ es, e.sub < es.length) (hne : 0 < es.length) {D : Nat} (hD : D < 850) {t : List Nat} {c : Nat} {br ke : Int} {p1 : Nat} (hc : c ≤ t.length) (ht : t.length ≤ 5000) {out : Option (Nat × Int)}
    (h : fabP (es.map toE) (t.take c).reverse = some out) : MSpec w G 140 D [.ref tv] (stm t c br ke p1) (fun v m' => (∃ tk : Tok, v = (fun tk => .int (outV out) tk) tk) ∧ m' = outM (stm t c br ke p1) out) :=
  fa_spec hG T hsub hne hD (m := stm t c br ke p1) rfl (by show c ≤ (sOf t).length; rw [sOf_len]; exact hc) (by show (sOf t).length ≤ _; rw [sOf_len]; lia) rfl (by show fabP _ ((sOf t).cps.toList.take c).reverse = _; rw [sOf_list]; exact h)
theorem take_all {α : Type} {l : List α} {n : Nat} (h : n = l.length) : l.take n = l := by subst h; exact List.take_of_length_le (Nat.le_refl _)
theorem drop_all {α : Type} {l : List α} {n : Nat} (h : n = l.length) : l.drop n = [] := by subst h; exact List.drop_eq_nil_of_le (Nat.le_refl _)
theorem chainB_res {es : List Am} (hsub : ∀ e ∈ es, e.sub < es.length) (hres : ∀ e ∈ es, e.res ≠ 0) {ci n' : Nat} {r : Int} : ∀ (n i : Nat), i < es.length → chainB (es.map toE) ci n i = some (some (n', r)) → r ≠ 0
  | 0, i, hi, h => by cases h
  | n + 1, i, hi, h => by
    have he : es[i]? = some es[i] := List.getElem?_eq_getElem hi
    generalize es[i] = e at he
    have hem : e ∈ es := List.mem_of_getElem? he
    rw [chainB, getD_map_toE he] at h
    split at h
    · have h := Option.some.inj (Option.some.inj h)
      rw [← (Prod.mk.inj h).2]; exact hres e hem
    · split at h
      · cases h
      · rename_i h2
        have := hsub e hem
        refine chainB_res hsub hres n _ ?_ h
        have h3 : ¬ e.sub < 0 := h2
        show e.sub.toNat < es.length
        lia
theorem sub_spec {w : World} {G : Gs} (hG : G.ro = []) {F : Fn} {tv ta : Nat} {tb : List Am} {tP : TabP} {as : List (List Nat × Tok)} {ea : List Nat} (hT : TbOk w G tv tb) (hsub : ∀ e ∈ tb, e.sub < tb.length) (hP : tb.map toE = tP) (hne : 0 < tb.length)
    (tup : (TKb w.params G).get ta = some ⟨.type "tuple", none, .seq (as.map fun q => Value.str (sOf q.1) q.2).toArray 0, #[]⟩) (res : (tb.all fun e => decide (1 ≤ e.res) && decide ((e.res - 1).toNat < as.length)) = true) (has : as.length ≤ 10 ∧ (as.all fun q => decide (q.1.length ≤ 1)) = true)
    (hF : ∀ (a d : Nat) (k v : Nat → Tok) (m : Sm), F.Ok w G ea (selfSt w.params a d k v m) [.ref a]) (h0 : ∀ t cu br ke p1 a d L k v ts, (sb0 F tv w G t cu br ke p1 a d L k v ts).Ok w) (hN : ∀ t cu br ke p1 av c2 a d L k v ts, (sbn F tv w G t cu br ke p1 av c2 a d L k v ts).Ok w)
    (hy : ∀ t cu br ke p1 av c2 x xt m4 a d L k v ts, (sby F tv ta w G t cu br ke p1 av c2 x xt m4 a d L k v ts).Ok w) {D : Nat} (hD : D < 700) {t : List Nat} {cu br ke : Int} {p1 : Nat} {t' : List Nat} (ht : t.length ≤ 4000) (hcu : cu = t.length) (h : subP tP (as.map (·.1)) p1 t = some t') :
    ∃ b c' b' e', MSpec w G F.f D [] (stm t cu br ke p1) (fun v m' => (∃ tk : Tok, v = (fun _ => .bool b) tk) ∧ m' = stm t' c' b' e' p1) ∧ t'.length ≤ t.length + 1 := by
  have res' : ∀ e ∈ tb, 1 ≤ e.res ∧ (e.res - 1).toNat < as.length := fun e he => by
    have := List.all_eq_true.mp res e he
    simpa using this
  subst hcu
  obtain ⟨out, ho, ht'⟩ := Option.map_eq_some_iff.mp h
  rw [← hP] at ho
  have ho' : fabP (tb.map toE) (t.take t.length).reverse = some out := by rw [take_all rfl]; exact ho
  have fa := fun (D : Nat) (hD : D < 850) (br ke : Int) => fa_at (w := w) (G := G) (D := D) hG hT hsub hne hD (c := t.length) (br := br) (ke := ke) (p1 := p1) (Nat.le_refl _) (by lia) ho'
  cases out with
  | none =>
    subst ht'
    exact ⟨false, t.length, br, t.length, mRoad.spec (fun a d k v => hF a d k v (stm t t.length br ke p1)) (fun a d L k v ts => h0 t t.length br ke p1 a d L k v ts) (by lia) fun a d L s₀ l => .c (HDOk.meth (D' := D + 20) (fun _ => fa _ (by lia) _ _) (Nat.le_refl _)) <| .c (HDOk.eq_true rfl) .n, Nat.le_succ _⟩
  | some q =>
    obtain ⟨n, r⟩ := q
    have ht' : (if p1 ≤ t.length - n then t.take (t.length - n) ++ (as.map (·.1)).getD (r - 1).toNat [] else t) = t' := ht'
    by_cases hr0 : r = 0
    · exfalso
      obtain ⟨b', hb, hc⟩ := Option.bind_eq_some_iff.mp ho
      have hi := runB_i rfl 100 _ (⟨hne, Nat.le_refl _, Nat.zero_le _, Nat.zero_le _⟩ : (⟨0, tb.length, 0, 0, false⟩ : BS).In tb.length t.reverse.length) (by rw [List.length_map] at hb; exact hb)
      exact chainB_res hsub (fun e he => by have := (res' e he).1; lia) 100 b'.i hi hc hr0
    obtain ⟨hn, e, he, hel, her⟩ := fab_out hne ho hr0
    rw [List.length_reverse] at hn
    have hn0 : 0 < n := by have := (hT.small e he).1; lia
    have hres := res' e he
    rw [her] at hres
    have hm2 : ∀ br ke, outM (stm t t.length br ke p1) (some (n, r)) = stm t ((t.length : Int) - n) br ke p1 := fun _ _ => rfl
    by_cases hp : p1 ≤ t.length - n
    · rw [if_pos hp] at ht'
      have hx : as[(r - 1).toNat]? = some as[(r - 1).toNat] := List.getElem?_eq_getElem hres.2
      generalize as[(r - 1).toNat] = q at hx
      have hgd : (as.map (·.1)).getD (r - 1).toNat [] = q.1 := by rw [List.getD_eq_getElem?_getD, List.getElem?_map, hx]; rfl
      have hq1 : q.1.length ≤ 1 := of_decide_eq_true (List.all_eq_true.mp has.2 q (List.mem_of_getElem? hx))
      rw [hgd] at ht'
      have sf := fun (D : Nat) (hD : D < 780) (T : Tok) => sFrom_spec (w := w) (G := G) (D := D) hD (t := t) (x := q.1) (br := (t.length : Int) - n) (ke := t.length) (p1 := p1) (T := T) (by lia) (by lia) (by lia) (by lia) (by lia)
      have e1 : ((t.length : Int) - n).toNat = t.length - n := by lia
      have e2 : t.take ((t.length : Int) - n).toNat ++ q.1 ++ t.drop (t.length : Int).toNat = t' := by rw [e1, drop_all (by lia), List.append_nil]; exact ht'
      rw [e2] at sf
      refine ⟨true, (t.length : Int) - n, (t.length : Int) - n, (t.length : Int) - n + q.1.length, mRoad.spec (fun a d k v => hF a d k v (stm t t.length br ke p1)) (fun a d L k v ts => hy t t.length br ke p1 r ((t.length : Int) - n) (sOf q.1) q.2 (stm t' ((t.length : Int) - n) ((t.length : Int) - n) ((t.length : Int) - n + q.1.length) p1) a d L k v ts) (by lia) fun a d L s₀ l =>
        .c (HDOk.meth (D' := D + 20) (fun _ => fa _ (by lia) _ _) (Nat.le_refl _)) <| .c (HDOk.eq_false hr0) <| .c (HDOk.meth (D' := D + 20) (fun _ => ?_) (Nat.le_refl _)) <| .c (HDOk.tGet (tup) (by lia) (by rw [List.getElem?_map, hx]; rfl) (by have := has.1; lia)) <| .c (HDOk.meth (D' := D + 20) (fun c => sf _ (by lia) _) (Nat.le_refl _)) .n, ?_⟩
      · have := R1_spec (w := w) (G := G) (D := D + 20) (by lia) (t := t) (cu := (t.length : Int) - n) (br := (t.length : Int) - n) (ke := t.length) (p1 := p1)
        rw [decide_eq_true (by lia)] at this
        exact this
      · rw [← ht', List.length_append, List.length_take]; lia
    · rw [if_neg hp] at ht'
      subst ht'
      refine ⟨false, (t.length : Int) - n, (t.length : Int) - n, t.length, mRoad.spec (fun a d k v => hF a d k v (stm t t.length br ke p1)) (fun a d L k v ts => hN t t.length br ke p1 r ((t.length : Int) - n) a d L k v ts) (by lia) fun a d L s₀ l =>
        .c (HDOk.meth (D' := D + 20) (fun _ => fa _ (by lia) _ _) (Nat.le_refl _)) <| .c (HDOk.eq_false hr0) <| .c (HDOk.meth (D' := D + 20) (fun _ => ?_) (Nat.le_refl _)) .n, Nat.le_succ _⟩
      have := R1_spec (w := w) (G := G) (D := D + 20) (by lia) (t := t) (cu := (t.length : Int) - n) (br := (t.length : Int) - n) (ke := t.length) (p1 := p1)
      rw [decide_eq_false (by lia)] at this
      exact this
noncomputable def asT0 : List (List Nat × Tok) := [([97], 658), ([101], 659)]
theorem vEnd_spec {w : World} {G : Gs} (hG : G.ro = []) {D : Nat} (hD : D < 700) {t : List Nat} {cu br ke : Int} {p1 : Nat} {t' : List Nat} (ht : t.length ≤ 4000) (hcu : cu = t.length) (h : subP tabP0 (asT0.map (·.1)) p1 t = some t') :
    ∃ b c' b' e', MSpec w G 251 D [] (stm t cu br ke p1) (fun v m' => (∃ tk : Tok, v = (fun _ => .bool b) tk) ∧ m' = stm t' c' b' e' p1) ∧ t'.length ≤ t.length + 1 :=
  sub_spec hG (tab0_ok w G) tab0_sub tabP0_eq (by decide) (ta := 343) (by kernel_rfl) (by kernel_rfl) ⟨by decide, by kernel_rfl⟩ (vEndF_ok w G) (vEnd_0_ok w G) (vEnd_n_ok w G) (vEnd_y_ok w G) hD ht hcu h
noncomputable def asT4 : List (List Nat × Tok) := [([101], 1724), ([97], 1725)]
theorem cSpec_spec {w : World} {G : Gs} (hG : G.ro = []) {D : Nat} (hD : D < 700) {t : List Nat} {cu br ke : Int} {p1 : Nat} {t' : List Nat} (ht : t.length ≤ 4000) (hcu : cu = t.length) (h : subP tabP4 (asT4.map (·.1)) p1 t = some t') :
    ∃ b c' b' e', MSpec w G 286 D [] (stm t cu br ke p1) (fun v m' => (∃ tk : Tok, v = (fun _ => .bool b) tk) ∧ m' = stm t' c' b' e' p1) ∧ t'.length ≤ t.length + 1 :=
  sub_spec hG (tab4_ok w G) tab4_sub tabP4_eq (by decide) (ta := 564) (by kernel_rfl) (by kernel_rfl) ⟨by decide, by kernel_rfl⟩ (cSpecF_ok w G) (cSpec_0_ok w G) (cSpec_n_ok w G) (cSpec_y_ok w G) hD ht hcu h
noncomputable def asT5 : List (List Nat × Tok) := [([], 1808), ([97], 1809), ([101], 1810)]
theorem cOth_spec {w : World} {G : Gs} (hG : G.ro = []) {D : Nat} (hD : D < 700) {t : List Nat} {cu br ke : Int} {p1 : Nat} {t' : List Nat} (ht : t.length ≤ 4000) (hcu : cu = t.length) (h : subP tabP5 (asT5.map (·.1)) p1 t = some t') :
    ∃ b c' b' e', MSpec w G 293 D [] (stm t cu br ke p1) (fun v m' => (∃ tk : Tok, v = (fun _ => .bool b) tk) ∧ m' = stm t' c' b' e' p1) ∧ t'.length ≤ t.length + 1 :=
  sub_spec hG (tab5_ok w G) tab5_sub tabP5_eq (by decide) (ta := 584) (by kernel_rfl) (by kernel_rfl) ⟨by decide, by kernel_rfl⟩ (cOthF_ok w G) (cOth_0_ok w G) (cOth_n_ok w G) (cOth_y_ok w G) hD ht hcu h
noncomputable def asT7 : List (List Nat × Tok) := [([97], 1934), ([101], 1935), ([], 1936)]
theorem plur_spec {w : World} {G : Gs} (hG : G.ro = []) {D : Nat} (hD : D < 700) {t : List Nat} {cu br ke : Int} {p1 : Nat} {t' : List Nat} (ht : t.length ≤ 4000) (hcu : cu = t.length) (h : subP tabP7 (asT7.map (·.1)) p1 t = some t') :
    ∃ b c' b' e', MSpec w G 307 D [] (stm t cu br ke p1) (fun v m' => (∃ tk : Tok, v = (fun _ => .bool b) tk) ∧ m' = stm t' c' b' e' p1) ∧ t'.length ≤ t.length + 1 :=
  sub_spec hG (tab7_ok w G) tab7_sub tabP7_eq (by decide) (ta := 614) (by kernel_rfl) (by kernel_rfl) ⟨by decide, by kernel_rfl⟩ (plurF_ok w G) (plur_0_ok w G) (plur_n_ok w G) (plur_y_ok w G) hD ht hcu h
noncomputable def asT8 : List (List Nat × Tok) := [([], 2097), ([101], 2098), ([97], 2099)]
theorem owned_spec {w : World} {G : Gs} (hG : G.ro = []) {D : Nat} (hD : D < 700) {t : List Nat} {cu br ke : Int} {p1 : Nat} {t' : List Nat} (ht : t.length ≤ 4000) (hcu : cu = t.length) (h : subP tabP8 (asT8.map (·.1)) p1 t = some t') :
    ∃ b c' b' e', MSpec w G 314 D [] (stm t cu br ke p1) (fun v m' => (∃ tk : Tok, v = (fun _ => .bool b) tk) ∧ m' = stm t' c' b' e' p1) ∧ t'.length ≤ t.length + 1 :=
  sub_spec hG (tab8_ok w G) tab8_sub tabP8_eq (by decide) (ta := 652) (by kernel_rfl) (by kernel_rfl) ⟨by decide, by kernel_rfl⟩ (ownedF_ok w G) (owned_0_ok w G) (owned_n_ok w G) (owned_y_ok w G) hD ht hcu h
noncomputable def asT9 : List (List Nat × Tok) := [([], 2515), ([97], 2516), ([101], 2517)]
theorem sOwn_spec {w : World} {G : Gs} (hG : G.ro = []) {D : Nat} (hD : D < 700) {t : List Nat} {cu br ke : Int} {p1 : Nat} {t' : List Nat} (ht : t.length ≤ 4000) (hcu : cu = t.length) (h : subP tabP9 (asT9.map (·.1)) p1 t = some t') :
    ∃ b c' b' e', MSpec w G 321 D [] (stm t cu br ke p1) (fun v m' => (∃ tk : Tok, v = (fun _ => .bool b) tk) ∧ m' = stm t' c' b' e' p1) ∧ t'.length ≤ t.length + 1 :=
  sub_spec hG (tab9_ok w G) tab9_sub tabP9_eq (by decide) (ta := 747) (by kernel_rfl) (by kernel_rfl) ⟨by decide, by kernel_rfl⟩ (sOwnF_ok w G) (sOwn_0_ok w G) (sOwn_n_ok w G) (sOwn_y_ok w G) hD ht hcu h
noncomputable def asT10 : List (List Nat × Tok) := [([], 3074), ([97], 3075), ([101], 3076)]
theorem pOwn_spec {w : World} {G : Gs} (hG : G.ro = []) {D : Nat} (hD : D < 700) {t : List Nat} {cu br ke : Int} {p1 : Nat} {t' : List Nat} (ht : t.length ≤ 4000) (hcu : cu = t.length) (h : subP tabP10 (asT10.map (·.1)) p1 t = some t') :
    ∃ b c' b' e', MSpec w G 328 D [] (stm t cu br ke p1) (fun v m' => (∃ tk : Tok, v = (fun _ => .bool b) tk) ∧ m' = stm t' c' b' e' p1) ∧ t'.length ≤ t.length + 1 :=
  sub_spec hG (tab10_ok w G) tab10_sub tabP10_eq (by decide) (ta := 875) (by kernel_rfl) (by kernel_rfl) ⟨by decide, by kernel_rfl⟩ (pOwnF_ok w G) (pOwn_0_ok w G) (pOwn_n_ok w G) (pOwn_y_ok w G) hD ht hcu h
end Mine
end
end
section
open PySem PySem.W PyProof.Rows
set_option maxRecDepth 100000
section
namespace Mine
noncomputable def caseP (p1 : Nat) (t : List Nat) : Option (List Nat) := (fabP tabP3 t.reverse).bind fun o => match o with
  | none => some t
  | some (n, _) => if p1 ≤ t.length - n then subP tabP0 (asT0.map (·.1)) p1 (t.take (t.length - n)) else some t
noncomputable def dblP (t : List Nat) (c : Nat) : Option Bool := (fabP tabP1 (t.take c).reverse).map fun o => o.isSome
noncomputable def undbP (t : List Nat) : List Nat := t.take (t.length - 2) ++ t.drop (t.length - 1)
noncomputable def instrP (T : TabP) (p1 : Nat) (t : List Nat) : Option (List Nat) := (fabP T t.reverse).bind fun o => match o with
  | none => some t
  | some (n, _) => if p1 ≤ t.length - n then (dblP t (t.length - n)).map fun b => if b = true then undbP (t.take (t.length - n)) else t else some t
noncomputable def stemP (p1 : Nat) (t : List Nat) : Option (List Nat) :=
  (instrP tabP2 p1 t).bind fun t2 => (caseP p1 t2).bind fun t3 => (subP tabP4 (asT4.map (·.1)) p1 t3).bind fun t4 => (subP tabP5 (asT5.map (·.1)) p1 t4).bind fun t5 => (instrP tabP6 p1 t5).bind fun t6 =>
  (subP tabP8 (asT8.map (·.1)) p1 t6).bind fun t7 => (subP tabP9 (asT9.map (·.1)) p1 t7).bind fun t8 => (subP tabP10 (asT10.map (·.1)) p1 t8).bind fun t9 => subP tabP7 (asT7.map (·.1)) p1 t9
theorem res_ne {n : Nat} {es : List Am} (h : (es.all fun e => !decide (e.res = 0)) = true) : ∀ e ∈ es, e.res ≠ 0 := fun e he => by
  have := List.all_eq_true.mp h e he
  simpa using this
theorem fab_some {es : List Am} (hne : 0 < es.length) (hsub : ∀ e ∈ es, e.sub < es.length) (hres : ∀ e ∈ es, e.res ≠ 0) {R : List Nat} {n : Nat} {r : Int} (ho : fabP (es.map toE) R = some (some (n, r))) : r ≠ 0 ∧ n ≤ R.length ∧ ∃ e ∈ es, e.s.length = n ∧ e.res = r := by
  have hr0 : r ≠ 0 := by
    obtain ⟨b', hb, hc⟩ := Option.bind_eq_some_iff.mp ho
    have hi := runB_i rfl 100 _ (⟨hne, Nat.le_refl _, Nat.zero_le _, Nat.zero_le _⟩ : (⟨0, es.length, 0, 0, false⟩ : BS).In es.length R.length) (by rw [List.length_map] at hb; exact hb)
    exact chainB_res hsub hres 100 b'.i hi hc
  exact ⟨hr0, fab_out hne ho hr0⟩
section
variable {w : World} {G : Gs} {D : Nat} {t : List Nat} {cu br ke : Int} {p1 : Nat}
theorem R1_true (hD : D < 850) (h : (p1 : Int) ≤ cu) : MSpec w G 244 D [] (stm t cu br ke p1) (fun v m' => (∃ tk : Tok, v = (fun _ => .bool true) tk) ∧ m' = stm t cu br ke p1) := by
  have := R1_spec (w := w) (G := G) hD (t := t) (cu := cu) (br := br) (ke := ke) (p1 := p1)
  rw [decide_eq_true h] at this; exact this
theorem R1_false (hD : D < 850) (h : ¬ (p1 : Int) ≤ cu) : MSpec w G 244 D [] (stm t cu br ke p1) (fun v m' => (∃ tk : Tok, v = (fun _ => .bool false) tk) ∧ m' = stm t cu br ke p1) := by
  have := R1_spec (w := w) (G := G) hD (t := t) (cu := cu) (br := br) (ke := ke) (p1 := p1)
  rw [decide_eq_false h] at this; exact this
theorem sDel_end (hD : D < 760) (ht : t.length ≤ 5000) {n : Nat} (hn : n ≤ t.length) (hn0 : 0 < n) : MSpec w G 161 D [] (stm t ((t.length : Int) - n) ((t.length : Int) - n) t.length p1)
    (fun v m' => (∃ tk : Tok, v = (fun _ => .none) tk) ∧ m' = stm (t.take (t.length - n)) ((t.length : Int) - n) ((t.length : Int) - n) ((t.length : Int) - n) p1) := by
  have := sDel_spec (w := w) (G := G) hD (t := t) (br := (t.length : Int) - n) (ke := t.length) (p1 := p1) ht (by lia) (by lia) (by lia)
  have e1 : ((t.length : Int) - n).toNat = t.length - n := by lia
  rw [e1, drop_all (by lia), List.append_nil] at this
  exact this
theorem rCase_spec (hG : G.ro = []) (hD : D < 650) {t' : List Nat} (ht : t.length ≤ 4000) (hcu : cu = t.length) (h : caseP p1 t = some t') :
    ∃ b c' b' e', MSpec w G 279 D [] (stm t cu br ke p1) (fun v m' => (∃ tk : Tok, v = (fun _ => .bool b) tk) ∧ m' = stm t' c' b' e' p1) ∧ t'.length ≤ t.length + 1 := by
  subst hcu
  obtain ⟨out, ho, ht'⟩ := Option.bind_eq_some_iff.mp h
  rw [← tabP3_eq] at ho
  have hne : 0 < tab3.length := by decide
  have hres : ∀ e ∈ tab3, e.res ≠ 0 := res_ne (n := 0) (by kernel_rfl)
  have ho' : fabP (tab3.map toE) (t.take t.length).reverse = some out := by rw [take_all rfl]; exact ho
  have fa := fun (D : Nat) (hD : D < 850) (br ke : Int) => fa_at (w := w) (G := G) (D := D) hG (tab3_ok w G) tab3_sub hne hD (c := t.length) (br := br) (ke := ke) (p1 := p1) (Nat.le_refl _) (by lia) ho'
  cases out with
  | none =>
    obtain rfl : t = t' := Option.some.inj ht'
    exact ⟨false, t.length, br, t.length, mRoad.spec (fun a d k v => rCaseF_ok w G a d k v (stm t t.length br ke p1)) (fun a d L k v ts => rCase_0_ok w G t t.length br ke p1 a d L k v ts) (by lia) fun a d L s₀ l => .c (HDOk.meth (D' := D + 20) (fun _ => fa _ (by lia) _ _) (Nat.le_refl _)) <| .c (HDOk.eq_true rfl) .n, Nat.le_succ _⟩
  | some q =>
    obtain ⟨n, r⟩ := q
    have ht' : (if p1 ≤ t.length - n then subP tabP0 (asT0.map (·.1)) p1 (t.take (t.length - n)) else some t) = some t' := ht'
    obtain ⟨hr0, hn, e, he, hel, her⟩ := fab_some hne tab3_sub hres ho
    rw [List.length_reverse] at hn
    have hn0 : 0 < n := by have := ((tab3_ok w G).small e he).1; lia
    by_cases hp : p1 ≤ t.length - n
    · rw [if_pos hp] at ht'
      have hl : (t.take (t.length - n)).length = t.length - n := by rw [List.length_take]; lia
      obtain ⟨b, c', b', e', hv, hl'⟩ := vEnd_spec (w := w) hG (D := D + 20) (by lia) (cu := (t.length : Int) - n) (br := (t.length : Int) - n) (ke := (t.length : Int) - n) (by lia) (by lia) ht'
      refine ⟨b, c', b', e', mRoad.spec (fun a d k v => rCaseF_ok w G a d k v (stm t t.length br ke p1)) (fun a d L k v ts => rCase_y_ok w G t t.length br ke p1 r ((t.length : Int) - n) (stm (t.take (t.length - n)) ((t.length : Int) - n) ((t.length : Int) - n) ((t.length : Int) - n) p1) (stm t' c' b' e' p1) b a d L k v ts) (by lia) fun a d L s₀ l =>
        .c (HDOk.meth (D' := D + 20) (fun _ => fa _ (by lia) _ _) (Nat.le_refl _)) <| .c (HDOk.eq_false hr0) <| .c (HDOk.meth (D' := D + 20) (fun _ => R1_true (by lia) (by lia)) (Nat.le_refl _)) <| .c (HDOk.meth (D' := D + 20) (fun _ => sDel_end (by lia) (by lia) hn hn0) (Nat.le_refl _)) <| .c (HDOk.meth (D' := D + 20) (fun _ => hv) (Nat.le_refl _)) .n, by lia⟩
    · rw [if_neg hp] at ht'
      obtain rfl : t = t' := Option.some.inj ht'
      exact ⟨false, (t.length : Int) - n, (t.length : Int) - n, t.length, mRoad.spec (fun a d k v => rCaseF_ok w G a d k v (stm t t.length br ke p1)) (fun a d L k v ts => rCase_n_ok w G t t.length br ke p1 r ((t.length : Int) - n) a d L k v ts) (by lia) fun a d L s₀ l =>
        .c (HDOk.meth (D' := D + 20) (fun _ => fa _ (by lia) _ _) (Nat.le_refl _)) <| .c (HDOk.eq_false hr0) <| .c (HDOk.meth (D' := D + 20) (fun _ => R1_false (by lia) (by lia)) (Nat.le_refl _)) .n, Nat.le_succ _⟩
theorem tab1_two : ∀ e ∈ tab1, 2 ≤ e.s.length := fun e he => Nat.le_of_ble_eq_true (List.all_eq_true.mp (by kernel_rfl : (tab1.all fun e => Nat.ble 2 e.s.length) = true) e he)
theorem dbl_spec (hG : G.ro = []) (hD : D < 700) (ht : t.length ≤ 4000) {c : Nat} (hc : c ≤ t.length) (hcu : cu = c) {b : Bool} (h : dblP t c = some b) :
    MSpec w G 258 D [] (stm t cu br ke p1) (fun v m' => (∃ tk : Tok, v = (fun _ => .bool b) tk) ∧ m' = stm t c br ke p1) ∧ (b = true → 2 ≤ c) := by
  subst hcu
  obtain ⟨out, ho, hb⟩ := Option.map_eq_some_iff.mp h
  rw [← tabP1_eq] at ho
  have hne : 0 < tab1.length := by decide
  have hres : ∀ e ∈ tab1, e.res ≠ 0 := res_ne (n := 0) (by kernel_rfl)
  have fa := fun (D : Nat) (hD : D < 850) (br ke : Int) => fa_at (w := w) (G := G) (D := D) hG (tab1_ok w G) tab1_sub hne hD (c := c) (br := br) (ke := ke) (p1 := p1) hc (by lia) ho
  cases out with
  | none =>
    subst hb
    exact ⟨mRoad.spec (fun a d k v => dblF_ok w G a d k v (stm t c br ke p1)) (fun a d L k v ts => dbl_0_ok w G t c br ke p1 a d L k v ts) (by lia) fun a d L s₀ l => .c (HDOk.meth (D' := D + 20) (fun _ => fa _ (by lia) _ _) (Nat.le_refl _)) <| .c (HDOk.eq_true rfl) .n, fun h => by cases h⟩
  | some q =>
    subst hb
    obtain ⟨n, r⟩ := q
    obtain ⟨hr0, hn, e, he, hel, her⟩ := fab_some hne tab1_sub hres ho
    rw [List.length_reverse, List.length_take] at hn
    have h2 := tab1_two e he
    refine ⟨?_, fun _ => by lia⟩
    have := mRoad.spec (kn := false) (D := D) (fun a d k v => dblF_ok w G a d k v (stm t c br ke p1)) (fun a d L k v ts => dbl_y_ok w G t c br ke p1 r ((c : Int) - n) a d L k v ts) (by lia) fun a d L s₀ l => .c (HDOk.meth (D' := D + 20) (fun _ => fa _ (by lia) _ _) (Nat.le_refl _)) <| .c (HDOk.eq_false hr0) .n
    rw [show (t.length : Int) - ((t.length : Int) - c) = c by lia] at this
    exact this
theorem undb_spec (hD : D < 700) (ht : t.length ≤ 4000) (h2 : 2 ≤ t.length) (hcu : cu = t.length) :
    ∃ c' b' e', MSpec w G 265 D [] (stm t cu br ke p1) (fun v m' => (∃ tk : Tok, v = (fun _ => .bool true) tk) ∧ m' = stm (undbP t) c' b' e' p1) := by
  subst hcu
  refine ⟨_, _, _, mRoad.spec (kn := false) (D := D) (fun a d k v => undbF_ok w G a d k v (stm t t.length br ke p1)) (fun a d L k v ts => undb_y_ok w G t t.length br ke p1 (stm (undbP t) ((t.length : Int) - 1 - 1) ((t.length : Int) - 1 - 1) ((t.length : Int) - 1 - 1) p1) a d L k v ts) (by lia) fun a d L s₀ l =>
    .c (HDOk.le_false (by lia)) <| .c (HDOk.le_false (by lia)) <| .c (HDOk.meth (D' := D + 20) (fun _ => ?_) (Nat.le_refl _)) .n⟩
  have := sDel_spec (w := w) (G := G) (D := D + 20) (by lia) (t := t) (br := (t.length : Int) - 1 - 1) (ke := (t.length : Int) - 1) (p1 := p1) (by lia) (by lia) (by lia) (by lia)
  have e1 : ((t.length : Int) - 1 - 1).toNat = t.length - 2 := by lia
  have e2 : ((t.length : Int) - 1).toNat = t.length - 1 := by lia
  rw [e1, e2] at this
  exact this
theorem undbP_len {t : List Nat} (h : 2 ≤ t.length) : (undbP t).length + 1 = t.length := by
  unfold undbP
  rw [List.length_append, List.length_take, List.length_drop]; lia
end
end Mine
end
end
section
open PySem PySem.W PyProof.Rows
set_option maxRecDepth 100000
section
namespace Mine
section
variable {w : World} {G : Gs} {D : Nat} {t : List Nat} {cu br ke : Int} {p1 : Nat}
theorem ins_spec (hG : G.ro = []) {F : Fn} {tv : Nat} {tb : List Am} {tP : TabP} {ea : List Nat} (hT : TbOk w G tv tb) (hsub : ∀ e ∈ tb, e.sub < tb.length) (hP : tb.map toE = tP) (hne : 0 < tb.length) (hres : ∀ e ∈ tb, e.res ≠ 0)
    (hF : ∀ (a d : Nat) (k v : Nat → Tok) (m : Sm), F.Ok w G ea (selfSt w.params a d k v m) [.ref a]) (h0 : ∀ t cu br ke p1 a d L k v ts, (in0 F tv w G t cu br ke p1 a d L k v ts).Ok w) (hN : ∀ t cu br ke p1 av c2 a d L k v ts, (inn F tv w G t cu br ke p1 av c2 a d L k v ts).Ok w)
    (hd : ∀ t cu br ke p1 av c2 m3 a d L k v ts, (ind F tv w G t cu br ke p1 av c2 m3 a d L k v ts).Ok w) (hy : ∀ t cu br ke p1 av c2 m3 m4 m5 b a d L k v ts, (iny F tv w G t cu br ke p1 av c2 m3 m4 m5 b a d L k v ts).Ok w)
    (hD : D < 650) {t' : List Nat} (ht : t.length ≤ 4000) (hcu : cu = t.length) (h : instrP tP p1 t = some t') :
    ∃ b c' b' e', MSpec w G F.f D [] (stm t cu br ke p1) (fun v m' => (∃ tk : Tok, v = (fun _ => .bool b) tk) ∧ m' = stm t' c' b' e' p1) ∧ t'.length ≤ t.length + 1 := by
  subst hcu
  obtain ⟨out, ho, ht'⟩ := Option.bind_eq_some_iff.mp h
  rw [← hP] at ho
  have ho' : fabP (tb.map toE) (t.take t.length).reverse = some out := by rw [take_all rfl]; exact ho
  have fa := fun (D : Nat) (hD : D < 850) (br ke : Int) => fa_at (w := w) (G := G) (D := D) hG hT hsub hne hD (c := t.length) (br := br) (ke := ke) (p1 := p1) (Nat.le_refl _) (by lia) ho'
  cases out with
  | none =>
    obtain rfl : t = t' := Option.some.inj ht'
    exact ⟨false, t.length, br, t.length, mRoad.spec (fun a d k v => hF a d k v (stm t t.length br ke p1)) (fun a d L k v ts => h0 t t.length br ke p1 a d L k v ts) (by lia) fun a d L s₀ l => .c (HDOk.meth (D' := D + 20) (fun _ => fa _ (by lia) _ _) (Nat.le_refl _)) <| .c (HDOk.eq_true rfl) .n, Nat.le_succ _⟩
  | some q =>
    obtain ⟨n, r⟩ := q
    have ht' : (if p1 ≤ t.length - n then (dblP t (t.length - n)).map fun b => if b = true then undbP (t.take (t.length - n)) else t else some t) = some t' := ht'
    obtain ⟨hr0, hn, e, he, hel, her⟩ := fab_some hne hsub hres ho
    rw [List.length_reverse] at hn
    have hn0 : 0 < n := by have := (hT.small e he).1; lia
    by_cases hp : p1 ≤ t.length - n
    · rw [if_pos hp] at ht'
      obtain ⟨b, hb, ht'⟩ := Option.map_eq_some_iff.mp ht'
      have db := fun (D : Nat) (hD : D < 700) (br ke : Int) => dbl_spec (w := w) (G := G) (D := D) (p1 := p1) (br := br) (ke := ke) hG hD ht (c := t.length - n) (cu := (t.length : Int) - n) (by lia) (by lia) hb
      have hc : ((t.length - n : Nat) : Int) = (t.length : Int) - n := by lia
      rw [hc] at db
      cases b with
      | false =>
        obtain rfl : t = t' := ht'
        exact ⟨false, (t.length : Int) - n, (t.length : Int) - n, t.length, mRoad.spec (fun a d k v => hF a d k v (stm t t.length br ke p1)) (fun a d L k v ts => hd t t.length br ke p1 r ((t.length : Int) - n) (stm t ((t.length : Int) - n) ((t.length : Int) - n) t.length p1) a d L k v ts) (by lia) fun a d L s₀ l =>
          .c (HDOk.meth (D' := D + 20) (fun _ => fa _ (by lia) _ _) (Nat.le_refl _)) <| .c (HDOk.eq_false hr0) <| .c (HDOk.meth (D' := D + 20) (fun _ => R1_true (by lia) (by lia)) (Nat.le_refl _)) <| .c (HDOk.meth (D' := D + 20) (fun _ => (db _ (by lia) _ _).1) (Nat.le_refl _)) .n, Nat.le_succ _⟩
      | true =>
        have h2 := (db 0 (by lia) 0 0).2 rfl
        have ht' : undbP (t.take (t.length - n)) = t' := ht'
        have hl : (t.take (t.length - n)).length = t.length - n := by rw [List.length_take]; lia
        obtain ⟨c', b', e', hv⟩ := undb_spec (w := w) (G := G) (D := D + 20) (t := t.take (t.length - n)) (cu := (t.length : Int) - n) (br := (t.length : Int) - n) (ke := (t.length : Int) - n) (p1 := p1) (by lia) (by lia) (by lia) (by lia)
        rw [ht'] at hv
        have hl2 := undbP_len (t := t.take (t.length - n)) (by lia)
        rw [ht'] at hl2
        exact ⟨true, c', b', e', mRoad.spec (fun a d k v => hF a d k v (stm t t.length br ke p1)) (fun a d L k v ts => hy t t.length br ke p1 r ((t.length : Int) - n) (stm t ((t.length : Int) - n) ((t.length : Int) - n) t.length p1) (stm (t.take (t.length - n)) ((t.length : Int) - n) ((t.length : Int) - n) ((t.length : Int) - n) p1) (stm t' c' b' e' p1) true a d L k v ts) (by lia) fun a d L s₀ l =>
          .c (HDOk.meth (D' := D + 20) (fun _ => fa _ (by lia) _ _) (Nat.le_refl _)) <| .c (HDOk.eq_false hr0) <| .c (HDOk.meth (D' := D + 20) (fun _ => R1_true (by lia) (by lia)) (Nat.le_refl _)) <| .c (HDOk.meth (D' := D + 20) (fun _ => (db _ (by lia) _ _).1) (Nat.le_refl _)) <| .c (HDOk.meth (D' := D + 20) (fun _ => sDel_end (by lia) (by lia) hn hn0) (Nat.le_refl _)) <| .c (HDOk.meth (D' := D + 20) (fun _ => hv) (Nat.le_refl _)) .n, by lia⟩
    · rw [if_neg hp] at ht'
      obtain rfl : t = t' := Option.some.inj ht'
      exact ⟨false, (t.length : Int) - n, (t.length : Int) - n, t.length, mRoad.spec (fun a d k v => hF a d k v (stm t t.length br ke p1)) (fun a d L k v ts => hN t t.length br ke p1 r ((t.length : Int) - n) a d L k v ts) (by lia) fun a d L s₀ l =>
        .c (HDOk.meth (D' := D + 20) (fun _ => fa _ (by lia) _ _) (Nat.le_refl _)) <| .c (HDOk.eq_false hr0) <| .c (HDOk.meth (D' := D + 20) (fun _ => R1_false (by lia) (by lia)) (Nat.le_refl _)) .n, Nat.le_succ _⟩
theorem instr_spec (hG : G.ro = []) (hD : D < 650) {t' : List Nat} (ht : t.length ≤ 4000) (hcu : cu = t.length) (h : instrP tabP2 p1 t = some t') :
    ∃ b c' b' e', MSpec w G 272 D [] (stm t cu br ke p1) (fun v m' => (∃ tk : Tok, v = (fun _ => .bool b) tk) ∧ m' = stm t' c' b' e' p1) ∧ t'.length ≤ t.length + 1 :=
  ins_spec hG (tab2_ok w G) tab2_sub tabP2_eq (by decide) (res_ne (n := 0) (by kernel_rfl)) (instrF_ok w G) (instr_0_ok w G) (instr_n_ok w G) (instr_d_ok w G) (instr_y_ok w G) hD ht hcu h
theorem fact_spec (hG : G.ro = []) (hD : D < 650) {t' : List Nat} (ht : t.length ≤ 4000) (hcu : cu = t.length) (h : instrP tabP6 p1 t = some t') :
    ∃ b c' b' e', MSpec w G 300 D [] (stm t cu br ke p1) (fun v m' => (∃ tk : Tok, v = (fun _ => .bool b) tk) ∧ m' = stm t' c' b' e' p1) ∧ t'.length ≤ t.length + 1 :=
  ins_spec hG (tab6_ok w G) tab6_sub tabP6_eq (by decide) (res_ne (n := 0) (by kernel_rfl)) (factF_ok w G) (fact_0_ok w G) (fact_n_ok w G) (fact_d_ok w G) (fact_y_ok w G) hD ht hcu h
noncomputable def Marks (x : List Nat) : Prop := ∃ c r, x = c :: r ∧ (isV c = true → (skipV false r).isSome = true)
theorem sub_sub_of {a b c : Int} (h : c = b) : a - (b - c) = a := by rw [h]; lia
theorem stem_spec (hGv : GOk w G) (hG : G.ro = []) (hD : D < 600) {t1 t' : List Nat} {q0 : Int} {full : Bool} (hm : Marks t1) (ht : t1.length ≤ 1000) (h : stemP (markP t1) t1 = some t') :
    ∃ b' e', MSpecK true w G 335 D [] (Sm.mk (sOf t1) 0 t1.length 0 0 t1.length q0 full) (fun v m' => (∃ tk : Tok, v = (fun _ => .bool true) tk) ∧ m' = stm t' 0 b' e' (markP t1)) ∧ t'.length ≤ t1.length + 20 := by
  obtain ⟨c, r, hx, hv⟩ := hm
  obtain ⟨b0, cu1, hmark⟩ := rMark_spec (w := w) hGv (D := D + 20) (by lia) (m := Sm.mk (sOf t1) 0 t1.length 0 0 t1.length q0 full) rfl (by show (t1.length : Int) = (sOf t1).length; rw [sOf_len]) (by show (sOf t1).length ≤ _; rw [sOf_len]; lia) (c := c) (r := r) (by show (sOf t1).cps.toList = _; rw [sOf_list, hx]) hv full
  rw [← hx] at hmark
  obtain ⟨t2, h2, h⟩ := Option.bind_eq_some_iff.mp h
  obtain ⟨t3, h3, h⟩ := Option.bind_eq_some_iff.mp h
  obtain ⟨t4, h4, h⟩ := Option.bind_eq_some_iff.mp h
  obtain ⟨t5, h5, h⟩ := Option.bind_eq_some_iff.mp h
  obtain ⟨t6, h6, h⟩ := Option.bind_eq_some_iff.mp h
  obtain ⟨t7, h7, h⟩ := Option.bind_eq_some_iff.mp h
  obtain ⟨t8, h8, h⟩ := Option.bind_eq_some_iff.mp h
  obtain ⟨t9, h9, h10⟩ := Option.bind_eq_some_iff.mp h
  have u2 : (t1.length : Int) = t1.length := rfl
  obtain ⟨b2, c2, r2, e2, v2, l2⟩ := instr_spec (w := w) hG (D := D + 20) (by lia) (cu := (t1.length : Int)) (br := 0) (ke := (t1.length : Int)) (by lia) u2 h2
  have u3 : ((t2.length : Int) - ((t1.length : Int) - (t1.length : Int))) = t2.length := sub_sub_of u2
  obtain ⟨b3, c3, r3, e3, v3, l3⟩ := rCase_spec (w := w) hG (D := D + 20) (by lia) (cu := ((t2.length : Int) - ((t1.length : Int) - (t1.length : Int)))) (br := r2) (ke := e2) (by lia) u3 h3
  have u4 : ((t3.length : Int) - ((t2.length : Int) - ((t2.length : Int) - ((t1.length : Int) - (t1.length : Int))))) = t3.length := sub_sub_of u3
  obtain ⟨b4, c4, r4, e4, v4, l4⟩ := cSpec_spec (w := w) hG (D := D + 20) (by lia) (cu := ((t3.length : Int) - ((t2.length : Int) - ((t2.length : Int) - ((t1.length : Int) - (t1.length : Int)))))) (br := r3) (ke := e3) (by lia) u4 h4
  have u5 : ((t4.length : Int) - ((t3.length : Int) - ((t3.length : Int) - ((t2.length : Int) - ((t2.length : Int) - ((t1.length : Int) - (t1.length : Int))))))) = t4.length := sub_sub_of u4
  obtain ⟨b5, c5, r5, e5, v5, l5⟩ := cOth_spec (w := w) hG (D := D + 20) (by lia) (cu := ((t4.length : Int) - ((t3.length : Int) - ((t3.length : Int) - ((t2.length : Int) - ((t2.length : Int) - ((t1.length : Int) - (t1.length : Int)))))))) (br := r4) (ke := e4) (by lia) u5 h5
  have u6 : ((t5.length : Int) - ((t4.length : Int) - ((t4.length : Int) - ((t3.length : Int) - ((t3.length : Int) - ((t2.length : Int) - ((t2.length : Int) - ((t1.length : Int) - (t1.length : Int))))))))) = t5.length := sub_sub_of u5
  obtain ⟨b6, c6, r6, e6, v6, l6⟩ := fact_spec (w := w) hG (D := D + 20) (by lia) (cu := ((t5.length : Int) - ((t4.length : Int) - ((t4.length : Int) - ((t3.length : Int) - ((t3.length : Int) - ((t2.length : Int) - ((t2.length : Int) - ((t1.length : Int) - (t1.length : Int)))))))))) (br := r5) (ke := e5) (by lia) u6 h6
  have u7 : ((t6.length : Int) - ((t5.length : Int) - ((t5.length : Int) - ((t4.length : Int) - ((t4.length : Int) - ((t3.length : Int) - ((t3.length : Int) - ((t2.length : Int) - ((t2.length : Int) - ((t1.length : Int) - (t1.length : Int))))))))))) = t6.length := sub_sub_of u6
  obtain ⟨b7, c7, r7, e7, v7, l7⟩ := owned_spec (w := w) hG (D := D + 20) (by lia) (cu := ((t6.length : Int) - ((t5.length : Int) - ((t5.length : Int) - ((t4.length : Int) - ((t4.length : Int) - ((t3.length : Int) - ((t3.length : Int) - ((t2.length : Int) - ((t2.length : Int) - ((t1.length : Int) - (t1.length : Int)))))))))))) (br := r6) (ke := e6) (by lia) u7 h7
  have u8 : ((t7.length : Int) - ((t6.length : Int) - ((t6.length : Int) - ((t5.length : Int) - ((t5.length : Int) - ((t4.length : Int) - ((t4.length : Int) - ((t3.length : Int) - ((t3.length : Int) - ((t2.length : Int) - ((t2.length : Int) - ((t1.length : Int) - (t1.length : Int))))))))))))) = t7.length := sub_sub_of u7
  obtain ⟨b8, c8, r8, e8, v8, l8⟩ := sOwn_spec (w := w) hG (D := D + 20) (by lia) (cu := ((t7.length : Int) - ((t6.length : Int) - ((t6.length : Int) - ((t5.length : Int) - ((t5.length : Int) - ((t4.length : Int) - ((t4.length : Int) - ((t3.length : Int) - ((t3.length : Int) - ((t2.length : Int) - ((t2.length : Int) - ((t1.length : Int) - (t1.length : Int)))))))))))))) (br := r7) (ke := e7) (by lia) u8 h8
  have u9 : ((t8.length : Int) - ((t7.length : Int) - ((t7.length : Int) - ((t6.length : Int) - ((t6.length : Int) - ((t5.length : Int) - ((t5.length : Int) - ((t4.length : Int) - ((t4.length : Int) - ((t3.length : Int) - ((t3.length : Int) - ((t2.length : Int) - ((t2.length : Int) - ((t1.length : Int) - (t1.length : Int))))))))))))))) = t8.length := sub_sub_of u8
  obtain ⟨b9, c9, r9, e9, v9, l9⟩ := pOwn_spec (w := w) hG (D := D + 20) (by lia) (cu := ((t8.length : Int) - ((t7.length : Int) - ((t7.length : Int) - ((t6.length : Int) - ((t6.length : Int) - ((t5.length : Int) - ((t5.length : Int) - ((t4.length : Int) - ((t4.length : Int) - ((t3.length : Int) - ((t3.length : Int) - ((t2.length : Int) - ((t2.length : Int) - ((t1.length : Int) - (t1.length : Int)))))))))))))))) (br := r8) (ke := e8) (by lia) u9 h9
  have u10 : ((t9.length : Int) - ((t8.length : Int) - ((t8.length : Int) - ((t7.length : Int) - ((t7.length : Int) - ((t6.length : Int) - ((t6.length : Int) - ((t5.length : Int) - ((t5.length : Int) - ((t4.length : Int) - ((t4.length : Int) - ((t3.length : Int) - ((t3.length : Int) - ((t2.length : Int) - ((t2.length : Int) - ((t1.length : Int) - (t1.length : Int))))))))))))))))) = t9.length := sub_sub_of u9
  obtain ⟨b10, c10, r10, e10, v10, l10⟩ := plur_spec (w := w) hG (D := D + 20) (by lia) (cu := ((t9.length : Int) - ((t8.length : Int) - ((t8.length : Int) - ((t7.length : Int) - ((t7.length : Int) - ((t6.length : Int) - ((t6.length : Int) - ((t5.length : Int) - ((t5.length : Int) - ((t4.length : Int) - ((t4.length : Int) - ((t3.length : Int) - ((t3.length : Int) - ((t2.length : Int) - ((t2.length : Int) - ((t1.length : Int) - (t1.length : Int)))))))))))))))))) (br := r9) (ke := e9) (by lia) u10 h10
  refine ⟨r10, e10, ?_, by lia⟩
  cases full with
  | true => exact mRoad.spec (kn := true) (fun a d k v => stemF0F_ok w G a d k v _) (fun a d L k v ts => stem_t_ok w G q0 (markP t1) cu1 b0 t1 t2 c2 r2 e2 b2 t3 c3 r3 e3 b3 t4 c4 r4 e4 b4 t5 c5 r5 e5 b5 t6 c6 r6 e6 b6 t7 c7 r7 e7 b7 t8 c8 r8 e8 b8 t9 c9 r9 e9 b9 t' c10 r10 e10 b10 a d L k v ts) (by lia) fun a d L s₀ l => .c (HDOk.methF (D' := D + 20) (fun _ => hmark) (Nat.le_refl _) rfl) <| .c (HDOk.meth (D' := D + 20) (fun _ => v2) (Nat.le_refl _)) <| .c (HDOk.meth (D' := D + 20) (fun _ => v3) (Nat.le_refl _)) <| .c (HDOk.meth (D' := D + 20) (fun _ => v4) (Nat.le_refl _)) <| .c (HDOk.meth (D' := D + 20) (fun _ => v5) (Nat.le_refl _)) <| .c (HDOk.meth (D' := D + 20) (fun _ => v6) (Nat.le_refl _)) <| .c (HDOk.meth (D' := D + 20) (fun _ => v7) (Nat.le_refl _)) <| .c (HDOk.meth (D' := D + 20) (fun _ => v8) (Nat.le_refl _)) <| .c (HDOk.meth (D' := D + 20) (fun _ => v9) (Nat.le_refl _)) <| .c (HDOk.meth (D' := D + 20) (fun _ => v10) (Nat.le_refl _)) .n
  | false => exact mRoad.spec (kn := true) (fun a d k v => stemF0F_ok w G a d k v _) (fun a d L k v ts => stem_f_ok w G q0 (markP t1) cu1 b0 t1 t2 c2 r2 e2 b2 t3 c3 r3 e3 b3 t4 c4 r4 e4 b4 t5 c5 r5 e5 b5 t6 c6 r6 e6 b6 t7 c7 r7 e7 b7 t8 c8 r8 e8 b8 t9 c9 r9 e9 b9 t' c10 r10 e10 b10 a d L k v ts) (by lia) fun a d L s₀ l => .c (HDOk.methF (D' := D + 20) (fun _ => hmark) (Nat.le_refl _) rfl) <| .c (HDOk.meth (D' := D + 20) (fun _ => v2) (Nat.le_refl _)) <| .c (HDOk.meth (D' := D + 20) (fun _ => v3) (Nat.le_refl _)) <| .c (HDOk.meth (D' := D + 20) (fun _ => v4) (Nat.le_refl _)) <| .c (HDOk.meth (D' := D + 20) (fun _ => v5) (Nat.le_refl _)) <| .c (HDOk.meth (D' := D + 20) (fun _ => v6) (Nat.le_refl _)) <| .c (HDOk.meth (D' := D + 20) (fun _ => v7) (Nat.le_refl _)) <| .c (HDOk.meth (D' := D + 20) (fun _ => v8) (Nat.le_refl _)) <| .c (HDOk.meth (D' := D + 20) (fun _ => v9) (Nat.le_refl _)) <| .c (HDOk.meth (D' := D + 20) (fun _ => v10) (Nat.le_refl _)) .n
theorem setCur_spec (hD : D < 850) {m : Sm} {x : List Nat} {T : Tok} (hx : x.length ≤ 1000) (full : Bool) : MSpec w G 42 D [.str (sOf x) T] (Sm.mk m.cur m.cu m.li m.lb m.br m.ke m.p1 full) (fun v m' => (∃ tk : Tok, v = (fun _ => .none) tk) ∧ m' = Sm.mk (sOf x) 0 (sOf x).length 0 0 (sOf x).length m.p1 full) := by
  cases full with
  | true => exact mRoad.spec (fun a d k v => setCurF_ok w G a d k v _ (.str (sOf x) T)) (fun a d L k v ts => setCur_t_ok w G m (sOf x) T a d L k v ts) hD fun a d L s₀ l => .c (HDOk.sLen (by rw [sOf_len]; lia)) .n
  | false => exact mRoad.spec (fun a d k v => setCurF_ok w G a d k v _ (.str (sOf x) T)) (fun a d L k v ts => setCur_f_ok w G m (sOf x) T a d L k v ts) hD fun a d L s₀ l => .c (HDOk.sLen (by rw [sOf_len]; lia)) .n
theorem sWord_spec (hGv : GOk w G) (hG : G.ro = []) (hD : D < 550) {m : Sm} {x t' : List Nat} (hm : Marks x) (hx : x.length ≤ 1000) (h : stemP (markP x) x = some t') :
    ∃ b' e', ∀ T : Tok, MSpecK true w G 189 D [.str (sOf x) T] m (fun v m' => (∃ tk : Tok, v = (fun tk => .str (sOf t') tk) tk) ∧ m' = stm t' 0 b' e' (markP x)) := by
  obtain ⟨cur, cu, li, lb, mb, mk, q0, full⟩ := m
  obtain ⟨b', e', hs, _⟩ := stem_spec (w := w) hGv hG (D := D + 20) (by lia) (q0 := q0) (full := full) hm hx h
  have hset := fun T : Tok => setCur_spec (w := w) (G := G) (D := D + 20) (by lia) (m := Sm.mk cur cu li lb mb mk q0 full) (x := x) (T := T) hx full
  have hl : ((sOf x).length : Int) = x.length := by rw [sOf_len]
  refine ⟨b', e', fun T => ?_⟩
  have hget : MSpec w G 49 (D + 20) [] (stm t' 0 b' e' (markP x)) (fun v m' => (∃ tk : Tok, v = (fun tk => .str (sOf t') tk) tk) ∧ m' = stm t' 0 b' e' (markP x)) :=
    mRoad.spec (fun a d k v => getCurF_ok w G a d k v _) (fun a d L k v ts => getCur_ok w G (stm t' 0 b' e' (markP x)) a d L k v ts) (by lia) fun a d L s₀ l => .n
  rw [← hl] at hs
  cases full with
  | true => exact mRoad.spec (kn := true) (fun a d k v => sWordF_ok w G a d k v _ (.str (sOf x) T)) (fun a d L k v ts => sWord_t_ok w G (Sm.mk cur cu li lb mb mk q0 true) (sOf x) T (stm t' 0 b' e' (markP x)) true a d L k v ts) (by lia) fun a d L s₀ l => .c (HDOk.meth (D' := D + 20) (fun q => setCur_spec (by lia) hx true) (Nat.le_refl _)) <| .c (HDOk.methF (D' := D + 20) (fun _ => hs) (Nat.le_refl _) rfl) <| .c (HDOk.meth (D' := D + 20) (fun _ => hget) (Nat.le_refl _)) .n
  | false => exact mRoad.spec (kn := true) (fun a d k v => sWordF_ok w G a d k v _ (.str (sOf x) T)) (fun a d L k v ts => sWord_f_ok w G (Sm.mk cur cu li lb mb mk q0 false) (sOf x) T (stm t' 0 b' e' (markP x)) true a d L k v ts) (by lia) fun a d L s₀ l => .c (HDOk.meth (D' := D + 20) (fun q => setCur_spec (by lia) hx false) (Nat.le_refl _)) <| .c (HDOk.methF (D' := D + 20) (fun _ => hs) (Nat.le_refl _) rfl) <| .c (HDOk.meth (D' := D + 20) (fun _ => hget) (Nat.le_refl _)) .n
end
end Mine
end
end
section
open PySem PySem.W PyProof.Rows
set_option maxRecDepth 100000
section
namespace Mine
noncomputable def refR : Result → Nat
  | .ok (.ret (.ref a)) => a
  | _ => 0
noncomputable def dE : Obj := ⟨.type "dict", none, .dict #[] 0, #[]⟩
noncomputable def stE (a d : Nat) : St := [(a, inO 878 d), (d, dE)]
noncomputable def m0 (x : PySem.Str) : Sm := Sm.mk x 0 x.length 0 0 x.length 0 false
noncomputable def HD.setE (P : Params) (a d L : Nat) (x : PySem.Str) : HD :=
  ⟨fun c _ => .call (.ref 42) ⟨[.ref a, .str x (argTok c 1)], []⟩, fun st => [(a, inO 878 d), (d, dE), (L, objAt st 2)], fun _ => .ok (.ret .none), fun y st => [(a, inO 878 d), (d, dictT P (m0 x) (y.K 1) (y.V 1)), (L, objAt st 2)]⟩
noncomputable def HD.init (P : Params) : HD :=
  ⟨fun c st => .call (.ref 35) ⟨[.ref (addrAt st 1)], []⟩, fun st => [(addrAt st 0, dE), (addrAt st 1, inO 878 (addrAt st 0))], fun _ => .ok (.ret .none),
    fun y st => [(addrAt st 0, dictT P (m0 (sOf [])) (y.K 1) (y.V 1)), (addrAt st 1, inO 878 (addrAt st 0))]⟩
end Mine
end
end
section
open PySem PySem.W PyProof.Rows
set_option maxRecDepth 100000
set_option maxHeartbeats 0
section
namespace Mine
noncomputable def initF : Fn := ⟨35, fnAt 2 (some 0), "BaseStemmer.__init__", 34, (sv "snowballstemmer.basestemmer" 194), ["self"]⟩
noncomputable def setEF : Fn := ⟨42, fnAt 2 (some 1), "BaseStemmer.set_current", 41, (sv "snowballstemmer.basestemmer" 194), ["self", "value"]⟩
noncomputable def setE_r (w : World) (G : Gs) (a d L : Nat) (ts : Nat → Tok) (x : PySem.Str) (t : Tok) : ScC := ⟨G, .func (fnBody setEF.st) (setEF.env L), [3,3,1,0,0,0,0,0,0,1,0,1,0,1,0,0,0,0,0,1,0,2,2,2,3,1,0,0,0,0,0,0,1,0,1,0,1,0,0,0,0,0,1,0,2,2,2,0,0,3,1,0,0,0,0,0,0,1,0,0,0,0,0,1,1,0,2,1,3,1,0,0,0,0,0,0,1,0,1,0,1,0,0,0,0,0,1,0,2,2,2,3,1,0,0,0,0,0,0,1,0,1,0,1,0,0,0,0,0,1,0,2,2,2,3,1,0,0,0,0,0,0,1,0,0,0,0,0,1,1,0,2,3,1,0,0,0,0,0,0,1,0,1,0,1,0,0,0,0,0,1,0,2,2,2,3,1,0,0,0,0,0,0,1,0,0,0,0,0,1,1,0,2,3,1,0,0,0,0,0,0,1,0,1,0,1,0,0,0,0,0,1,0,2,2,2], (stE a d ++ [(L, setEF.fr w.params ts [.ref a, .str x t])]), [HD.sLen x], (fun _ => .ok (.ret .none)), (fun _ => (fun st => [(a, inO 878 d), (d, dictT w.params (m0 x) (kTok st 1) (vTok st 1)), (L, objAt st 2)]))⟩
noncomputable def init_r (w : World) (G : Gs) (a d L : Nat) (ts : Nat → Tok) : ScC := ⟨G, .func (fnBody initF.st) (initF.env L), [3,1,0,0,0,0,0,1,0,0,0,0,0,1,0,0,0,0,0,0,1,2,0,1], (stE a d ++ [(L, initF.fr w.params ts [.ref a])]), [HD.setE w.params a d L (sOf [])], (fun _ => .ok (.ret .none)), (fun _ => (fun st => [(a, inO 878 d), (d, dictT w.params (m0 (sOf [])) (kTok st 1) (vTok st 1)), (L, objAt st 2)]))⟩
noncomputable def new_r (w : World) (G : Gs)  : ScC := ⟨G, .call (.ref 878) ⟨[], []⟩, [0,0,0,0,0,0,0,0,0,0,0,0,0,0,0,0,0,0,0,0,0,0,2,0,2,0,0,0,0,0,0,1], ([] : St), [HD.init w.params], (fun xo => .ok (.ret (.ref (refR xo)))), (fun xo st => [(addrAt st 0, dictT w.params (m0 (sOf [])) (kTok st 0) (vTok st 0)), (refR xo, inO 878 (addrAt st 0))])⟩
theorem initF_ok (w : World) (G : Gs) (a d : Nat)  : initF.Ok w G [3,3] (stE a d) [.ref a] := okN (FnAt.mk' (sv "snowballstemmer.basestemmer" 194) (by kernel_rfl) (by kernel_rfl) (by kernel_rfl) (by kernel_rfl)) (by kernel_rfl) (fun pm => by kernel_rfl) (by kernel_rfl)
theorem setEF_ok (w : World) (G : Gs) (a d : Nat) (x1 : Value) : setEF.Ok w G [3,3,3,3] (stE a d) [.ref a, x1] := okN (FnAt.mk' (sv "snowballstemmer.basestemmer" 194) (by kernel_rfl) (by kernel_rfl) (by kernel_rfl) (by kernel_rfl)) (by kernel_rfl) (fun pm => by kernel_rfl) (by kernel_rfl)
theorem setE_r_ok (w : World) (G : Gs) (a d L : Nat) (ts : Nat → Tok) (x : PySem.Str) (t : Tok) : (setE_r w G a d L ts x t).Ok w := okC (S := fun w => setE_r w G a d L ts x t) (by kernel_rfl) (by kernel_rfl) w
theorem init_r_ok (w : World) (G : Gs) (a d L : Nat) (ts : Nat → Tok) : (init_r w G a d L ts).Ok w := okC (S := fun w => init_r w G a d L ts) (by kernel_rfl) (by kernel_rfl) w
theorem new_r_ok (w : World) (G : Gs)  : (new_r w G ).Ok w := okC (S := fun w => new_r w G ) (by kernel_rfl) (by kernel_rfl) w
end Mine
end
end
section
open PySem PySem.W PyProof.Rows
set_option maxRecDepth 100000
section
namespace Mine
section
variable {w : World} {G : Gs} {D : Nat}
theorem setE_spec (hD : D < 850) {a d : Nat} {x : PySem.Str} {T : Tok} (hx : x.length ≤ 1000) : CSpec w G false D (.call (.ref 42) ⟨[.ref a, .str x T], []⟩) (stE a d) (fun r st2 ex => r = .ok (.ret .none) ∧ ∃ k v, st2 = [(a, inO 878 d), (d, dictT w.params (m0 x) k v)]) := by
  refine Fn.Ok.call (F := setEF) (setEF_ok w G a d (.str x T)) (Nat.lt_of_lt_of_le hD (by decide)) fun L ts A s l hA hD' hF R => ?_
  refine codeAny_mono ((setE_r_ok w G a d L ts x T).run (.c (HDOk.sLen (by lia)) .n) hA hD' (fun l' hl => by cases hl) R) fun r s' q => ?_
  obtain ⟨xo, st', e, R'⟩ := q
  exact ⟨[(a, inO 878 d), (d, dictT w.params (m0 x) (kTok st' 1) (vTok st' 1))], objAt st' 2, [], ⟨e, _, _, rfl⟩, rfl, R'⟩
theorem HDOk.setE (hD : D < 850) {a d L : Nat} {x : PySem.Str} (hx : x.length ≤ 1000) {s₀ : Shared} {X : XS} : HDOk w G D s₀ X (HD.setE w.params a d L x) := by
  intro c st A s hA hA' hF R
  refine codeAny_mono ((setE_spec (D := D) hD hx).at (rest := [(L, objAt st 2)]) hA hA' R) fun r s' q => ?_
  obtain ⟨st2, ex, ⟨e, k, v, e2⟩, _, R'⟩ := q
  subst e2
  exact ⟨⟨fun _ => 0, fun _ => k, fun _ => v, fun _ => #[]⟩, e, Rel.cut R'⟩
theorem init_spec (hD : D < 820) {a d : Nat} : CSpec w G false D (.call (.ref 35) ⟨[.ref a], []⟩) (stE a d) (fun r st2 ex => r = .ok (.ret .none) ∧ ∃ k v, st2 = [(a, inO 878 d), (d, dictT w.params (m0 (sOf [])) k v)]) := by
  refine Fn.Ok.call (F := initF) (initF_ok w G a d) (Nat.lt_of_lt_of_le hD (by decide)) fun L ts A s l hA hD' hF R => ?_
  refine codeAny_mono ((init_r_ok w G a d L ts).run (.c (HDOk.setE (by lia) (by rw [sOf_len]; simp)) .n) hA hD' (fun l' hl => by cases hl) R) fun r s' q => ?_
  obtain ⟨xo, st', e, R'⟩ := q
  exact ⟨[(a, inO 878 d), (d, dictT w.params (m0 (sOf [])) (kTok st' 1) (vTok st' 1))], objAt st' 2, [], ⟨e, _, _, rfl⟩, rfl, R'⟩
theorem HDOk.init (hD : D < 820) {s₀ : Shared} {X : XS} : HDOk w G D s₀ X (HD.init w.params) := by
  intro c st A s hA hA' hF R
  refine codeAny_mono ((init_spec (D := D) hD).at (rest := []) hA hA' (Rel.perm R (.swap _ _ _))) fun r s' q => ?_
  obtain ⟨st2, ex, ⟨e, k, v, e2⟩, _, R'⟩ := q
  subst e2
  exact ⟨⟨fun _ => 0, fun _ => k, fun _ => v, fun _ => #[]⟩, e, Rel.perm (Rel.cut (l := [(addrAt st 1, inO 878 (addrAt st 0)), (addrAt st 0, dictT w.params (m0 (sOf [])) k v)]) (l' := ex) R') (.swap _ _ _)⟩
theorem new_spec (hD : D < 800) : CSpec w G false D (.call (.ref 878) ⟨[], []⟩) [] (fun r st2 ex => ∃ a d k v, r = .ok (.ret (.ref a)) ∧ ex = [(a, inO 878 d), (d, dictT w.params (m0 (sOf [])) k v)]) := by
  intro A s l hA hD' hF R
  refine codeAny_mono ((new_r_ok w G).run (.c (HDOk.init (by lia)) .n) hA hD' (fun l' hl => by cases hl) R) fun r s' q => ?_
  obtain ⟨xo, st', e, R'⟩ := q
  exact ⟨[], [(refR xo, inO 878 (addrAt st' 0)), (addrAt st' 0, dictT w.params (m0 (sOf [])) (kTok st' 0) (vTok st' 0))], ⟨_, _, _, _, e, rfl⟩, rfl, Rel.perm R' (.swap _ _ _)⟩
end
end Mine
end
end
section
open PySem PySem.W PyProof.Rows Builtin Builtin.Str Builtin.Int
set_option maxRecDepth 100000
section
namespace Mine
noncomputable def listO (its : Array Value) (n : Nat) : Obj := ⟨.type "list", none, .seq its n, #[]⟩
noncomputable def strVs (v : Nat → Tok) : Nat → List (List Nat) → List Value
  | _, [] => []
  | i, x :: r => .str (sOf x) (v i) :: strVs v (i + 1) r
noncomputable def strL (xs : List (List Nat)) (v : Nat → Tok) : Obj := listO (strVs v 0 xs).toArray 0
theorem strVs_get (v : Nat → Tok) : ∀ (xs : List (List Nat)) (i k : Nat) (x : List Nat), xs[k]? = some x → (strVs v i xs)[k]? = some (.str (sOf x) (v (i + k)))
  | [], _, _, _, h => by simp at h
  | y :: r, i, 0, x, h => by simp at h; subst h; rfl
  | y :: r, i, k + 1, x, h => by
    have := strVs_get v r (i + 1) k x (by simpa using h)
    rw [show i + (k + 1) = i + 1 + k by lia]
    simpa [strVs] using this
theorem strVs_len (v : Nat → Tok) : ∀ (xs : List (List Nat)) (i : Nat), (strVs v i xs).length = xs.length
  | [], _ => rfl
  | _ :: r, i => by show (strVs v (i + 1) r).length + 1 = _; rw [strVs_len v r (i + 1)]; rfl
section
variable {w : World} {G : Gs} {D : Nat} {s₀ s : Shared} {X : XS} {st : St}
theorem code_list_get {A : Around} {tv : Addr} {items : Array Value} {n : Nat} {k : Int} {u : Tok} {x : Value} {Q : Result → Shared → Prop} (ho : s.heap.get? tv = some (listO items n)) (h0 : 0 ≤ k) (hx : items[k.toNat]? = some x) (hfit : k < 2 ^ 63) (h : Q (.ok (.ret x)) s) :
    codeAny (model P0 w) A (.call (.builtin "list.__getitem__") ⟨[.ref tv, .int k u], []⟩) Q s := by
  have hl : s.heap.IsList tv items := ⟨_, ho, rfl, n, rfl⟩
  have hd : (listO items n).data = .seq items n := rfl
  refine codeAny_call_builtin slot_list_getitem.plain entry_list_getitem (slot_list_getitem.check _ _ _ _ _ _ _ _ hl.typeIs (args_list_getitem _ _) ?_)
  have key : wpAny (model P0 w) A.in1 (Builtin.«list.__getitem__» ⟨[.ref tv, .int k u], []⟩) (fun fin s' => ∃ v, fin = .done (.ret v) ∧ Q (.ok (.ret v)) s') (fun _ _ => False) s := by
    show wpAny _ _ (Builtin.List.listSubscript? (.int k u) >>= _) _ _ s
    refine wpAny_bind (wpAny_listSubscript_int (fitsIndex_of h0 hfit) ?_)
    clear hfit
    obtain ⟨j, rfl⟩ := Int.eq_ofNat_of_zero_le h0
    have hx' : items[j]? = some x := hx
    show wpAny _ _ ((seqItemAt tv j >>= fun r => pure (r.map (j, ·))) >>= _) _ _ s
    refine wpAny_bind (wpAny_bind (wpAny_seqItemAt ho hd (wpAny_pure ?_)))
    rw [hx']
    first
      | exact wpAny_bind (wpAny_pure (wpAny_pure ⟨x, rfl, h⟩))
      | exact wpAny_pure ⟨x, rfl, h⟩
  refine wpAny_mono key (fun fin s' h => ?_) fun _ _ h => h.elim
  obtain ⟨v, rfl, h⟩ := h
  exact h
noncomputable def yN : Yv := ⟨fun _ => 0, fun _ _ => 0, fun _ _ => 0, fun _ => #[]⟩
noncomputable def yT (t : Nat) : Yv := ⟨fun _ => t, fun _ _ => 0, fun _ _ => 0, fun _ => #[]⟩
noncomputable def HD.lenS (ix : Nat) (its : Array Value) (n : Nat) : HD := ⟨fun _ st => .call (.builtin "len") ⟨[.ref (addrAt st ix)], []⟩, fun st => putO st ix (listO its n), fun y => .ok (.ret (.int its.size (y.t 0))), fun _ => id⟩
theorem HDOk.lenS {ix : Nat} {its : Array Value} {n : Nat} (hfit : (its.size : Int) < 2 ^ 63) : HDOk w G D s₀ X (HD.lenS ix its n) := by
  intro cc st A s hA hD hF R
  have ho : s.heap.get? (addrAt st ix) = some (listO its n) := R.S _ (putO_mem st ix _)
  exact code_len_list (items := its) ⟨_, ho, rfl, n, rfl⟩ hfit ⟨yT (s.toks + 1), rfl, R.toks _⟩
noncomputable def HD.lGetS (ix : Nat) (its : Array Value) (n : Nat) (k : Int) (x : Value) : HD := ⟨fun c st => .call (.builtin "list.__getitem__") ⟨[.ref (addrAt st ix), .int k (argTok c 1)], []⟩, fun st => putO st ix (listO its n), fun _ => .ok (.ret x), fun _ => id⟩
theorem HDOk.lGetS {ix : Nat} {its : Array Value} {n : Nat} {k : Int} {x : Value} (h0 : 0 ≤ k) (hx : its[k.toNat]? = some x) (hfit : k < 2 ^ 63) : HDOk w G D s₀ X (HD.lGetS ix its n k x) := by
  intro cc st A s hA hD hF R
  exact code_list_get (R.S _ (putO_mem st ix _)) h0 hx hfit ⟨yN, rfl, R⟩
noncomputable def HD.sGetL (ix : Nat) (xs : List (List Nat)) (k : Int) (x : List Nat) : HD := ⟨fun c st => .call (.builtin "list.__getitem__") ⟨[.ref (addrAt st ix), .int k (argTok c 1)], []⟩, fun st => putO st ix (strL xs (vTok st ix)), fun y => .ok (.ret (.str (sOf x) (y.t 0))), fun _ => id⟩
theorem HDOk.sGetL {ix : Nat} {xs : List (List Nat)} {k : Int} {x : List Nat} (h0 : 0 ≤ k) (hx : xs[k.toNat]? = some x) (hfit : k < 2 ^ 63) : HDOk w G D s₀ X (HD.sGetL ix xs k x) := by
  intro cc st A s hA hD hF R
  refine code_list_get (items := (strVs (vTok st ix) 0 xs).toArray) (n := 0) (x := .str (sOf x) (vTok st ix (0 + k.toNat))) (R.S _ (putO_mem st ix _)) h0 (by rw [List.getElem?_toArray]; exact strVs_get _ _ _ _ _ hx) hfit ⟨yT (vTok st ix (0 + k.toNat)), rfl, R⟩
noncomputable abbrev HD.mulI (i j : Int) : HD := HD.ii "int.__mul__" i j fun t => .int (i * j) t
theorem HDOk.mulI {i j : Int} (hm : IntMulOk i j) : HDOk w G D s₀ X (HD.mulI i j) := HDOk.ofInt F.slot_int_mul F.entry_int_mul (fun _ _ => F.args_int_mul_2 _ _) fun t u => gives_int_mul i j t u hm
noncomputable def HD.sCmp (op : String) (x y : PySem.Str) (b : Bool) : HD := HD.bi op (fun q => [.str x (argTok q 0), .str y (argTok q 1)]) fun _ => .bool b
theorem HDOk.sEq {x y : List Nat} {b : Bool} (h : decide (x = y) = b) : HDOk w G D s₀ X (HD.sCmp "str.__eq__" (sOf x) (sOf y) b) := by
  intro cc st A s hA hD hF R
  refine code_slot F.slot_str_eq (typeIs_str s (sOf x) _) F.entry_str_eq (F.args_str_eq_2 _ _) (gives_str_eq (sOf x) (sOf y) _ _).meets ⟨yN, ?_, R⟩
  rw [sOf_list, sOf_list, ← h]
  have e : (x == y) = decide (x = y) := by rw [Bool.eq_iff_iff, beq_iff_eq, decide_eq_true_iff]
  rw [← e]; rfl
theorem HDOk.sNe {x y : List Nat} {b : Bool} (h : decide (x = y) = !b) : HDOk w G D s₀ X (HD.sCmp "str.__ne__" (sOf x) (sOf y) b) := by
  intro cc st A s hA hD hF R
  refine code_slot F.slot_str_ne (typeIs_str s (sOf x) _) F.entry_str_ne (F.args_str_ne_2 _ _) (gives_str_ne (sOf x) (sOf y) _ _).meets ⟨yN, ?_, R⟩
  rw [sOf_list, sOf_list]
  have : b = !decide (x = y) := by rw [h]; cases b <;> rfl
  rw [this]
  have e : (x != y) = !decide (x = y) := by
    have e : (x == y) = decide (x = y) := by rw [Bool.eq_iff_iff, beq_iff_eq, decide_eq_true_iff]
    rw [← e]; rfl
  rw [← e]; rfl
noncomputable def HD.sLast (x : PySem.Str) (c : Nat) : HD := HD.bi "str.__getitem__" (fun q => [.str x (argTok q 0), .int (-1) (argTok q 1)]) fun t => .str ⟨#[c]⟩ t
theorem HDOk.sLast {x : List Nat} {c : Nat} (hx : x.getLast? = some c) : HDOk w G D s₀ X (HD.sLast (sOf x) c) := by
  intro cc st A s hA hD hF R
  have hl : (sOf x).length = x.length := sOf_len x
  have hne : x ≠ [] := fun h => by rw [h] at hx; cases hx
  have hpos : 0 < x.length := List.length_pos_iff.mpr hne
  have hs : seqIndex? (-1) (sOf x).length = some (x.length - 1) := by
    rw [hl]
    unfold seqIndex?
    simp only [show ((-1 : Int) < 0) = True from by simp, if_true]
    have h2 : ¬ ((-1 : Int) + x.length < 0 ∨ (-1 : Int) + x.length ≥ x.length) := by lia
    simp_all
    lia
  have hg : (sOf x).cps[x.length - 1]? = some c := by
    rw [← Array.getElem?_toList, sOf_list, ← List.getLast?_eq_getElem?]; exact hx
  refine code_slot F.slot_str_getitem (typeIs_str s (sOf x) _) F.entry_str_getitem (F.args_str_getitem_2 _ _) (gives_str_getitem (sOf x) (-1) _ _ c (by decide) (by rw [hs]; exact hg)).meets ?_
  exact ⟨(by show 1 ≤ sizeLine; decide), yT s.toks, rfl, R.toks _⟩
end
end Mine
end
end
section
open PySem PySem.W PyProof.Rows
set_option maxRecDepth 100000
section
namespace Mine
noncomputable def closesL : List (List Nat) := [[99], [99, 115], [102], [103, 121], [108, 121], [110, 121], [112], [115], [115, 122], [116, 121], [122, 115]]
noncomputable def casesL : List (List Nat) := [[98, 97], [114, 97], [98, 101], [114, 101], [105, 103], [110, 97, 107], [110, 101, 107], [118, 97, 108], [118, 101, 108], [117, 108], [110, 225, 108], [110, 233, 108], [98, 243, 108], [114, 243, 108], [116, 243, 108], [252, 108], [98, 337, 108], [114, 337, 108], [116, 337, 108], [110], [97, 110], [98, 97, 110], [101, 110], [98, 101, 110], [107, 233, 112, 112, 101, 110], [111, 110], [246, 110], [107, 233, 112, 112], [107, 111, 114], [116], [97, 116], [101, 116], [107, 233, 110, 116], [97, 110, 107, 233, 110, 116], [101, 110, 107, 233, 110, 116], [111, 110, 107, 233, 110, 116], [111, 116], [233, 114, 116], [246, 116], [104, 101, 122], [104, 111, 122], [104, 246, 122], [118, 225], [118, 233]]
noncomputable def innerL : List (List Nat) := [[104, 111, 122], [104, 101, 122], [104, 246, 122], [105, 103], [107, 111, 114], [98, 243, 108], [114, 337, 108], [110, 225, 108], [110, 233, 108], [233, 114, 116]]
noncomputable def outerL : List (List Nat) := [[97, 107], [101, 107], [111, 107], [246, 107], [97, 109], [101, 109], [111, 109], [97, 100], [101, 100], [111, 100], [246, 100]]
noncomputable def lettersL : List Nat := [97, 225, 98, 99, 100, 101, 233, 102, 103, 104, 105, 237, 106, 107, 108, 109, 110, 111, 243, 246, 337, 112, 113, 114, 115, 116, 117, 250, 252, 369, 118, 119, 120, 121, 122]
noncomputable def vowelsL : List Nat := [97, 101, 105, 111, 117, 225, 233, 237, 243, 246, 250, 252, 337, 369]
noncomputable def layersL : List (List (List Nat)) := [[[]], [[97, 107], [101, 107], [111, 107], [246, 107]], [[97, 109], [101, 109], [111, 109], [97, 100], [101, 100], [111, 100], [246, 100], [97, 105, 109], [106, 97, 105, 109], [101, 105, 109], [106, 101, 105, 109], [97, 105, 100], [106, 97, 105, 100], [101, 105, 100], [106, 101, 105, 100]], [[117, 110, 107], [252, 110, 107], [117, 107], [252, 107], [106, 117, 107], [106, 252, 107], [97, 105, 107], [106, 97, 105, 107], [101, 105, 107], [106, 101, 105, 107], [97, 105, 110, 107], [106, 97, 105, 110, 107], [101, 105, 110, 107], [106, 101, 105, 110, 107], [97, 105, 116, 111, 107], [106, 97, 105, 116, 111, 107], [101, 105, 116, 101, 107], [106, 101, 105, 116, 101, 107]], [[97, 105], [106, 97, 105], [101, 105], [106, 101, 105]], [[97], [106, 97], [101], [106, 101]]]
noncomputable def HD.mkL (f : Nat) (xs : List (List Nat)) : HD := ⟨fun _ _ => .call (.ref f) ⟨[], []⟩, id, fun y => .ok (.ret (.ref (y.t 0))), fun y st => push st (y.t 0, strL xs (y.V 0))⟩
noncomputable def MkSpec (w : World) (G : Gs) (D : Nat) (f : Nat) (xs : List (List Nat)) : Prop := CSpec w G false D (.call (.ref f) ⟨[], []⟩) [] (fun r _ ex => ∃ a v, r = .ok (.ret (.ref a)) ∧ ex = [(a, strL xs v)])
theorem HDOk.mkL {w : World} {G : Gs} {D D' : Nat} {s₀ : Shared} {X : XS} {f : Nat} {xs : List (List Nat)} (h : MkSpec w G D' f xs) (hD : D ≤ D') : HDOk w G D s₀ X (HD.mkL f xs) := by
  intro cc st A s hA hA' hF R
  refine codeAny_mono (h.at (rest := st) hA (Nat.le_trans hA' hD) R) fun r s' q => ?_
  obtain ⟨st2, ex, ⟨a, v, e, e2⟩, hm, R'⟩ := q
  have : st2 = [] := by cases st2 with
    | nil => rfl
    | cons a b => cases hm
  subst this e2
  refine ⟨⟨fun _ => a, fun _ _ => 0, fun _ => v, fun _ => #[]⟩, e, ?_⟩
  show Rl w G s₀ X (push st (a, strL xs v)) s'
  rw [push_eq]; exact R'
noncomputable def atV (sc : List Int) (i : Nat) : Int := sc.getD i 0 + 37 * i
noncomputable def IntsOf (its : Array Value) (sc : List Int) : Prop := its.size = sc.length ∧ ∀ (i : Nat) (v : Int), sc[i]? = some v → ∃ t, its[i]? = some (.int v t)
noncomputable def HD.at (ls : Nat) (its : Array Value) (n : Nat) (i v : Int) : HD := ⟨fun c _ => .call (.ref 955) ⟨[.ref ls, .int i (argTok c 1)], []⟩, fun st => (ls, listO its n) :: dropN 1 st, fun y => .ok (.ret (.int v (y.t 0))), fun _ => id⟩
end Mine
end
end
section
open PySem PySem.W PyProof.Rows
set_option maxRecDepth 100000
set_option maxHeartbeats 0
section
namespace Mine
noncomputable def lAtF : Fn := ⟨955, fnAt 18 none, "_law_at", 954, (sv "law_af0032_01" 3127), ["script", "i"]⟩
noncomputable def closesF : Fn := ⟨913, fnAt 12 none, "_law_closes", 912, (sv "law_af0032_01" 3127), []⟩
noncomputable def casesF : Fn := ⟨927, fnAt 14 none, "_law_cases", 926, (sv "law_af0032_01" 3127), []⟩
noncomputable def innerF : Fn := ⟨934, fnAt 15 none, "_law_inner", 933, (sv "law_af0032_01" 3127), []⟩
noncomputable def outerF : Fn := ⟨941, fnAt 16 none, "_law_outer", 940, (sv "law_af0032_01" 3127), []⟩
noncomputable def lastF : Fn := ⟨969, fnAt 20 none, "_law_last", 968, (sv "law_af0032_01" 3127), ["y"]⟩
noncomputable def lAt_in (w : World) (G : Gs) (L : Nat) (ts : Nat → Tok) (ls : Nat) (its : Array Value) (n : Nat) (i : Int) (t : Tok) (v : Int) (vt : Tok) : ScC := ⟨G, .func (fnBody lAtF.st) (lAtF.env L), [2,0,0,2,1,1,2,2,1,1,1,1,2,1,0], ([(ls, listO its n)] ++ [(L, lAtF.fr w.params ts [.ref ls, .int i t])]), [HD.lenS 0 its n, HD.cmp "int.__lt__" i its.size true, HD.lGetS 0 its n i (.int v vt), HD.mulI 37 i], (retR fun t => .int (v + 37 * i) t), (fun _ => (fun st => [(ls, listO its n), (L, objAt st 1)]))⟩
noncomputable def lAt_out (w : World) (G : Gs) (L : Nat) (ts : Nat → Tok) (ls : Nat) (its : Array Value) (n : Nat) (i : Int) (t : Tok) : ScC := ⟨G, .func (fnBody lAtF.st) (lAtF.env L), [2,0,0,2,1,1,2,1], ([(ls, listO its n)] ++ [(L, lAtF.fr w.params ts [.ref ls, .int i t])]), [HD.lenS 0 its n, HD.cmp "int.__lt__" i its.size false, HD.mulI 37 i], (retR fun t => .int (37 * i) t), (fun _ => (fun st => [(ls, listO its n), (L, objAt st 1)]))⟩
noncomputable def closes_r (w : World) (G : Gs) (L : Nat) (ts : Nat → Tok) : ScC := ⟨G, .func (fnBody closesF.st) (closesF.env L), [], ([] ++ [(L, closesF.fr w.params ts [])]), ([] : List HD), (fun xo => .ok (.ret (.ref (refR xo)))), (fun xo st => [(L, objAt st 0), (refR xo, strL closesL (vTok st 1))])⟩
noncomputable def cases_r (w : World) (G : Gs) (L : Nat) (ts : Nat → Tok) : ScC := ⟨G, .func (fnBody casesF.st) (casesF.env L), [], ([] ++ [(L, casesF.fr w.params ts [])]), ([] : List HD), (fun xo => .ok (.ret (.ref (refR xo)))), (fun xo st => [(L, objAt st 0), (refR xo, strL casesL (vTok st 1))])⟩
noncomputable def inner_r (w : World) (G : Gs) (L : Nat) (ts : Nat → Tok) : ScC := ⟨G, .func (fnBody innerF.st) (innerF.env L), [], ([] ++ [(L, innerF.fr w.params ts [])]), ([] : List HD), (fun xo => .ok (.ret (.ref (refR xo)))), (fun xo st => [(L, objAt st 0), (refR xo, strL innerL (vTok st 1))])⟩
noncomputable def outer_r (w : World) (G : Gs) (L : Nat) (ts : Nat → Tok) : ScC := ⟨G, .func (fnBody outerF.st) (outerF.env L), [], ([] ++ [(L, outerF.fr w.params ts [])]), ([] : List HD), (fun xo => .ok (.ret (.ref (refR xo)))), (fun xo st => [(L, objAt st 0), (refR xo, strL outerL (vTok st 1))])⟩
noncomputable def last_a (w : World) (G : Gs) (L : Nat) (ts : Nat → Tok) (y : Int) (t : Tok) (x : List Nat) : ScC := ⟨G, .func (fnBody lastF.st) (lastF.env L), [1,1,1,0,0,1,1,1,2,2,2,1,0], ([] ++ [(L, lastF.fr w.params ts [.int y t])]), [HD.modI y 55, HD.cmp "int.__lt__" (y % 55) 44 true, HD.mkL 927 casesL, HD.modI y 55, HD.sGetL 1 casesL (y % 55) x], (retR fun t => .str (sOf x) t), (fun _ => (fun st => (L, objAt st 0) :: dropN 1 st))⟩
noncomputable def last_b (w : World) (G : Gs) (L : Nat) (ts : Nat → Tok) (y : Int) (t : Tok) (x : List Nat) : ScC := ⟨G, .func (fnBody lastF.st) (lastF.env L), [1,1,1,0,0,1,1,1,0,2,2,2,1,0], ([] ++ [(L, lastF.fr w.params ts [.int y t])]), [HD.modI y 55, HD.cmp "int.__lt__" (y % 55) 44 false, HD.mkL 941 outerL, HD.modI y 55, HD.sGetL 1 outerL (y % 55 - 44) x], (retR fun t => .str (sOf x) t), (fun _ => (fun st => (L, objAt st 0) :: dropN 1 st))⟩
theorem lAtF_ok (w : World) (G : Gs) (ls : Nat) (its : Array Value) (n : Nat) (x1 : Value) : lAtF.Ok w G [2,2,2,2] [(ls, listO its n)] [.ref ls, x1] := okN (FnAt.mk' (sv "law_af0032_01" 3127) (by kernel_rfl) (by kernel_rfl) (by kernel_rfl) (by kernel_rfl)) (by kernel_rfl) (fun pm => by kernel_rfl) (by kernel_rfl)
theorem closesF_ok (w : World) (G : Gs)   : closesF.Ok w G [] ([] : St) [] := okN (FnAt.mk' (sv "law_af0032_01" 3127) (by kernel_rfl) (by kernel_rfl) (by kernel_rfl) (by kernel_rfl)) (by kernel_rfl) (fun pm => by kernel_rfl) (by kernel_rfl)
theorem casesF_ok (w : World) (G : Gs)   : casesF.Ok w G [] ([] : St) [] := okN (FnAt.mk' (sv "law_af0032_01" 3127) (by kernel_rfl) (by kernel_rfl) (by kernel_rfl) (by kernel_rfl)) (by kernel_rfl) (fun pm => by kernel_rfl) (by kernel_rfl)
theorem innerF_ok (w : World) (G : Gs)   : innerF.Ok w G [] ([] : St) [] := okN (FnAt.mk' (sv "law_af0032_01" 3127) (by kernel_rfl) (by kernel_rfl) (by kernel_rfl) (by kernel_rfl)) (by kernel_rfl) (fun pm => by kernel_rfl) (by kernel_rfl)
theorem outerF_ok (w : World) (G : Gs)   : outerF.Ok w G [] ([] : St) [] := okN (FnAt.mk' (sv "law_af0032_01" 3127) (by kernel_rfl) (by kernel_rfl) (by kernel_rfl) (by kernel_rfl)) (by kernel_rfl) (fun pm => by kernel_rfl) (by kernel_rfl)
theorem lastF_ok (w : World) (G : Gs)  (x0 : Value) : lastF.Ok w G [1,1] ([] : St) [x0] := okN (FnAt.mk' (sv "law_af0032_01" 3127) (by kernel_rfl) (by kernel_rfl) (by kernel_rfl) (by kernel_rfl)) (by kernel_rfl) (fun pm => by kernel_rfl) (by kernel_rfl)
theorem lAt_in_ok (w : World) (G : Gs) (L : Nat) (ts : Nat → Tok) (ls : Nat) (its : Array Value) (n : Nat) (i : Int) (t : Tok) (v : Int) (vt : Tok) : (lAt_in w G L ts ls its n i t v vt).Ok w := okC (S := fun w => lAt_in w G L ts ls its n i t v vt) (by kernel_rfl) (by kernel_rfl) w
theorem lAt_out_ok (w : World) (G : Gs) (L : Nat) (ts : Nat → Tok) (ls : Nat) (its : Array Value) (n : Nat) (i : Int) (t : Tok) : (lAt_out w G L ts ls its n i t).Ok w := okC (S := fun w => lAt_out w G L ts ls its n i t) (by kernel_rfl) (by kernel_rfl) w
theorem closes_r_ok (w : World) (G : Gs) (L : Nat) (ts : Nat → Tok) : (closes_r w G L ts).Ok w := okC (S := fun w => closes_r w G L ts) (by kernel_rfl) (by kernel_rfl) w
theorem cases_r_ok (w : World) (G : Gs) (L : Nat) (ts : Nat → Tok) : (cases_r w G L ts).Ok w := okC (S := fun w => cases_r w G L ts) (by kernel_rfl) (by kernel_rfl) w
theorem inner_r_ok (w : World) (G : Gs) (L : Nat) (ts : Nat → Tok) : (inner_r w G L ts).Ok w := okC (S := fun w => inner_r w G L ts) (by kernel_rfl) (by kernel_rfl) w
theorem outer_r_ok (w : World) (G : Gs) (L : Nat) (ts : Nat → Tok) : (outer_r w G L ts).Ok w := okC (S := fun w => outer_r w G L ts) (by kernel_rfl) (by kernel_rfl) w
theorem last_a_ok (w : World) (G : Gs) (L : Nat) (ts : Nat → Tok) (y : Int) (t : Tok) (x : List Nat) : (last_a w G L ts y t x).Ok w := okC (S := fun w => last_a w G L ts y t x) (by kernel_rfl) (by kernel_rfl) w
theorem last_b_ok (w : World) (G : Gs) (L : Nat) (ts : Nat → Tok) (y : Int) (t : Tok) (x : List Nat) : (last_b w G L ts y t x).Ok w := okC (S := fun w => last_b w G L ts y t x) (by kernel_rfl) (by kernel_rfl) w
end Mine
end
end
section
open PySem PySem.W PyProof.Rows
set_option maxRecDepth 100000
section
namespace Mine
section
variable {w : World} {G : Gs} {D : Nat}
theorem at_spec (hD : D < 850) {ls : Nat} {its : Array Value} {n : Nat} {sc : List Int} (hits : IntsOf its sc) (hsc : sc.length ≤ 1000) {i : Nat} (hi : i ≤ 100) {T : Tok} :
    CSpec w G false D (.call (.ref 955) ⟨[.ref ls, .int i T], []⟩) [(ls, listO its n)] (fun r st2 _ => (∃ t, r = .ok (.ret (.int (atV sc i) t))) ∧ st2 = [(ls, listO its n)]) := by
  refine Fn.Ok.call (F := lAtF) (lAtF_ok w G ls its n (.int i T)) (Nat.lt_of_lt_of_le hD (by decide)) fun L ts A s l hA hD' hF R => ?_
  have hm : IntMulOk 37 (i : Int) := by mul_fits
  by_cases h : i < sc.length
  · have hv : sc[i]? = some sc[i] := List.getElem?_eq_getElem h
    generalize sc[i] = v at hv
    obtain ⟨vt, ht⟩ := hits.2 i v hv
    refine codeAny_mono ((lAt_in_ok w G L ts ls its n i T v vt).run (.c (HDOk.lenS (by rw [hits.1]; lia)) <| .c (HDOk.lt_true (by rw [hits.1]; lia)) <| .c (HDOk.lGetS (by lia) ht (by lia)) <| .c (HDOk.mulI hm) .n) hA hD' (fun l' hl => by cases hl) R) fun r s' q => ?_
    obtain ⟨xo, st', e, R'⟩ := q
    have e2 : atV sc i = v + 37 * (i : Int) := by unfold atV; rw [List.getD_eq_getElem?_getD, hv]; rfl
    exact ⟨[(ls, listO its n)], objAt st' 1, [], ⟨⟨_, by rw [e2]; exact e⟩, rfl⟩, rfl, R'⟩
  · have hv : sc[i]? = none := List.getElem?_eq_none (by lia)
    refine codeAny_mono ((lAt_out_ok w G L ts ls its n i T).run (.c (HDOk.lenS (by rw [hits.1]; lia)) <| .c (HDOk.lt_false (by rw [hits.1]; lia)) <| .c (HDOk.mulI hm) .n) hA hD' (fun l' hl => by cases hl) R) fun r s' q => ?_
    obtain ⟨xo, st', e, R'⟩ := q
    have e2 : atV sc i = 37 * (i : Int) := by unfold atV; rw [List.getD_eq_getElem?_getD, hv]; show (0 : Int) + 37 * i = _; lia
    exact ⟨[(ls, listO its n)], objAt st' 1, [], ⟨⟨_, by rw [e2]; exact e⟩, rfl⟩, rfl, R'⟩
theorem HDOk.at (hD : D < 850) {ls : Nat} {its : Array Value} {n : Nat} {sc : List Int} (hits : IntsOf its sc) (hsc : sc.length ≤ 1000) {i : Nat} (hi : i ≤ 100) {s₀ : Shared} {X : XS} : HDOk w G D s₀ X (HD.at ls its n i (atV sc i)) := by
  intro c st A s hA hA' hF R
  refine codeAny_mono ((at_spec (D := D) hD hits hsc hi).at (rest := dropN 1 st) hA hA' R) fun r s' q => ?_
  obtain ⟨st2, ex, ⟨⟨t, e⟩, e2⟩, _, R'⟩ := q
  subst e2
  exact ⟨yT t, e, Rel.cut R'⟩
theorem closes_spec (hD : D < 850) : MkSpec w G D 913 closesL := by
  refine Fn.Ok.call (F := closesF) (closesF_ok w G) (Nat.lt_of_lt_of_le hD (by decide)) fun L ts A s l hA hD' hF R => ?_
  refine codeAny_mono ((closes_r_ok w G L ts).run .n hA hD' (fun l' hl => by cases hl) R) fun r s' q => ?_
  obtain ⟨xo, st', e, R'⟩ := q
  exact ⟨[], objAt st' 0, [(refR xo, strL closesL (vTok st' 1))], ⟨_, _, e, rfl⟩, rfl, R'⟩
theorem cases_spec (hD : D < 850) : MkSpec w G D 927 casesL := by
  refine Fn.Ok.call (F := casesF) (casesF_ok w G) (Nat.lt_of_lt_of_le hD (by decide)) fun L ts A s l hA hD' hF R => ?_
  refine codeAny_mono ((cases_r_ok w G L ts).run .n hA hD' (fun l' hl => by cases hl) R) fun r s' q => ?_
  obtain ⟨xo, st', e, R'⟩ := q
  exact ⟨[], objAt st' 0, [(refR xo, strL casesL (vTok st' 1))], ⟨_, _, e, rfl⟩, rfl, R'⟩
theorem inner_spec (hD : D < 850) : MkSpec w G D 934 innerL := by
  refine Fn.Ok.call (F := innerF) (innerF_ok w G) (Nat.lt_of_lt_of_le hD (by decide)) fun L ts A s l hA hD' hF R => ?_
  refine codeAny_mono ((inner_r_ok w G L ts).run .n hA hD' (fun l' hl => by cases hl) R) fun r s' q => ?_
  obtain ⟨xo, st', e, R'⟩ := q
  exact ⟨[], objAt st' 0, [(refR xo, strL innerL (vTok st' 1))], ⟨_, _, e, rfl⟩, rfl, R'⟩
theorem outer_spec (hD : D < 850) : MkSpec w G D 941 outerL := by
  refine Fn.Ok.call (F := outerF) (outerF_ok w G) (Nat.lt_of_lt_of_le hD (by decide)) fun L ts A s l hA hD' hF R => ?_
  refine codeAny_mono ((outer_r_ok w G L ts).run .n hA hD' (fun l' hl => by cases hl) R) fun r s' q => ?_
  obtain ⟨xo, st', e, R'⟩ := q
  exact ⟨[], objAt st' 0, [(refR xo, strL outerL (vTok st' 1))], ⟨_, _, e, rfl⟩, rfl, R'⟩
noncomputable def lastP (y : Int) : List Nat := if y % 55 < 44 then casesL.getD (y % 55).toNat [] else outerL.getD (y % 55 - 44).toNat []
theorem getD_some {xs : List (List Nat)} {k : Nat} (h : k < xs.length) : xs[k]? = some (xs.getD k []) := by
  rw [List.getD_eq_getElem?_getD, List.getElem?_eq_getElem h]; rfl
theorem last_spec (hD : D < 820) {y : Int} {T : Tok} : CSpec w G false D (.call (.ref 969) ⟨[.int y T], []⟩) [] (fun r _ _ => ∃ t, r = .ok (.ret (.str (sOf (lastP y)) t))) := by
  refine Fn.Ok.call (F := lastF) (lastF_ok w G (.int y T)) (Nat.lt_of_lt_of_le hD (by decide)) fun L ts A s l hA hD' hF R => ?_
  have h0 : 0 ≤ y % 55 := Int.emod_nonneg _ (by decide)
  have h1 : y % 55 < 55 := Int.emod_lt_of_pos _ (by decide)
  by_cases h : y % 55 < 44
  · have e2 : lastP y = casesL.getD (y % 55).toNat [] := if_pos h
    refine codeAny_mono ((last_a_ok w G L ts y T (lastP y)).run (.c (HDOk.modI (by decide)) <| .c (HDOk.lt_true h) <| .c (HDOk.mkL (D' := D + 20) (cases_spec (by lia)) (Nat.le_refl _)) <| .c (HDOk.modI (by decide)) <| .c (HDOk.sGetL h0 (by rw [e2]; exact getD_some (by show _ < 44; lia)) (by lia)) .n) hA hD' (fun l' hl => by cases hl) R) fun r s' q => ?_
    obtain ⟨xo, st', e, R'⟩ := q
    exact ⟨[], objAt st' 0, dropN 1 st', ⟨_, e⟩, rfl, R'⟩
  · have e2 : lastP y = outerL.getD (y % 55 - 44).toNat [] := if_neg h
    refine codeAny_mono ((last_b_ok w G L ts y T (lastP y)).run (.c (HDOk.modI (by decide)) <| .c (HDOk.lt_false h) <| .c (HDOk.mkL (D' := D + 20) (outer_spec (by lia)) (Nat.le_refl _)) <| .c (HDOk.modI (by decide)) <| .c (HDOk.sGetL (by lia) (by rw [e2]; exact getD_some (by show _ < 11; lia)) (by lia)) .n) hA hD' (fun l' hl => by cases hl) R) fun r s' q => ?_
    obtain ⟨xo, st', e, R'⟩ := q
    exact ⟨[], objAt st' 0, dropN 1 st', ⟨_, e⟩, rfl, R'⟩
end
end Mine
end
end
section
open PySem PySem.W PyProof.Rows
set_option maxRecDepth 100000
section
namespace Mine
noncomputable abbrev lbS : Stmt := fnAt 19 none
noncomputable def lbEnv (L : Nat) : Env := fenv 962 L lbS "_law_body" 961
noncomputable def lbN1 (ls : Nat) (b : List Nat) : List (PySem.Str × (Tok → Value)) := [("script", fun _ => .ref ls), ("body", fun t => .str (sOf b) t)]
noncomputable def lbN2 (ls : Nat) (b : List Nat) (i : Int) : List (PySem.Str × (Tok → Value)) := [("script", fun _ => .ref ls), ("body", fun t => .str (sOf b) t), ("i", fun t => .int i t)]
noncomputable def lbSt (P : Params) (ls : Nat) (its : Array Value) (n L : Nat) (fr : Tm) (k v : Nat → Tok) : St := [(ls, listO its n), (L, fr k v)]
noncomputable def HD.lbFor (ls : Nat) (its : Array Value) (n L : Nat) (fr fr' : Tm) (left : Int) : HD :=
  ⟨fun _ st => forC (lbEnv L) (.ref (addrAt st 3)) (atP lbS [1]), fun st => [(ls, listO its n), (L, fr (kTok st 1) (vTok st 1)), pairAt st 2, (addrAt st 3, rIterO 1 left 1)], fun _ => .ok .next,
    fun y _ => [(ls, listO its n), (L, fr' (y.K 1) (y.V 1))]⟩
end Mine
end
end
section
open PySem PySem.W PyProof.Rows
set_option maxRecDepth 100000
set_option maxHeartbeats 0
section
namespace Mine
noncomputable def lBodyF : Fn := ⟨962, fnAt 19 none, "_law_body", 961, (sv "law_af0032_01" 3127), ["script"]⟩
noncomputable def lb0 (w : World) (G : Gs) (ls : Nat) (its : Array Value) (n L : Nat) (k v : Nat → Tok) : ScT Flow := ⟨G, execs (stms lbS [] 0 1) (lbEnv L), [2,2], (lbSt w.params ls its n L (frT w.params [("script", fun _ => .ref ls)]) k v), [], (fun _ => .ok .next), (fun _ st => lbSt w.params ls its n L (frT w.params (lbN1 ls [])) (kTok st 1) (vTok st 1))⟩
noncomputable def lb1n (w : World) (G : Gs) (ls : Nat) (its : Array Value) (n L : Nat) (k v : Nat → Tok) (b : List Nat) (v0 : Int) (b2 : List Nat) : ScT Flow := ⟨G, execs (stms lbS [] 1 1) (lbEnv L), [0,0,0,2,0,1,1,0,0,0,3,3,0,3,3,3,3,1,4,1], (lbSt w.params ls its n L (frT w.params (lbN1 ls b)) k v), [HD.at ls its n 0 v0, HD.modI v0 9, HD.rIter 2 1 (1 + v0 % 9) 1 (v0 % 9), HD.lbFor ls its n L (frT w.params (lbN1 ls b)) (frT w.params (lbN1 ls b2)) (v0 % 9)], (fun _ => .ok .next), (fun _ st => lbSt w.params ls its n L (frT w.params (lbN1 ls b2)) (kTok st 1) (vTok st 1))⟩
noncomputable def lb1s (w : World) (G : Gs) (ls : Nat) (its : Array Value) (n L : Nat) (k v : Nat → Tok) (b : List Nat) (v0 : Int) (b2 : List Nat) (i2 : Int) : ScT Flow := ⟨G, execs (stms lbS [] 1 1) (lbEnv L), [0,0,0,2,0,1,1,0,0,0,3,3,0,3,3,3,3,1,4,1], (lbSt w.params ls its n L (frT w.params (lbN1 ls b)) k v), [HD.at ls its n 0 v0, HD.modI v0 9, HD.rIter 2 1 (1 + v0 % 9) 1 (v0 % 9), HD.lbFor ls its n L (frT w.params (lbN1 ls b)) (frT w.params (lbN2 ls b2 i2)) (v0 % 9)], (fun _ => .ok .next), (fun _ st => lbSt w.params ls its n L (frT w.params (lbN2 ls b2 i2)) (kTok st 1) (vTok st 1))⟩
noncomputable def lbT1 (w : World) (G : Gs) (ls : Nat) (its : Array Value) (n L : Nat) (k v : Nat → Tok) (b b2 : List Nat) (i0 x left v0 : Int) (ch : Nat) (rA iA : Nat) (rO : Obj) : ScT PySem.Fin := ⟨G, denote treeTable ((forC (lbEnv L) (.ref iA) (atP lbS [1]))), [4,1,2,2,2,0,0,2,2,0,1,1,1,1,2,2], [(ls, listO its n), (L, (frT w.params (lbN1 ls b)) k v), (rA, rO), (iA, rIterO x left 1)], [HD.rNext 3 x left 1, HD.at ls its n x v0, HD.modI v0 35, HD.sGet (sOf lettersL) (v0 % 35) ch, HD.sAddR (sOf b) (sOf [ch]) (sOf b2)], (fun _ => .ok (.again (forC (lbEnv L) (.ref iA) (atP lbS [1])))), (fun _ => (fun st => [(ls, listO its n), (L, (frT w.params (lbN2 ls b2 x)) (kTok st 1) (vTok st 1)), (rA, rO), (iA, rIterO (x + 1) (left - 1) 1)]))⟩
noncomputable def lbE1 (w : World) (G : Gs) (ls : Nat) (its : Array Value) (n L : Nat) (k v : Nat → Tok) (b b2 : List Nat) (i0 x left v0 : Int) (ch : Nat) (rA iA : Nat) (rO : Obj) : ScT PySem.Fin := ⟨G, denote treeTable ((forC (lbEnv L) (.ref iA) (atP lbS [1]))), [4,0,4,4,4,4,6], [(ls, listO its n), (L, (frT w.params (lbN1 ls b)) k v), (rA, rO), (iA, rIterO x 0 1)], [], (fun _ => .ok (.again (.block [] (lbEnv L)))), (fun _ => (fun st => [(ls, listO its n), (L, (frT w.params (lbN1 ls b)) (kTok st 1) (vTok st 1)), (rA, rO), (iA, rIterO x 0 1), pairAt st 4, pairAt st 5]))⟩
noncomputable def lbR1 (w : World) (G : Gs) (ls : Nat) (its : Array Value) (n L : Nat) (k v : Nat → Tok) (b b2 : List Nat) (i0 v0 : Int) (ch : Nat) : ScT Flow := ⟨G, execs (stms lbS [] 2 1) (lbEnv L), [2,0,0,2,0,1,1,1,1], (lbSt w.params ls its n L (frT w.params (lbN1 ls b)) k v), [HD.at ls its n 9 v0, HD.modI v0 14, HD.sGet (sOf vowelsL) (v0 % 14) ch, HD.sAddR (sOf b) (sOf [ch]) (sOf b2)], (fun xo => .ok (.ret (.str (sOf b2) (match xo with | .ok (.ret v) => tokOf v | _ => 0)))), (fun _ st => lbSt w.params ls its n L (frT w.params (lbN1 ls b)) (kTok st 1) (vTok st 1))⟩
noncomputable def lbT2 (w : World) (G : Gs) (ls : Nat) (its : Array Value) (n L : Nat) (k v : Nat → Tok) (b b2 : List Nat) (i0 x left v0 : Int) (ch : Nat) (rA iA : Nat) (rO : Obj) : ScT PySem.Fin := ⟨G, denote treeTable ((forC (lbEnv L) (.ref iA) (atP lbS [1]))), [4,1,2,2,2,0,0,2,2,0,1,1,1,1,2,2], [(ls, listO its n), (L, (frT w.params (lbN2 ls b i0)) k v), (rA, rO), (iA, rIterO x left 1)], [HD.rNext 3 x left 1, HD.at ls its n x v0, HD.modI v0 35, HD.sGet (sOf lettersL) (v0 % 35) ch, HD.sAddR (sOf b) (sOf [ch]) (sOf b2)], (fun _ => .ok (.again (forC (lbEnv L) (.ref iA) (atP lbS [1])))), (fun _ => (fun st => [(ls, listO its n), (L, (frT w.params (lbN2 ls b2 x)) (kTok st 1) (vTok st 1)), (rA, rO), (iA, rIterO (x + 1) (left - 1) 1)]))⟩
noncomputable def lbE2 (w : World) (G : Gs) (ls : Nat) (its : Array Value) (n L : Nat) (k v : Nat → Tok) (b b2 : List Nat) (i0 x left v0 : Int) (ch : Nat) (rA iA : Nat) (rO : Obj) : ScT PySem.Fin := ⟨G, denote treeTable ((forC (lbEnv L) (.ref iA) (atP lbS [1]))), [4,0,4,4,4,4,6], [(ls, listO its n), (L, (frT w.params (lbN2 ls b i0)) k v), (rA, rO), (iA, rIterO x 0 1)], [], (fun _ => .ok (.again (.block [] (lbEnv L)))), (fun _ => (fun st => [(ls, listO its n), (L, (frT w.params (lbN2 ls b i0)) (kTok st 1) (vTok st 1)), (rA, rO), (iA, rIterO x 0 1), pairAt st 4, pairAt st 5]))⟩
noncomputable def lbR2 (w : World) (G : Gs) (ls : Nat) (its : Array Value) (n L : Nat) (k v : Nat → Tok) (b b2 : List Nat) (i0 v0 : Int) (ch : Nat) : ScT Flow := ⟨G, execs (stms lbS [] 2 1) (lbEnv L), [2,0,0,2,0,1,1,1,1], (lbSt w.params ls its n L (frT w.params (lbN2 ls b i0)) k v), [HD.at ls its n 9 v0, HD.modI v0 14, HD.sGet (sOf vowelsL) (v0 % 14) ch, HD.sAddR (sOf b) (sOf [ch]) (sOf b2)], (fun xo => .ok (.ret (.str (sOf b2) (match xo with | .ok (.ret v) => tokOf v | _ => 0)))), (fun _ st => lbSt w.params ls its n L (frT w.params (lbN2 ls b i0)) (kTok st 1) (vTok st 1))⟩
theorem lBodyF_ok (w : World) (G : Gs) (ls : Nat) (its : Array Value) (n : Nat)  : lBodyF.Ok w G [2,2] [(ls, listO its n)] [.ref ls] := okN (FnAt.mk' (sv "law_af0032_01" 3127) (by kernel_rfl) (by kernel_rfl) (by kernel_rfl) (by kernel_rfl)) (by kernel_rfl) (fun pm => by kernel_rfl) (by kernel_rfl)
theorem lb0_ok (w : World) (G : Gs) (ls : Nat) (its : Array Value) (n L : Nat) (k v : Nat → Tok) : (lb0 w G ls its n L k v).Ok w := okE (S := fun w => lb0 w G ls its n L k v) (fun _ => rfl) (by kernel_rfl) (by kernel_rfl) w
theorem lb1n_ok (w : World) (G : Gs) (ls : Nat) (its : Array Value) (n L : Nat) (k v : Nat → Tok) (b : List Nat) (v0 : Int) (b2 : List Nat) : (lb1n w G ls its n L k v b v0 b2).Ok w := okE (S := fun w => lb1n w G ls its n L k v b v0 b2) (fun _ => rfl) (by kernel_rfl) (by kernel_rfl) w
theorem lb1s_ok (w : World) (G : Gs) (ls : Nat) (its : Array Value) (n L : Nat) (k v : Nat → Tok) (b : List Nat) (v0 : Int) (b2 : List Nat) (i2 : Int) : (lb1s w G ls its n L k v b v0 b2 i2).Ok w := okE (S := fun w => lb1s w G ls its n L k v b v0 b2 i2) (fun _ => rfl) (by kernel_rfl) (by kernel_rfl) w
theorem lbT1_ok (w : World) (G : Gs) (ls : Nat) (its : Array Value) (n L : Nat) (k v : Nat → Tok) (b b2 : List Nat) (i0 x left v0 : Int) (ch : Nat) (rA iA : Nat) (rO : Obj) : (lbT1 w G ls its n L k v b b2 i0 x left v0 ch rA iA rO).Ok w := okD (S := fun w => lbT1 w G ls its n L k v b b2 i0 x left v0 ch rA iA rO) (l := fun w => (forC (lbEnv L) (.ref iA) (atP lbS [1]))) (fun _ => rfl) (by kernel_rfl) (by kernel_rfl) w
theorem lbE1_ok (w : World) (G : Gs) (ls : Nat) (its : Array Value) (n L : Nat) (k v : Nat → Tok) (b b2 : List Nat) (i0 x left v0 : Int) (ch : Nat) (rA iA : Nat) (rO : Obj) : (lbE1 w G ls its n L k v b b2 i0 x left v0 ch rA iA rO).Ok w := okD (S := fun w => lbE1 w G ls its n L k v b b2 i0 x left v0 ch rA iA rO) (l := fun w => (forC (lbEnv L) (.ref iA) (atP lbS [1]))) (fun _ => rfl) (by kernel_rfl) (by kernel_rfl) w
theorem lbR1_ok (w : World) (G : Gs) (ls : Nat) (its : Array Value) (n L : Nat) (k v : Nat → Tok) (b b2 : List Nat) (i0 v0 : Int) (ch : Nat) : (lbR1 w G ls its n L k v b b2 i0 v0 ch).Ok w := okE (S := fun w => lbR1 w G ls its n L k v b b2 i0 v0 ch) (fun _ => rfl) (by kernel_rfl) (by kernel_rfl) w
theorem lbT2_ok (w : World) (G : Gs) (ls : Nat) (its : Array Value) (n L : Nat) (k v : Nat → Tok) (b b2 : List Nat) (i0 x left v0 : Int) (ch : Nat) (rA iA : Nat) (rO : Obj) : (lbT2 w G ls its n L k v b b2 i0 x left v0 ch rA iA rO).Ok w := okD (S := fun w => lbT2 w G ls its n L k v b b2 i0 x left v0 ch rA iA rO) (l := fun w => (forC (lbEnv L) (.ref iA) (atP lbS [1]))) (fun _ => rfl) (by kernel_rfl) (by kernel_rfl) w
theorem lbE2_ok (w : World) (G : Gs) (ls : Nat) (its : Array Value) (n L : Nat) (k v : Nat → Tok) (b b2 : List Nat) (i0 x left v0 : Int) (ch : Nat) (rA iA : Nat) (rO : Obj) : (lbE2 w G ls its n L k v b b2 i0 x left v0 ch rA iA rO).Ok w := okD (S := fun w => lbE2 w G ls its n L k v b b2 i0 x left v0 ch rA iA rO) (l := fun w => (forC (lbEnv L) (.ref iA) (atP lbS [1]))) (fun _ => rfl) (by kernel_rfl) (by kernel_rfl) w
theorem lbR2_ok (w : World) (G : Gs) (ls : Nat) (its : Array Value) (n L : Nat) (k v : Nat → Tok) (b b2 : List Nat) (i0 v0 : Int) (ch : Nat) : (lbR2 w G ls its n L k v b b2 i0 v0 ch).Ok w := okE (S := fun w => lbR2 w G ls its n L k v b b2 i0 v0 ch) (fun _ => rfl) (by kernel_rfl) (by kernel_rfl) w
end Mine
end
end
section
open PySem PySem.W PyProof.Rows
set_option maxRecDepth 100000
section
namespace Mine
noncomputable def bodyK (sc : List Int) (k : Nat) : List Nat := (List.range k).map fun j => lettersL.getD (atV sc (j + 1) % 35).toNat 0
noncomputable def bodyP (sc : List Int) : List Nat := bodyK sc (atV sc 0 % 9).toNat ++ [vowelsL.getD (atV sc 9 % 14).toNat 0]
theorem bodyK_succ (sc : List Int) (k : Nat) : bodyK sc (k + 1) = bodyK sc k ++ [lettersL.getD (atV sc (k + 1) % 35).toNat 0] := by
  unfold bodyK
  rw [List.range_succ, List.map_append]; rfl
theorem bodyK_len (sc : List Int) (k : Nat) : (bodyK sc k).length = k := by unfold bodyK; rw [List.length_map, List.length_range]
theorem sOf_app (y z : List Nat) : sOf (y ++ z) = sOf y ++ sOf z := by
  show (⟨(y ++ z).toArray⟩ : PySem.Str) = ⟨y.toArray ++ z.toArray⟩
  simp
theorem sOf_get {l : List Nat} {k : Nat} (h : k < l.length) : (sOf l).cps[k]? = some (l.getD k 0) := by
  rw [← Array.getElem?_toList, sOf_list, List.getD_eq_getElem?_getD, List.getElem?_eq_getElem h]; rfl
section
variable {w : World} {G : Gs} {D : Nat} {s₀ s : Shared} {X : XS} {A : Around} {ls : Nat} {its : Array Value} {n L : Nat} {sc : List Int} {rA iA : Nat} {rO : Obj}
noncomputable def lbRes (w : World) (G : Gs) (s₀ : Shared) (X : XS) (ls : Nat) (its : Array Value) (n L : Nat) (fr : Tm) (r : Result) (s' : Shared) : Prop :=
  ∃ k v ex, r = .ok .next ∧ Rl w G s₀ X (lbSt w.params ls its n L fr k v ++ ex) s'
theorem lbLoop (hits : IntsOf its sc) (hsc : sc.length ≤ 1000) (hA : A.handled = none) (hD : A.depth ≤ D) (hD' : D < 800) (hF : ∀ l, X.l = some l → A.frames = some l) : ∀ (r j : Nat), j + r ≤ 20 → ∀ s k v, Rl w G s₀ X [(ls, listO its n), (L, frT w.params (lbN2 ls (bodyK sc j) (j : Int)) k v), (rA, rO), (iA, rIterO ((j : Int) + 1) (r : Int) 1)] s →
    codeAny (model P0 w) A (forC (lbEnv L) (.ref iA) (atP lbS [1])) (fun q s' => lbRes w G s₀ X ls its n L (frT w.params (lbN2 ls (bodyK sc (j + r)) ((j + r : Nat) : Int))) q s') s
  | 0, j, hj, s, k, v, R => by
    refine (lbE2_ok w G ls its n L k v (bodyK sc j) [] (j : Int) ((j : Int) + 1) 0 0 0 rA iA rO).turn (D := D) rfl rfl rfl .n hA hD hF R fun _ st' s' R' => ⟨rfl, block_nil ?_⟩
    exact ⟨kTok st' 1, vTok st' 1, [(rA, rO), (iA, rIterO ((j : Int) + 1) 0 1), pairAt st' 4, pairAt st' 5], rfl, R'⟩
  | r + 1, j, hj, s, k, v, R => by
    have h0 : 0 ≤ atV sc (j + 1) % 35 := Int.emod_nonneg _ (by decide)
    have h1 : atV sc (j + 1) % 35 < 35 := Int.emod_lt_of_pos _ (by decide)
    have hat := HDOk.at (w := w) (G := G) (D := D + 20) (by lia) (ls := ls) (n := n) hits hsc (i := j + 1) (by lia) (s₀ := s₀) (X := X)
    rw [show ((j + 1 : Nat) : Int) = (j : Int) + 1 by lia] at hat
    refine (lbT2_ok w G ls its n L k v (bodyK sc j) (bodyK sc (j + 1)) (j : Int) ((j : Int) + 1) ((r + 1 : Nat) : Int) (atV sc (j + 1)) (lettersL.getD (atV sc (j + 1) % 35).toNat 0) rA iA rO).turn (D := D) rfl rfl rfl
      (.c (HDOk.rNext (by lia)) <| .c hat <| .c (HDOk.modI (by decide)) <| .c (HDOk.sGet h0 (sOf_get (by show _ < 35; lia)) (by rw [sOf_len]; decide)) <| .c (HDOk.sAddR (by rw [bodyK_succ, sOf_app]) (by rw [sOf_len, bodyK_len]; lia) (by rw [sOf_len]; show 1 ≤ 10000; decide)) .n) hA hD hF R fun _ st' s' R' => ⟨rfl, ?_⟩
    have R2 : Rl w G s₀ X [(ls, listO its n), (L, frT w.params (lbN2 ls (bodyK sc (j + 1)) ((j : Int) + 1)) (kTok st' 1) (vTok st' 1)), (rA, rO), (iA, rIterO ((j : Int) + 1 + 1) (((r + 1 : Nat) : Int) - 1) 1)] s' := R'
    rw [show (((r + 1 : Nat) : Int) - 1) = (r : Int) by lia, show ((j : Int) + 1) = ((j + 1 : Nat) : Int) by lia] at R2
    have := lbLoop hits hsc hA hD hD' hF r (j + 1) (by lia) s' _ _ R2
    rw [show j + 1 + r = j + (r + 1) by lia] at this
    exact this
theorem lbLoop1 (hits : IntsOf its sc) (hsc : sc.length ≤ 1000) (hA : A.handled = none) (hD : A.depth ≤ D) (hD' : D < 800) (hF : ∀ l, X.l = some l → A.frames = some l) {r : Nat} (hr : r + 1 ≤ 20) {k v : Nat → Tok} (R : Rl w G s₀ X [(ls, listO its n), (L, frT w.params (lbN1 ls []) k v), (rA, rO), (iA, rIterO 1 ((r + 1 : Nat) : Int) 1)] s) :
    codeAny (model P0 w) A (forC (lbEnv L) (.ref iA) (atP lbS [1])) (fun q s' => lbRes w G s₀ X ls its n L (frT w.params (lbN2 ls (bodyK sc (r + 1)) ((r + 1 : Nat) : Int))) q s') s := by
  have h0 : 0 ≤ atV sc (0 + 1) % 35 := Int.emod_nonneg _ (by decide)
  have h1 : atV sc (0 + 1) % 35 < 35 := Int.emod_lt_of_pos _ (by decide)
  have hat := HDOk.at (w := w) (G := G) (D := D + 20) (by lia) (ls := ls) (n := n) hits hsc (i := 0 + 1) (by lia) (s₀ := s₀) (X := X)
  refine (lbT1_ok w G ls its n L k v [] (bodyK sc 1) 0 1 ((r + 1 : Nat) : Int) (atV sc (0 + 1)) (lettersL.getD (atV sc (0 + 1) % 35).toNat 0) rA iA rO).turn (D := D) rfl rfl rfl
      (.c (HDOk.rNext (by lia)) <| .c hat <| .c (HDOk.modI (by decide)) <| .c (HDOk.sGet h0 (sOf_get (by show _ < 35; lia)) (by rw [sOf_len]; decide)) <| .c (HDOk.sAddR (by rw [bodyK_succ, sOf_app]; rfl) (by rw [sOf_len]; decide) (by rw [sOf_len]; show 1 ≤ 10000; decide)) .n) hA hD hF R fun _ st' s' R' => ⟨rfl, ?_⟩
  have R2 : Rl w G s₀ X [(ls, listO its n), (L, frT w.params (lbN2 ls (bodyK sc 1) 1) (kTok st' 1) (vTok st' 1)), (rA, rO), (iA, rIterO (1 + 1) (((r + 1 : Nat) : Int) - 1) 1)] s' := R'
  rw [show (((r + 1 : Nat) : Int) - 1) = (r : Int) by lia] at R2
  have := lbLoop hits hsc hA hD hD' hF r 1 (by lia) s' _ _ R2
  rw [show 1 + r = r + 1 by lia] at this
  exact this
theorem HDOk.lbFor {fr fr' : Tm} {left : Int} (h : ∀ A s k v rA iA rO, A.handled = none → A.depth ≤ D → (∀ l, X.l = some l → A.frames = some l) → Rl w G s₀ X [(ls, listO its n), (L, fr k v), (rA, rO), (iA, rIterO 1 left 1)] s →
      codeAny (model P0 w) A (forC (lbEnv L) (.ref iA) (atP lbS [1])) (lbRes w G s₀ X ls its n L fr') s) : HDOk w G D s₀ X (HD.lbFor ls its n L fr fr' left) := by
  intro cc st A s hA hD hF R
  refine codeAny_mono (h A s (kTok st 1) (vTok st 1) (addrAt st 2) (addrAt st 3) (objAt st 2) hA hD hF R) fun r s' q => ?_
  obtain ⟨k', v', ex, e, R'⟩ := q
  exact ⟨⟨fun _ => 0, fun _ => k', fun _ => v', fun _ => #[]⟩, e, Rel.cut R'⟩
end
theorem range_up (n : Int) (h0 : 0 ≤ n) (hn : n ≤ 100) : Builtin.Range.small 1 (1 + n) 1 = true ∧ Builtin.Range.rangeSize 1 (1 + n) 1 = n := by
  have hs : Builtin.Range.rangeSize 1 (1 + n) 1 = n := by
    unfold Builtin.Range.rangeSize
    rw [if_pos (by decide)]
    by_cases h : (1 : Int) < 1 + n
    · rw [if_pos h, Int.ediv_one]; lia
    · rw [if_neg h]; lia
  refine ⟨?_, hs⟩
  unfold Builtin.Range.small
  rw [hs]
  unfold Builtin.Range.rangeFitsLong
  simp only [Bool.and_eq_true, decide_eq_true_eq, Bool.or_eq_true, beq_iff_eq]
  refine ⟨⟨⟨⟨by decide, ?_, ?_⟩, by decide⟩, ?_, ?_⟩, .inr ?_⟩ <;> first | lia | skip
  rw [if_pos (by decide)]
  simp only [Bool.and_eq_true, decide_eq_true_eq]
  lia
theorem lb_stmts : fnBody lBodyF.st = stms lbS [] 0 1 ++ (stms lbS [] 1 1 ++ stms lbS [] 2 1) := by kernel_rfl
theorem body_spec {w : World} {G : Gs} {D : Nat} (hD : D < 700) {ls : Nat} {its : Array Value} {n : Nat} {sc : List Int} (hits : IntsOf its sc) (hsc : sc.length ≤ 1000) :
    CSpec w G false D (.call (.ref 962) ⟨[.ref ls], []⟩) [(ls, listO its n)] (fun r st2 _ => (∃ t, r = .ok (.ret (.str (sOf (bodyP sc)) t))) ∧ st2 = [(ls, listO its n)]) := by
  refine Fn.Ok.call (F := lBodyF) (lBodyF_ok w G ls its n) (Nat.lt_of_lt_of_le hD (by decide)) fun L ts A s l hA hD' hF R => ?_
  refine func_of_execs ?_
  rw [lb_stmts]
  have g0 : 0 ≤ atV sc 0 % 9 := Int.emod_nonneg _ (by decide)
  have g1 : atV sc 0 % 9 < 9 := Int.emod_lt_of_pos _ (by decide)
  have v0 : 0 ≤ atV sc 9 % 14 := Int.emod_nonneg _ (by decide)
  have v1 : atV sc 9 % 14 < 14 := Int.emod_lt_of_pos _ (by decide)
  obtain ⟨kk, hkk⟩ : ∃ kk : Nat, atV sc 0 % 9 = kk := ⟨(atV sc 0 % 9).toNat, by lia⟩
  have hb : bodyP sc = bodyK sc kk ++ [vowelsL.getD (atV sc 9 % 14).toNat 0] := by unfold bodyP; rw [hkk]; rfl
  have goal : ∀ A', A'.handled = none → A'.depth ≤ D + 1 → wpAny (model P0 w) A' (execs (stms lbS [] 0 1 ++ (stms lbS [] 1 1 ++ stms lbS [] 2 1)) (lbEnv L)) (fun f s' => ∃ t oL ex, f = .ret (.str (sOf (bodyP sc)) t) ∧ Rl w G s ⟨([(ls, listO its n)].map (·.1)) ++ [L], [], none⟩ ((ls, listO its n) :: (L, oL) :: ex) s') (fun _ _ => False) s := by
    intro A' hA' hD2
    have hF' : ∀ l', (⟨([(ls, listO its n)].map (·.1)) ++ [L], [], none⟩ : XS).l = some l' → A'.frames = some l' := fun l' h => by cases h
    have hat0 := HDOk.at (w := w) (G := G) (D := D + 1 + 20) (by lia) (ls := ls) (n := n) hits hsc (i := 0) (by lia) (s₀ := s) (X := ⟨([(ls, listO its n)].map (·.1)) ++ [L], [], none⟩)
    have hat9 := HDOk.at (w := w) (G := G) (D := D + 1 + 20) (by lia) (ls := ls) (n := n) hits hsc (i := 9) (by lia) (s₀ := s) (X := ⟨([(ls, listO its n)].map (·.1)) ++ [L], [], none⟩)
    refine wpAny_execs_app _ ?_
    refine (lb0_ok w G ls its n L ts (fun _ => 0)).next (D := D + 1) .n hA' hD2 hF' R fun _ st1 s1 R1 => .inl ⟨rfl, ?_⟩
    refine wpAny_execs_app _ ?_
    have hr := range_up (atV sc 0 % 9) g0 (by lia)
    cases kk with
    | zero =>
      refine (lb1n_ok w G ls its n L _ _ [] (atV sc 0) []).next (D := D + 1) (.c hat0 <| .c (HDOk.modI (by decide)) <| .c (HDOk.rIter hr.1 hr.2) <| .c (HDOk.lbFor fun A s k v rA iA rO hA hD hF R => ?_) .n) hA' hD2 hF' R1 fun _ st2 s2 R2 => .inl ⟨rfl, ?_⟩
      · rw [hkk] at R
        refine (lbE1_ok w G ls its n L k v [] [] 0 1 0 0 0 rA iA rO).turn (D := D + 1 + 20) rfl rfl rfl .n hA hD hF R fun _ st' s' R' => ⟨rfl, block_nil ?_⟩
        exact ⟨kTok st' 1, vTok st' 1, [(rA, rO), (iA, rIterO 1 0 1), pairAt st' 4, pairAt st' 5], rfl, R'⟩
      · refine (lbR1_ok w G ls its n L _ _ [] (bodyP sc) 0 (atV sc 9) (vowelsL.getD (atV sc 9 % 14).toNat 0)).next (D := D + 1) (.c hat9 <| .c (HDOk.modI (by decide)) <| .c (HDOk.sGet v0 (sOf_get (by show _ < 14; lia)) (by rw [sOf_len]; decide)) <| .c (HDOk.sAddR (by rw [hb, sOf_app]; rfl) (by rw [sOf_len]; decide) (by rw [sOf_len]; show 1 ≤ 10000; decide)) .n) hA' hD2 hF' R2 fun xo st3 s3 R3 => ?_
        exact ⟨_, _, [], rfl, R3⟩
    | succ r =>
      refine (lb1s_ok w G ls its n L _ _ [] (atV sc 0) (bodyK sc (r + 1)) ((r + 1 : Nat) : Int)).next (D := D + 1) (.c hat0 <| .c (HDOk.modI (by decide)) <| .c (HDOk.rIter hr.1 hr.2) <| .c (HDOk.lbFor fun A s k v rA iA rO hA hD hF R => ?_) .n) hA' hD2 hF' R1 fun _ st2 s2 R2 => .inl ⟨rfl, ?_⟩
      · rw [hkk] at R
        exact lbLoop1 hits hsc hA hD (by lia) hF (by lia) R
      · refine (lbR2_ok w G ls its n L _ _ (bodyK sc (r + 1)) (bodyP sc) ((r + 1 : Nat) : Int) (atV sc 9) (vowelsL.getD (atV sc 9 % 14).toNat 0)).next (D := D + 1) (.c hat9 <| .c (HDOk.modI (by decide)) <| .c (HDOk.sGet v0 (sOf_get (by show _ < 14; lia)) (by rw [sOf_len]; decide)) <| .c (HDOk.sAddR (by rw [hb, sOf_app]) (by rw [sOf_len, bodyK_len]; lia) (by rw [sOf_len]; show 1 ≤ 10000; decide)) .n) hA' hD2 hF' R2 fun xo st3 s3 R3 => ?_
        exact ⟨_, _, [], rfl, R3⟩
  refine wpAny_mono (goal _ hA (Nat.add_le_add_right hD' 1)) (fun f s' q => ?_) fun _ _ h => h
  obtain ⟨t, oL, ex, rfl, R3⟩ := q
  exact ⟨[(ls, listO its n)], oL, ex, ⟨⟨t, rfl⟩, rfl⟩, rfl, R3⟩
end Mine
end
end
section
open PySem PySem.W PyProof.Rows Builtin Builtin.Str Builtin.Int
set_option maxRecDepth 100000
section
namespace Mine
noncomputable abbrev lyS : Stmt := fnAt 21 none
noncomputable def lyEnv (L : Nat) : Env := fenv 976 L lyS "_law_layered" 975
noncomputable abbrev Nm := List (PySem.Str × (Tok → Value))
noncomputable def lyN0 (b cl : List Nat) (n y : Int) : Nm := [("body", fun t => .str (sOf b) t), ("close", fun t => .str (sOf cl) t), ("n", fun t => .int n t), ("y", fun t => .int y t)]
noncomputable def lyN1 (b cl : List Nat) (n y g : Int) : Nm := [("body", fun t => .str (sOf b) t), ("close", fun t => .str (sOf cl) t), ("n", fun t => .int n t), ("y", fun t => .int y t), ("group", fun t => .int g t)]
noncomputable def lyN2 (b cl : List Nat) (n y g : Int) (la : List Nat) : Nm := [("body", fun t => .str (sOf b) t), ("close", fun t => .str (sOf cl) t), ("n", fun t => .int n t), ("y", fun t => .int y t), ("group", fun t => .int g t), ("layer", fun t => .str (sOf la) t)]
noncomputable def lyN3 (b cl : List Nat) (n y g : Int) (la : List Nat) (c : Int) : Nm := [("body", fun t => .str (sOf b) t), ("close", fun t => .str (sOf cl) t), ("n", fun t => .int n t), ("y", fun t => .int y t), ("group", fun t => .int g t), ("layer", fun t => .str (sOf la) t), ("c", fun t => .int c t)]
noncomputable def lyN4 (b cl : List Nat) (n y g : Int) (la : List Nat) (c : Int) (ow : List Nat) : Nm := [("body", fun t => .str (sOf b) t), ("close", fun t => .str (sOf cl) t), ("n", fun t => .int n t), ("y", fun t => .int y t), ("group", fun t => .int g t), ("layer", fun t => .str (sOf la) t), ("c", fun t => .int c t), ("owned", fun t => .str (sOf ow) t)]
noncomputable def lyN5 (b cl : List Nat) (n y g : Int) (la : List Nat) (c : Int) (ow st : List Nat) : Nm := [("body", fun t => .str (sOf b) t), ("close", fun t => .str (sOf cl) t), ("n", fun t => .int n t), ("y", fun t => .int y t), ("group", fun t => .int g t), ("layer", fun t => .str (sOf la) t), ("c", fun t => .int c t), ("owned", fun t => .str (sOf ow) t), ("stock", fun t => .str (sOf st) t)]
noncomputable def lyN6 (b cl : List Nat) (n y g : Int) (la : List Nat) (c : Int) (ow st tl : List Nat) : Nm := [("body", fun t => .str (sOf b) t), ("close", fun t => .str (sOf cl) t), ("n", fun t => .int n t), ("y", fun t => .int y t), ("group", fun t => .int g t), ("layer", fun t => .str (sOf la) t), ("c", fun t => .int c t), ("owned", fun t => .str (sOf ow) t), ("stock", fun t => .str (sOf st) t), ("tail", fun t => .str (sOf tl) t)]
noncomputable def ownL : List (List Nat) := [[], [233, 105], [233]]
noncomputable def tailL : List (List Nat) := [[97, 108], [101, 108], [225], [233]]
noncomputable def kentL : List Nat := [107, 233, 110, 116]
noncomputable def nkentL : List Nat := [110, 107, 233, 110, 116]
noncomputable def longO (P : Params) (k v : Nat → Tok) : Obj := ⟨.type "dict", none, .dict #[en P "a" (k 0) (.str "á" (v 0)), en P "e" (k 1) (.str "é" (v 1))] 2, #[]⟩
noncomputable def HD.mkLong (P : Params) : HD := ⟨fun _ _ => .call (.ref 948) ⟨[], []⟩, id, fun y => .ok (.ret (.ref (y.t 0))), fun y st => push st (y.t 0, longO P (y.K 0) (y.V 0))⟩
noncomputable def HD.dLong (P : Params) (ix : Nat) (x : List Nat) (z : PySem.Str) : HD := ⟨fun c st => .call (.builtin "dict.__getitem__") ⟨[.ref (addrAt st ix), .str (sOf x) (argTok c 1)], []⟩, fun st => putO st ix (longO P (kTok st ix) (vTok st ix)), fun y => .ok (.ret (.str z (y.t 0))), fun _ => id⟩
noncomputable def sliceE (st : St) (ix : Nat) : Obj := ⟨.type "slice", none, .fields #[.none, .int (-1) (vTok st ix 1), .none], #[]⟩
noncomputable def HD.sInit (x : PySem.Str) (ix : Nat) (z : PySem.Str) : HD :=
  ⟨fun c st => .call (.builtin "str.__getitem__") ⟨[.str x (argTok c 0), .ref (addrAt st ix)], []⟩, fun st => putO st ix (sliceE st ix), fun y => .ok (.ret (.str z (y.t 0))), fun _ => id⟩
section
variable {w : World} {G : Gs} {D : Nat} {s₀ s : Shared} {X : XS} {st : St}
theorem HDOk.dLong {ix : Nat} {x : List Nat} {z : PySem.Str} (h : (x = [97] ∧ z = "á") ∨ (x = [101] ∧ z = "é")) : HDOk w G D s₀ X (HD.dLong w.params ix x z) := by
  intro cc st A s hA hD hF R
  have ho : s.heap.get? (addrAt st ix) = some (longO w.params (kTok st ix) (vTok st ix)) := R.S _ (putO_mem st ix _)
  have hkey : (PySem.strKind P0 w).is (sOf x) (.str (sOf x) (argTok cc 1)) = true := strKind_str _ _
  have hm : s.heap.MapOf (PySem.strKind P0 w) (addrAt st ix) (fun k => findBy (PySem.strKind P0 w).is #[en w.params "a" (kTok st ix 0) (.str "á" (vTok st ix 0)), en w.params "e" (kTok st ix 1) (.str "é" (vTok st ix 1))] k) := by
    refine ⟨_, _, 2, ho, ⟨rfl, rfl, rfl⟩, rfl, fun e he => ?_, fun k => rfl⟩
    simp only [List.mem_toArray, List.mem_cons, List.not_mem_nil, or_false] at he
    rcases he with rfl | rfl
    · exact ⟨"a", strKind_str _ _, rfl⟩
    · exact ⟨"e", strKind_str _ _, rfl⟩
  refine codeAny_call_builtin slot_dict_getitem.plain entry_dict_getitem (slot_dict_getitem.check _ _ _ _ _ _ _ _ hm.typeIs (args_dict_getitem _ _) ?_)
  obtain ⟨t, ht⟩ : ∃ t, findBy (PySem.strKind P0 w).is #[en w.params "a" (kTok st ix 0) (.str "á" (vTok st ix 0)), en w.params "e" (kTok st ix 1) (.str "é" (vTok st ix 1))] (sOf x) = some (.str z t) := by
    rcases h with ⟨rfl, rfl⟩ | ⟨rfl, rfl⟩
    · exact ⟨vTok st ix 0, by kernel_rfl⟩
    · exact ⟨vTok st ix 1, by kernel_rfl⟩
  refine meets_dict_getitem (PySem.strKind P0 w) (addrAt st ix) hkey A (fun r s' => ∃ y, r = (HD.dLong w.params ix x z).res y ∧ Rl w G s₀ X ((HD.dLong w.params ix x z).post y ((HD.dLong w.params ix x z).pre st)) s') s ?_
  exact ⟨_, _, hm, ht, yT t, rfl, R.toks _⟩
theorem HDOk.sInit {x z : PySem.Str} {ix : Nat} (hz : ((strSliceIndices none (some (-1)) 1 x.length).filterMap (x.cps[·]?)).toArray = z.cps) (hl' : z.length ≤ 10000) (hw : (strSliceIndices none (some (-1)) 1 x.length).length ≠ x.length) : HDOk w G D s₀ X (HD.sInit x ix z) := by
  intro cc st A s hA hD hF R
  have hs : s.heap.IsSlice (addrAt st ix) none (some (-1, vTok st ix 1)) none := ⟨sliceE st ix, R.S _ (putO_mem st ix _), rfl, rfl⟩
  refine code_slot F.slot_str_getitem (typeIs_str s x _) F.entry_str_getitem (F.args_str_getitem_2 _ _) (meets_str_getitem_slice x _ _ _ _ none rfl) ⟨hs, ?_⟩
  show Made.post (sliceMade x _ none (some (-1, vTok st ix 1)) none) _ _
  unfold sliceMade slicePicked
  split
  · rename_i h
    have h := (Bool.and_eq_true _ _ ▸ h).2
    exact absurd (beq_iff_eq.mp h) hw
  · refine ⟨?_, yT s.toks, ?_, R.toks _⟩
    · show ((strSliceIndices none (some (-1)) 1 x.length).filterMap (x.cps[·]?)).toArray.size ≤ sizeLine
      rw [hz]
      have : (10000 : Nat) ≤ sizeLine := by decide
      exact Nat.le_trans hl' this
    · show _ = Except.ok (Flow.ret (.str z _))
      have : (⟨((strSliceIndices none (some (-1)) 1 x.length).filterMap (x.cps[·]?)).toArray⟩ : PySem.Str) = z := by rw [hz]
      rw [← this]; rfl
end
end Mine
end
end
section
open PySem PySem.W PyProof.Rows
set_option maxRecDepth 100000
set_option maxHeartbeats 0
section
namespace Mine
noncomputable def layF : Fn := ⟨976, fnAt 21 none, "_law_layered", 975, (sv "law_af0032_01" 3127), ["body", "close", "n", "y"]⟩
noncomputable def longF : Fn := ⟨948, fnAt 17 none, "_law_long", 947, (sv "law_af0032_01" 3127), []⟩
noncomputable def long_r (w : World) (G : Gs) (L : Nat) (ts : Nat → Tok) : ScC := ⟨G, .func (fnBody longF.st) (longF.env L), [0,2,2,2,2,0,2,2,2,2], ([] ++ [(L, longF.fr w.params ts [])]), ([] : List HD), (fun xo => .ok (.ret (.ref (refR xo)))), (fun xo st => [(L, objAt st 0), (refR xo, longO w.params (kTok st 1) (vTok st 1))])⟩
noncomputable def ly0 (w : World) (G : Gs) (L : Nat) (k v : Nat → Tok) (b cl : List Nat) (n y : Int) : ScT Flow := ⟨G, execs (stms lyS [] 0 1) (lyEnv L), [1,1,1,1], [(L, (frT w.params (lyN0 b cl n y)) k v)], [HD.modI n 6], (fun _ => .ok .next), (fun _ st => (L, (frT w.params (lyN1 b cl n y (n % 6))) (kTok st 0) (vTok st 0)) :: dropN 1 st)⟩
noncomputable def ly1 (w : World) (G : Gs) (L : Nat) (k v : Nat → Tok) (b cl : List Nat) (n y : Int) (g : Int) (la : List Nat) (lt : Tok) (lg sz : Nat) (its : Array Value) : ScT Flow := ⟨(G.at (tvSt lg its)), execs (stms lyS [] 1 1) (lyEnv L), [0,1,0,0,0,1,1,1,0,0,0,1,0,0,0,1,1,1,501,501,501,1,0,1,1], [(L, (frT w.params (lyN1 b cl n y g)) k v)], [HD.lGet 920 g (.ref lg), HD.divI n 6, HD.lGet 920 g (.ref lg), HD.lLen lg sz, HD.modI (n / 6) sz, HD.lGet lg (n / 6 % sz) (.str (sOf la) lt)], (fun _ => .ok .next), (fun _ st => (L, (frT w.params (lyN2 b cl n y g la)) (kTok st 0) (vTok st 0)) :: dropN 1 st)⟩
noncomputable def ly2 (w : World) (G : Gs) (L : Nat) (k v : Nat → Tok) (b cl : List Nat) (n y : Int) (g : Int) (la : List Nat) : ScT Flow := ⟨G, execs (stms lyS [] 2 1) (lyEnv L), [1,1,1,1], [(L, (frT w.params (lyN2 b cl n y g la)) k v)], [HD.modI y 50], (fun _ => .ok .next), (fun _ st => (L, (frT w.params (lyN3 b cl n y g la (y % 50))) (kTok st 0) (vTok st 0)) :: dropN 1 st)⟩
noncomputable def ly3 (w : World) (G : Gs) (L : Nat) (k v : Nat → Tok) (b cl : List Nat) (n y : Int) (g : Int) (la : List Nat) (c0 : Int) (ow : List Nat) : ScT Flow := ⟨G, execs (stms lyS [] 3 1) (lyEnv L), [1,1,1,2,2,2,1,0,1,1], [(L, (frT w.params (lyN3 b cl n y g la c0)) k v)], [HD.divI y 50, HD.modI (y / 50) 3, HD.sGetL 1 ownL (y / 50 % 3) ow], (fun _ => .ok .next), (fun _ st => (L, (frT w.params (lyN4 b cl n y g la c0 ow)) (kTok st 0) (vTok st 0)) :: dropN 1 st)⟩
noncomputable def ly4a (w : World) (G : Gs) (L : Nat) (k v : Nat → Tok) (b cl : List Nat) (n y : Int) (g : Int) (la : List Nat) (c0 : Int) (ow : List Nat) : ScT Flow := ⟨G, execs (stms lyS [] 4 1) (lyEnv L), [1,1], [(L, (frT w.params (lyN4 b cl n y g la c0 ow)) k v)], [HD.sCmp "str.__eq__" (sOf ow) (sOf [233]) false], (fun _ => .ok .next), (fun _ st => (L, (frT w.params (lyN4 b cl n y g la c0 ow)) (kTok st 0) (vTok st 0)) :: dropN 1 st)⟩
noncomputable def ly4b (w : World) (G : Gs) (L : Nat) (k v : Nat → Tok) (b cl : List Nat) (n y : Int) (g : Int) (la : List Nat) (c0 : Int) (ow : List Nat) : ScT Flow := ⟨G, execs (stms lyS [] 4 1) (lyEnv L), [1,1,1,1,1,1], [(L, (frT w.params (lyN4 b cl n y g la c0 ow)) k v)], [HD.sCmp "str.__eq__" (sOf ow) (sOf [233]) true, HD.cmp "int.__eq__" g 3 true], (fun _ => .ok .next), (fun _ st => (L, (frT w.params (lyN4 b cl n y g la c0 [233, 105])) (kTok st 0) (vTok st 0)) :: dropN 1 st)⟩
noncomputable def ly4c (w : World) (G : Gs) (L : Nat) (k v : Nat → Tok) (b cl : List Nat) (n y : Int) (g : Int) (la : List Nat) (c0 : Int) (ow : List Nat) : ScT Flow := ⟨G, execs (stms lyS [] 4 1) (lyEnv L), [1,1,1,1,1,1,1,1], [(L, (frT w.params (lyN4 b cl n y g la c0 ow)) k v)], [HD.sCmp "str.__eq__" (sOf ow) (sOf [233]) true, HD.cmp "int.__eq__" g 3 false, HD.cmp "int.__eq__" g 5 true], (fun _ => .ok .next), (fun _ st => (L, (frT w.params (lyN4 b cl n y g la c0 [233, 105])) (kTok st 0) (vTok st 0)) :: dropN 1 st)⟩
noncomputable def ly4d (w : World) (G : Gs) (L : Nat) (k v : Nat → Tok) (b cl : List Nat) (n y : Int) (g : Int) (la : List Nat) (c0 : Int) (ow : List Nat) : ScT Flow := ⟨G, execs (stms lyS [] 4 1) (lyEnv L), [1,1,1,1,1,1,1,1], [(L, (frT w.params (lyN4 b cl n y g la c0 ow)) k v)], [HD.sCmp "str.__eq__" (sOf ow) (sOf [233]) true, HD.cmp "int.__eq__" g 3 false, HD.cmp "int.__eq__" g 5 false, HD.cmp "int.__eq__" g 2 false], (fun _ => .ok .next), (fun _ st => (L, (frT w.params (lyN4 b cl n y g la c0 ow)) (kTok st 0) (vTok st 0)) :: dropN 1 st)⟩
noncomputable def ly4e (w : World) (G : Gs) (L : Nat) (k v : Nat → Tok) (b cl : List Nat) (n y : Int) (g : Int) (la : List Nat) (c0 : Int) (ow : List Nat) : ScT Flow := ⟨G, execs (stms lyS [] 4 1) (lyEnv L), [1,1,1,1,1,1,1,1,1,1,1,1], [(L, (frT w.params (lyN4 b cl n y g la c0 ow)) k v)], [HD.sCmp "str.__eq__" (sOf ow) (sOf [233]) true, HD.cmp "int.__eq__" g 3 false, HD.cmp "int.__eq__" g 5 false, HD.cmp "int.__eq__" g 2 true, HD.cmp "int.__gt__" c0 0 true], (fun _ => .ok .next), (fun _ st => (L, (frT w.params (lyN4 b cl n y g la c0 [233, 105])) (kTok st 0) (vTok st 0)) :: dropN 1 st)⟩
noncomputable def ly4f (w : World) (G : Gs) (L : Nat) (k v : Nat → Tok) (b cl : List Nat) (n y : Int) (g : Int) (la : List Nat) (c0 : Int) (ow : List Nat) : ScT Flow := ⟨G, execs (stms lyS [] 4 1) (lyEnv L), [1,1,1,1,1,1,1,1,1,1], [(L, (frT w.params (lyN4 b cl n y g la c0 ow)) k v)], [HD.sCmp "str.__eq__" (sOf ow) (sOf [233]) true, HD.cmp "int.__eq__" g 3 false, HD.cmp "int.__eq__" g 5 false, HD.cmp "int.__eq__" g 2 true, HD.cmp "int.__gt__" c0 0 false], (fun _ => .ok .next), (fun _ st => (L, (frT w.params (lyN4 b cl n y g la c0 ow)) (kTok st 0) (vTok st 0)) :: dropN 1 st)⟩
noncomputable def ly5a (w : World) (G : Gs) (L : Nat) (k v : Nat → Tok) (b cl : List Nat) (n y : Int) (g : Int) (la : List Nat) (c0 : Int) (ow : List Nat) : ScT Flow := ⟨G, execs (stms lyS [] 5 1) (lyEnv L), [1,1], [(L, (frT w.params (lyN4 b cl n y g la c0 ow)) k v)], [HD.cmp "int.__eq__" g 5 false], (fun _ => .ok .next), (fun _ st => (L, (frT w.params (lyN4 b cl n y g la c0 ow)) (kTok st 0) (vTok st 0)) :: dropN 1 st)⟩
noncomputable def ly5b (w : World) (G : Gs) (L : Nat) (k v : Nat → Tok) (b cl : List Nat) (n y : Int) (g : Int) (la : List Nat) (c0 : Int) (ow : List Nat) : ScT Flow := ⟨G, execs (stms lyS [] 5 1) (lyEnv L), [1,1,1,1,1,1], [(L, (frT w.params (lyN4 b cl n y g la c0 ow)) k v)], [HD.cmp "int.__eq__" g 5 true, HD.cmp "int.__gt__" c0 0 false, HD.sCmp "str.__ne__" (sOf ow) (sOf []) false], (fun _ => .ok .next), (fun _ st => (L, (frT w.params (lyN4 b cl n y g la c0 ow)) (kTok st 0) (vTok st 0)) :: dropN 1 st)⟩
noncomputable def ly5c (w : World) (G : Gs) (L : Nat) (k v : Nat → Tok) (b cl : List Nat) (n y : Int) (g : Int) (la : List Nat) (c0 : Int) (ow : List Nat) (li lv la2 : List Nat) (ch : Nat) : ScT Flow := ⟨G, execs (stms lyS [] 5 1) (lyEnv L), [1,1,1,1,1,0,1,0,0,1,1,0,1,3,3,3,1,0,1,1,1], [(L, (frT w.params (lyN4 b cl n y g la c0 ow)) k v)], [HD.cmp "int.__eq__" g 5 true, HD.cmp "int.__gt__" c0 0 true, HD.sInit (sOf la) 1 (sOf li), HD.mkLong w.params, HD.sLast (sOf la) ch, HD.dLong w.params 2 [ch] (sOf lv), HD.sAddR (sOf li) (sOf lv) (sOf la2)], (fun _ => .ok .next), (fun _ st => (L, (frT w.params (lyN4 b cl n y g la2 c0 ow)) (kTok st 0) (vTok st 0)) :: dropN 1 st)⟩
noncomputable def ly5d (w : World) (G : Gs) (L : Nat) (k v : Nat → Tok) (b cl : List Nat) (n y : Int) (g : Int) (la : List Nat) (c0 : Int) (ow : List Nat) (li lv la2 : List Nat) (ch : Nat) : ScT Flow := ⟨G, execs (stms lyS [] 5 1) (lyEnv L), [1,1,1,1,1,1,1,0,1,0,0,1,1,0,1,3,3,3,1,0,1,1,1], [(L, (frT w.params (lyN4 b cl n y g la c0 ow)) k v)], [HD.cmp "int.__eq__" g 5 true, HD.cmp "int.__gt__" c0 0 false, HD.sCmp "str.__ne__" (sOf ow) (sOf []) true, HD.sInit (sOf la) 1 (sOf li), HD.mkLong w.params, HD.sLast (sOf la) ch, HD.dLong w.params 2 [ch] (sOf lv), HD.sAddR (sOf li) (sOf lv) (sOf la2)], (fun _ => .ok .next), (fun _ st => (L, (frT w.params (lyN4 b cl n y g la2 c0 ow)) (kTok st 0) (vTok st 0)) :: dropN 1 st)⟩
noncomputable def ly6 (w : World) (G : Gs) (L : Nat) (k v : Nat → Tok) (b cl : List Nat) (n y : Int) (g : Int) (la : List Nat) (c0 : Int) (ow : List Nat) (z1 z2 sk : List Nat) : ScT Flow := ⟨G, execs (stms lyS [] 6 1) (lyEnv L), [1,1,1,1,1,1,1,1,1], [(L, (frT w.params (lyN4 b cl n y g la c0 ow)) k v)], [HD.sAddR (sOf b) (sOf cl) (sOf z1), HD.sAddR (sOf z1) (sOf la) (sOf z2), HD.sAddR (sOf z2) (sOf ow) (sOf sk)], (fun _ => .ok .next), (fun _ st => (L, (frT w.params (lyN5 b cl n y g la c0 ow sk)) (kTok st 0) (vTok st 0)) :: dropN 1 st)⟩
noncomputable def ly7a (w : World) (G : Gs) (L : Nat) (k v : Nat → Tok) (b cl : List Nat) (n y : Int) (g : Int) (la : List Nat) (c0 : Int) (ow : List Nat) (sk : List Nat) : ScT Flow := ⟨G, execs (stms lyS [] 7 1) (lyEnv L), [1,1,1], [(L, (frT w.params (lyN5 b cl n y g la c0 ow sk)) k v)], [HD.cmp "int.__eq__" c0 0 true], (fun xo => .ok (.ret (.str (sOf sk) (match xo with | .ok (.ret v) => tokOf v | _ => 0)))), (fun _ st => (L, (frT w.params (lyN5 b cl n y g la c0 ow sk)) (kTok st 0) (vTok st 0)) :: dropN 1 st)⟩
noncomputable def ly7b (w : World) (G : Gs) (L : Nat) (k v : Nat → Tok) (b cl : List Nat) (n y : Int) (g : Int) (la : List Nat) (c0 : Int) (ow : List Nat) (sk : List Nat) : ScT Flow := ⟨G, execs (stms lyS [] 7 1) (lyEnv L), [1,1], [(L, (frT w.params (lyN5 b cl n y g la c0 ow sk)) k v)], [HD.cmp "int.__eq__" c0 0 false], (fun _ => .ok .next), (fun _ st => (L, (frT w.params (lyN5 b cl n y g la c0 ow sk)) (kTok st 0) (vTok st 0)) :: dropN 1 st)⟩
noncomputable def ly8a (w : World) (G : Gs) (L : Nat) (k v : Nat → Tok) (b cl : List Nat) (n y : Int) (g : Int) (la : List Nat) (c0 : Int) (ow : List Nat) (sk : List Nat) (x z1 : List Nat) : ScT Flow := ⟨G, execs (stms lyS [] 8 1) (lyEnv L), [1,1,1,0,0,1,1,0,2,2,2,1,0,1], [(L, (frT w.params (lyN5 b cl n y g la c0 ow sk)) k v)], [HD.cmp "int.__lt__" c0 45 true, HD.mkL 927 casesL, HD.sGetL 1 casesL (c0 - 1) x, HD.sAddR (sOf sk) (sOf x) (sOf z1)], (fun xo => .ok (.ret (.str (sOf z1) (match xo with | .ok (.ret v) => tokOf v | _ => 0)))), (fun _ st => (L, (frT w.params (lyN5 b cl n y g la c0 ow sk)) (kTok st 0) (vTok st 0)) :: dropN 1 st)⟩
noncomputable def ly8b (w : World) (G : Gs) (L : Nat) (k v : Nat → Tok) (b cl : List Nat) (n y : Int) (g : Int) (la : List Nat) (c0 : Int) (ow : List Nat) (sk : List Nat) : ScT Flow := ⟨G, execs (stms lyS [] 8 1) (lyEnv L), [1,1], [(L, (frT w.params (lyN5 b cl n y g la c0 ow sk)) k v)], [HD.cmp "int.__lt__" c0 45 false], (fun _ => .ok .next), (fun _ st => (L, (frT w.params (lyN5 b cl n y g la c0 ow sk)) (kTok st 0) (vTok st 0)) :: dropN 1 st)⟩
noncomputable def ly9a (w : World) (G : Gs) (L : Nat) (k v : Nat → Tok) (b cl : List Nat) (n y : Int) (g : Int) (la : List Nat) (c0 : Int) (ow : List Nat) (sk : List Nat) : ScT Flow := ⟨G, execs (stms lyS [] 9 1) (lyEnv L), [1,1], [(L, (frT w.params (lyN5 b cl n y g la c0 ow sk)) k v)], [HD.cmp "int.__eq__" c0 49 false], (fun _ => .ok .next), (fun _ st => (L, (frT w.params (lyN5 b cl n y g la c0 ow sk)) (kTok st 0) (vTok st 0)) :: dropN 1 st)⟩
noncomputable def ly9b (w : World) (G : Gs) (L : Nat) (k v : Nat → Tok) (b cl : List Nat) (n y : Int) (g : Int) (la : List Nat) (c0 : Int) (ow : List Nat) (sk : List Nat) (z1 : List Nat) : ScT Flow := ⟨G, execs (stms lyS [] 9 1) (lyEnv L), [1,1,1,1,1,1,1,1], [(L, (frT w.params (lyN5 b cl n y g la c0 ow sk)) k v)], [HD.cmp "int.__eq__" c0 49 true, HD.cmp "int.__eq__" g 5 true, HD.sCmp "str.__eq__" (sOf ow) (sOf []) true, HD.sAddR (sOf sk) (sOf nkentL) (sOf z1)], (fun xo => .ok (.ret (.str (sOf z1) (match xo with | .ok (.ret v) => tokOf v | _ => 0)))), (fun _ st => (L, (frT w.params (lyN5 b cl n y g la c0 ow sk)) (kTok st 0) (vTok st 0)) :: dropN 1 st)⟩
noncomputable def ly9c (w : World) (G : Gs) (L : Nat) (k v : Nat → Tok) (b cl : List Nat) (n y : Int) (g : Int) (la : List Nat) (c0 : Int) (ow : List Nat) (sk : List Nat) (z1 : List Nat) : ScT Flow := ⟨G, execs (stms lyS [] 9 1) (lyEnv L), [1,1,1,1,1,1,1,1], [(L, (frT w.params (lyN5 b cl n y g la c0 ow sk)) k v)], [HD.cmp "int.__eq__" c0 49 true, HD.cmp "int.__eq__" g 5 true, HD.sCmp "str.__eq__" (sOf ow) (sOf []) false, HD.sAddR (sOf sk) (sOf kentL) (sOf z1)], (fun xo => .ok (.ret (.str (sOf z1) (match xo with | .ok (.ret v) => tokOf v | _ => 0)))), (fun _ st => (L, (frT w.params (lyN5 b cl n y g la c0 ow sk)) (kTok st 0) (vTok st 0)) :: dropN 1 st)⟩
noncomputable def ly9d (w : World) (G : Gs) (L : Nat) (k v : Nat → Tok) (b cl : List Nat) (n y : Int) (g : Int) (la : List Nat) (c0 : Int) (ow : List Nat) (sk : List Nat) (z1 : List Nat) : ScT Flow := ⟨G, execs (stms lyS [] 9 1) (lyEnv L), [1,1,1,1,1,1], [(L, (frT w.params (lyN5 b cl n y g la c0 ow sk)) k v)], [HD.cmp "int.__eq__" c0 49 true, HD.cmp "int.__eq__" g 5 false, HD.sAddR (sOf sk) (sOf kentL) (sOf z1)], (fun xo => .ok (.ret (.str (sOf z1) (match xo with | .ok (.ret v) => tokOf v | _ => 0)))), (fun _ st => (L, (frT w.params (lyN5 b cl n y g la c0 ow sk)) (kTok st 0) (vTok st 0)) :: dropN 1 st)⟩
noncomputable def lyt (w : World) (G : Gs) (L : Nat) (k v : Nat → Tok) (b cl : List Nat) (n y : Int) (g : Int) (la : List Nat) (c0 : Int) (ow : List Nat) (sk : List Nat) (tl : List Nat) : ScT Flow := ⟨G, execs (stms lyS [] 10 1) (lyEnv L), [1,0,2,2,2,1,0,1,1], [(L, (frT w.params (lyN5 b cl n y g la c0 ow sk)) k v)], [HD.sGetL 1 tailL (c0 - 45) tl], (fun _ => .ok .next), (fun _ st => (L, (frT w.params (lyN6 b cl n y g la c0 ow sk tl)) (kTok st 0) (vTok st 0)) :: dropN 1 st)⟩
noncomputable def lyua (w : World) (G : Gs) (L : Nat) (k v : Nat → Tok) (b cl : List Nat) (n y : Int) (g : Int) (la : List Nat) (c0 : Int) (ow : List Nat) (sk : List Nat) (tl : List Nat) (z1 z2 : List Nat) : ScT Flow := ⟨G, execs (stms lyS [] 11 1) (lyEnv L), [1,1,1,1,1,1], [(L, (frT w.params (lyN6 b cl n y g la c0 ow sk tl)) k v)], [HD.sCmp "str.__ne__" (sOf ow) (sOf []) true, HD.sAddR (sOf sk) (sOf [118]) (sOf z1), HD.sAddR (sOf z1) (sOf tl) (sOf z2)], (fun xo => .ok (.ret (.str (sOf z2) (match xo with | .ok (.ret v) => tokOf v | _ => 0)))), (fun _ st => (L, (frT w.params (lyN6 b cl n y g la c0 ow sk tl)) (kTok st 0) (vTok st 0)) :: dropN 1 st)⟩
noncomputable def lyub (w : World) (G : Gs) (L : Nat) (k v : Nat → Tok) (b cl : List Nat) (n y : Int) (g : Int) (la : List Nat) (c0 : Int) (ow : List Nat) (sk : List Nat) (tl : List Nat) (z1 z2 : List Nat) : ScT Flow := ⟨G, execs (stms lyS [] 11 1) (lyEnv L), [1,1,1,1,1,1,1,1], [(L, (frT w.params (lyN6 b cl n y g la c0 ow sk tl)) k v)], [HD.sCmp "str.__ne__" (sOf ow) (sOf []) false, HD.cmp "int.__gt__" g 3 true, HD.sAddR (sOf sk) (sOf [118]) (sOf z1), HD.sAddR (sOf z1) (sOf tl) (sOf z2)], (fun xo => .ok (.ret (.str (sOf z2) (match xo with | .ok (.ret v) => tokOf v | _ => 0)))), (fun _ st => (L, (frT w.params (lyN6 b cl n y g la c0 ow sk tl)) (kTok st 0) (vTok st 0)) :: dropN 1 st)⟩
noncomputable def lyuc (w : World) (G : Gs) (L : Nat) (k v : Nat → Tok) (b cl : List Nat) (n y : Int) (g : Int) (la : List Nat) (c0 : Int) (ow : List Nat) (sk : List Nat) (tl : List Nat) : ScT Flow := ⟨G, execs (stms lyS [] 11 1) (lyEnv L), [1,1,1,1], [(L, (frT w.params (lyN6 b cl n y g la c0 ow sk tl)) k v)], [HD.sCmp "str.__ne__" (sOf ow) (sOf []) false, HD.cmp "int.__gt__" g 3 false], (fun _ => .ok .next), (fun _ st => (L, (frT w.params (lyN6 b cl n y g la c0 ow sk tl)) (kTok st 0) (vTok st 0)) :: dropN 1 st)⟩
noncomputable def lyva (w : World) (G : Gs) (L : Nat) (k v : Nat → Tok) (b cl : List Nat) (n y : Int) (g : Int) (la : List Nat) (c0 : Int) (ow : List Nat) (sk : List Nat) (tl : List Nat) (z1 z2 z3 : List Nat) (ch : Nat) : ScT Flow := ⟨G, execs (stms lyS [] 12 1) (lyEnv L), [1,1,1,1,1,1,1,1,1,1], [(L, (frT w.params (lyN6 b cl n y g la c0 ow sk tl)) k v)], [HD.cmp "int.__eq__" g 0 true, HD.sGet (sOf cl) 0 ch, HD.sAddR (sOf b) (sOf [ch]) (sOf z1), HD.sAddR (sOf z1) (sOf cl) (sOf z2), HD.sAddR (sOf z2) (sOf tl) (sOf z3)], (fun xo => .ok (.ret (.str (sOf z3) (match xo with | .ok (.ret v) => tokOf v | _ => 0)))), (fun _ st => (L, (frT w.params (lyN6 b cl n y g la c0 ow sk tl)) (kTok st 0) (vTok st 0)) :: dropN 1 st)⟩
noncomputable def lyvb (w : World) (G : Gs) (L : Nat) (k v : Nat → Tok) (b cl : List Nat) (n y : Int) (g : Int) (la : List Nat) (c0 : Int) (ow : List Nat) (sk : List Nat) (tl : List Nat) : ScT Flow := ⟨G, execs (stms lyS [] 12 1) (lyEnv L), [1,1], [(L, (frT w.params (lyN6 b cl n y g la c0 ow sk tl)) k v)], [HD.cmp "int.__eq__" g 0 false], (fun _ => .ok .next), (fun _ st => (L, (frT w.params (lyN6 b cl n y g la c0 ow sk tl)) (kTok st 0) (vTok st 0)) :: dropN 1 st)⟩
noncomputable def lyw (w : World) (G : Gs) (L : Nat) (k v : Nat → Tok) (b cl : List Nat) (n y : Int) (g : Int) (la : List Nat) (c0 : Int) (ow : List Nat) (sk : List Nat) (tl : List Nat) (z1 z2 : List Nat) (ch : Nat) : ScT Flow := ⟨G, execs (stms lyS [] 13 1) (lyEnv L), [1,1,0,1,1,1,1], [(L, (frT w.params (lyN6 b cl n y g la c0 ow sk tl)) k v)], [HD.sLast (sOf la) ch, HD.sAddR (sOf sk) (sOf [ch]) (sOf z1), HD.sAddR (sOf z1) (sOf tl) (sOf z2)], (fun xo => .ok (.ret (.str (sOf z2) (match xo with | .ok (.ret v) => tokOf v | _ => 0)))), (fun _ st => (L, (frT w.params (lyN6 b cl n y g la c0 ow sk tl)) (kTok st 0) (vTok st 0)) :: dropN 1 st)⟩
theorem layF_ok (w : World) (G : Gs)  (x0 x1 x2 x3 : Value) : layF.Ok w G [1,1,1,1,1,1,1,1] ([] : St) [x0, x1, x2, x3] := okN (FnAt.mk' (sv "law_af0032_01" 3127) (by kernel_rfl) (by kernel_rfl) (by kernel_rfl) (by kernel_rfl)) (by kernel_rfl) (fun pm => by kernel_rfl) (by kernel_rfl)
theorem longF_ok (w : World) (G : Gs)   : longF.Ok w G [] ([] : St) [] := okN (FnAt.mk' (sv "law_af0032_01" 3127) (by kernel_rfl) (by kernel_rfl) (by kernel_rfl) (by kernel_rfl)) (by kernel_rfl) (fun pm => by kernel_rfl) (by kernel_rfl)
theorem long_r_ok (w : World) (G : Gs) (L : Nat) (ts : Nat → Tok) : (long_r w G L ts).Ok w := okC (S := fun w => long_r w G L ts) (by kernel_rfl) (by kernel_rfl) w
theorem ly0_ok (w : World) (G : Gs) (L : Nat) (k v : Nat → Tok) (b cl : List Nat) (n y : Int) : (ly0 w G L k v b cl n y).Ok w := okE (S := fun w => ly0 w G L k v b cl n y) (fun _ => rfl) (by kernel_rfl) (by kernel_rfl) w
theorem ly1_ok (w : World) (G : Gs) (L : Nat) (k v : Nat → Tok) (b cl : List Nat) (n y : Int) (g : Int) (la : List Nat) (lt : Tok) (lg sz : Nat) (its : Array Value) : (ly1 w G L k v b cl n y g la lt lg sz its).Ok w := okE (S := fun w => ly1 w G L k v b cl n y g la lt lg sz its) (fun _ => rfl) (by kernel_rfl) (by kernel_rfl) w
theorem ly2_ok (w : World) (G : Gs) (L : Nat) (k v : Nat → Tok) (b cl : List Nat) (n y : Int) (g : Int) (la : List Nat) : (ly2 w G L k v b cl n y g la).Ok w := okE (S := fun w => ly2 w G L k v b cl n y g la) (fun _ => rfl) (by kernel_rfl) (by kernel_rfl) w
theorem ly3_ok (w : World) (G : Gs) (L : Nat) (k v : Nat → Tok) (b cl : List Nat) (n y : Int) (g : Int) (la : List Nat) (c0 : Int) (ow : List Nat) : (ly3 w G L k v b cl n y g la c0 ow).Ok w := okE (S := fun w => ly3 w G L k v b cl n y g la c0 ow) (fun _ => rfl) (by kernel_rfl) (by kernel_rfl) w
theorem ly4a_ok (w : World) (G : Gs) (L : Nat) (k v : Nat → Tok) (b cl : List Nat) (n y : Int) (g : Int) (la : List Nat) (c0 : Int) (ow : List Nat) : (ly4a w G L k v b cl n y g la c0 ow).Ok w := okE (S := fun w => ly4a w G L k v b cl n y g la c0 ow) (fun _ => rfl) (by kernel_rfl) (by kernel_rfl) w
theorem ly4b_ok (w : World) (G : Gs) (L : Nat) (k v : Nat → Tok) (b cl : List Nat) (n y : Int) (g : Int) (la : List Nat) (c0 : Int) (ow : List Nat) : (ly4b w G L k v b cl n y g la c0 ow).Ok w := okE (S := fun w => ly4b w G L k v b cl n y g la c0 ow) (fun _ => rfl) (by kernel_rfl) (by kernel_rfl) w
theorem ly4c_ok (w : World) (G : Gs) (L : Nat) (k v : Nat → Tok) (b cl : List Nat) (n y : Int) (g : Int) (la : List Nat) (c0 : Int) (ow : List Nat) : (ly4c w G L k v b cl n y g la c0 ow).Ok w := okE (S := fun w => ly4c w G L k v b cl n y g la c0 ow) (fun _ => rfl) (by kernel_rfl) (by kernel_rfl) w
theorem ly4d_ok (w : World) (G : Gs) (L : Nat) (k v : Nat → Tok) (b cl : List Nat) (n y : Int) (g : Int) (la : List Nat) (c0 : Int) (ow : List Nat) : (ly4d w G L k v b cl n y g la c0 ow).Ok w := okE (S := fun w => ly4d w G L k v b cl n y g la c0 ow) (fun _ => rfl) (by kernel_rfl) (by kernel_rfl) w
theorem ly4e_ok (w : World) (G : Gs) (L : Nat) (k v : Nat → Tok) (b cl : List Nat) (n y : Int) (g : Int) (la : List Nat) (c0 : Int) (ow : List Nat) : (ly4e w G L k v b cl n y g la c0 ow).Ok w := okE (S := fun w => ly4e w G L k v b cl n y g la c0 ow) (fun _ => rfl) (by kernel_rfl) (by kernel_rfl) w
theorem ly4f_ok (w : World) (G : Gs) (L : Nat) (k v : Nat → Tok) (b cl : List Nat) (n y : Int) (g : Int) (la : List Nat) (c0 : Int) (ow : List Nat) : (ly4f w G L k v b cl n y g la c0 ow).Ok w := okE (S := fun w => ly4f w G L k v b cl n y g la c0 ow) (fun _ => rfl) (by kernel_rfl) (by kernel_rfl) w
theorem ly5a_ok (w : World) (G : Gs) (L : Nat) (k v : Nat → Tok) (b cl : List Nat) (n y : Int) (g : Int) (la : List Nat) (c0 : Int) (ow : List Nat) : (ly5a w G L k v b cl n y g la c0 ow).Ok w := okE (S := fun w => ly5a w G L k v b cl n y g la c0 ow) (fun _ => rfl) (by kernel_rfl) (by kernel_rfl) w
theorem ly5b_ok (w : World) (G : Gs) (L : Nat) (k v : Nat → Tok) (b cl : List Nat) (n y : Int) (g : Int) (la : List Nat) (c0 : Int) (ow : List Nat) : (ly5b w G L k v b cl n y g la c0 ow).Ok w := okE (S := fun w => ly5b w G L k v b cl n y g la c0 ow) (fun _ => rfl) (by kernel_rfl) (by kernel_rfl) w
theorem ly5c_ok (w : World) (G : Gs) (L : Nat) (k v : Nat → Tok) (b cl : List Nat) (n y : Int) (g : Int) (la : List Nat) (c0 : Int) (ow : List Nat) (li lv la2 : List Nat) (ch : Nat) : (ly5c w G L k v b cl n y g la c0 ow li lv la2 ch).Ok w := okE (S := fun w => ly5c w G L k v b cl n y g la c0 ow li lv la2 ch) (fun _ => rfl) (by kernel_rfl) (by kernel_rfl) w
theorem ly5d_ok (w : World) (G : Gs) (L : Nat) (k v : Nat → Tok) (b cl : List Nat) (n y : Int) (g : Int) (la : List Nat) (c0 : Int) (ow : List Nat) (li lv la2 : List Nat) (ch : Nat) : (ly5d w G L k v b cl n y g la c0 ow li lv la2 ch).Ok w := okE (S := fun w => ly5d w G L k v b cl n y g la c0 ow li lv la2 ch) (fun _ => rfl) (by kernel_rfl) (by kernel_rfl) w
theorem ly6_ok (w : World) (G : Gs) (L : Nat) (k v : Nat → Tok) (b cl : List Nat) (n y : Int) (g : Int) (la : List Nat) (c0 : Int) (ow : List Nat) (z1 z2 sk : List Nat) : (ly6 w G L k v b cl n y g la c0 ow z1 z2 sk).Ok w := okE (S := fun w => ly6 w G L k v b cl n y g la c0 ow z1 z2 sk) (fun _ => rfl) (by kernel_rfl) (by kernel_rfl) w
theorem ly7a_ok (w : World) (G : Gs) (L : Nat) (k v : Nat → Tok) (b cl : List Nat) (n y : Int) (g : Int) (la : List Nat) (c0 : Int) (ow : List Nat) (sk : List Nat) : (ly7a w G L k v b cl n y g la c0 ow sk).Ok w := okE (S := fun w => ly7a w G L k v b cl n y g la c0 ow sk) (fun _ => rfl) (by kernel_rfl) (by kernel_rfl) w
theorem ly7b_ok (w : World) (G : Gs) (L : Nat) (k v : Nat → Tok) (b cl : List Nat) (n y : Int) (g : Int) (la : List Nat) (c0 : Int) (ow : List Nat) (sk : List Nat) : (ly7b w G L k v b cl n y g la c0 ow sk).Ok w := okE (S := fun w => ly7b w G L k v b cl n y g la c0 ow sk) (fun _ => rfl) (by kernel_rfl) (by kernel_rfl) w
theorem ly8a_ok (w : World) (G : Gs) (L : Nat) (k v : Nat → Tok) (b cl : List Nat) (n y : Int) (g : Int) (la : List Nat) (c0 : Int) (ow : List Nat) (sk : List Nat) (x z1 : List Nat) : (ly8a w G L k v b cl n y g la c0 ow sk x z1).Ok w := okE (S := fun w => ly8a w G L k v b cl n y g la c0 ow sk x z1) (fun _ => rfl) (by kernel_rfl) (by kernel_rfl) w
theorem ly8b_ok (w : World) (G : Gs) (L : Nat) (k v : Nat → Tok) (b cl : List Nat) (n y : Int) (g : Int) (la : List Nat) (c0 : Int) (ow : List Nat) (sk : List Nat) : (ly8b w G L k v b cl n y g la c0 ow sk).Ok w := okE (S := fun w => ly8b w G L k v b cl n y g la c0 ow sk) (fun _ => rfl) (by kernel_rfl) (by kernel_rfl) w
theorem ly9a_ok (w : World) (G : Gs) (L : Nat) (k v : Nat → Tok) (b cl : List Nat) (n y : Int) (g : Int) (la : List Nat) (c0 : Int) (ow : List Nat) (sk : List Nat) : (ly9a w G L k v b cl n y g la c0 ow sk).Ok w := okE (S := fun w => ly9a w G L k v b cl n y g la c0 ow sk) (fun _ => rfl) (by kernel_rfl) (by kernel_rfl) w
theorem ly9b_ok (w : World) (G : Gs) (L : Nat) (k v : Nat → Tok) (b cl : List Nat) (n y : Int) (g : Int) (la : List Nat) (c0 : Int) (ow : List Nat) (sk : List Nat) (z1 : List Nat) : (ly9b w G L k v b cl n y g la c0 ow sk z1).Ok w := okE (S := fun w => ly9b w G L k v b cl n y g la c0 ow sk z1) (fun _ => rfl) (by kernel_rfl) (by kernel_rfl) w
theorem ly9c_ok (w : World) (G : Gs) (L : Nat) (k v : Nat → Tok) (b cl : List Nat) (n y : Int) (g : Int) (la : List Nat) (c0 : Int) (ow : List Nat) (sk : List Nat) (z1 : List Nat) : (ly9c w G L k v b cl n y g la c0 ow sk z1).Ok w := okE (S := fun w => ly9c w G L k v b cl n y g la c0 ow sk z1) (fun _ => rfl) (by kernel_rfl) (by kernel_rfl) w
theorem ly9d_ok (w : World) (G : Gs) (L : Nat) (k v : Nat → Tok) (b cl : List Nat) (n y : Int) (g : Int) (la : List Nat) (c0 : Int) (ow : List Nat) (sk : List Nat) (z1 : List Nat) : (ly9d w G L k v b cl n y g la c0 ow sk z1).Ok w := okE (S := fun w => ly9d w G L k v b cl n y g la c0 ow sk z1) (fun _ => rfl) (by kernel_rfl) (by kernel_rfl) w
theorem lyt_ok (w : World) (G : Gs) (L : Nat) (k v : Nat → Tok) (b cl : List Nat) (n y : Int) (g : Int) (la : List Nat) (c0 : Int) (ow : List Nat) (sk : List Nat) (tl : List Nat) : (lyt w G L k v b cl n y g la c0 ow sk tl).Ok w := okE (S := fun w => lyt w G L k v b cl n y g la c0 ow sk tl) (fun _ => rfl) (by kernel_rfl) (by kernel_rfl) w
theorem lyua_ok (w : World) (G : Gs) (L : Nat) (k v : Nat → Tok) (b cl : List Nat) (n y : Int) (g : Int) (la : List Nat) (c0 : Int) (ow : List Nat) (sk : List Nat) (tl : List Nat) (z1 z2 : List Nat) : (lyua w G L k v b cl n y g la c0 ow sk tl z1 z2).Ok w := okE (S := fun w => lyua w G L k v b cl n y g la c0 ow sk tl z1 z2) (fun _ => rfl) (by kernel_rfl) (by kernel_rfl) w
theorem lyub_ok (w : World) (G : Gs) (L : Nat) (k v : Nat → Tok) (b cl : List Nat) (n y : Int) (g : Int) (la : List Nat) (c0 : Int) (ow : List Nat) (sk : List Nat) (tl : List Nat) (z1 z2 : List Nat) : (lyub w G L k v b cl n y g la c0 ow sk tl z1 z2).Ok w := okE (S := fun w => lyub w G L k v b cl n y g la c0 ow sk tl z1 z2) (fun _ => rfl) (by kernel_rfl) (by kernel_rfl) w
theorem lyuc_ok (w : World) (G : Gs) (L : Nat) (k v : Nat → Tok) (b cl : List Nat) (n y : Int) (g : Int) (la : List Nat) (c0 : Int) (ow : List Nat) (sk : List Nat) (tl : List Nat) : (lyuc w G L k v b cl n y g la c0 ow sk tl).Ok w := okE (S := fun w => lyuc w G L k v b cl n y g la c0 ow sk tl) (fun _ => rfl) (by kernel_rfl) (by kernel_rfl) w
theorem lyva_ok (w : World) (G : Gs) (L : Nat) (k v : Nat → Tok) (b cl : List Nat) (n y : Int) (g : Int) (la : List Nat) (c0 : Int) (ow : List Nat) (sk : List Nat) (tl : List Nat) (z1 z2 z3 : List Nat) (ch : Nat) : (lyva w G L k v b cl n y g la c0 ow sk tl z1 z2 z3 ch).Ok w := okE (S := fun w => lyva w G L k v b cl n y g la c0 ow sk tl z1 z2 z3 ch) (fun _ => rfl) (by kernel_rfl) (by kernel_rfl) w
theorem lyvb_ok (w : World) (G : Gs) (L : Nat) (k v : Nat → Tok) (b cl : List Nat) (n y : Int) (g : Int) (la : List Nat) (c0 : Int) (ow : List Nat) (sk : List Nat) (tl : List Nat) : (lyvb w G L k v b cl n y g la c0 ow sk tl).Ok w := okE (S := fun w => lyvb w G L k v b cl n y g la c0 ow sk tl) (fun _ => rfl) (by kernel_rfl) (by kernel_rfl) w
theorem lyw_ok (w : World) (G : Gs) (L : Nat) (k v : Nat → Tok) (b cl : List Nat) (n y : Int) (g : Int) (la : List Nat) (c0 : Int) (ow : List Nat) (sk : List Nat) (tl : List Nat) (z1 z2 : List Nat) (ch : Nat) : (lyw w G L k v b cl n y g la c0 ow sk tl z1 z2 ch).Ok w := okE (S := fun w => lyw w G L k v b cl n y g la c0 ow sk tl z1 z2 ch) (fun _ => rfl) (by kernel_rfl) (by kernel_rfl) w
end Mine
end
end
section
open PySem PySem.W PyProof.Rows Builtin Builtin.Str
set_option maxRecDepth 100000
section
namespace Mine
noncomputable def layerP (n : Int) : List Nat := (layersL.getD (n % 6).toNat []).getD (n / 6 % ((layersL.getD (n % 6).toNat []).length : Int)).toNat []
noncomputable def owned0 (y : Int) : List Nat := ownL.getD (y / 50 % 3).toNat []
noncomputable def ownedP (g c : Int) (ow : List Nat) : List Nat := if ow = [233] ∧ (g = 3 ∨ g = 5 ∨ (g = 2 ∧ 0 < c)) then [233, 105] else ow
noncomputable def longP (la : List Nat) : List Nat := la.dropLast ++ [if la.getLast? = some 97 then 225 else 233]
noncomputable def layer2P (g c : Int) (la ow : List Nat) : List Nat := if g = 5 ∧ (0 < c ∨ ow ≠ []) then longP la else la
noncomputable def lastOf (l : List Nat) : Nat := l.getLast?.getD 0
noncomputable def endP (b cl : List Nat) (g c : Int) (la ow : List Nat) : List Nat :=
  if c = 0 then b ++ cl ++ la ++ ow
  else if c < 45 then b ++ cl ++ la ++ ow ++ casesL.getD (c - 1).toNat []
  else if c = 49 then (if g = 5 ∧ ow = [] then b ++ cl ++ la ++ ow ++ nkentL else b ++ cl ++ la ++ ow ++ kentL)
  else if ow ≠ [] ∨ 3 < g then b ++ cl ++ la ++ ow ++ [118] ++ tailL.getD (c - 45).toNat []
  else if g = 0 then b ++ [cl.headD 0] ++ cl ++ tailL.getD (c - 45).toNat []
  else b ++ cl ++ la ++ ow ++ [lastOf la] ++ tailL.getD (c - 45).toNat []
noncomputable def layeredP (b cl : List Nat) (n y : Int) : List Nat :=
  endP b cl (n % 6) (y % 50) (layer2P (n % 6) (y % 50) (layerP n) (ownedP (n % 6) (y % 50) (owned0 y))) (ownedP (n % 6) (y % 50) (owned0 y))
noncomputable def layA : List (Nat × List Tok) := [(914, [3139]), (915, [3140, 3141, 3142, 3143])]
section
variable {w : World} {G : Gs} {s₀ s : Shared} {X : XS} {L : Nat} {A : Around} {D : Nat} {b cl la ow sk tl : List Nat} {n y g c : Int} {Q : Flow → Shared → Prop} {E : Value → Shared → Prop}
noncomputable def LySt (w : World) (G : Gs) (s₀ : Shared) (X : XS) (L : Nat) (nm : Nm) (s : Shared) : Prop := ∃ k v, Rl w G s₀ X [(L, frT w.params nm k v)] s
theorem LySt.of {nm : Nm} {k v : Nat → Tok} {ex : St} (R : Rl w G s₀ X ((L, frT w.params nm k v) :: ex) s) : LySt w G s₀ X L nm s := ⟨k, v, Rel.cut (l := [(L, frT w.params nm k v)]) R⟩
theorem ly4 (hA : A.handled = none) (hD : A.depth ≤ D) (hF : ∀ l, X.l = some l → A.frames = some l) (R : LySt w G s₀ X L (lyN4 b cl n y g la c ow) s) (K : ∀ s', LySt w G s₀ X L (lyN4 b cl n y g la c (ownedP g c ow)) s' → Q .next s') :
    wpAny (model P0 w) A (execs (stms lyS [] 4 1) (lyEnv L)) Q E s := by
  obtain ⟨k, v, R⟩ := R
  by_cases h1 : ow = [233]
  · by_cases h2 : g = 3
    · have e : ownedP g c ow = [233, 105] := if_pos ⟨h1, .inl h2⟩
      rw [e] at K
      exact (ly4b_ok w G L k v b cl n y g la c ow).next (D := D) (.c (HDOk.sEq (decide_eq_true h1)) <| .c (HDOk.eq_true h2) .n) hA hD hF R fun _ _ s' R' => K s' (LySt.of R')
    · by_cases h3 : g = 5
      · have e : ownedP g c ow = [233, 105] := if_pos ⟨h1, .inr (.inl h3)⟩
        rw [e] at K
        exact (ly4c_ok w G L k v b cl n y g la c ow).next (D := D) (.c (HDOk.sEq (decide_eq_true h1)) <| .c (HDOk.eq_false h2) <| .c (HDOk.eq_true h3) .n) hA hD hF R fun _ _ s' R' => K s' (LySt.of R')
      · by_cases h4 : g = 2
        · by_cases h5 : 0 < c
          · have e : ownedP g c ow = [233, 105] := if_pos ⟨h1, .inr (.inr ⟨h4, h5⟩)⟩
            rw [e] at K
            exact (ly4e_ok w G L k v b cl n y g la c ow).next (D := D) (.c (HDOk.sEq (decide_eq_true h1)) <| .c (HDOk.eq_false h2) <| .c (HDOk.eq_false h3) <| .c (HDOk.eq_true h4) <| .c (HDOk.gt_true h5) .n) hA hD hF R fun _ _ s' R' => K s' (LySt.of R')
          · have e : ownedP g c ow = ow := if_neg (fun h => by rcases h.2 with h | h | h <;> lia)
            rw [e] at K
            exact (ly4f_ok w G L k v b cl n y g la c ow).next (D := D) (.c (HDOk.sEq (decide_eq_true h1)) <| .c (HDOk.eq_false h2) <| .c (HDOk.eq_false h3) <| .c (HDOk.eq_true h4) <| .c (HDOk.gt_false h5) .n) hA hD hF R fun _ _ s' R' => K s' (LySt.of R')
        · have e : ownedP g c ow = ow := if_neg (fun h => by rcases h.2 with h | h | h <;> lia)
          rw [e] at K
          exact (ly4d_ok w G L k v b cl n y g la c ow).next (D := D) (.c (HDOk.sEq (decide_eq_true h1)) <| .c (HDOk.eq_false h2) <| .c (HDOk.eq_false h3) <| .c (HDOk.eq_false h4) .n) hA hD hF R fun _ _ s' R' => K s' (LySt.of R')
  · have e : ownedP g c ow = ow := if_neg (fun h => h1 h.1)
    rw [e] at K
    exact (ly4a_ok w G L k v b cl n y g la c ow).next (D := D) (.c (HDOk.sEq (decide_eq_false h1)) .n) hA hD hF R fun _ _ s' R' => K s' (LySt.of R')
theorem long_spec (hD : D < 850) : CSpec w G false D (.call (.ref 948) ⟨[], []⟩) [] (fun r _ ex => ∃ a k v, r = .ok (.ret (.ref a)) ∧ ex = [(a, longO w.params k v)]) := by
  refine Fn.Ok.call (F := longF) (longF_ok w G) (Nat.lt_of_lt_of_le hD (by decide)) fun L ts A s l hA hD' hF R => ?_
  refine codeAny_mono ((long_r_ok w G L ts).run .n hA hD' (fun l' hl => by cases hl) R) fun r s' q => ?_
  obtain ⟨xo, st', e, R'⟩ := q
  exact ⟨[], objAt st' 0, [(refR xo, longO w.params (kTok st' 1) (vTok st' 1))], ⟨_, _, _, e, rfl⟩, rfl, R'⟩
theorem HDOk.mkLong (hD : D < 850) : HDOk w G D s₀ X (HD.mkLong w.params) := by
  intro cc st A s hA hA' hF R
  refine codeAny_mono ((long_spec (D := D) hD).at (rest := st) hA hA' R) fun r s' q => ?_
  obtain ⟨st2, ex, ⟨a, k, v, e, e2⟩, hm, R'⟩ := q
  have : st2 = [] := by cases st2 with
    | nil => rfl
    | cons a b => cases hm
  subst this e2
  refine ⟨⟨fun _ => a, fun _ => k, fun _ => v, fun _ => #[]⟩, e, ?_⟩
  show Rl w G s₀ X (push st (a, longO w.params k v)) s'
  rw [push_eq]; exact R'
theorem long_cases (h : la ∈ layersL.getD 5 []) : ∃ li ch lv, (ch = 97 ∧ lv = [225] ∨ ch = 101 ∧ lv = [233]) ∧ la.getLast? = some ch ∧ longP la = li ++ lv ∧ ((strSliceIndices none (some (-1)) 1 (sOf la).length).filterMap ((sOf la).cps[·]?)).toArray = (sOf li).cps ∧ li.length ≤ 1 ∧ (strSliceIndices none (some (-1)) 1 (sOf la).length).length ≠ (sOf la).length := by
  have h : la = [97] ∨ la = [106, 97] ∨ la = [101] ∨ la = [106, 101] := by
    simpa [layersL] using h
  rcases h with rfl | rfl | rfl | rfl
  · exact ⟨[], 97, [225], .inl ⟨rfl, rfl⟩, rfl, rfl, by decide, by decide, by decide⟩
  · exact ⟨[106], 97, [225], .inl ⟨rfl, rfl⟩, rfl, rfl, by decide, by decide, by decide⟩
  · exact ⟨[], 101, [233], .inr ⟨rfl, rfl⟩, rfl, rfl, by decide, by decide, by decide⟩
  · exact ⟨[106], 101, [233], .inr ⟨rfl, rfl⟩, rfl, rfl, by decide, by decide, by decide⟩
theorem ly5 (hD0 : D < 800) (hA : A.handled = none) (hD : A.depth ≤ D) (hF : ∀ l, X.l = some l → A.frames = some l) (hla : g = 5 → la ∈ layersL.getD 5 []) (R : LySt w G s₀ X L (lyN4 b cl n y g la c ow) s) (K : ∀ s', LySt w G s₀ X L (lyN4 b cl n y g (layer2P g c la ow) c ow) s' → Q .next s') :
    wpAny (model P0 w) A (execs (stms lyS [] 5 1) (lyEnv L)) Q E s := by
  obtain ⟨k, v, R⟩ := R
  by_cases h1 : g = 5
  · obtain ⟨li, ch, lv, hch, hlast, hlong, hsl, hli, hne⟩ := long_cases (hla h1)
    have hlv : lv.length = 1 := by rcases hch with ⟨_, rfl⟩ | ⟨_, rfl⟩ <;> rfl
    have hd : ∀ D, HDOk w G D s₀ X (HD.dLong w.params 2 [ch] (sOf lv)) := fun D => HDOk.dLong (by
      rcases hch with ⟨rfl, rfl⟩ | ⟨rfl, rfl⟩
      · exact .inl ⟨rfl, rfl⟩
      · exact .inr ⟨rfl, rfl⟩)
    have hadd : ∀ D, HDOk w G D s₀ X (HD.sAddR (sOf li) (sOf lv) (sOf (longP la))) := fun D => HDOk.sAddR (by rw [hlong, sOf_app]) (by rw [sOf_len]; lia) (by rw [sOf_len]; lia)
    by_cases h2 : 0 < c
    · have e : layer2P g c la ow = longP la := if_pos ⟨h1, .inl h2⟩
      rw [e] at K
      exact (ly5c_ok w G L k v b cl n y g la c ow li lv (longP la) ch).next (D := D) (.c (HDOk.eq_true h1) <| .c (HDOk.gt_true h2) <| .c (HDOk.sInit hsl (by rw [sOf_len]; lia) hne) <| .c (HDOk.mkLong (by lia)) <| .c (HDOk.sLast hlast) <| .c (hd _) <| .c (hadd _) .n) hA hD hF R fun _ _ s' R' => K s' (LySt.of R')
    · by_cases h3 : ow = []
      · have e : layer2P g c la ow = la := if_neg (fun h => h.2.elim h2 (fun h => h h3))
        rw [e] at K
        exact (ly5b_ok w G L k v b cl n y g la c ow).next (D := D) (.c (HDOk.eq_true h1) <| .c (HDOk.gt_false h2) <| .c (HDOk.sNe (by rw [h3]; rfl)) .n) hA hD hF R fun _ _ s' R' => K s' (LySt.of R')
      · have e : layer2P g c la ow = longP la := if_pos ⟨h1, .inr h3⟩
        rw [e] at K
        exact (ly5d_ok w G L k v b cl n y g la c ow li lv (longP la) ch).next (D := D) (.c (HDOk.eq_true h1) <| .c (HDOk.gt_false h2) <| .c (HDOk.sNe (decide_eq_false h3)) <| .c (HDOk.sInit hsl (by rw [sOf_len]; lia) hne) <| .c (HDOk.mkLong (by lia)) <| .c (HDOk.sLast hlast) <| .c (hd _) <| .c (hadd _) .n) hA hD hF R fun _ _ s' R' => K s' (LySt.of R')
  · have e : layer2P g c la ow = la := if_neg (fun h => h1 h.1)
    rw [e] at K
    exact (ly5a_ok w G L k v b cl n y g la c ow).next (D := D) (.c (HDOk.eq_false h1) .n) hA hD hF R fun _ _ s' R' => K s' (LySt.of R')
end
end Mine
end
end
section
open PySem PySem.W PyProof.Rows Builtin Builtin.Str
set_option maxRecDepth 100000
section
namespace Mine
noncomputable def layTok : List Nat := [3139, 3140, 3144, 3159, 3177, 3181]
theorem lay_top (w : World) (G : Gs) : (TKb w.params G).get 920 = some ⟨.type "list", none, .seq ([914, 915, 916, 917, 918, 919].map Value.ref).toArray 0, #[]⟩ := by kernel_rfl
theorem lay_list (w : World) (G : Gs) {g : Nat} (hg : g < 6) : (TKb w.params G).get (914 + g) = some ⟨.type "list", none, .seq (strVs (fun i => layTok.getD g 0 + i) 0 (layersL.getD g [])).toArray 0, #[]⟩ := by
  have : g = 0 ∨ g = 1 ∨ g = 2 ∨ g = 3 ∨ g = 4 ∨ g = 5 := by lia
  rcases this with rfl | rfl | rfl | rfl | rfl | rfl <;> kernel_rfl
theorem lay_pos {g : Nat} (hg : g < 6) : 0 < (layersL.getD g []).length ∧ (layersL.getD g []).length ≤ 20 := by
  have : g = 0 ∨ g = 1 ∨ g = 2 ∨ g = 3 ∨ g = 4 ∨ g = 5 := by lia
  rcases this with rfl | rfl | rfl | rfl | rfl | rfl <;> decide
theorem lay_len : ∀ x ∈ layersL.flatten, x.length ≤ 6 := fun x hx => of_decide_eq_true (List.all_eq_true.mp (by decide : (layersL.flatten.all fun x => decide (x.length ≤ 6)) = true) x hx)
section
variable {w : World} {G : Gs} {s₀ s : Shared} {X : XS} {L : Nat} {A : Around} {D : Nat} {b cl la ow sk tl : List Nat} {n y g c : Int} {Q : Flow → Shared → Prop} {E : Value → Shared → Prop}
theorem layer_get (n : Int) : ∃ gN kN : Nat, n % 6 = gN ∧ gN < 6 ∧ n / 6 % ((layersL.getD gN []).length : Int) = kN ∧ (layersL.getD gN [])[kN]? = some (layerP n) ∧ layerP n ∈ layersL.getD gN [] := by
  have h0 : 0 ≤ n % 6 := Int.emod_nonneg _ (by decide)
  have h1 : n % 6 < 6 := Int.emod_lt_of_pos _ (by decide)
  obtain ⟨gN, hg⟩ : ∃ gN : Nat, n % 6 = gN := ⟨(n % 6).toNat, by lia⟩
  have hp := (lay_pos (g := gN) (by lia)).1
  have h2 : 0 ≤ n / 6 % ((layersL.getD gN []).length : Int) := Int.emod_nonneg _ (by lia)
  have h3 : n / 6 % ((layersL.getD gN []).length : Int) < (layersL.getD gN []).length := Int.emod_lt_of_pos _ (by lia)
  have e : layerP n = (layersL.getD gN []).getD (n / 6 % ((layersL.getD gN []).length : Int)).toNat [] := by unfold layerP; rw [hg]; rfl
  refine ⟨gN, (n / 6 % ((layersL.getD gN []).length : Int)).toNat, hg, by lia, by lia, ?_, ?_⟩
  · rw [e]; exact getD_some (by lia)
  · rw [e]; exact List.mem_of_getElem? (getD_some (by lia))
theorem ly03 (hG : G.ro = []) (hA : A.handled = none) (hD : A.depth ≤ D) (hF : ∀ l, X.l = some l → A.frames = some l) (R : LySt w G s₀ X L (lyN0 b cl n y) s) (K : ∀ s', LySt w G s₀ X L (lyN4 b cl n y (n % 6) (layerP n) (y % 50) (owned0 y)) s' → Q .next s') :
    wpAny (model P0 w) A (execs (stms lyS [] 0 1 ++ (stms lyS [] 1 1 ++ (stms lyS [] 2 1 ++ stms lyS [] 3 1))) (lyEnv L)) Q E s := by
  obtain ⟨k, v, R⟩ := R
  obtain ⟨gN, kN, hg, hg6, hk, hget, hmem⟩ := layer_get n
  have hp := lay_pos hg6
  refine wpAny_execs_app _ ((ly0_ok w G L k v b cl n y).next (D := D) (.c (HDOk.modI (by decide)) .n) hA hD hF R fun _ _ s1 R1 => .inl ⟨rfl, ?_⟩)
  obtain ⟨k1, v1, R1⟩ := LySt.of R1
  have hro : ∀ q ∈ tvSt (914 + gN) (strVs (fun i => layTok.getD gN 0 + i) 0 (layersL.getD gN [])).toArray, (TKb w.params G).get q.1 = some q.2 ∧ alive q.2 = some q.2 := fun q hq => by
    obtain rfl := List.mem_singleton.mp hq
    exact ⟨lay_list w G hg6, rfl⟩
  have hl1 : ∀ D, HDOk w (G.at (tvSt (914 + gN) (strVs (fun i => layTok.getD gN 0 + i) 0 (layersL.getD gN [])).toArray)) D s₀ X (HD.lGet 920 (n % 6) (.ref (914 + gN))) := fun D => HDOk.lGet (by rw [TKb_at]; exact lay_top w G) (by lia) (by
    rw [hg]
    show ([914, 915, 916, 917, 918, 919].map Value.ref)[gN]? = _
    have : gN = 0 ∨ gN = 1 ∨ gN = 2 ∨ gN = 3 ∨ gN = 4 ∨ gN = 5 := by lia
    rcases this with rfl | rfl | rfl | rfl | rfl | rfl <;> rfl) (by lia)
  have hkl : kN < (layersL.getD gN []).length := (List.getElem?_eq_some_iff.mp hget).1
  have hl2 : ∀ D, HDOk w (G.at (tvSt (914 + gN) (strVs (fun i => layTok.getD gN 0 + i) 0 (layersL.getD gN [])).toArray)) D s₀ X (HD.lGet (914 + gN) (n / 6 % ((layersL.getD gN []).length : Int)) (.str (sOf (layerP n)) (layTok.getD gN 0 + (0 + kN)))) := fun D => HDOk.lGet (by rw [TKb_at]; exact lay_list w G hg6) (by lia) (by rw [hk]; exact strVs_get _ _ 0 kN _ hget) (by lia)
  refine wpAny_execs_app _ ((ly1_ok w G L k1 v1 b cl n y (n % 6) (layerP n) (layTok.getD gN 0 + (0 + kN)) (914 + gN) (layersL.getD gN []).length (strVs (fun i => layTok.getD gN 0 + i) 0 (layersL.getD gN [])).toArray).next (D := D)
    (.c (hl1 _) <| .c (HDOk.divI (by decide) (by decide)) <| .c (hl1 _) <| .c ?_ <| .c (HDOk.modI (by lia)) <| .c (hl2 _) .n) hA hD hF (Rel.at R1 hro) fun _ _ s2 R2 => .inl ⟨rfl, ?_⟩)
  · have := HDOk.lLen (w := w) (G := G.at (tvSt (914 + gN) (strVs (fun i => layTok.getD gN 0 + i) 0 (layersL.getD gN [])).toArray)) (D := D + 20) (s₀ := s₀) (X := X) (by rw [TKb_at]; exact lay_list w G hg6) (by rw [strVs_len]; lia)
    rw [strVs_len] at this
    exact this
  obtain ⟨k2, v2, R2⟩ := LySt.of (R2.un hG)
  refine wpAny_execs_app _ ((ly2_ok w G L k2 v2 b cl n y (n % 6) (layerP n)).next (D := D) (.c (HDOk.modI (by decide)) .n) hA hD hF R2 fun _ _ s3 R3 => .inl ⟨rfl, ?_⟩)
  obtain ⟨k3, v3, R3⟩ := LySt.of R3
  have h0 : 0 ≤ y / 50 % 3 := Int.emod_nonneg _ (by decide)
  have h1 : y / 50 % 3 < 3 := Int.emod_lt_of_pos _ (by decide)
  exact (ly3_ok w G L k3 v3 b cl n y (n % 6) (layerP n) (y % 50) (owned0 y)).next (D := D) (.c (HDOk.divI (by decide) (by decide)) <| .c (HDOk.modI (by decide)) <| .c (HDOk.sGetL h0 (getD_some (by show _ < 3; lia)) (by lia)) .n) hA hD hF R3 fun _ _ s4 R4 => K s4 (LySt.of R4)
noncomputable def LyRet (w : World) (G : Gs) (s₀ : Shared) (X : XS) (L : Nat) (z : List Nat) (f : Flow) (s : Shared) : Prop := ∃ t oL ex, f = .ret (.str (sOf z) t) ∧ Rl w G s₀ X ((L, oL) :: ex) s
theorem ly_end (hD0 : D < 780) (hA : A.handled = none) (hD : A.depth ≤ D) (hF : ∀ l, X.l = some l → A.frames = some l) (hg0 : 0 ≤ g) (hg6 : g < 6) (hc0 : 0 ≤ c) (hc5 : c < 50) (hb : b.length ≤ 100) (hcl : cl.length ≤ 10) (hcl0 : cl ≠ []) (hla : la.length ≤ 10) (hla0 : g ≠ 0 → la ≠ []) (how : ow.length ≤ 10)
    (R : LySt w G s₀ X L (lyN4 b cl n y g la c ow) s) : wpAny (model P0 w) A (execs (stms lyS [] 6 1 ++ (stms lyS [] 7 1 ++ (stms lyS [] 8 1 ++ (stms lyS [] 9 1 ++ (stms lyS [] 10 1 ++ (stms lyS [] 11 1 ++ (stms lyS [] 12 1 ++ stms lyS [] 13 1))))))) (lyEnv L)) (LyRet w G s₀ X L (endP b cl g c la ow)) (fun _ _ => False) s := by
  obtain ⟨k, v, R⟩ := R
  have hS : ∀ x : List Nat, x.length ≤ 200 → (sOf x).length ≤ 10000 := fun x h => by rw [sOf_len]; lia
  have add : ∀ (x z : List Nat) (D : Nat), x.length ≤ 200 → z.length ≤ 200 → HDOk w G D s₀ X (HD.sAddR (sOf x) (sOf z) (sOf (x ++ z))) := fun x z D h1 h2 => HDOk.sAddR (sOf_app x z) (hS x h1) (hS z h2)
  have ret : ∀ {z : List Nat} {t : Tok} {nm : Nm} {k v : Nat → Tok} {ex : St} {s : Shared}, Rl w G s₀ X ((L, frT w.params nm k v) :: ex) s → LyRet w G s₀ X L z (.ret (.str (sOf z) t)) s := fun R => ⟨_, _, _, rfl, R⟩
  have hsk : (b ++ cl ++ la ++ ow).length ≤ 130 := by simp only [List.length_append]; lia
  refine wpAny_execs_app _ ((ly6_ok w G L k v b cl n y g la c ow (b ++ cl) (b ++ cl ++ la) (b ++ cl ++ la ++ ow)).next (D := D) (.c (add _ _ _ (by lia) (by lia)) <| .c (add _ _ _ (by simp only [List.length_append]; lia) (by lia)) <| .c (add _ _ _ (by simp only [List.length_append]; lia) (by lia)) .n) hA hD hF R fun _ _ s1 R1 => .inl ⟨rfl, ?_⟩)
  obtain ⟨k1, v1, R1⟩ := LySt.of R1
  clear R
  generalize hskE : b ++ cl ++ la ++ ow = sk at R1 hsk
  unfold endP
  rw [hskE]
  by_cases h7 : c = 0
  · rw [if_pos h7]
    refine wpAny_execs_app _ ((ly7a_ok w G L k1 v1 b cl n y g la c ow sk).next (D := D) (.c (HDOk.eq_true h7) .n) hA hD hF R1 fun xo _ s2 R2 => .inr ⟨(fun h => by cases h), ret R2⟩)
  rw [if_neg h7]
  refine wpAny_execs_app _ ((ly7b_ok w G L k1 v1 b cl n y g la c ow sk).next (D := D) (.c (HDOk.eq_false h7) .n) hA hD hF R1 fun _ _ s2 R2 => .inl ⟨rfl, ?_⟩)
  obtain ⟨k2, v2, R2⟩ := LySt.of R2
  clear R1
  by_cases h8 : c < 45
  · rw [if_pos h8]
    have hx : casesL[(c - 1).toNat]? = some (casesL.getD (c - 1).toNat []) := getD_some (by show _ < 44; lia)
    have hxl : (casesL.getD (c - 1).toNat []).length ≤ 10 := of_decide_eq_true (List.all_eq_true.mp (by decide : (casesL.all fun x => decide (x.length ≤ 10)) = true) _ (List.mem_of_getElem? hx))
    refine wpAny_execs_app _ ((ly8a_ok w G L k2 v2 b cl n y g la c ow sk (casesL.getD (c - 1).toNat []) (sk ++ casesL.getD (c - 1).toNat [])).next (D := D) (.c (HDOk.lt_true h8) <| .c (HDOk.mkL (D' := D + 20) (cases_spec (by lia)) (Nat.le_refl _)) <| .c (HDOk.sGetL (by lia) hx (by lia)) <| .c (add _ _ _ (by lia) (by lia)) .n) hA hD hF R2 fun xo _ s3 R3 => .inr ⟨(fun h => by cases h), ret R3⟩)
  rw [if_neg h8]
  refine wpAny_execs_app _ ((ly8b_ok w G L k2 v2 b cl n y g la c ow sk).next (D := D) (.c (HDOk.lt_false h8) .n) hA hD hF R2 fun _ _ s3 R3 => .inl ⟨rfl, ?_⟩)
  obtain ⟨k3, v3, R3⟩ := LySt.of R3
  clear R2
  by_cases h9 : c = 49
  · rw [if_pos h9]
    by_cases h5 : g = 5
    · by_cases ho : ow = []
      · rw [if_pos ⟨h5, ho⟩]
        exact wpAny_execs_app _ ((ly9b_ok w G L k3 v3 b cl n y g la c ow sk (sk ++ nkentL)).next (D := D) (.c (HDOk.eq_true h9) <| .c (HDOk.eq_true h5) <| .c (HDOk.sEq (decide_eq_true ho)) <| .c (add _ _ _ (by lia) (by decide)) .n) hA hD hF R3 fun xo _ s4 R4 => .inr ⟨(fun h => by cases h), ret R4⟩)
      · rw [if_neg (fun h => ho h.2)]
        exact wpAny_execs_app _ ((ly9c_ok w G L k3 v3 b cl n y g la c ow sk (sk ++ kentL)).next (D := D) (.c (HDOk.eq_true h9) <| .c (HDOk.eq_true h5) <| .c (HDOk.sEq (decide_eq_false ho)) <| .c (add _ _ _ (by lia) (by decide)) .n) hA hD hF R3 fun xo _ s4 R4 => .inr ⟨(fun h => by cases h), ret R4⟩)
    · rw [if_neg (fun h => h5 h.1)]
      exact wpAny_execs_app _ ((ly9d_ok w G L k3 v3 b cl n y g la c ow sk (sk ++ kentL)).next (D := D) (.c (HDOk.eq_true h9) <| .c (HDOk.eq_false h5) <| .c (add _ _ _ (by lia) (by decide)) .n) hA hD hF R3 fun xo _ s4 R4 => .inr ⟨(fun h => by cases h), ret R4⟩)
  rw [if_neg h9]
  refine wpAny_execs_app _ ((ly9a_ok w G L k3 v3 b cl n y g la c ow sk).next (D := D) (.c (HDOk.eq_false h9) .n) hA hD hF R3 fun _ _ s4 R4 => .inl ⟨rfl, ?_⟩)
  obtain ⟨k4, v4, R4⟩ := LySt.of R4
  clear R3
  have hx : tailL[(c - 45).toNat]? = some (tailL.getD (c - 45).toNat []) := getD_some (by show _ < 4; lia)
  have htl : (tailL.getD (c - 45).toNat []).length ≤ 10 := of_decide_eq_true (List.all_eq_true.mp (by decide : (tailL.all fun x => decide (x.length ≤ 10)) = true) _ (List.mem_of_getElem? hx))
  generalize tailL.getD (c - 45).toNat [] = tl at hx htl
  refine wpAny_execs_app _ ((lyt_ok w G L k4 v4 b cl n y g la c ow sk tl).next (D := D) (.c (HDOk.sGetL (by lia) hx (by lia)) .n) hA hD hF R4 fun _ _ s5 R5 => .inl ⟨rfl, ?_⟩)
  obtain ⟨k5, v5, R5⟩ := LySt.of R5
  clear R4
  by_cases ho : ow = []
  · by_cases h3 : 3 < g
    · rw [if_pos (.inr h3)]
      exact wpAny_execs_app _ ((lyub_ok w G L k5 v5 b cl n y g la c ow sk tl (sk ++ [118]) (sk ++ [118] ++ tl)).next (D := D) (.c (HDOk.sNe (by rw [ho]; rfl)) <| .c (HDOk.gt_true h3) <| .c (add _ _ _ (by lia) (by decide)) <| .c (add _ _ _ (by simp only [List.length_append, List.length_cons, List.length_nil]; lia) (by lia)) .n) hA hD hF R5 fun xo _ s6 R6 => .inr ⟨(fun h => by cases h), ret R6⟩)
    · rw [if_neg (fun h => h.elim (fun h => h ho) h3)]
      refine wpAny_execs_app _ ((lyuc_ok w G L k5 v5 b cl n y g la c ow sk tl).next (D := D) (.c (HDOk.sNe (by rw [ho]; rfl)) <| .c (HDOk.gt_false h3) .n) hA hD hF R5 fun _ _ s6 R6 => .inl ⟨rfl, ?_⟩)
      obtain ⟨k6, v6, R6⟩ := LySt.of R6
      by_cases h0 : g = 0
      · rw [if_pos h0]
        cases hcc : cl with
        | nil => exact absurd hcc hcl0
        | cons c0 cr =>
          rw [hcc] at R6 hcl
          exact wpAny_execs_app _ ((lyva_ok w G L k6 v6 b (c0 :: cr) n y g la c ow sk tl (b ++ [c0]) (b ++ [c0] ++ (c0 :: cr)) (b ++ [c0] ++ (c0 :: cr) ++ tl) c0).next (D := D) (.c (HDOk.eq_true h0) <| .c (HDOk.sGet (by lia) (by rw [← Array.getElem?_toList, sOf_list]; rfl) (hS _ (by lia))) <| .c (add _ [c0] _ (by lia) (by show 1 ≤ 200; decide)) <| .c (add _ _ _ (by simp only [List.length_append, List.length_cons, List.length_nil]; lia) (by lia)) <| .c (add _ _ _ (by simp only [List.length_append, List.length_cons, List.length_nil] at hcl ⊢; lia) (by lia)) .n) hA hD hF R6 fun xo _ s7 R7 => .inr ⟨(fun h => by cases h), ret R7⟩)
      · rw [if_neg h0]
        refine wpAny_execs_app _ ((lyvb_ok w G L k6 v6 b cl n y g la c ow sk tl).next (D := D) (.c (HDOk.eq_false h0) .n) hA hD hF R6 fun _ _ s7 R7 => .inl ⟨rfl, ?_⟩)
        obtain ⟨k7, v7, R7⟩ := LySt.of R7
        have hlast : la.getLast? = some (lastOf la) := by
          unfold lastOf
          cases hh : la.getLast? with
          | none => exact absurd (List.getLast?_eq_none_iff.mp hh) (hla0 h0)
          | some z => rfl
        exact (lyw_ok w G L k7 v7 b cl n y g la c ow sk tl (sk ++ [lastOf la]) (sk ++ [lastOf la] ++ tl) (lastOf la)).next (D := D) (.c (HDOk.sLast hlast) <| .c (add _ [lastOf la] _ (by lia) (by show 1 ≤ 200; decide)) <| .c (add _ _ _ (by simp only [List.length_append, List.length_cons, List.length_nil]; lia) (by lia)) .n) hA hD hF R7 fun xo _ s8 R8 => ret R8
  · rw [if_pos (.inl ho)]
    exact wpAny_execs_app _ ((lyua_ok w G L k5 v5 b cl n y g la c ow sk tl (sk ++ [118]) (sk ++ [118] ++ tl)).next (D := D) (.c (HDOk.sNe (decide_eq_false ho)) <| .c (add _ _ _ (by lia) (by decide)) <| .c (add _ _ _ (by simp only [List.length_append, List.length_cons, List.length_nil]; lia) (by lia)) .n) hA hD hF R5 fun xo _ s6 R6 => .inr ⟨(fun h => by cases h), ret R6⟩)
end
end Mine
end
end
section
open PySem PySem.W PyProof.Rows
set_option maxRecDepth 100000
section
namespace Mine
theorem ly_stmts : fnBody layF.st = (stms lyS [] 0 1 ++ (stms lyS [] 1 1 ++ (stms lyS [] 2 1 ++ stms lyS [] 3 1))) ++ (stms lyS [] 4 1 ++ (stms lyS [] 5 1 ++ (stms lyS [] 6 1 ++ (stms lyS [] 7 1 ++ (stms lyS [] 8 1 ++ (stms lyS [] 9 1 ++ (stms lyS [] 10 1 ++ (stms lyS [] 11 1 ++ (stms lyS [] 12 1 ++ stms lyS [] 13 1))))))))) := by kernel_rfl
theorem layers_flat {g : Nat} {x : List Nat} (h : x ∈ layersL.getD g []) : x.length ≤ 6 := by
  refine lay_len x (List.mem_flatten.mpr ⟨layersL.getD g [], ?_, h⟩)
  by_cases hg : g < layersL.length
  · rw [List.getD_eq_getElem?_getD, List.getElem?_eq_getElem hg]; exact List.getElem_mem hg
  · rw [List.getD_eq_getElem?_getD, List.getElem?_eq_none (by lia)] at h; cases h
theorem layer2_len {g c : Int} {la ow : List Nat} (h : la.length ≤ 6) : (layer2P g c la ow).length ≤ 10 := by
  unfold layer2P longP
  split
  · rw [List.length_append, List.length_dropLast]; show _ + 1 ≤ 10; lia
  · lia
theorem layer_ne {g : Nat} (hg : g ≠ 0) {x : List Nat} (h : x ∈ layersL.getD g []) : x ≠ [] := by
  rintro rfl
  by_cases h6 : g < 6
  · have : g = 1 ∨ g = 2 ∨ g = 3 ∨ g = 4 ∨ g = 5 := by lia
    rcases this with rfl | rfl | rfl | rfl | rfl <;> simp [layersL] at h
  · rw [List.getD_eq_getElem?_getD, List.getElem?_eq_none (by show 6 ≤ g; lia)] at h; cases h
theorem owned_len {g c y : Int} : (ownedP g c (owned0 y)).length ≤ 10 := by
  have h0 : 0 ≤ y / 50 % 3 := Int.emod_nonneg _ (by decide)
  have h1 : y / 50 % 3 < 3 := Int.emod_lt_of_pos _ (by decide)
  have : (owned0 y).length ≤ 2 := by
    unfold owned0
    have : (y / 50 % 3).toNat = 0 ∨ (y / 50 % 3).toNat = 1 ∨ (y / 50 % 3).toNat = 2 := by lia
    rcases this with h | h | h <;> rw [h] <;> decide
  unfold ownedP
  split
  · decide
  · lia
section
variable {w : World} {G : Gs} {D : Nat}
theorem layered_spec (hG : G.ro = []) (hD : D < 700) {b cl : List Nat} {n y : Int} (hb : b.length ≤ 100) (hcl : cl.length ≤ 10) (hcl0 : cl ≠ []) {t0 t1 t2 t3 : Tok} :
    CSpec w G false D (.call (.ref 976) ⟨[.str (sOf b) t0, .str (sOf cl) t1, .int n t2, .int y t3], []⟩) [] (fun r _ _ => ∃ t, r = .ok (.ret (.str (sOf (layeredP b cl n y)) t))) := by
  refine Fn.Ok.call (F := layF) (layF_ok w G _ _ _ _) (Nat.lt_of_lt_of_le hD (by decide)) fun L ts A s l hA hD' hF R => ?_
  refine func_of_execs ?_
  rw [ly_stmts]
  have goal : ∀ A', A'.handled = none → A'.depth ≤ D + 1 → wpAny (model P0 w) A' (execs ((stms lyS [] 0 1 ++ (stms lyS [] 1 1 ++ (stms lyS [] 2 1 ++ stms lyS [] 3 1))) ++ (stms lyS [] 4 1 ++ (stms lyS [] 5 1 ++ (stms lyS [] 6 1 ++ (stms lyS [] 7 1 ++ (stms lyS [] 8 1 ++ (stms lyS [] 9 1 ++ (stms lyS [] 10 1 ++ (stms lyS [] 11 1 ++ (stms lyS [] 12 1 ++ stms lyS [] 13 1)))))))))) (lyEnv L)) (LyRet w G s ⟨[L], [], none⟩ L (layeredP b cl n y)) (fun _ _ => False) s := by
    intro A' hA' hD2
    have hF' : ∀ l', (⟨[L], [], none⟩ : XS).l = some l' → A'.frames = some l' := fun l' h => by cases h
    obtain ⟨gN, kN, hg, hg6, _, _, hmem⟩ := layer_get n
    have h0 : 0 ≤ n % 6 := Int.emod_nonneg _ (by decide)
    have h1 : n % 6 < 6 := Int.emod_lt_of_pos _ (by decide)
    have c0 : 0 ≤ y % 50 := Int.emod_nonneg _ (by decide)
    have c1 : y % 50 < 50 := Int.emod_lt_of_pos _ (by decide)
    refine wpAny_execs_app _ ?_
    refine ly03 (D := D + 1) hG hA' hD2 hF' (⟨ts, fun i => [t0, t1, t2, t3].getD i 0, R⟩ : LySt w G s ⟨[L], [], none⟩ L (lyN0 b cl n y) s) fun s1 R1 => .inl ⟨rfl, ?_⟩
    refine wpAny_execs_app _ (ly4 (D := D + 1) hA' hD2 hF' R1 fun s2 R2 => .inl ⟨rfl, ?_⟩)
    refine wpAny_execs_app _ (ly5 (D := D + 1) (by lia) hA' hD2 hF' (fun h => by
      have : gN = 5 := by lia
      rw [this] at hmem; exact hmem) R2 fun s3 R3 => .inl ⟨rfl, ?_⟩)
    refine ly_end (D := D + 1) (by lia) hA' hD2 hF' h0 h1 c0 c1 hb hcl hcl0 (layer2_len (layers_flat hmem)) (fun h => ?_) owned_len R3
    have hne := layer_ne (g := gN) (by lia) hmem
    unfold layer2P
    split
    · unfold longP; simp
    · exact hne
  refine wpAny_mono (goal _ hA (Nat.add_le_add_right hD' 1)) (fun f s' q => ?_) fun _ _ h => h
  obtain ⟨t, oL, ex, rfl, R3⟩ := q
  exact ⟨[], oL, ex, ⟨t, rfl⟩, rfl, R3⟩
theorem HDOk.ofCS1 {c : Code → St → Code} {z : PySem.Str} (h : ∀ q st, CSpec w G false D (c q st) [] (fun r _ _ => ∃ t, r = .ok (.ret (.str z t)))) {s₀ : Shared} {X : XS} : HDOk w G D s₀ X ⟨c, id, fun y => .ok (.ret (.str z (y.t 0))), fun _ => id⟩ := by
  intro cc st A s hA hD hF R
  refine codeAny_mono ((h cc st).at (rest := st) hA hD R) fun r s' q => ?_
  obtain ⟨st2, ex, ⟨t, e⟩, hm, R'⟩ := q
  have : st2 = [] := by cases st2 with
    | nil => rfl
    | cons a b => cases hm
  subst this
  exact ⟨yT t, e, Rel.cut R'⟩
noncomputable def HD.lay (b cl : List Nat) (n y : Int) : HD := ⟨fun c _ => .call (.ref 976) ⟨[.str (sOf b) (argTok c 0), .str (sOf cl) (argTok c 1), .int n (argTok c 2), .int y (argTok c 3)], []⟩, id, fun q => .ok (.ret (.str (sOf (layeredP b cl n y)) (q.t 0))), fun _ => id⟩
theorem HDOk.lay (hG : G.ro = []) (hD : D < 700) {b cl : List Nat} {n y : Int} (hb : b.length ≤ 100) (hcl : cl.length ≤ 10) (hcl0 : cl ≠ []) {s₀ : Shared} {X : XS} : HDOk w G D s₀ X (HD.lay b cl n y) :=
  HDOk.ofCS1 fun _ _ => layered_spec hG hD hb hcl hcl0
noncomputable def HD.last (y : Int) : HD := ⟨fun c _ => .call (.ref 969) ⟨[.int y (argTok c 0)], []⟩, id, fun q => .ok (.ret (.str (sOf (lastP y)) (q.t 0))), fun _ => id⟩
theorem HDOk.last (hD : D < 820) {y : Int} {s₀ : Shared} {X : XS} : HDOk w G D s₀ X (HD.last y) := HDOk.ofCS1 fun _ _ => last_spec hD
end
end Mine
end
end
section
open PySem PySem.W PyProof.Rows Builtin Builtin.Str Builtin.Int
set_option maxRecDepth 100000
section
namespace Mine
noncomputable abbrev siC (asc : Bool) : String := bif asc then "str_ascii_iterator" else "str_iterator"
noncomputable abbrev siOp (asc : Bool) : String := bif asc then "str_ascii_iterator.__next__" else "str_iterator.__next__"
noncomputable def siB (asc : Bool) : Builtin := bif asc then Builtin.«str_ascii_iterator.__next__» else Builtin.«str_iterator.__next__»
theorem siSlot : ∀ asc, Slot (siC asc) "__next__" (siOp asc)
  | true => F.slot_str_ascii_iterator_next
  | false => F.slot_str_iterator_next
theorem siEntry : ∀ asc, entryFor table (siOp asc) = some (siB asc)
  | true => F.entry_str_ascii_iterator_next
  | false => F.entry_str_iterator_next
theorem siArgs : ∀ asc a, argsOk (siOp asc) ⟨[a], []⟩
  | true, _ => F.args_str_ascii_iterator_next_1 _
  | false, _ => F.args_str_iterator_next_1 _
noncomputable def strItO (asc : Bool) (x : List Nat) (t : Tok) (i : Int) : Obj := ⟨.type (siC asc), none, .fields #[.str (sOf x) t, .int i 0], #[]⟩
noncomputable def strEndO (asc : Bool) (i : Int) : Obj := ⟨.type (siC asc), none, .fields #[.none, .int i 0], #[]⟩
noncomputable def stopO (t : Nat) : Obj := ⟨.type "StopIteration", none, .fields #[.ref t, .none, .none, .none, .bool false, .none], #[]⟩
noncomputable def tup0 : Obj := ⟨.type "tuple", none, .seq #[] 0, #[]⟩
noncomputable def HD.sIter (asc : Bool) (x : List Nat) : HD := ⟨fun c _ => .call (.builtin "str.__iter__") ⟨[.str (sOf x) (argTok c 0)], []⟩, id, fun y => .ok (.ret (.ref (y.t 0))), fun y st => push st (y.t 0, strItO asc x (y.t 1) 0)⟩
noncomputable def HD.sNext (asc : Bool) (ix : Nat) (x : List Nat) (i : Int) (c : Nat) : HD := ⟨fun _ st => .call (.builtin (siOp asc)) ⟨[.ref (addrAt st ix)], []⟩, fun st => putO st ix (strItO asc x (vTok st ix 0) i), fun y => .ok (.ret (.str (sOf [c]) (y.t 0))), fun y st => putO st ix (strItO asc x (y.t 1) (i + 1))⟩
noncomputable def HD.sEnd (asc : Bool) (ix : Nat) (x : List Nat) (i : Int) : HD := ⟨fun _ st => .call (.builtin (siOp asc)) ⟨[.ref (addrAt st ix)], []⟩, fun st => putO st ix (strItO asc x (vTok st ix 0) i), fun y => .error (.ref (y.t 0)), fun y st => push (push (putO st ix (strEndO asc i)) (y.t 1, tup0)) (y.t 0, stopO (y.t 1))⟩
noncomputable def inStr (x : List Nat) (c : Nat) : Bool := !(occurrences (sOf x) (sOf [c]) 0 (sOf x).length 1).isEmpty
noncomputable def HD.has (x : List Nat) (c : Nat) (b : Bool) : HD := HD.bi "str.__contains__" (fun q => [.str (sOf x) (argTok q 0), .str (sOf [c]) (argTok q 1)]) fun _ => .bool b
noncomputable def strLn (xs : List (List Nat)) (v : Nat → Tok) (n : Nat) : Obj := listO (strVs v 0 xs).toArray n
noncomputable def HD.app (ix : Nat) (xs xs2 : List (List Nat)) (x : List Nat) (v : Nat → Tok) (n : Nat) : HD := ⟨fun c st => .call (.builtin "list.append") ⟨[.ref (addrAt st ix), .str (sOf x) (argTok c 1)], []⟩, fun st => putO st ix (strLn xs v n), fun _ => .ok (.ret .none), fun y st => putO st ix (strLn xs2 (y.V 0) (y.t 0))⟩
noncomputable def HD.join (ix : Nat) (xs : List (List Nat)) (z : List Nat) (v : Nat → Tok) (n : Nat) : HD := ⟨fun c st => .call (.builtin "str.join") ⟨[.str (sOf []) (argTok c 0), .ref (addrAt st ix)], []⟩, fun st => putO st ix (strLn xs v n), fun y => .ok (.ret (.str (sOf z) (y.t 0))), fun _ => id⟩
theorem strVs_app (v : Nat → Tok) (t : Tok) (x : List Nat) : ∀ (xs : List (List Nat)) (i : Nat), strVs v i xs ++ [.str (sOf x) t] = strVs (fun j => if j < i + xs.length then v j else t) i (xs ++ [x])
  | [], i => by show [Value.str (sOf x) t] = [Value.str (sOf x) (if i < i + 0 then v i else t)]; rw [if_neg (by lia)]
  | y :: r, i => by
    show Value.str (sOf y) (v i) :: (strVs v (i + 1) r ++ [.str (sOf x) t]) = Value.str (sOf y) (if i < i + (r.length + 1) then v i else t) :: strVs _ (i + 1) (r ++ [x])
    rw [if_pos (by lia), strVs_app v t x r (i + 1), show i + 1 + r.length = i + (r.length + 1) by lia]; rfl
section
variable {w : World} {G : Gs} {D : Nat} {s₀ s : Shared} {X : XS} {st : St}
theorem HDOk.sIter {asc : Bool} {x : List Nat} (h : x.all (· < 128) = asc) : HDOk w G D s₀ X (HD.sIter asc x) := by
  intro cc st A s hA hD hF R
  refine codeAny_call_builtin F.slot_str_iter.plain F.entry_str_iter (F.slot_str_iter.check _ _ _ _ _ _ _ _ (typeIs_str s (sOf x) _) (F.args_str_iter_1 _) ?_)
  have ha : (sOf x).cps.all (· < 128) = asc := by rw [← h]; show x.toArray.all _ = _; simp
  have key : wpAny (model P0 w) A.in1 (Builtin.«str.__iter__» ⟨[.str (sOf x) (argTok cc 0)], []⟩) (fun fin s' => fin = .done (.ret (.ref s.heap.objs.size)) ∧ s' = { s with heap := s.heap.push (strItO asc x (argTok cc 0) 0) }) (fun _ _ => False) s := by
    show wpAny _ _ (do ret (← newFields (if (true && (sOf x).cps.all (· < 128)) = true then "str_ascii_iterator" else "str_iterator") [.str (sOf x) (argTok cc 0), rawInt 0])) _ _ s
    rw [ha]
    cases asc
    · exact wpAny_bind (wpAny_newObj_type (wpAny_pure ⟨rfl, rfl⟩))
    · exact wpAny_bind (wpAny_newObj_type (wpAny_pure ⟨rfl, rfl⟩))
  refine wpAny_mono key (fun fin s' q => ?_) fun _ _ h => h.elim
  obtain ⟨rfl, rfl⟩ := q
  refine ⟨⟨fun i => if i = 0 then s.heap.objs.size else argTok cc 0, fun _ _ => 0, fun _ _ => 0, fun _ => #[]⟩, rfl, ?_⟩
  exact Rel.push R (o := strItO asc x (argTok cc 0) 0) rfl
theorem HDOk.sNext {asc : Bool} {ix : Nat} {x : List Nat} {i : Nat} {c : Nat} (hx : x[i]? = some c) : HDOk w G D s₀ X (HD.sNext asc ix x i c) := by
  intro cc st A s hA hD hF R
  have ho : s.heap.get? (addrAt st ix) = some (strItO asc x (vTok st ix 0) i) := R.S _ (putO_mem st ix _)
  refine codeAny_call_builtin (siSlot asc).plain (siEntry asc) ((siSlot asc).check _ _ _ _ _ _ _ _ ⟨_, ho, rfl⟩ (siArgs asc _) ?_)
  have hx' : (sOf x).cps[i]? = some c := by rw [← Array.getElem?_toList, sOf_list]; exact hx
  have key : wpAny (model P0 w) A.in1 (siB asc ⟨[.ref (addrAt st ix)], []⟩) (fun fin s' => fin = .done (.ret (.str ⟨#[c]⟩ s.toks)) ∧ s' = { s with heap := s.heap.update (addrAt st ix) (Obj.mapFields fun x => x.setIfInBounds 1 (rawInt ((i : Int) + 1))), toks := s.toks + 1 }) (fun _ _ => False) s := by
    cases asc <;>
    · show wpAny _ _ (field (.ref (addrAt st ix)) 0 >>= _) _ _ s
      refine wpAny_bind (wpAny_field ho rfl (x := .str (sOf x) (vTok st ix 0)) rfl ?_)
      show wpAny _ _ (field (.ref (addrAt st ix)) 1 >>= _) _ _ s
      refine wpAny_bind (wpAny_field ho rfl (x := .int i 0) rfl ?_)
      simp only [Int.toNat_natCast, hx']
      exact wpAny_bind (wpAny_setField ho rfl (by simp) (wpAny_bind (wpAny_mkStr (wpAny_pure ⟨rfl, rfl⟩) (by show 1 ≤ sizeLine; decide))))
  refine wpAny_mono key (fun fin s' q => ?_) fun _ _ h => h.elim
  obtain ⟨rfl, rfl⟩ := q
  refine ⟨⟨fun j => if j = 0 then s.toks else vTok st ix 0, fun _ _ => 0, fun _ _ => 0, fun _ => #[]⟩, rfl, ?_⟩
  have R2 := Rel.updPut R (f := Obj.mapFields fun x => x.setIfInBounds 1 (rawInt ((i : Int) + 1))) rfl
  exact Rel.toks R2 (s.toks + 1)
theorem HDOk.sEnd {asc : Bool} {ix : Nat} {x : List Nat} {i : Nat} (hx : x.length ≤ i) : HDOk w G D s₀ X (HD.sEnd asc ix x i) := by
  intro cc st A s hA hD hF R
  have ho : s.heap.get? (addrAt st ix) = some (strItO asc x (vTok st ix 0) i) := R.S _ (putO_mem st ix _)
  refine codeAny_call_builtin (siSlot asc).plain (siEntry asc) ((siSlot asc).check _ _ _ _ _ _ _ _ ⟨_, ho, rfl⟩ (siArgs asc _) ?_)
  have hx' : (sOf x).cps[i]? = none := by rw [← Array.getElem?_toList, sOf_list]; exact List.getElem?_eq_none hx
  have R2 := Rel.updPut R (f := Obj.mapFields fun x => x.setIfInBounds 0 .none) rfl
  have R3 := Rel.push R2 (o := tup0) rfl
  have R4 := Rel.push R3 (o := stopO (s.heap.update (addrAt st ix) (Obj.mapFields fun x => x.setIfInBounds 0 .none)).objs.size) rfl
  have key : wpAny (model P0 w) A.in1 (siB asc ⟨[.ref (addrAt st ix)], []⟩) (fun _ _ => False) (fun e s' => ∃ y : Yv, e = .ref (y.t 0) ∧ Rl w G s₀ X ((HD.sEnd asc ix x i).post y ((HD.sEnd asc ix x i).pre st)) s') s := by
    cases asc <;>
    · show wpAny _ _ (field (.ref (addrAt st ix)) 0 >>= _) _ _ s
      refine wpAny_bind (wpAny_field ho rfl (x := .str (sOf x) (vTok st ix 0)) rfl ?_)
      show wpAny _ _ (field (.ref (addrAt st ix)) 1 >>= _) _ _ s
      refine wpAny_bind (wpAny_field ho rfl (x := .int i 0) rfl ?_)
      simp only [Int.toNat_natCast, hx']
      refine wpAny_bind (wpAny_rule (wpAny_bind (wpAny_setField ho rfl (by simp) (wpAny_bind (wpAny_letGo ?_)))))
      show wpAny _ _ (newExc (.type "StopIteration") [] >>= _) _ _ _
      refine wpAny_bind ?_
      simp only [newExc, newTuple]
      refine wpAny_bind (wpAny_newObj_type ?_ (by size_fits))
      refine wpAny_bind (m := firstArgMember _ _) (wpAny_of_eq (a := Value.none) (by first | rfl | (simp only [firstArgMember]; rfl)) ?_)
      refine wpAny_newObj_type ?_ (by size_fits)
      simp only [raiseNew]
      refine wpAny_bind (wpAny_handled ?_)
      rw [show A.in1.handled = none from hA]
      refine wpAny_bind (wpAny_pure (wpAny_throw ?_))
      exact ⟨⟨fun i => if i = 0 then _ else _, fun _ _ => 0, fun _ _ => 0, fun _ => #[]⟩, rfl, R4⟩
  refine wpAny_mono key (fun fin s' q => q.elim) fun e s' q => ?_
  obtain ⟨y, rfl, R'⟩ := q
  exact ⟨y, rfl, R'⟩
theorem HDOk.has {x : List Nat} {c : Nat} {b : Bool} (h : inStr x c = b) : HDOk w G D s₀ X (HD.has x c b) := by
  intro cc st A s hA hD hF R
  refine code_slot F.slot_str_contains (typeIs_str s (sOf x) _) F.entry_str_contains (F.args_str_contains_2 _ _) (gives_str_contains (sOf x) (sOf [c]) _ _).meets ⟨yN, ?_, R⟩
  rw [← h]; rfl
theorem mapSeq_list (f : Array Value → Array Value) (its : Array Value) (n : Nat) : ∃ n', (listO its n).mapSeq f = listO (f its) n' := by
  obtain ⟨n', h⟩ := Obj.data_mapSeq (o := listO its n) rfl f
  refine ⟨n', ?_⟩
  have h1 := Obj.cls_mapSeq (listO its n) f
  have h2 : ((listO its n).mapSeq f).dict = none := rfl
  have h3 : ((listO its n).mapSeq f).slots = #[] := rfl
  revert h h1 h2 h3
  generalize (listO its n).mapSeq f = o
  intro h h1 h2 h3
  obtain ⟨a, b, c, d⟩ := o
  cases h; cases h1; cases h2; cases h3
  rfl
theorem HDOk.app {ix : Nat} {xs xs2 : List (List Nat)} {x : List Nat} {v : Nat → Tok} {n : Nat} (h2 : xs ++ [x] = xs2) (hl : xs.length ≤ 1000) : HDOk w G D s₀ X (HD.app ix xs xs2 x v n) := by
  subst h2
  intro cc st A s hA hD hF R
  have ho : s.heap.get? (addrAt st ix) = some (strLn xs v n) := R.S _ (putO_mem st ix _)
  have h1000 : 1000 ≤ sizeLine := by decide
  obtain ⟨n', he⟩ := mapSeq_list (fun z => z.push (.str (sOf x) (argTok cc 1))) (strVs v 0 xs).toArray n
  refine code_slot slot_list_append ⟨_, ho, rfl⟩ entry_list_append (args_list_append _ _) (AutoListH.list_append_list_val_0 _ _ _ _ (by simp only [List.size_toArray, strVs_len]; lia)) ⟨ho, ?_⟩
  refine ⟨⟨fun _ => n', fun _ _ => 0, fun _ => fun j => if j < 0 + xs.length then v j else argTok cc 1, fun _ => #[]⟩, rfl, ?_⟩
  have R2 := Rel.updPut (o := strLn xs v n) R (f := Obj.mapSeq fun z => z.push (.str (sOf x) (argTok cc 1))) (by unfold strLn; rw [he]; rfl)
  have e2 : Obj.mapSeq (fun z => z.push (.str (sOf x) (argTok cc 1))) (strLn xs v n) = strLn (xs ++ [x]) (fun j => if j < 0 + xs.length then v j else argTok cc 1) n' := by
    unfold strLn
    rw [he]
    congr 1
    rw [← strVs_app]; simp
  rw [e2] at R2
  exact R2
theorem sOf_flat : ∀ (xs : List (List Nat)) (v : Nat → Tok) (i : Nat), ∃ l : List (PySem.Str × Tok), strVs v i xs = strValues l ∧ l.map (·.1) = xs.map sOf
  | [], v, i => ⟨[], rfl, rfl⟩
  | x :: r, v, i => by
    obtain ⟨l, h1, h2⟩ := sOf_flat r v (i + 1)
    exact ⟨(sOf x, v i) :: l, by show _ :: strVs v (i + 1) r = _ :: strValues l; rw [h1], by show _ :: l.map (·.1) = _; rw [h2]; rfl⟩
theorem glued_flat : ∀ (xs : List (List Nat)), Builtin.Str.glued (sOf []) (xs.map sOf) = sOf xs.flatten
  | [] => rfl
  | x :: r => by
    unfold Builtin.Str.glued
    have : ∀ (r : List (List Nat)) (acc : List Nat), (r.map sOf).foldl (fun acc p => acc ++ (sOf []).cps ++ p.cps) acc.toArray = (acc ++ r.flatten).toArray := by
      intro r
      induction r with
      | nil => intro acc; simp
      | cons y r ih =>
        intro acc
        show (r.map sOf).foldl _ (acc.toArray ++ #[] ++ y.toArray) = _
        rw [show acc.toArray ++ #[] ++ y.toArray = (acc ++ y).toArray by simp, ih]
        simp
    show (⟨(r.map sOf).foldl _ x.toArray⟩ : PySem.Str) = _
    rw [this]; rfl
theorem HDOk.join {ix : Nat} {xs : List (List Nat)} {z : List Nat} {v : Nat → Tok} {n : Nat} (hz : xs.flatten = z) (hz1 : z.length ≤ 1000) (hl : xs.length ≤ 1000) (hB : ∀ y ∈ xs, y.length ≤ 100) : HDOk w G D s₀ X (HD.join ix xs z v n) := by
  intro cc st A s hA hD hF R
  have ho : s.heap.get? (addrAt st ix) = some (strLn xs v n) := R.S _ (putO_mem st ix _)
  obtain ⟨l, h1, h2⟩ := sOf_flat xs v 0
  have hll : l.length = xs.length := by have := congrArg List.length h2; simpa using this
  have fit : tooLong ((l.map (·.1)).toArray.foldl (· + ·.length + (sOf []).length) 0) = false := by
    rw [h2]
    refine StrLaws.joinFits (B := 100) (fun y hy => ?_) ?_
    · obtain ⟨x, hx, rfl⟩ := List.mem_map.mp hy
      rw [sOf_len]; exact hB x hx
    · rw [List.length_map]; show xs.length * 100 + xs.length * 0 ≤ _; lia
  refine code_slot F.slot_str_join (typeIs_str s (sOf []) _) F.entry_str_join (F.args_str_join_2 _ _) (meets_str_join_list (sOf []) _ _ l fit) ⟨⟨_, ho, rfl, n, by rw [← h1]; rfl⟩, ?_⟩
  have h1000 : 1000 ≤ sizeLine := by decide
  have hg : ∀ l : List (PySem.Str × Tok), Builtin.Str.glued (sOf []) (l.map (·.1)) = sOf z → (joinMade (sOf []) l).post (fun u s' => ∃ y, Except.ok (Flow.ret u) = (HD.join ix xs z v n).res y ∧ Rl w G s₀ X ((HD.join ix xs z v n).post y ((HD.join ix xs z v n).pre st)) s') s := by
    intro l hl
    have big : ((Builtin.Str.glued (sOf []) (l.map (·.1))).length ≤ sizeLine ∧ (fun u s' => ∃ y, Except.ok (Flow.ret u) = (HD.join ix xs z v n).res y ∧ Rl w G s₀ X ((HD.join ix xs z v n).post y ((HD.join ix xs z v n).pre st)) s') (.str (Builtin.Str.glued (sOf []) (l.map (·.1))) s.toks) { s with toks := s.toks + 1 }) := by
      rw [hl]
      exact ⟨by rw [sOf_len]; lia, yT s.toks, rfl, Rel.toks R _⟩
    cases l with
    | nil => exact big
    | cons p r => cases r with
      | nil =>
        have e : p.1 = sOf z := by rw [← hl]; rfl
        show ∃ y, Except.ok (Flow.ret (.str p.1 p.2)) = _ ∧ _
        rw [e]
        exact ⟨yT p.2, rfl, R⟩
      | cons q r' => exact big
  exact hg l (by rw [h2, glued_flat, hz])
end
end Mine
end
end
section
open PySem PySem.W PyProof.Rows
set_option maxRecDepth 100000
section
namespace Mine
noncomputable def ScT.OkY {α : Type} (S : ScT α) (nY : (Nat → Yv) → Except Value α → St → St) (hY : (Nat → Yv) → List HD) (w : World) : Prop := ∀ c own past below p σ, S.Q w c own past below p σ = some (normX S.outF (nY σ.ys) (hY σ.ys) ((S.Q w c own past below p σ).getD dfltQ))
theorem okTY {α : Type} {S : World → ScT α} {nY : World → (Nat → Yv) → Except Value α → St → St} {hY : World → (Nat → Yv) → List HD} (q : World → Road α) (hq : ∀ w, (S w).Q w = q w)
    (H0 : ∀ (w : World) c own past below p σ, q (w.withFollow "special-get-raises" false) c own past below p σ = some (normX (S (w.withFollow "special-get-raises" false)).outF (nY (w.withFollow "special-get-raises" false) σ.ys) (hY (w.withFollow "special-get-raises" false) σ.ys) ((q (w.withFollow "special-get-raises" false) c own past below p σ).getD dfltQ)))
    (H1 : ∀ (w : World) c own past below p σ, q (w.withFollow "special-get-raises" true) c own past below p σ = some (normX (S (w.withFollow "special-get-raises" true)).outF (nY (w.withFollow "special-get-raises" true) σ.ys) (hY (w.withFollow "special-get-raises" true) σ.ys) ((q (w.withFollow "special-get-raises" true) c own past below p σ).getD dfltQ))) (w : World) : (S w).OkY (nY w) (hY w) w := fun c own past below p σ => by
  rw [hq]
  exact byRow2 "special-get-raises" (P := fun w => q w c own past below p σ = some (normX (S w).outF (nY w σ.ys) (hY w σ.ys) ((q w c own past below p σ).getD dfltQ))) (fun w => H0 w c own past below p σ) (fun w => H1 w c own past below p σ) w
theorem okEY {S : World → ScT Flow} {nY : World → (Nat → Yv) → Except Value Flow → St → St} {hY : World → (Nat → Yv) → List HD} {l : World → List Stmt} {env : World → Env} (ht : ∀ w, (S w).t = execs (l w) (env w))
    (H0 : (fun (w : World) c own past below p σ => (qE (S (wf false w)) (l (wf false w)) (env (wf false w)) (wf false w) c own past below p σ)) = fun w c own past below p σ => some (normX (S (wf false w)).outF (nY (wf false w) σ.ys) (hY (wf false w) σ.ys) ((qE (S (wf false w)) (l (wf false w)) (env (wf false w)) (wf false w) c own past below p σ).getD dfltQ)))
    (H1 : (fun (w : World) c own past below p σ => (qE (S (wf true w)) (l (wf true w)) (env (wf true w)) (wf true w) c own past below p σ)) = fun w c own past below p σ => some (normX (S (wf true w)).outF (nY (wf true w) σ.ys) (hY (wf true w) σ.ys) ((qE (S (wf true w)) (l (wf true w)) (env (wf true w)) (wf true w) c own past below p σ).getD dfltQ))) (w : World) : (S w).OkY (nY w) (hY w) w :=
  okTY (fun w => qE (S w) (l w) (env w) w) (fun w => by show QT w (S w).G (S w).hs (S w).acts (S w).st (S w).t = _; rw [ht]; unfold qE; rw [← PySem.W.Fast.QEq_eq]; rfl) (fun w c own past below p σ => congrFun (congrFun (congrFun (congrFun (congrFun (congrFun (congrFun H0 w) c) own) past) below) p) σ) (fun w c own past below p σ => congrFun (congrFun (congrFun (congrFun (congrFun (congrFun (congrFun H1 w) c) own) past) below) p) σ) w
theorem okDY {S : World → ScT PySem.Fin} {nY : World → (Nat → Yv) → Except Value PySem.Fin → St → St} {hY : World → (Nat → Yv) → List HD} {l : World → Code} (ht : ∀ w, (S w).t = denote treeTable (l w))
    (H0 : (fun (w : World) c own past below p σ => (qD (S (wf false w)) (l (wf false w)) (wf false w) c own past below p σ)) = fun w c own past below p σ => some (normX (S (wf false w)).outF (nY (wf false w) σ.ys) (hY (wf false w) σ.ys) ((qD (S (wf false w)) (l (wf false w)) (wf false w) c own past below p σ).getD dfltQ)))
    (H1 : (fun (w : World) c own past below p σ => (qD (S (wf true w)) (l (wf true w)) (wf true w) c own past below p σ)) = fun w c own past below p σ => some (normX (S (wf true w)).outF (nY (wf true w) σ.ys) (hY (wf true w) σ.ys) ((qD (S (wf true w)) (l (wf true w)) (wf true w) c own past below p σ).getD dfltQ))) (w : World) : (S w).OkY (nY w) (hY w) w :=
  okTY (fun w => qD (S w) (l w) w) (fun w => by show QT w (S w).G (S w).hs (S w).acts (S w).st (S w).t = _; rw [ht]; unfold qD; rw [← PySem.W.Fast.QDq_eq]; rfl) (fun w c own past below p σ => congrFun (congrFun (congrFun (congrFun (congrFun (congrFun (congrFun H0 w) c) own) past) below) p) σ) (fun w c own past below p σ => congrFun (congrFun (congrFun (congrFun (congrFun (congrFun (congrFun H1 w) c) own) past) below) p) σ) w
theorem hkOf_eq : ∀ {l l' : List HD}, l.map (fun x => (x.res, x.post)) = l'.map (fun x => (x.res, x.post)) → hkOf l = hkOf l'
  | [], [], _ => rfl
  | a :: l, b :: l', h => by
    rw [List.map_cons, List.map_cons] at h
    obtain ⟨h1, h2⟩ := List.cons.inj h
    have ih := hkOf_eq h2
    have e1 : a.res = b.res := congrArg Prod.fst h1
    have e2 : a.post = b.post := congrArg Prod.snd h1
    funext n y
    cases n with
    | zero => show (a.res y, a.post y) = (b.res y, b.post y); rw [e1, e2]
    | succ n => exact congrFun (congrFun ih n) y
section
variable {w : World} {D : Nat} {s₀ s : Shared} {X : XS}
theorem ScT.OkY.tree {α : Type} {S : ScT α} {nY : (Nat → Yv) → Except Value α → St → St} {hY : (Nat → Yv) → List HD} (h : S.OkY nY hY w) (hE : ∀ ys, (hY ys).map (fun x => (x.res, x.post)) = S.hs.map (fun x => (x.res, x.post))) {A : Around} (hH : ∀ ys, AllH w S.G (D + 20) s₀ X (hY ys)) (hA : A.handled = none) (hD : A.depth ≤ D) (hF : ∀ l, X.l = some l → A.frames = some l) (R : Rl w S.G s₀ X S.st s) :
    wpAny (model P0 w) A S.t (fun a s' => ∃ ys x st', Except.ok a = S.outF x ∧ Rl w S.G s₀ X (nY ys x st') s') (fun e s' => ∃ ys x st', Except.error e = S.outF x ∧ Rl w S.G s₀ X (nY ys x st') s') s := by
  have := evQ_any (s₀ := s₀) (X := X) (N0 := 989) (D := D) (A := A) (fuel := 60) (hk := hkOf S.hs) (t := S.t) (acts := S.acts) (st := S.st)
    (F := fun c own past below p σ => normX S.outF (nY σ.ys) (hY σ.ys) ((S.Q w c own past below p σ).getD dfltQ))
    (Post := fun out s' => ∃ ys x st', out = S.outF x ∧ Rl w S.G s₀ X (nY ys x st') s')
    (fun c own past below p σ => h c own past below p σ) hA hD hF (fun c own past below p σ => ⟨fun p' hp => ?_, fun c' hc => ?_, fun s' R' => ?_⟩) R
  · exact this
  · obtain ⟨p', _, rfl⟩ := List.mem_map.mp hp
    rfl
  · rw [← hkOf_eq (hE σ.ys)]
    exact normC_ok (hH σ.ys).mem (hY σ.ys) 0 _ (fun i x e => by rw [Nat.zero_add]; exact e) c' hc
  · exact ⟨σ.ys, ((S.Q w c own past below p σ).getD dfltQ).out, ((S.Q w c own past below p σ).getD dfltQ).st, rfl, R'⟩
theorem ScT.OkY.next {S : ScT Flow} {nY : (Nat → Yv) → Except Value Flow → St → St} {hY : (Nat → Yv) → List HD} (h : S.OkY nY hY w) (hE : ∀ ys, (hY ys).map (fun x => (x.res, x.post)) = S.hs.map (fun x => (x.res, x.post))) {A : Around} {Q : Flow → Shared → Prop} {E : Value → Shared → Prop} (hH : ∀ ys, AllH w S.G (D + 20) s₀ X (hY ys)) (hA : A.handled = none) (hD : A.depth ≤ D) (hF : ∀ l, X.l = some l → A.frames = some l) (R : Rl w S.G s₀ X S.st s)
    (k : ∀ ys xo st' s', Rl w S.G s₀ X (nY ys xo st') s' → match S.outF xo with | .ok f => Q f s' | .error e => E e s') : wpAny (model P0 w) A S.t Q E s :=
  wpAny_mono (h.tree hE hH hA hD hF R) (fun f s' q => by
    obtain ⟨ys, x, st', e, R'⟩ := q
    have := k ys x st' s' R'
    rw [← e] at this; exact this) (fun f s' q => by
    obtain ⟨ys, x, st', e, R'⟩ := q
    have := k ys x st' s' R'
    rw [← e] at this; exact this)
theorem ScT.OkY.turn {S : ScT PySem.Fin} {nY : (Nat → Yv) → Except Value PySem.Fin → St → St} {hY : (Nat → Yv) → List HD} (h : S.OkY nY hY w) (hE : ∀ ys, (hY ys).map (fun x => (x.res, x.post)) = S.hs.map (fun x => (x.res, x.post))) {c : Code} {A : Around} {Post : Result → Shared → Prop} (hc : S.t = denote treeTable c) (hw : c.weight = 0) (hu : c.cUnits = 0) (hH : ∀ ys, AllH w S.G (D + 20) s₀ X (hY ys)) (hA : A.handled = none) (hD : A.depth ≤ D) (hF : ∀ l, X.l = some l → A.frames = some l) (R : Rl w S.G s₀ X S.st s)
    (k : ∀ ys x st' s', Rl w S.G s₀ X (nY ys x st') s' → match S.outF x with
      | .ok (.done f) => Post (.ok f) s'
      | .ok (.again c') => c'.quiet = true ∧ codeAny (model P0 w) A c' Post s'
      | .error e => Post (.error e) s') : codeAny (model P0 w) A c Post s := by
  refine codeAny_of_tree ?_
  have hden : (model P0 w).den c = denote treeTable c := by show denote table c = _; rw [table_eq_tree]
  rw [hden, ← hc]
  have := h.tree (A := A.under c) (D := D) hE hH hA (by rw [Around.under_of_weight hw hu]; exact hD) (by rw [Around.under_of_weight hw hu]; exact hF) R
  refine wpAny_mono this (fun fin s' z => ?_) (fun e s' z => ?_)
  · obtain ⟨ys, x, st', e, R'⟩ := z
    have := k ys x st' s' R'
    rw [← e] at this
    cases fin <;> exact this
  · obtain ⟨ys, x, st', e, R'⟩ := z
    have := k ys x st' s' R'
    rw [← e] at this
    exact this
end
/-! comprehensions -/
noncomputable def lcOf : Stmt → PySem.Expr
  | .Assign _ (.Call _ (e :: _) _ _) _ => e
  | .Return (some e) _ => e
  | _ => .Constant .none 0 default
noncomputable def lcScope : PySem.Expr → Scope
  | .ListComp _ _ s _ => s
  | _ => ⟨.function, [], false, false, []⟩
noncomputable def cEnv (env : Env) (sc : Scope) (cells : List (PySem.Str × Addr)) (C : Nat) : Env := { scope := sc, locals := C, globals := 3, cells := cells, qual := env.qual, func := none, code := env.code, frame := env.frame, builtins := 0 }
noncomputable abbrev twS : Stmt := fnAt 22 none
noncomputable def twEnv (L : Nat) : Env := fenv 981 L twS "_law_word" 980
noncomputable def twE : PySem.Expr := lcOf (atP twS [4])
noncomputable def twC (L C : Nat) : Env := cEnv (twEnv L) (lcScope twE) [] C
noncomputable def twLoop (L i a C : Nat) : Code := .compLoop twE 0 (.ref i) (.ref a) (twC L C)
noncomputable def cD0 : Obj := ⟨.type "dict", none, .dict #[] 0, #[]⟩
noncomputable def cD1 (P : Params) (x : List Nat) (kt vt : Tok) : Obj := ⟨.type "dict", none, .dict #[en P "s" kt (.str (sOf x) vt)] 1, #[]⟩
noncomputable def tupT (x z : List Nat) (v : Nat → Tok) : Obj := ⟨.type "tuple", none, .seq #[.str (sOf x) (v 0), .str (sOf z) (v 1)] 0, #[]⟩
noncomputable def bareP (b : List Nat) : List Nat := b.filter fun c => !inStr vowelsL c
noncomputable def bareL (b : List Nat) : List (List Nat) := (bareP b).map fun c => [c]
noncomputable def twN (b cl : List Nat) (x y kd n : Int) : Nm := [("body", fun t => .str (sOf b) t), ("close", fun t => .str (sOf cl) t), ("x", fun t => .int x t), ("y", fun t => .int y t), ("kind", fun t => .int kd t), ("n", fun t => .int n t)]
noncomputable def twN0 (b cl : List Nat) (x y : Int) : Nm := [("body", fun t => .str (sOf b) t), ("close", fun t => .str (sOf cl) t), ("x", fun t => .int x t), ("y", fun t => .int y t)]
noncomputable def twN5 (b cl : List Nat) (x y kd n : Int) (br : List Nat) : Nm := [("body", fun t => .str (sOf b) t), ("close", fun t => .str (sOf cl) t), ("x", fun t => .int x t), ("y", fun t => .int y t), ("kind", fun t => .int kd t), ("n", fun t => .int n t), ("bare", fun t => .str (sOf br) t)]
noncomputable def refF : Except Value Flow → Nat
  | .ok (.ret (.ref a)) => a
  | _ => 0
noncomputable def HD.layR (b cl : List Nat) (n y : Int) (z : List Nat) : HD := ⟨fun c _ => .call (.ref 976) ⟨[.str (sOf b) (argTok c 0), .str (sOf cl) (argTok c 1), .int n (argTok c 2), .int y (argTok c 3)], []⟩, id, fun q => .ok (.ret (.str (sOf z) (q.t 0))), fun _ => id⟩
noncomputable def HD.lastR (y : Int) (z : List Nat) : HD := ⟨fun c _ => .call (.ref 969) ⟨[.int y (argTok c 0)], []⟩, id, fun q => .ok (.ret (.str (sOf z) (q.t 0))), fun _ => id⟩
theorem HDOk.layR {w : World} {G : Gs} {D : Nat} (hG : G.ro = []) (hD : D < 700) {b cl z : List Nat} {n y : Int} (hz : layeredP b cl n y = z) (hb : b.length ≤ 100) (hcl : cl.length ≤ 10) (hcl0 : cl ≠ []) {s₀ : Shared} {X : XS} : HDOk w G D s₀ X (HD.layR b cl n y z) := by
  subst hz; exact HDOk.lay hG hD hb hcl hcl0
theorem HDOk.lastR {w : World} {G : Gs} {D : Nat} (hD : D < 820) {y : Int} {z : List Nat} (hz : lastP y = z) {s₀ : Shared} {X : XS} : HDOk w G D s₀ X (HD.lastR y z) := by
  subst hz; exact HDOk.last hD
noncomputable def HD.compS (P : Params) (asc : Bool) (L : Nat) (b cl : List Nat) (x y kd n : Int) (xs : List (List Nat)) : HD :=
  ⟨fun _ st => .compStart twE 0 (.ref (addrAt st 1)) (.ref (addrAt st 2)) (twC L (addrAt st 3)), fun st => [(L, frT P (twN b cl x y kd n) (kTok st 0) (vTok st 0)), (addrAt st 1, strItO asc b (vTok st 1 0) 0), (addrAt st 2, listO #[] 0), (addrAt st 3, cD0)],
    fun _ => .ok .next, fun y' st => [(L, frT P (twN b cl x y kd n) (kTok st 0) (vTok st 0)), (addrAt st 1, strEndO asc b.length), (addrAt st 2, strLn xs (y'.V 0) (y'.t 0)), (addrAt st 3, cD1 P [y'.t 3] (y'.t 1) (y'.t 2))]⟩
end Mine
end
end
section
open PySem PySem.W PyProof.Rows
set_option maxRecDepth 100000
set_option maxHeartbeats 0
section
namespace Mine
noncomputable def wordF : Fn := ⟨981, fnAt 22 none, "_law_word", 980, (sv "law_af0032_01" 3127), ["body", "close", "x", "y"]⟩
noncomputable def twa (w : World) (G : Gs) (L : Nat) (k v : Nat → Tok) (b cl : List Nat) (x y : Int) (z bc : List Nat) : ScT Flow := ⟨G, execs (stms twS [] 0 3) (twEnv L), [1,1,1,1,1,1,1,1,1,1,0,1,1,1,1,0,1,1,1,1], [(L, (frT w.params (twN0 b cl x y)) k v)], [HD.modI x 4, HD.divI x 4, HD.cmp "int.__lt__" (x % 4) 2 true, HD.layR b cl (x / 4) y z, HD.sAddR (sOf b) (sOf cl) (sOf bc)], (fun xo => .ok (.ret (.ref (refF xo)))), (fun xo st => [(L, (frT w.params (twN b cl x y (x % 4) (x / 4))) (kTok st 0) (vTok st 0)), (refF xo, tupT z bc (vTok st 1))])⟩
noncomputable def twb (w : World) (G : Gs) (L : Nat) (k v : Nat → Tok) (b cl : List Nat) (x y : Int) (z1 iv sm ls z : List Nat) : ScT Flow := ⟨G, execs (stms twS [] 0 4) (twEnv L), [1,1,1,1,1,1,1,1,1,1,1,1,1,1,1,0,0,1,1,1,2,2,2,1,0,1,1,1,1,0,1,0,1,1,1], [(L, (frT w.params (twN0 b cl x y)) k v)], [HD.modI x 4, HD.divI x 4, HD.cmp "int.__lt__" (x % 4) 2 false, HD.cmp "int.__eq__" (x % 4) 2 true, HD.sAddR (sOf b) (sOf cl) (sOf z1), HD.mkL 934 innerL, HD.modI (x / 4) 10, HD.sGetL 1 innerL (x / 4 % 10) iv, HD.sAddR (sOf z1) (sOf iv) (sOf sm), HD.lastR y ls, HD.sAddR (sOf sm) (sOf ls) (sOf z)], (fun xo => .ok (.ret (.ref (refF xo)))), (fun xo st => [(L, objAt st 0), pairAt st 1, (refF xo, tupT z sm (vTok st 2))])⟩
noncomputable def twc (w : World) (G : Gs) (L : Nat) (k v : Nat → Tok) (b cl : List Nat) (x y : Int) : ScT Flow := ⟨G, execs (stms twS [] 0 4) (twEnv L), [1,1,1,1,1,1,1,1,1,1,1,1], [(L, (frT w.params (twN0 b cl x y)) k v)], [HD.modI x 4, HD.divI x 4, HD.cmp "int.__lt__" (x % 4) 2 false, HD.cmp "int.__eq__" (x % 4) 2 false], (fun _ => .ok .next), (fun _ st => [(L, (frT w.params (twN b cl x y (x % 4) (x / 4))) (kTok st 0) (vTok st 0))])⟩
noncomputable def twda (w : World) (G : Gs) (L : Nat) (k v : Nat → Tok) (b cl : List Nat) (x y : Int) (br : List Nat) (xs : List (List Nat)) : ScT Flow := ⟨G, execs (stms twS [] 4 1) (twEnv L), [1,1,2,1,4,4,4,1,1,1], [(L, (frT w.params (twN b cl x y (x % 4) (x / 4))) k v)], [HD.sIter true b, HD.compS w.params true L b cl x y (x % 4) (x / 4) xs, HD.join 2 xs br (fun _ => 0) 0], (fun _ => .ok .next), (fun _ st => [(L, frT w.params (twN5 b cl x y (x % 4) (x / 4) br) (kTok st 0) (vTok st 0)), pairAt st 1, pairAt st 2, pairAt st 3])⟩
noncomputable def twdaN (w : World) (G : Gs) (L : Nat) (k v : Nat → Tok) (b cl : List Nat) (x y : Int) (br : List Nat) (xs : List (List Nat)) (ys : Nat → Yv) : Except Value Flow → St → St := fun _ st => [(L, frT w.params (twN5 b cl x y (x % 4) (x / 4) br) (kTok st 0) (vTok st 0)), pairAt st 1, pairAt st 2, pairAt st 3]
noncomputable def twdaH (w : World) (G : Gs) (L : Nat) (k v : Nat → Tok) (b cl : List Nat) (x y : Int) (br : List Nat) (xs : List (List Nat)) (ys : Nat → Yv) : List HD := [HD.sIter true b, HD.compS w.params true L b cl x y (x % 4) (x / 4) xs, HD.join 2 xs br ((ys 1).V 0) ((ys 1).t 0)]
noncomputable def twdw (w : World) (G : Gs) (L : Nat) (k v : Nat → Tok) (b cl : List Nat) (x y : Int) (br : List Nat) (xs : List (List Nat)) : ScT Flow := ⟨G, execs (stms twS [] 4 1) (twEnv L), [1,1,2,1,4,4,4,1,1,1], [(L, (frT w.params (twN b cl x y (x % 4) (x / 4))) k v)], [HD.sIter false b, HD.compS w.params false L b cl x y (x % 4) (x / 4) xs, HD.join 2 xs br (fun _ => 0) 0], (fun _ => .ok .next), (fun _ st => [(L, frT w.params (twN5 b cl x y (x % 4) (x / 4) br) (kTok st 0) (vTok st 0)), pairAt st 1, pairAt st 2, pairAt st 3])⟩
noncomputable def twdwN (w : World) (G : Gs) (L : Nat) (k v : Nat → Tok) (b cl : List Nat) (x y : Int) (br : List Nat) (xs : List (List Nat)) (ys : Nat → Yv) : Except Value Flow → St → St := fun _ st => [(L, frT w.params (twN5 b cl x y (x % 4) (x / 4) br) (kTok st 0) (vTok st 0)), pairAt st 1, pairAt st 2, pairAt st 3]
noncomputable def twdwH (w : World) (G : Gs) (L : Nat) (k v : Nat → Tok) (b cl : List Nat) (x y : Int) (br : List Nat) (xs : List (List Nat)) (ys : Nat → Yv) : List HD := [HD.sIter false b, HD.compS w.params false L b cl x y (x % 4) (x / 4) xs, HD.join 2 xs br ((ys 1).V 0) ((ys 1).t 0)]
noncomputable def twe (w : World) (G : Gs) (L : Nat) (k v : Nat → Tok) (b cl : List Nat) (x y : Int) (br z1 ls z : List Nat) : ScT Flow := ⟨G, execs (stms twS [] 5 1) (twEnv L), [1,1,1,0,1,0,1,1,1,1,1,0,1,0,1,1], [(L, (frT w.params (twN5 b cl x y (x % 4) (x / 4) br)) k v)], [HD.sAddR (sOf br) (sOf cl) (sOf z1), HD.lastR y ls, HD.sAddR (sOf z1) (sOf ls) (sOf z), HD.sAddR (sOf br) (sOf cl) (sOf z1), HD.lastR y ls, HD.sAddR (sOf z1) (sOf ls) (sOf z)], (fun xo => .ok (.ret (.ref (refF xo)))), (fun xo st => [(L, (frT w.params (twN5 b cl x y (x % 4) (x / 4) br)) (kTok st 0) (vTok st 0)), (refF xo, tupT z z (vTok st 1))])⟩
noncomputable def cka0 (w : World) (G : Gs) (L iA aA cA : Nat) (oL : Obj) (b : List Nat) (t kt vt : Tok) (i : Nat) (c : Nat) (s0 : List Nat) (xs xs2 : List (List Nat)) (v : Nat → Tok) (n : Nat) : ScT PySem.Fin := ⟨G, denote treeTable ((twLoop L iA aA cA)), [2,1,4,4,4,0,1,4,1], [(L, oL), (iA, strItO true b t i), (aA, strLn xs v n), (cA, cD0)], [HD.sNext true 1 b i c, HD.has vowelsL c false, HD.app 2 xs xs2 [c] v n], (fun _ => .ok (.again (twLoop L iA aA cA))), (fun _ => (fun st => st))⟩
noncomputable def cka0N (w : World) (G : Gs) (L iA aA cA : Nat) (oL : Obj) (b : List Nat) (t kt vt : Tok) (i : Nat) (c : Nat) (s0 : List Nat) (xs xs2 : List (List Nat)) (v : Nat → Tok) (n : Nat) (ys : Nat → Yv) : Except Value PySem.Fin → St → St := fun _ st => [(L, oL), (iA, strItO true b (vTok st 1 0) ((i : Int) + 1)), (aA, strLn xs2 ((ys 2).V 0) ((ys 2).t 0)), (cA, cD1 w.params [c] (kTok st 3 0) (vTok st 3 0))]
noncomputable def cka0H (w : World) (G : Gs) (L iA aA cA : Nat) (oL : Obj) (b : List Nat) (t kt vt : Tok) (i : Nat) (c : Nat) (s0 : List Nat) (xs xs2 : List (List Nat)) (v : Nat → Tok) (n : Nat) (ys : Nat → Yv) : List HD := [HD.sNext true 1 b i c, HD.has vowelsL c false, HD.app 2 xs xs2 [c] v n]
noncomputable def cva0 (w : World) (G : Gs) (L iA aA cA : Nat) (oL : Obj) (b : List Nat) (t kt vt : Tok) (i : Nat) (c : Nat) (s0 : List Nat) (xs xs2 : List (List Nat)) (v : Nat → Tok) (n : Nat) : ScT PySem.Fin := ⟨G, denote treeTable ((twLoop L iA aA cA)), [2,1,4,4,4,0,1], [(L, oL), (iA, strItO true b t i), (aA, strLn xs v n), (cA, cD0)], [HD.sNext true 1 b i c, HD.has vowelsL c true], (fun _ => .ok (.again (twLoop L iA aA cA))), (fun _ => (fun st => [(L, oL), (iA, strItO true b (vTok st 1 0) ((i : Int) + 1)), (aA, strLn xs v n), (cA, cD1 w.params [c] (kTok st 3 0) (vTok st 3 0))]))⟩
noncomputable def cka1 (w : World) (G : Gs) (L iA aA cA : Nat) (oL : Obj) (b : List Nat) (t kt vt : Tok) (i : Nat) (c : Nat) (s0 : List Nat) (xs xs2 : List (List Nat)) (v : Nat → Tok) (n : Nat) : ScT PySem.Fin := ⟨G, denote treeTable ((twLoop L iA aA cA)), [2,1,4,4,4,0,1,4,1], [(L, oL), (iA, strItO true b t i), (aA, strLn xs v n), (cA, (cD1 w.params s0 kt vt))], [HD.sNext true 1 b i c, HD.has vowelsL c false, HD.app 2 xs xs2 [c] v n], (fun _ => .ok (.again (twLoop L iA aA cA))), (fun _ => (fun st => st))⟩
noncomputable def cka1N (w : World) (G : Gs) (L iA aA cA : Nat) (oL : Obj) (b : List Nat) (t kt vt : Tok) (i : Nat) (c : Nat) (s0 : List Nat) (xs xs2 : List (List Nat)) (v : Nat → Tok) (n : Nat) (ys : Nat → Yv) : Except Value PySem.Fin → St → St := fun _ st => [(L, oL), (iA, strItO true b (vTok st 1 0) ((i : Int) + 1)), (aA, strLn xs2 ((ys 2).V 0) ((ys 2).t 0)), (cA, cD1 w.params [c] (kTok st 3 0) (vTok st 3 0))]
noncomputable def cka1H (w : World) (G : Gs) (L iA aA cA : Nat) (oL : Obj) (b : List Nat) (t kt vt : Tok) (i : Nat) (c : Nat) (s0 : List Nat) (xs xs2 : List (List Nat)) (v : Nat → Tok) (n : Nat) (ys : Nat → Yv) : List HD := [HD.sNext true 1 b i c, HD.has vowelsL c false, HD.app 2 xs xs2 [c] v n]
noncomputable def cva1 (w : World) (G : Gs) (L iA aA cA : Nat) (oL : Obj) (b : List Nat) (t kt vt : Tok) (i : Nat) (c : Nat) (s0 : List Nat) (xs xs2 : List (List Nat)) (v : Nat → Tok) (n : Nat) : ScT PySem.Fin := ⟨G, denote treeTable ((twLoop L iA aA cA)), [2,1,4,4,4,0,1], [(L, oL), (iA, strItO true b t i), (aA, strLn xs v n), (cA, (cD1 w.params s0 kt vt))], [HD.sNext true 1 b i c, HD.has vowelsL c true], (fun _ => .ok (.again (twLoop L iA aA cA))), (fun _ => (fun st => [(L, oL), (iA, strItO true b (vTok st 1 0) ((i : Int) + 1)), (aA, strLn xs v n), (cA, cD1 w.params [c] (kTok st 3 0) (vTok st 3 0))]))⟩
noncomputable def cea (w : World) (G : Gs) (L iA aA cA : Nat) (oL : Obj) (b : List Nat) (t kt vt : Tok) (i : Nat) (c : Nat) (s0 : List Nat) (xs xs2 : List (List Nat)) (v : Nat → Tok) (n : Nat) : ScT PySem.Fin := ⟨G, denote treeTable ((twLoop L iA aA cA)), [2,1,6], [(L, oL), (iA, strItO true b t i), (aA, strLn xs v n), (cA, cD1 w.params s0 kt vt)], [HD.sEnd true 1 b i], (fun _ => .ok (.done .next)), (fun _ => (fun st => [(L, oL), (iA, strEndO true i), (aA, strLn xs v n), (cA, cD1 w.params s0 kt vt), pairAt st 4, pairAt st 5]))⟩
noncomputable def ckw0 (w : World) (G : Gs) (L iA aA cA : Nat) (oL : Obj) (b : List Nat) (t kt vt : Tok) (i : Nat) (c : Nat) (s0 : List Nat) (xs xs2 : List (List Nat)) (v : Nat → Tok) (n : Nat) : ScT PySem.Fin := ⟨G, denote treeTable ((twLoop L iA aA cA)), [2,1,4,4,4,0,1,4,1], [(L, oL), (iA, strItO false b t i), (aA, strLn xs v n), (cA, cD0)], [HD.sNext false 1 b i c, HD.has vowelsL c false, HD.app 2 xs xs2 [c] v n], (fun _ => .ok (.again (twLoop L iA aA cA))), (fun _ => (fun st => st))⟩
noncomputable def ckw0N (w : World) (G : Gs) (L iA aA cA : Nat) (oL : Obj) (b : List Nat) (t kt vt : Tok) (i : Nat) (c : Nat) (s0 : List Nat) (xs xs2 : List (List Nat)) (v : Nat → Tok) (n : Nat) (ys : Nat → Yv) : Except Value PySem.Fin → St → St := fun _ st => [(L, oL), (iA, strItO false b (vTok st 1 0) ((i : Int) + 1)), (aA, strLn xs2 ((ys 2).V 0) ((ys 2).t 0)), (cA, cD1 w.params [c] (kTok st 3 0) (vTok st 3 0))]
noncomputable def ckw0H (w : World) (G : Gs) (L iA aA cA : Nat) (oL : Obj) (b : List Nat) (t kt vt : Tok) (i : Nat) (c : Nat) (s0 : List Nat) (xs xs2 : List (List Nat)) (v : Nat → Tok) (n : Nat) (ys : Nat → Yv) : List HD := [HD.sNext false 1 b i c, HD.has vowelsL c false, HD.app 2 xs xs2 [c] v n]
noncomputable def cvw0 (w : World) (G : Gs) (L iA aA cA : Nat) (oL : Obj) (b : List Nat) (t kt vt : Tok) (i : Nat) (c : Nat) (s0 : List Nat) (xs xs2 : List (List Nat)) (v : Nat → Tok) (n : Nat) : ScT PySem.Fin := ⟨G, denote treeTable ((twLoop L iA aA cA)), [2,1,4,4,4,0,1], [(L, oL), (iA, strItO false b t i), (aA, strLn xs v n), (cA, cD0)], [HD.sNext false 1 b i c, HD.has vowelsL c true], (fun _ => .ok (.again (twLoop L iA aA cA))), (fun _ => (fun st => [(L, oL), (iA, strItO false b (vTok st 1 0) ((i : Int) + 1)), (aA, strLn xs v n), (cA, cD1 w.params [c] (kTok st 3 0) (vTok st 3 0))]))⟩
noncomputable def ckw1 (w : World) (G : Gs) (L iA aA cA : Nat) (oL : Obj) (b : List Nat) (t kt vt : Tok) (i : Nat) (c : Nat) (s0 : List Nat) (xs xs2 : List (List Nat)) (v : Nat → Tok) (n : Nat) : ScT PySem.Fin := ⟨G, denote treeTable ((twLoop L iA aA cA)), [2,1,4,4,4,0,1,4,1], [(L, oL), (iA, strItO false b t i), (aA, strLn xs v n), (cA, (cD1 w.params s0 kt vt))], [HD.sNext false 1 b i c, HD.has vowelsL c false, HD.app 2 xs xs2 [c] v n], (fun _ => .ok (.again (twLoop L iA aA cA))), (fun _ => (fun st => st))⟩
noncomputable def ckw1N (w : World) (G : Gs) (L iA aA cA : Nat) (oL : Obj) (b : List Nat) (t kt vt : Tok) (i : Nat) (c : Nat) (s0 : List Nat) (xs xs2 : List (List Nat)) (v : Nat → Tok) (n : Nat) (ys : Nat → Yv) : Except Value PySem.Fin → St → St := fun _ st => [(L, oL), (iA, strItO false b (vTok st 1 0) ((i : Int) + 1)), (aA, strLn xs2 ((ys 2).V 0) ((ys 2).t 0)), (cA, cD1 w.params [c] (kTok st 3 0) (vTok st 3 0))]
noncomputable def ckw1H (w : World) (G : Gs) (L iA aA cA : Nat) (oL : Obj) (b : List Nat) (t kt vt : Tok) (i : Nat) (c : Nat) (s0 : List Nat) (xs xs2 : List (List Nat)) (v : Nat → Tok) (n : Nat) (ys : Nat → Yv) : List HD := [HD.sNext false 1 b i c, HD.has vowelsL c false, HD.app 2 xs xs2 [c] v n]
noncomputable def cvw1 (w : World) (G : Gs) (L iA aA cA : Nat) (oL : Obj) (b : List Nat) (t kt vt : Tok) (i : Nat) (c : Nat) (s0 : List Nat) (xs xs2 : List (List Nat)) (v : Nat → Tok) (n : Nat) : ScT PySem.Fin := ⟨G, denote treeTable ((twLoop L iA aA cA)), [2,1,4,4,4,0,1], [(L, oL), (iA, strItO false b t i), (aA, strLn xs v n), (cA, (cD1 w.params s0 kt vt))], [HD.sNext false 1 b i c, HD.has vowelsL c true], (fun _ => .ok (.again (twLoop L iA aA cA))), (fun _ => (fun st => [(L, oL), (iA, strItO false b (vTok st 1 0) ((i : Int) + 1)), (aA, strLn xs v n), (cA, cD1 w.params [c] (kTok st 3 0) (vTok st 3 0))]))⟩
noncomputable def cew (w : World) (G : Gs) (L iA aA cA : Nat) (oL : Obj) (b : List Nat) (t kt vt : Tok) (i : Nat) (c : Nat) (s0 : List Nat) (xs xs2 : List (List Nat)) (v : Nat → Tok) (n : Nat) : ScT PySem.Fin := ⟨G, denote treeTable ((twLoop L iA aA cA)), [2,1,6], [(L, oL), (iA, strItO false b t i), (aA, strLn xs v n), (cA, cD1 w.params s0 kt vt)], [HD.sEnd false 1 b i], (fun _ => .ok (.done .next)), (fun _ => (fun st => [(L, oL), (iA, strEndO false i), (aA, strLn xs v n), (cA, cD1 w.params s0 kt vt), pairAt st 4, pairAt st 5]))⟩
noncomputable def cpia (w : World) (G : Gs) (L iA aA cA : Nat) (oL oA oC : Obj) (b : List Nat) (t : Tok) : ScT Value := ⟨G, pyIter (.ref iA), [2,2,0,2,2], [(L, oL), (iA, strItO true b t 0), (aA, oA), (cA, oC)], [], (fun _ => .ok (.ref iA)), (fun _ st => [(L, oL), (iA, strItO true b (vTok st 1 0) 0), (aA, oA), (cA, oC)])⟩
noncomputable def cpiaQ (w : World) (G : Gs) (L iA aA cA : Nat) (oL oA oC : Obj) (b : List Nat) (t : Tok) : Road Value := (cpia w G L iA aA cA oL oA oC b t).Q w
theorem cpiaQ_self : cpiaQ = cpiaQ := rfl
noncomputable def cpiw (w : World) (G : Gs) (L iA aA cA : Nat) (oL oA oC : Obj) (b : List Nat) (t : Tok) : ScT Value := ⟨G, pyIter (.ref iA), [2,2,0,2,2], [(L, oL), (iA, strItO false b t 0), (aA, oA), (cA, oC)], [], (fun _ => .ok (.ref iA)), (fun _ st => [(L, oL), (iA, strItO false b (vTok st 1 0) 0), (aA, oA), (cA, oC)])⟩
noncomputable def cpiwQ (w : World) (G : Gs) (L iA aA cA : Nat) (oL oA oC : Obj) (b : List Nat) (t : Tok) : Road Value := (cpiw w G L iA aA cA oL oA oC b t).Q w
theorem cpiwQ_self : cpiwQ = cpiwQ := rfl
end Mine
end
open PySem.W.Fast
name_quick cpiaQq for Mine.cpiaQ by Mine.cpiaQ_self
name_quick cpiwQq for Mine.cpiwQ by Mine.cpiwQ_self
section
namespace Mine
theorem wordF_ok (w : World) (G : Gs)  (x0 x1 x2 x3 : Value) : wordF.Ok w G [1,1,1,1,1,1,1,1] ([] : St) [x0, x1, x2, x3] := okN (FnAt.mk' (sv "law_af0032_01" 3127) (by kernel_rfl) (by kernel_rfl) (by kernel_rfl) (by kernel_rfl)) (by kernel_rfl) (fun pm => by kernel_rfl) (by kernel_rfl)
theorem twa_ok (w : World) (G : Gs) (L : Nat) (k v : Nat → Tok) (b cl : List Nat) (x y : Int) (z bc : List Nat) : (twa w G L k v b cl x y z bc).Ok w := okE (S := fun w => twa w G L k v b cl x y z bc) (fun _ => rfl) (by kernel_rfl) (by kernel_rfl) w
theorem twb_ok (w : World) (G : Gs) (L : Nat) (k v : Nat → Tok) (b cl : List Nat) (x y : Int) (z1 iv sm ls z : List Nat) : (twb w G L k v b cl x y z1 iv sm ls z).Ok w := okE (S := fun w => twb w G L k v b cl x y z1 iv sm ls z) (fun _ => rfl) (by kernel_rfl) (by kernel_rfl) w
theorem twc_ok (w : World) (G : Gs) (L : Nat) (k v : Nat → Tok) (b cl : List Nat) (x y : Int) : (twc w G L k v b cl x y).Ok w := okE (S := fun w => twc w G L k v b cl x y) (fun _ => rfl) (by kernel_rfl) (by kernel_rfl) w
theorem twda_ok (w : World) (G : Gs) (L : Nat) (k v : Nat → Tok) (b cl : List Nat) (x y : Int) (br : List Nat) (xs : List (List Nat)) : (twda w G L k v b cl x y br xs).OkY (twdaN w G L k v b cl x y br xs) (twdaH w G L k v b cl x y br xs) w := okEY (S := fun w => twda w G L k v b cl x y br xs) (nY := fun w => twdaN w G L k v b cl x y br xs) (hY := fun w => twdaH w G L k v b cl x y br xs) (fun _ => rfl) (by kernel_rfl) (by kernel_rfl) w
theorem twdw_ok (w : World) (G : Gs) (L : Nat) (k v : Nat → Tok) (b cl : List Nat) (x y : Int) (br : List Nat) (xs : List (List Nat)) : (twdw w G L k v b cl x y br xs).OkY (twdwN w G L k v b cl x y br xs) (twdwH w G L k v b cl x y br xs) w := okEY (S := fun w => twdw w G L k v b cl x y br xs) (nY := fun w => twdwN w G L k v b cl x y br xs) (hY := fun w => twdwH w G L k v b cl x y br xs) (fun _ => rfl) (by kernel_rfl) (by kernel_rfl) w
theorem twe_ok (w : World) (G : Gs) (L : Nat) (k v : Nat → Tok) (b cl : List Nat) (x y : Int) (br z1 ls z : List Nat) : (twe w G L k v b cl x y br z1 ls z).Ok w := okE (S := fun w => twe w G L k v b cl x y br z1 ls z) (fun _ => rfl) (by kernel_rfl) (by kernel_rfl) w
theorem cka0_ok (w : World) (G : Gs) (L iA aA cA : Nat) (oL : Obj) (b : List Nat) (t kt vt : Tok) (i : Nat) (c : Nat) (s0 : List Nat) (xs xs2 : List (List Nat)) (v : Nat → Tok) (n : Nat) : (cka0 w G L iA aA cA oL b t kt vt i c s0 xs xs2 v n).OkY (cka0N w G L iA aA cA oL b t kt vt i c s0 xs xs2 v n) (cka0H w G L iA aA cA oL b t kt vt i c s0 xs xs2 v n) w := okDY (S := fun w => cka0 w G L iA aA cA oL b t kt vt i c s0 xs xs2 v n) (nY := fun w => cka0N w G L iA aA cA oL b t kt vt i c s0 xs xs2 v n) (hY := fun w => cka0H w G L iA aA cA oL b t kt vt i c s0 xs xs2 v n) (l := fun w => (twLoop L iA aA cA)) (fun _ => rfl) (by kernel_rfl) (by kernel_rfl) w
theorem cva0_ok (w : World) (G : Gs) (L iA aA cA : Nat) (oL : Obj) (b : List Nat) (t kt vt : Tok) (i : Nat) (c : Nat) (s0 : List Nat) (xs xs2 : List (List Nat)) (v : Nat → Tok) (n : Nat) : (cva0 w G L iA aA cA oL b t kt vt i c s0 xs xs2 v n).Ok w := okD (S := fun w => cva0 w G L iA aA cA oL b t kt vt i c s0 xs xs2 v n) (l := fun w => (twLoop L iA aA cA)) (fun _ => rfl) (by kernel_rfl) (by kernel_rfl) w
theorem cka1_ok (w : World) (G : Gs) (L iA aA cA : Nat) (oL : Obj) (b : List Nat) (t kt vt : Tok) (i : Nat) (c : Nat) (s0 : List Nat) (xs xs2 : List (List Nat)) (v : Nat → Tok) (n : Nat) : (cka1 w G L iA aA cA oL b t kt vt i c s0 xs xs2 v n).OkY (cka1N w G L iA aA cA oL b t kt vt i c s0 xs xs2 v n) (cka1H w G L iA aA cA oL b t kt vt i c s0 xs xs2 v n) w := okDY (S := fun w => cka1 w G L iA aA cA oL b t kt vt i c s0 xs xs2 v n) (nY := fun w => cka1N w G L iA aA cA oL b t kt vt i c s0 xs xs2 v n) (hY := fun w => cka1H w G L iA aA cA oL b t kt vt i c s0 xs xs2 v n) (l := fun w => (twLoop L iA aA cA)) (fun _ => rfl) (by kernel_rfl) (by kernel_rfl) w
theorem cva1_ok (w : World) (G : Gs) (L iA aA cA : Nat) (oL : Obj) (b : List Nat) (t kt vt : Tok) (i : Nat) (c : Nat) (s0 : List Nat) (xs xs2 : List (List Nat)) (v : Nat → Tok) (n : Nat) : (cva1 w G L iA aA cA oL b t kt vt i c s0 xs xs2 v n).Ok w := okD (S := fun w => cva1 w G L iA aA cA oL b t kt vt i c s0 xs xs2 v n) (l := fun w => (twLoop L iA aA cA)) (fun _ => rfl) (by kernel_rfl) (by kernel_rfl) w
theorem cea_ok (w : World) (G : Gs) (L iA aA cA : Nat) (oL : Obj) (b : List Nat) (t kt vt : Tok) (i : Nat) (c : Nat) (s0 : List Nat) (xs xs2 : List (List Nat)) (v : Nat → Tok) (n : Nat) : (cea w G L iA aA cA oL b t kt vt i c s0 xs xs2 v n).Ok w := okD (S := fun w => cea w G L iA aA cA oL b t kt vt i c s0 xs xs2 v n) (l := fun w => (twLoop L iA aA cA)) (fun _ => rfl) (by kernel_rfl) (by kernel_rfl) w
theorem ckw0_ok (w : World) (G : Gs) (L iA aA cA : Nat) (oL : Obj) (b : List Nat) (t kt vt : Tok) (i : Nat) (c : Nat) (s0 : List Nat) (xs xs2 : List (List Nat)) (v : Nat → Tok) (n : Nat) : (ckw0 w G L iA aA cA oL b t kt vt i c s0 xs xs2 v n).OkY (ckw0N w G L iA aA cA oL b t kt vt i c s0 xs xs2 v n) (ckw0H w G L iA aA cA oL b t kt vt i c s0 xs xs2 v n) w := okDY (S := fun w => ckw0 w G L iA aA cA oL b t kt vt i c s0 xs xs2 v n) (nY := fun w => ckw0N w G L iA aA cA oL b t kt vt i c s0 xs xs2 v n) (hY := fun w => ckw0H w G L iA aA cA oL b t kt vt i c s0 xs xs2 v n) (l := fun w => (twLoop L iA aA cA)) (fun _ => rfl) (by kernel_rfl) (by kernel_rfl) w
theorem cvw0_ok (w : World) (G : Gs) (L iA aA cA : Nat) (oL : Obj) (b : List Nat) (t kt vt : Tok) (i : Nat) (c : Nat) (s0 : List Nat) (xs xs2 : List (List Nat)) (v : Nat → Tok) (n : Nat) : (cvw0 w G L iA aA cA oL b t kt vt i c s0 xs xs2 v n).Ok w := okD (S := fun w => cvw0 w G L iA aA cA oL b t kt vt i c s0 xs xs2 v n) (l := fun w => (twLoop L iA aA cA)) (fun _ => rfl) (by kernel_rfl) (by kernel_rfl) w
theorem ckw1_ok (w : World) (G : Gs) (L iA aA cA : Nat) (oL : Obj) (b : List Nat) (t kt vt : Tok) (i : Nat) (c : Nat) (s0 : List Nat) (xs xs2 : List (List Nat)) (v : Nat → Tok) (n : Nat) : (ckw1 w G L iA aA cA oL b t kt vt i c s0 xs xs2 v n).OkY (ckw1N w G L iA aA cA oL b t kt vt i c s0 xs xs2 v n) (ckw1H w G L iA aA cA oL b t kt vt i c s0 xs xs2 v n) w := okDY (S := fun w => ckw1 w G L iA aA cA oL b t kt vt i c s0 xs xs2 v n) (nY := fun w => ckw1N w G L iA aA cA oL b t kt vt i c s0 xs xs2 v n) (hY := fun w => ckw1H w G L iA aA cA oL b t kt vt i c s0 xs xs2 v n) (l := fun w => (twLoop L iA aA cA)) (fun _ => rfl) (by kernel_rfl) (by kernel_rfl) w
theorem cvw1_ok (w : World) (G : Gs) (L iA aA cA : Nat) (oL : Obj) (b : List Nat) (t kt vt : Tok) (i : Nat) (c : Nat) (s0 : List Nat) (xs xs2 : List (List Nat)) (v : Nat → Tok) (n : Nat) : (cvw1 w G L iA aA cA oL b t kt vt i c s0 xs xs2 v n).Ok w := okD (S := fun w => cvw1 w G L iA aA cA oL b t kt vt i c s0 xs xs2 v n) (l := fun w => (twLoop L iA aA cA)) (fun _ => rfl) (by kernel_rfl) (by kernel_rfl) w
theorem cew_ok (w : World) (G : Gs) (L iA aA cA : Nat) (oL : Obj) (b : List Nat) (t kt vt : Tok) (i : Nat) (c : Nat) (s0 : List Nat) (xs xs2 : List (List Nat)) (v : Nat → Tok) (n : Nat) : (cew w G L iA aA cA oL b t kt vt i c s0 xs xs2 v n).Ok w := okD (S := fun w => cew w G L iA aA cA oL b t kt vt i c s0 xs xs2 v n) (l := fun w => (twLoop L iA aA cA)) (fun _ => rfl) (by kernel_rfl) (by kernel_rfl) w
theorem cpia_ok (w : World) (G : Gs) (L iA aA cA : Nat) (oL oA oC : Obj) (b : List Nat) (t : Tok) : (cpia w G L iA aA cA oL oA oC b t).Ok w := okT (S := fun w => cpia w G L iA aA cA oL oA oC b t) (fun w => PySem.W.Fast.cpiaQq w G L iA aA cA oL oA oC b t) (fun w => by rw [← PySem.W.Fast.cpiaQq_eq]; rfl) (fun w c own past below p σ => by kernel_rfl) (fun w c own past below p σ => by kernel_rfl) w
theorem cpiw_ok (w : World) (G : Gs) (L iA aA cA : Nat) (oL oA oC : Obj) (b : List Nat) (t : Tok) : (cpiw w G L iA aA cA oL oA oC b t).Ok w := okT (S := fun w => cpiw w G L iA aA cA oL oA oC b t) (fun w => PySem.W.Fast.cpiwQq w G L iA aA cA oL oA oC b t) (fun w => by rw [← PySem.W.Fast.cpiwQq_eq]; rfl) (fun w c own past below p σ => by kernel_rfl) (fun w c own past below p σ => by kernel_rfl) w
end Mine
end
end
section
open PySem PySem.W PyProof.Rows
set_option maxRecDepth 100000
section
namespace Mine
noncomputable def isLC : PySem.Expr → Bool
  | .ListComp _ (g :: _) _ _ => decide (g.is_async = 0)
  | _ => false
theorem isLC_cases {e : PySem.Expr} (h : isLC e = true) : ∃ elt target iter ifs rest sc pos, e = .ListComp elt (⟨target, iter, ifs, 0⟩ :: rest) sc pos := by
  unfold isLC at h
  split at h
  · rename_i elt g rest sc pos
    obtain ⟨t, i, f, a⟩ := g
    obtain rfl : a = 0 := of_decide_eq_true h
    exact ⟨elt, t, i, f, rest, sc, pos, rfl⟩
  · cases h
theorem compStart_any {w : World} {A : Around} {R : Result → Shared → Prop} {s : Shared} {e : PySem.Expr} (he : isLC e = true) {it acc : Value} {env : Env}
    (h0 : codeAny (model P0 w) A (.compLoop e 0 it acc env) R s) (h : wpAny (model P0 w) A (pyIter it) (fun it' s' => codeAny (model P0 w) A (.compLoop e 0 it' acc env) R s') (fun _ _ => False) s) :
    codeAny (model P0 w) A (.compStart e 0 it acc env) R s := by
  obtain ⟨elt, target, iter, ifs, rest, sc, pos, rfl⟩ := isLC_cases he
  exact codeAny_compStart_list h0 (wpAny_mono h (fun _ _ q => q) fun _ _ q => q.elim)
section
variable {w : World} {G : Gs} {s₀ s : Shared} {X : XS} {A : Around} {D : Nat} {L iA aA cA : Nat} {oL : Obj} {b : List Nat} {Post : Result → Shared → Prop}
theorem cStep (asc fst : Bool) {t kt vt : Tok} {i c : Nat} {s0 : List Nat} {xs : List (List Nat)} {v : Nat → Tok} {n : Nat} (hi : b[i]? = some c) (hl : xs.length ≤ 1000) (hA : A.handled = none) (hD : A.depth ≤ D) (hF : ∀ l, X.l = some l → A.frames = some l)
    (R : Rl w G s₀ X [(L, oL), (iA, strItO asc b t i), (aA, strLn xs v n), (cA, bif fst then cD0 else cD1 w.params s0 kt vt)] s)
    (K : ∀ s' t' kt' vt' v' n', Rl w G s₀ X [(L, oL), (iA, strItO asc b t' ((i : Int) + 1)), (aA, strLn (xs ++ (if inStr vowelsL c then [] else [[c]])) v' n'), (cA, cD1 w.params [c] kt' vt')] s' → codeAny (model P0 w) A (twLoop L iA aA cA) Post s') :
    codeAny (model P0 w) A (twLoop L iA aA cA) Post s := by
  cases hin : inStr vowelsL c
  · rw [hin, if_neg (by decide)] at K
    have HH : ∀ asc, ∀ ys : Nat → Yv, AllH w G (D + 20) s₀ X [HD.sNext asc 1 b i c, HD.has vowelsL c false, HD.app 2 xs (xs ++ [[c]]) [c] v n] := fun asc ys => .c (HDOk.sNext hi) <| .c (HDOk.has hin) <| .c (HDOk.app rfl hl) .n
    cases asc <;> cases fst
    · exact (ckw1_ok w G L iA aA cA oL b t kt vt i c s0 xs (xs ++ [[c]]) v n).turn (D := D) (fun _ => rfl) rfl rfl rfl (HH false) hA hD hF R fun ys _ st' s' R' => ⟨rfl, K _ _ _ _ _ _ R'⟩
    · exact (ckw0_ok w G L iA aA cA oL b t kt vt i c s0 xs (xs ++ [[c]]) v n).turn (D := D) (fun _ => rfl) rfl rfl rfl (HH false) hA hD hF R fun ys _ st' s' R' => ⟨rfl, K _ _ _ _ _ _ R'⟩
    · exact (cka1_ok w G L iA aA cA oL b t kt vt i c s0 xs (xs ++ [[c]]) v n).turn (D := D) (fun _ => rfl) rfl rfl rfl (HH true) hA hD hF R fun ys _ st' s' R' => ⟨rfl, K _ _ _ _ _ _ R'⟩
    · exact (cka0_ok w G L iA aA cA oL b t kt vt i c s0 xs (xs ++ [[c]]) v n).turn (D := D) (fun _ => rfl) rfl rfl rfl (HH true) hA hD hF R fun ys _ st' s' R' => ⟨rfl, K _ _ _ _ _ _ R'⟩
  · rw [hin, if_pos rfl, List.append_nil] at K
    have HH : ∀ asc, AllH w G (D + 20) s₀ X [HD.sNext asc 1 b i c, HD.has vowelsL c true] := fun asc => .c (HDOk.sNext hi) <| .c (HDOk.has hin) .n
    cases asc <;> cases fst
    · exact (cvw1_ok w G L iA aA cA oL b t kt vt i c s0 xs xs v n).turn (D := D) rfl rfl rfl (HH false) hA hD hF R fun _ st' s' R' => ⟨rfl, K _ _ _ _ _ _ R'⟩
    · exact (cvw0_ok w G L iA aA cA oL b t kt vt i c s0 xs xs v n).turn (D := D) rfl rfl rfl (HH false) hA hD hF R fun _ st' s' R' => ⟨rfl, K _ _ _ _ _ _ R'⟩
    · exact (cva1_ok w G L iA aA cA oL b t kt vt i c s0 xs xs v n).turn (D := D) rfl rfl rfl (HH true) hA hD hF R fun _ st' s' R' => ⟨rfl, K _ _ _ _ _ _ R'⟩
    · exact (cva0_ok w G L iA aA cA oL b t kt vt i c s0 xs xs v n).turn (D := D) rfl rfl rfl (HH true) hA hD hF R fun _ st' s' R' => ⟨rfl, K _ _ _ _ _ _ R'⟩
theorem bareL_snoc (d : List Nat) (c : Nat) : bareL (d ++ [c]) = bareL d ++ (if inStr vowelsL c then [] else [[c]]) := by
  unfold bareL bareP
  rw [List.filter_append, List.map_append]
  congr 1
  cases h : inStr vowelsL c <;> simp [h]
noncomputable def cDone (w : World) (G : Gs) (s₀ : Shared) (X : XS) (L iA aA cA : Nat) (oL : Obj) (asc : Bool) (b : List Nat) (r : Result) (s : Shared) : Prop :=
  ∃ (c : Nat) (kt vt : Tok) (v : Nat → Tok) (n : Nat), r = .ok .next ∧ Rl w G s₀ X [(L, oL), (iA, strEndO asc b.length), (aA, strLn (bareL b) v n), (cA, cD1 w.params [c] kt vt)] s
theorem bareL_len (d : List Nat) : (bareL d).length ≤ d.length := by
  unfold bareL bareP
  rw [List.length_map]; exact List.length_filter_le _ _
theorem cRest (asc : Bool) (hb : b.length ≤ 1000) (hA : A.handled = none) (hD : A.depth ≤ D) (hF : ∀ l, X.l = some l → A.frames = some l) : ∀ (r d : List Nat), b = d ++ r → ∀ (s : Shared) (c0 : Nat) (t kt vt : Tok) (v : Nat → Tok) (n : Nat),
    Rl w G s₀ X [(L, oL), (iA, strItO asc b t (d.length : Nat)), (aA, strLn (bareL d) v n), (cA, cD1 w.params [c0] kt vt)] s → codeAny (model P0 w) A (twLoop L iA aA cA) (cDone w G s₀ X L iA aA cA oL asc b) s
  | [], d, hd, s, c0, t, kt, vt, v, n, R => by
    rw [List.append_nil] at hd
    subst hd
    cases asc
    · exact (cew_ok w G L iA aA cA oL b t kt vt b.length c0 [c0] (bareL b) (bareL b) v n).turn (D := D) rfl rfl rfl (.c (HDOk.sEnd (Nat.le_refl _)) .n) hA hD hF R fun _ st' s' R' => ⟨c0, kt, vt, v, n, rfl, Rel.cut (l := [(L, oL), (iA, strEndO false b.length), (aA, strLn (bareL b) v n), (cA, cD1 w.params [c0] kt vt)]) R'⟩
    · exact (cea_ok w G L iA aA cA oL b t kt vt b.length c0 [c0] (bareL b) (bareL b) v n).turn (D := D) rfl rfl rfl (.c (HDOk.sEnd (Nat.le_refl _)) .n) hA hD hF R fun _ st' s' R' => ⟨c0, kt, vt, v, n, rfl, Rel.cut (l := [(L, oL), (iA, strEndO true b.length), (aA, strLn (bareL b) v n), (cA, cD1 w.params [c0] kt vt)]) R'⟩
  | c :: r, d, hd, s, c0, t, kt, vt, v, n, R => by
    have hdl : d.length ≤ b.length := by rw [hd, List.length_append]; lia
    have hbl := bareL_len d
    refine cStep asc false (i := d.length) (c := c) (s0 := [c0]) (kt := kt) (vt := vt) (by rw [hd]; simp) (by lia) hA hD hF R fun s' t' kt' vt' v' n' R' => ?_
    rw [← bareL_snoc, show ((d.length : Int) + 1) = ((d ++ [c]).length : Nat) by simp] at R'
    exact cRest asc hb hA hD hF r (d ++ [c]) (by rw [hd]; simp) s' c t' kt' vt' v' n' R'
theorem cAll (asc : Bool) (hb : b.length ≤ 1000) (hne : b ≠ []) (hA : A.handled = none) (hD : A.depth ≤ D) (hF : ∀ l, X.l = some l → A.frames = some l) {t : Tok}
    (R : Rl w G s₀ X [(L, oL), (iA, strItO asc b t 0), (aA, listO #[] 0), (cA, cD0)] s) : codeAny (model P0 w) A (twLoop L iA aA cA) (cDone w G s₀ X L iA aA cA oL asc b) s := by
  cases hbb : b with
  | nil => exact absurd hbb hne
  | cons c r =>
    rw [hbb] at R hb
    refine cStep asc true (b := c :: r) (i := 0) (c := c) (s0 := []) (kt := 0) (vt := 0) (xs := []) (v := fun _ => 0) (n := 0) rfl (by decide) hA hD hF R fun s' t' kt' vt' v' n' R' => ?_
    have e := bareL_snoc [] c
    rw [show bareL [] = [] from rfl] at e
    rw [← e] at R'
    exact cRest asc hb hA hD hF r [c] rfl s' c t' kt' vt' v' n' R'
theorem cIter (asc : Bool) (hA : A.handled = none) (hD : A.depth ≤ D) (hF : ∀ l, X.l = some l → A.frames = some l) {t : Tok} {oA oC : Obj} {Q : Value → Shared → Prop} {E : Value → Shared → Prop} (R : Rl w G s₀ X [(L, oL), (iA, strItO asc b t 0), (aA, oA), (cA, oC)] s)
    (K : ∀ s' t', Rl w G s₀ X [(L, oL), (iA, strItO asc b t' 0), (aA, oA), (cA, oC)] s' → Q (.ref iA) s') : wpAny (model P0 w) A (pyIter (.ref iA)) Q E s := by
  cases asc
  · refine wpAny_mono ((cpiw_ok w G L iA aA cA oL oA oC b t).tree (D := D) .n hA hD hF R) (fun a s' q => ?_) fun a s' q => ?_
    · obtain ⟨x, st', e, R'⟩ := q
      cases e; exact K s' _ R'
    · obtain ⟨x, st', e, R'⟩ := q
      cases e
  · refine wpAny_mono ((cpia_ok w G L iA aA cA oL oA oC b t).tree (D := D) .n hA hD hF R) (fun a s' q => ?_) fun a s' q => ?_
    · obtain ⟨x, st', e, R'⟩ := q
      cases e; exact K s' _ R'
    · obtain ⟨x, st', e, R'⟩ := q
      cases e
theorem HDOk.compS {asc : Bool} {cl : List Nat} {x y kd n : Int} {xs : List (List Nat)} (hx : bareL b = xs) (hb : b.length ≤ 1000) (hne : b ≠ []) : HDOk w G D s₀ X (HD.compS w.params asc L b cl x y kd n xs) := by
  subst hx
  intro cc st A s hA hD hF R
  have fin : ∀ s' t', Rl w G s₀ X [(L, frT w.params (twN b cl x y kd n) (kTok st 0) (vTok st 0)), (addrAt st 1, strItO asc b t' 0), (addrAt st 2, listO #[] 0), (addrAt st 3, cD0)] s' →
      codeAny (model P0 w) A (twLoop L (addrAt st 1) (addrAt st 2) (addrAt st 3)) (fun r s' => ∃ y', r = (HD.compS w.params asc L b cl x y kd n (bareL b)).res y' ∧ Rl w G s₀ X ((HD.compS w.params asc L b cl x y kd n (bareL b)).post y' ((HD.compS w.params asc L b cl x y kd n (bareL b)).pre st)) s') s' := fun s' t' R' => by
    refine codeAny_mono (cAll asc hb hne hA hD hF R') fun r s'' q => ?_
    obtain ⟨c, kt, vt, v, m, e, R2⟩ := q
    exact ⟨⟨fun i => match i with | 0 => m | 1 => kt | 2 => vt | _ => c, fun _ _ => 0, fun _ => v, fun _ => #[]⟩, e, R2⟩
  exact compStart_any (by kernel_rfl) (fin s _ R) (cIter asc hA hD hF R fun s' t' R' => fin s' t' R')
end
end Mine
end
end
section
open PySem PySem.W PyProof.Rows
set_option maxRecDepth 100000
section
namespace Mine
noncomputable def innerP (n : Int) : List Nat := innerL.getD (n % 10).toNat []
noncomputable def wordP (b cl : List Nat) (x y : Int) : List Nat × List Nat :=
  if x % 4 < 2 then (layeredP b cl (x / 4) y, b ++ cl)
  else if x % 4 = 2 then (b ++ cl ++ innerP (x / 4) ++ lastP y, b ++ cl ++ innerP (x / 4))
  else (bareP b ++ cl ++ lastP y, bareP b ++ cl ++ lastP y)
theorem tw_stmtsA : fnBody wordF.st = stms twS [] 0 3 ++ stms twS [] 3 3 := by kernel_rfl
theorem tw_stmtsC : fnBody wordF.st = stms twS [] 0 4 ++ (stms twS [] 4 1 ++ stms twS [] 5 1) := by kernel_rfl
theorem lastP_len (y : Int) : (lastP y).length ≤ 10 := by
  have h0 : 0 ≤ y % 55 := Int.emod_nonneg _ (by decide)
  have h1 : y % 55 < 55 := Int.emod_lt_of_pos _ (by decide)
  unfold lastP
  split
  · exact of_decide_eq_true (List.all_eq_true.mp (by decide : (casesL.all fun x => decide (x.length ≤ 10)) = true) _ (List.mem_of_getElem? (getD_some (by show _ < 44; lia))))
  · exact of_decide_eq_true (List.all_eq_true.mp (by decide : (outerL.all fun x => decide (x.length ≤ 10)) = true) _ (List.mem_of_getElem? (getD_some (by show _ < 11; lia))))
theorem innerP_some (n : Int) : innerL[(n % 10).toNat]? = some (innerP n) := by
  have h0 : 0 ≤ n % 10 := Int.emod_nonneg _ (by decide)
  have h1 : n % 10 < 10 := Int.emod_lt_of_pos _ (by decide)
  exact getD_some (by show _ < 10; lia)
theorem innerP_len (n : Int) : (innerP n).length ≤ 10 := of_decide_eq_true (List.all_eq_true.mp (by decide : (innerL.all fun x => decide (x.length ≤ 10)) = true) _ (List.mem_of_getElem? (innerP_some n)))
theorem bareP_len (b : List Nat) : (bareP b).length ≤ b.length := List.length_filter_le _ _
theorem bareL_flat (b : List Nat) : (bareL b).flatten = bareP b := by
  unfold bareL
  induction bareP b with
  | nil => rfl
  | cons c r ih => rw [List.map_cons, List.flatten_cons, ih]; rfl
section
variable {w : World} {G : Gs} {D : Nat}
theorem word_spec (hG : G.ro = []) (hD : D < 650) {b cl : List Nat} {x y : Int} (hb : b.length ≤ 100) (hb0 : b ≠ []) (hcl : cl.length ≤ 10) (hcl0 : cl ≠ []) {t0 t1 t2 t3 : Tok} :
    CSpec w G false D (.call (.ref 981) ⟨[.str (sOf b) t0, .str (sOf cl) t1, .int x t2, .int y t3], []⟩) [] (fun r _ ex => ∃ a v, r = .ok (.ret (.ref a)) ∧ ex = [(a, tupT (wordP b cl x y).1 (wordP b cl x y).2 v)]) := by
  refine Fn.Ok.call (F := wordF) (wordF_ok w G _ _ _ _) (Nat.lt_of_lt_of_le hD (by decide)) fun L ts A s l hA hD' hF R => ?_
  refine func_of_execs ?_
  have hS : ∀ x : List Nat, x.length ≤ 200 → (sOf x).length ≤ 10000 := fun x h => by rw [sOf_len]; lia
  have add : ∀ (x z : List Nat) (D : Nat) (s₀ : Shared) (X : XS), x.length ≤ 200 → z.length ≤ 200 → HDOk w G D s₀ X (HD.sAddR (sOf x) (sOf z) (sOf (x ++ z))) := fun x z D s₀ X h1 h2 => HDOk.sAddR (sOf_app x z) (hS x h1) (hS z h2)
  have hbl := bareP_len b
  have hll := lastP_len y
  have hil := innerP_len (x / 4)
  have goal : ∀ A', A'.handled = none → A'.depth ≤ D + 1 → wpAny (model P0 w) A' (execs (fnBody wordF.st) (twEnv L)) (fun f s' => ∃ a oL v, f = .ret (.ref a) ∧ Rl w G s ⟨[L], [], none⟩ ((L, oL) :: [(a, tupT (wordP b cl x y).1 (wordP b cl x y).2 v)]) s') (fun _ _ => False) s := by
    intro A' hA' hD2
    have hF' : ∀ l', (⟨[L], [], none⟩ : XS).l = some l' → A'.frames = some l' := fun l' h => by cases h
    have R0 : Rl w G s ⟨[L], [], none⟩ [(L, frT w.params (twN0 b cl x y) ts (fun i => [t0, t1, t2, t3].getD i 0))] s := R
    by_cases h2 : x % 4 < 2
    · have e : wordP b cl x y = (layeredP b cl (x / 4) y, b ++ cl) := if_pos h2
      rw [e, tw_stmtsA]
      refine wpAny_execs_app _ ((twa_ok w G L _ _ b cl x y (layeredP b cl (x / 4) y) (b ++ cl)).next (D := D + 1) (.c (HDOk.modI (by decide)) <| .c (HDOk.divI (by decide) (by decide)) <| .c (HDOk.lt_true h2) <| .c (HDOk.layR hG (by lia) rfl hb hcl hcl0) <| .c (add _ _ _ _ _ (by lia) (by lia)) .n) hA' hD2 hF' R0 fun xo st' s' R' => .inr ⟨(fun h => by cases h), ?_⟩)
      exact ⟨_, _, _, rfl, R'⟩
    · by_cases h3 : x % 4 = 2
      · have e : wordP b cl x y = (b ++ cl ++ innerP (x / 4) ++ lastP y, b ++ cl ++ innerP (x / 4)) := by unfold wordP; rw [if_neg h2, if_pos h3]
        rw [e, tw_stmtsC]
        refine wpAny_execs_app _ ((twb_ok w G L _ _ b cl x y (b ++ cl) (innerP (x / 4)) (b ++ cl ++ innerP (x / 4)) (lastP y) (b ++ cl ++ innerP (x / 4) ++ lastP y)).next (D := D + 1) (.c (HDOk.modI (by decide)) <| .c (HDOk.divI (by decide) (by decide)) <| .c (HDOk.lt_false h2) <| .c (HDOk.eq_true h3) <| .c (add _ _ _ _ _ (by lia) (by lia)) <| .c (HDOk.mkL (D' := D + 21) (inner_spec (by lia)) (Nat.le_refl _)) <| .c (HDOk.modI (by decide)) <| .c (HDOk.sGetL (Int.emod_nonneg _ (by decide)) (innerP_some _) (by have := Int.emod_lt_of_pos (x / 4) (show (0 : Int) < 10 by decide); lia)) <| .c (add _ _ _ _ _ (by simp only [List.length_append]; lia) (by lia)) <| .c (HDOk.lastR (by lia) rfl) <| .c (add _ _ _ _ _ (by simp only [List.length_append]; lia) (by lia)) .n) hA' hD2 hF' R0 fun xo st' s' R' => .inr ⟨(fun h => by cases h), ?_⟩)
        refine ⟨_, objAt st' 0, vTok st' 2, rfl, ?_⟩
        have R2 : Rl w G s ⟨[L], [], none⟩ ([(L, objAt st' 0), (refF xo, tupT (b ++ cl ++ innerP (x / 4) ++ lastP y) (b ++ cl ++ innerP (x / 4)) (vTok st' 2))] ++ [pairAt st' 1]) s' := Rel.perm R' (.cons _ (.swap _ _ _))
        exact Rel.cut R2
      · have e : wordP b cl x y = (bareP b ++ cl ++ lastP y, bareP b ++ cl ++ lastP y) := by unfold wordP; rw [if_neg h2, if_neg h3]
        rw [e, tw_stmtsC]
        refine wpAny_execs_app _ ((twc_ok w G L _ _ b cl x y).next (D := D + 1) (.c (HDOk.modI (by decide)) <| .c (HDOk.divI (by decide) (by decide)) <| .c (HDOk.lt_false h2) <| .c (HDOk.eq_false h3) .n) hA' hD2 hF' R0 fun xo st1 s1 R1 => .inl ⟨rfl, ?_⟩)
        have fin : ∀ s2 k v, Rl w G s ⟨[L], [], none⟩ [(L, frT w.params (twN5 b cl x y (x % 4) (x / 4) (bareP b)) k v)] s2 → wpAny (model P0 w) A' (execs (stms twS [] 5 1) (twEnv L)) (fun f s' => ∃ a oL v, f = .ret (.ref a) ∧ Rl w G s ⟨[L], [], none⟩ ((L, oL) :: [(a, tupT (bareP b ++ cl ++ lastP y) (bareP b ++ cl ++ lastP y) v)]) s') (fun _ _ => False) s2 := fun s2 k v R2 => by
          have a1 := fun D s₀ X => add (bareP b) cl D s₀ X (by lia) (by lia)
          have a2 := fun D s₀ X => add (bareP b ++ cl) (lastP y) D s₀ X (by simp only [List.length_append]; lia) (by lia)
          exact (twe_ok w G L k v b cl x y (bareP b) (bareP b ++ cl) (lastP y) (bareP b ++ cl ++ lastP y)).next (D := D + 1) (.c (a1 _ _ _) <| .c (HDOk.lastR (by lia) rfl) <| .c (a2 _ _ _) <| .c (a1 _ _ _) <| .c (HDOk.lastR (by lia) rfl) <| .c (a2 _ _ _) .n) hA' hD2 hF' R2 fun xo st3 s3 R3 => ⟨_, _, _, rfl, R3⟩
        have hj : ∀ (v : Nat → Tok) (n : Nat) (D : Nat), HDOk w G D s ⟨[L], [], none⟩ (HD.join 2 (bareL b) (bareP b) v n) := fun v n D => HDOk.join (bareL_flat b) (by lia) (by have := bareL_len b; lia) (fun z hz => by
          obtain ⟨c, _, rfl⟩ := List.mem_map.mp hz
          show 1 ≤ 100; decide)
        cases hasc : b.all (· < 128)
        · exact wpAny_execs_app _ ((twdw_ok w G L _ _ b cl x y (bareP b) (bareL b)).next (D := D + 1) (fun _ => rfl) (fun ys => .c (HDOk.sIter hasc) <| .c (HDOk.compS rfl (by lia) hb0) <| .c (hj _ _ _) .n) hA' hD2 hF' R1 fun ys xo st2 s2 R2 => .inl ⟨rfl, fin s2 _ _ (Rel.cut (l := [(L, frT w.params (twN5 b cl x y (x % 4) (x / 4) (bareP b)) (kTok st2 0) (vTok st2 0))]) R2)⟩)
        · exact wpAny_execs_app _ ((twda_ok w G L _ _ b cl x y (bareP b) (bareL b)).next (D := D + 1) (fun _ => rfl) (fun ys => .c (HDOk.sIter hasc) <| .c (HDOk.compS rfl (by lia) hb0) <| .c (hj _ _ _) .n) hA' hD2 hF' R1 fun ys xo st2 s2 R2 => .inl ⟨rfl, fin s2 _ _ (Rel.cut (l := [(L, frT w.params (twN5 b cl x y (x % 4) (x / 4) (bareP b)) (kTok st2 0) (vTok st2 0))]) R2)⟩)
  refine wpAny_mono (goal _ hA (Nat.add_le_add_right hD' 1)) (fun f s' q => ?_) fun _ _ h => h
  obtain ⟨a, oL, v, rfl, R3⟩ := q
  exact ⟨[], oL, _, ⟨a, v, rfl, rfl⟩, rfl, R3⟩
noncomputable def HD.word (b cl : List Nat) (x y : Int) (p q : List Nat) : HD := ⟨fun c _ => .call (.ref 981) ⟨[.str (sOf b) (argTok c 0), .str (sOf cl) (argTok c 1), .int x (argTok c 2), .int y (argTok c 3)], []⟩, id, fun q => .ok (.ret (.ref (q.t 0))), fun y' st => push st (y'.t 0, tupT p q (y'.V 0))⟩
theorem HDOk.word (hG : G.ro = []) (hD : D < 650) {b cl p q : List Nat} {x y : Int} (hp : wordP b cl x y = (p, q)) (hb : b.length ≤ 100) (hb0 : b ≠ []) (hcl : cl.length ≤ 10) (hcl0 : cl ≠ []) {s₀ : Shared} {X : XS} : HDOk w G D s₀ X (HD.word b cl x y p q) := by
  intro cc st A s hA hA' hF R
  refine codeAny_mono ((word_spec (D := D) hG hD hb hb0 hcl hcl0).at (rest := st) hA hA' R) fun r s' z => ?_
  obtain ⟨st2, ex, ⟨a, v, e, e2⟩, hm, R'⟩ := z
  have : st2 = [] := by cases st2 with
    | nil => rfl
    | cons a b => cases hm
  subst this e2
  rw [hp] at R'
  refine ⟨⟨fun _ => a, fun _ => v, fun _ => v, fun _ => #[]⟩, e, ?_⟩
  show Rl w G s₀ X (push st (a, tupT p q v)) s'
  rw [push_eq]; exact R'
end
end Mine
end
end
section
open PySem PySem.W PyProof.Rows
set_option maxRecDepth 100000
section
namespace Mine
noncomputable abbrev swS : Stmt := fnAt 2 (some 23)
noncomputable def swEnv (L C : Nat) : Env := { fenv 194 L swS "BaseStemmer.stemWords" 193 with cells := [("self", C)] }
noncomputable def swE : PySem.Expr := lcOf (atP swS [0])
noncomputable def swC (L C K : Nat) : Env := cEnv (swEnv L C) { lcScope swE with names := (lcScope swE).names.map fun q => if q.1 == ("self" : PySem.Str) then (q.1, .cell) else q } [("self", C)] K
noncomputable def cellO (a : Nat) : Obj := ⟨.type "cell", none, .cell (some (.ref a)), #[]⟩
noncomputable def wD (P : Params) (x : List Nat) (kt vt : Tok) : Obj := ⟨.type "dict", none, .dict #[en P "word" kt (.str (sOf x) vt)] 1, #[]⟩
noncomputable def lEndO : Obj := ⟨.type "list_iterator", none, .fields #[.none, .int 4 0], #[]⟩
noncomputable def lIterO (lw : Nat) (i : Int) : Obj := ⟨.type "list_iterator", none, .fields #[.ref lw, .int i 0], #[]⟩
noncomputable def seqN (st : St) (ix : Nat) : Nat := match nth st ix with | some p => (match p.2.data with | .seq _ n => n | _ => 0) | none => 0
noncomputable def swSt (P : Params) (a d L lw C : Nat) (m : Sm) (ws : List (List Nat)) (k1 v1 : Nat → Tok) (oL : Obj) (v3 : Nat → Tok) (nw : Nat) : St := [(a, inO 878 d), (d, dictT P m k1 v1), (L, oL), (lw, strLn ws v3 nw), (C, cellO a)]
noncomputable def HD.compW (P : Params) (a d L lw C : Nat) (ws us : List (List Nat)) (m4 : Sm) (ul : List Nat) : HD :=
  ⟨fun _ st => .compStart swE 0 (.ref (addrAt st 5)) (.ref (addrAt st 6)) (swC L C (addrAt st 7)),
    fun st => swSt P a d L lw C (m0 (sOf [])) ws (kTok st 1) (vTok st 1) (objAt st 2) (vTok st 3) (seqN st 3) ++ [(addrAt st 5, lIterO lw 0), (addrAt st 6, listO #[] 0), (addrAt st 7, cD0)],
    fun _ => .ok .next, fun y st => swSt P a d L lw C m4 ws (y.K 1) (y.V 1) (slotO (objAt st 2) (y.S 0)) (y.V 3) (y.t 3) ++ [(addrAt st 5, lEndO), (addrAt st 6, strLn us (y.V 6) (y.t 0)), (addrAt st 7, wD P ul (y.t 1) (y.t 2))]⟩
end Mine
section
namespace Mine
noncomputable def eL : Except Value Env → Nat
  | .ok e => e.locals
  | _ => 0
noncomputable def eC : Except Value Env → Nat
  | .ok e => (e.cells.headD ("", 0)).2
  | _ => 0
noncomputable def swN (lw : Nat) : Nm := [("words", fun _ => .ref lw)]
end Mine
end
end
end
section
open PySem PySem.W PyProof.Rows
set_option maxRecDepth 100000
set_option maxHeartbeats 0
section
namespace Mine
noncomputable def swe (w : World) (G : Gs) (a d lw : Nat) (oD oW : Obj) : ScT Env := ⟨G, newFunctionEnv (Mine.fnScope swS) 3 [] [("self", .ref a), ("words", .ref lw)] ("BaseStemmer.stemWords" ++ ".<locals>.") (some 194) (.ref 193) none 0, [5,5,4,4], [(a, inO 878 d), (d, oD), (lw, oW)], [], (fun xo => .ok (swEnv (eL xo) (eC xo))), (fun xo st => [(a, inO 878 d), (d, oD), (lw, oW), (eL xo, frT w.params (swN lw) (kTok st 3) (fun _ => 0)), (eC xo, cellO a)])⟩
noncomputable def sweQ (w : World) (G : Gs) (a d lw : Nat) (oD oW : Obj) : Road Env := (swe w G a d lw oD oW).Q w
theorem sweQ_self : sweQ = sweQ := rfl
noncomputable def sw1 (w : World) (G : Gs) (a d L lw C : Nat) (k1 v1 k2 v3 : Nat → Tok) (nw : Nat) (w0 w1 w2 w3 u0 u1 u2 u3 : List Nat) (b3 e3 : Int) (p3 : Nat) : ScC := ⟨G, .func (fnBody swS) (swEnv L C), [3,4,4,0,4,6,1,8,8,8], (swSt w.params a d L lw C (m0 (sOf [])) [w0, w1, w2, w3] k1 v1 (frT w.params (swN lw) k2 (fun _ => 0)) v3 nw), [HD.compW w.params a d L lw C [w0, w1, w2, w3] [u0, u1, u2, u3] (stm u3 0 b3 e3 p3) w3], (fun xo => .ok (.ret (.ref (refR xo)))), (fun xo st => swSt w.params a d L lw C (stm u3 0 b3 e3 p3) [w0, w1, w2, w3] (kTok st 1) (vTok st 1) (objAt st 2) (vTok st 3) (seqN st 3) ++ [pairAt st 5, (refR xo, strLn [u0, u1, u2, u3] (vTok st 6) (seqN st 6)), pairAt st 7])⟩
noncomputable def sw2 (w : World) (G : Gs) (a d L lw C : Nat) (k1 v1 v3 : Nat → Tok) (nw : Nat) (w0 w1 w2 w3 u0 u1 u2 u3 : List Nat) (iA aA cA : Nat) (oL : Obj) (b0 e0 : Int) (p0 : Nat) (b1 e1 : Int) (p1 : Nat) (b2 e2 : Int) (p2 : Nat) (b3 e3 : Int) (p3 : Nat) : ScC := ⟨G, .compLoop swE 0 (.ref iA) (.ref aA) (swC L C cA), [6,0,6,6,6,4,6,6,8,8,5,1,0,0,0,0,0,1,0,0,0,0,0,1,0,0,0,0,0,0,1,2,8,0,1,0,7,7,7,7,6,0,6,6,6,4,6,6,8,8,5,1,0,0,0,0,0,1,0,0,0,0,0,1,0,0,0,0,0,0,1,2,8,0,1,0,7,7,7,7,6,0,6,6,6,4,6,6,8,8,5,1,0,0,0,0,0,1,0,0,0,0,0,1,0,0,0,0,0,0,1,2,8,0,1,0,7,7,7,7,6,0,6,6,6,4,6,6,8,8,5,1,0,0,0,0,0,1,0,0,0,0,0,1,0,0,0,0,0,0,1,2,8,0,1,0,7,7,7,7,6,0,6,6,6,4,6,6,10], (swSt w.params a d L lw C (m0 (sOf [])) [w0, w1, w2, w3] k1 v1 oL v3 nw ++ [(iA, lIterO lw 0), (aA, listO #[] 0), (cA, cD0)]), [HD.methF w.params 189 a d L (fun c => [.str (sOf w0) (argTok c 1)]) (m0 (sOf [])) (fun t => .str (sOf u0) t) (stm u0 0 b0 e0 p0), HD.methF w.params 189 a d L (fun c => [.str (sOf w1) (argTok c 1)]) (stm u0 0 b0 e0 p0) (fun t => .str (sOf u1) t) (stm u1 0 b1 e1 p1), HD.methF w.params 189 a d L (fun c => [.str (sOf w2) (argTok c 1)]) (stm u1 0 b1 e1 p1) (fun t => .str (sOf u2) t) (stm u2 0 b2 e2 p2), HD.methF w.params 189 a d L (fun c => [.str (sOf w3) (argTok c 1)]) (stm u2 0 b2 e2 p2) (fun t => .str (sOf u3) t) (stm u3 0 b3 e3 p3)], (fun _ => .ok .next), (fun xo st => swSt w.params a d L lw C (stm u3 0 b3 e3 p3) [w0, w1, w2, w3] (kTok st 1) (vTok st 1) (slotO oL (objAt st 2).slots) (vTok st 3) (seqN st 3) ++ [(iA, lEndO), (aA, strLn [u0, u1, u2, u3] (vTok st 6) (seqN st 6)), (cA, wD w.params w3 (kTok st 7 0) (vTok st 7 0)), pairAt st 8, pairAt st 9])⟩
end Mine
end
open PySem.W.Fast
name_quick sweQq for Mine.sweQ by Mine.sweQ_self
section
namespace Mine
theorem swe_ok (w : World) (G : Gs) (a d lw : Nat) (oD oW : Obj) : (swe w G a d lw oD oW).Ok w := okT (S := fun w => swe w G a d lw oD oW) (fun w => PySem.W.Fast.sweQq w G a d lw oD oW) (fun w => by rw [← PySem.W.Fast.sweQq_eq]; rfl) (fun w c own past below p σ => by kernel_rfl) (fun w c own past below p σ => by kernel_rfl) w
theorem sw1_ok (w : World) (G : Gs) (a d L lw C : Nat) (k1 v1 k2 v3 : Nat → Tok) (nw : Nat) (w0 w1 w2 w3 u0 u1 u2 u3 : List Nat) (b3 e3 : Int) (p3 : Nat) : (sw1 w G a d L lw C k1 v1 k2 v3 nw w0 w1 w2 w3 u0 u1 u2 u3 b3 e3 p3).Ok w := okC (S := fun w => sw1 w G a d L lw C k1 v1 k2 v3 nw w0 w1 w2 w3 u0 u1 u2 u3 b3 e3 p3) (by kernel_rfl) (by kernel_rfl) w
theorem sw2_ok (w : World) (G : Gs) (a d L lw C : Nat) (k1 v1 v3 : Nat → Tok) (nw : Nat) (w0 w1 w2 w3 u0 u1 u2 u3 : List Nat) (iA aA cA : Nat) (oL : Obj) (b0 e0 : Int) (p0 : Nat) (b1 e1 : Int) (p1 : Nat) (b2 e2 : Int) (p2 : Nat) (b3 e3 : Int) (p3 : Nat) : (sw2 w G a d L lw C k1 v1 v3 nw w0 w1 w2 w3 u0 u1 u2 u3 iA aA cA oL b0 e0 p0 b1 e1 p1 b2 e2 p2 b3 e3 p3).Ok w := okC (S := fun w => sw2 w G a d L lw C k1 v1 v3 nw w0 w1 w2 w3 u0 u1 u2 u3 iA aA cA oL b0 e0 p0 b1 e1 p1 b2 e2 p2 b3 e3 p3) (by kernel_rfl) (by kernel_rfl) w
end Mine
end
end
section
open PySem PySem.W PyProof.Rows
set_option maxRecDepth 100000
section
namespace Mine
section
variable {w : World} {G : Gs} {D : Nat} {w0 w1 w2 w3 u0 u1 u2 u3 : List Nat} {b0 b1 b2 b3 e0 e1 e2 e3 : Int} {p0 p1 p2 p3 : Nat}
noncomputable def WSpec (w : World) (G : Gs) (D : Nat) (x : List Nat) (m m' : Sm) (u : List Nat) : Prop := ∀ c : Code, MSpecK true w G 189 D [.str (sOf x) (argTok c 1)] m (fun v m'' => (∃ t : Tok, v = (fun t => .str (sOf u) t) t) ∧ m'' = m')
theorem HDOk.compW {a d L lw C : Nat} {s₀ : Shared} {mm : List Nat} {l : List Env} (h0 : WSpec w G (D + 20) w0 (m0 (sOf [])) (stm u0 0 b0 e0 p0) u0) (h1 : WSpec w G (D + 20) w1 (stm u0 0 b0 e0 p0) (stm u1 0 b1 e1 p1) u1)
    (h2 : WSpec w G (D + 20) w2 (stm u1 0 b1 e1 p1) (stm u2 0 b2 e2 p2) u2) (h3 : WSpec w G (D + 20) w3 (stm u2 0 b2 e2 p2) (stm u3 0 b3 e3 p3) u3) :
    HDOk w G D s₀ ⟨mm, FRs l, some (swEnv L C :: l)⟩ (HD.compW w.params a d L lw C [w0, w1, w2, w3] [u0, u1, u2, u3] (stm u3 0 b3 e3 p3) w3) := by
  intro cc st A s hA hD hF R
  have fin : ∀ s', Rl w G s₀ ⟨mm, FRs l, some (swEnv L C :: l)⟩ ((HD.compW w.params a d L lw C [w0, w1, w2, w3] [u0, u1, u2, u3] (stm u3 0 b3 e3 p3) w3).pre st) s' →
      codeAny (model P0 w) A (.compLoop swE 0 (.ref (addrAt st 5)) (.ref (addrAt st 6)) (swC L C (addrAt st 7))) (fun r s' => ∃ y, r = (HD.compW w.params a d L lw C [w0, w1, w2, w3] [u0, u1, u2, u3] (stm u3 0 b3 e3 p3) w3).res y ∧ Rl w G s₀ ⟨mm, FRs l, some (swEnv L C :: l)⟩ ((HD.compW w.params a d L lw C [w0, w1, w2, w3] [u0, u1, u2, u3] (stm u3 0 b3 e3 p3) w3).post y ((HD.compW w.params a d L lw C [w0, w1, w2, w3] [u0, u1, u2, u3] (stm u3 0 b3 e3 p3) w3).pre st)) s') s' := fun s' R' => by
    refine codeAny_mono ((sw2_ok w G a d L lw C (kTok st 1) (vTok st 1) (vTok st 3) (seqN st 3) w0 w1 w2 w3 u0 u1 u2 u3 (addrAt st 5) (addrAt st 6) (addrAt st 7) (objAt st 2) b0 e0 p0 b1 e1 p1 b2 e2 p2 b3 e3 p3).run (D := D)
      (.c (HDOk.methF (D' := D + 20) h0 (Nat.le_refl _) rfl) <| .c (HDOk.methF (D' := D + 20) h1 (Nat.le_refl _) rfl) <| .c (HDOk.methF (D' := D + 20) h2 (Nat.le_refl _) rfl) <| .c (HDOk.methF (D' := D + 20) h3 (Nat.le_refl _) rfl) .n) hA hD (fun l' hl => ⟨l', hF l' hl, rfl⟩) R') fun r s'' q => ?_
    obtain ⟨xo, st', e, R2⟩ := q
    refine ⟨⟨fun i => match i with | 0 => seqN st' 6 | 1 => kTok st' 7 0 | 2 => vTok st' 7 0 | _ => seqN st' 3, fun _ => kTok st' 1, fun i => match i with | 1 => vTok st' 1 | 3 => vTok st' 3 | _ => vTok st' 6, fun _ => (objAt st' 2).slots⟩, e, ?_⟩
    exact Rel.cut (l' := [pairAt st' 8, pairAt st' 9]) R2
  have ho : s.heap.get? (addrAt st 5) = some (lIterO lw 0) := R.S _ (.tail _ (.tail _ (.tail _ (.tail _ (.tail _ (.head _))))))
  exact compStart_any (by kernel_rfl) (fin s R) (wpAny_pyIter_listiter (l := lw) (i := 0) ⟨_, ho, rfl, rfl⟩ (fin s R))
theorem sw_fn : FnAt w G 194 swS "BaseStemmer.stemWords" 193 := FnAt.mk' (sv "snowballstemmer.basestemmer" 194) (by kernel_rfl) (by kernel_rfl) (by kernel_rfl) (by kernel_rfl)
theorem sw_bind (pm : Value) (a lw : Nat) : bindArgs (fnD swS "BaseStemmer.stemWords" 3 pm (.ref 193) .none 0) ⟨[.ref a, .ref lw], []⟩ = pure ([("self", Value.ref a), ("words", Value.ref lw)] : List (PySem.Str × Value)) := by kernel_rfl
theorem sw_kind : ((fnScope swS).kind != .module) = true := by kernel_rfl
theorem sWords4 (h0 : WSpec w G (D + 40) w0 (m0 (sOf [])) (stm u0 0 b0 e0 p0) u0) (h1 : WSpec w G (D + 40) w1 (stm u0 0 b0 e0 p0) (stm u1 0 b1 e1 p1) u1)
    (h2 : WSpec w G (D + 40) w2 (stm u1 0 b1 e1 p1) (stm u2 0 b2 e2 p2) u2) (h3 : WSpec w G (D + 40) w3 (stm u2 0 b2 e2 p2) (stm u3 0 b3 e3 p3) u3) (hD : D < 700) (a d lw : Nat) (k1 v1 v3 : Nat → Tok) (nw : Nat) :
    CSpec w G true D (.call (.ref 194) ⟨[.ref a, .ref lw], []⟩) [(a, inO 878 d), (d, dictT w.params (m0 (sOf [])) k1 v1), (lw, strLn [w0, w1, w2, w3] v3 nw)] (fun r st2 ex => ∃ aA k v vw nw' vu n, r = .ok (.ret (.ref aA)) ∧
      st2 = [(a, inO 878 d), (d, dictT w.params (stm u3 0 b3 e3 p3) k v), (lw, strLn [w0, w1, w2, w3] vw nw')] ∧ ex = [(aA, strLn [u0, u1, u2, u3] vu n)]) := by
  intro A s l hA hD' hF R
  obtain ⟨pm, hf⟩ := (sw_fn (w := w) (G := G)).fn
  obtain ⟨co, vs, t, hc, hcd, hv⟩ := (sw_fn (w := w) (G := G)).code
  have hcl : alive co = some co := by obtain ⟨_, _, dt, _⟩ := co; dsimp only at hcd; subst hcd; rfl
  have hlim : recursionLimit = 1000 := rfl
  refine codeAny_call_function (by lia) (R.K _ _ hf rfl) rfl (sw_fn (w := w) (G := G)).co (sw_fn (w := w) (G := G)).gen rfl ⟨193, _, vs, t, rfl, R.K _ _ hc hcl, hcd, hv⟩ ?_
  rw [sw_bind pm]
  refine wpAny_pure ?_
  refine wpAny_mono ((swe_ok w G a d lw _ _).tree (D := D) (A := A.in1) .n hA hD' (fun l h => by cases h) R) (fun env s' q => ?_) fun e s' q => by obtain ⟨x, st', e, _⟩ := q; cases e
  obtain ⟨x, st', e, R1⟩ := q
  have e : env = swEnv (eL x) (eC x) := by cases e; rfl
  subst e
  have R1 : Rl w G s ⟨[a, d, lw], FRs l, none⟩ [(a, inO 878 d), (d, dictT w.params (m0 (sOf [])) k1 v1), (lw, strLn [w0, w1, w2, w3] v3 nw), (eL x, frT w.params (swN lw) (kTok st' 3) (fun _ => 0)), (eC x, cellO a)] s' := R1
  generalize eL x = L at R1 ⊢
  generalize eC x = C at R1 ⊢
  refine ⟨noLimit_of R1, ?_⟩
  have R1p : Rl w G s ⟨[a, d, lw], FRs l, none⟩ [(a, inO 878 d), (d, dictT w.params (m0 (sOf [])) k1 v1), (L, frT w.params (swN lw) (kTok st' 3) (fun _ => 0)), (lw, strLn [w0, w1, w2, w3] v3 nw), (C, cellO a)] s' := Rel.perm R1 (.cons _ (.cons _ (.swap _ _ _)))
  obtain ⟨hFr, hOk⟩ := hF rfl
  have hE : ∀ p ∈ [(a, inO 878 d), (d, dictT w.params (m0 (sOf [])) k1 v1), (L, frT w.params (swN lw) (kTok st' 3) (fun _ => 0)), (lw, strLn [w0, w1, w2, w3] v3 nw), (C, cellO a)], p.1 ∉ FRs l := R1p.sf
  have R2 : Rl w G s' ⟨[a, d, L, lw, C], FRs l, some (swEnv L C :: l)⟩ [(a, inO 878 d), (d, dictT w.params (m0 (sOf [])) k1 v1), (L, frT w.params (swN lw) (kTok st' 3) (fun _ => 0)), (lw, strLn [w0, w1, w2, w3] v3 nw), (C, cellO a)] s' := by
    refine Rel.localF (l := [(a, inO 878 d), (d, dictT w.params (m0 (sOf [])) k1 v1), (L, frT w.params (swN lw) (kTok st' 3) (fun _ => 0)), (lw, strLn [w0, w1, w2, w3] v3 nw), (C, cellO a)]) R1p (fun p hp => hp) R1p.nd (fun b hb => ⟨fun q => ?_, ?_⟩) (fun l' hl' e he => ?_)
    · obtain ⟨z, hz, ez⟩ := List.mem_map.mp q
      exact hE z hz (ez ▸ hb)
    · obtain ⟨e, he, hf⟩ := FRs_mem.mp hb
      obtain ⟨_, f', o, h1, h9, h2⟩ := hOk e he
      have : b = f' := by rw [hf] at h1; exact Option.some.inj h1
      subst this
      exact ⟨h9, R1p.liv _ _ h2⟩
    · cases hl'
      rcases List.mem_cons.mp he with rfl | he
      · exact ⟨sw_kind, L, _, rfl, R1p.hi (L, _) (.tail _ (.tail _ (.head _))), R1p.S (L, _) (.tail _ (.tail _ (.head _))), .inl (.tail _ (.tail _ (.head _)))⟩
      · obtain ⟨h0, f', o, h1, h9, h2⟩ := hOk e he
        obtain ⟨o', h3⟩ := R1p.liv _ _ h2
        exact ⟨h0, f', o', h1, h9, h3, .inr (FRs_mem.mpr ⟨e, he, h1⟩)⟩
  have hw := HDOk.compW (w := w) (G := G) (D := D + 20) (a := a) (d := d) (L := L) (lw := lw) (C := C) (s₀ := s') (mm := [a, d, L, lw, C]) (l := l) h0 h1 h2 h3
  refine codeAny_mono ((sw1_ok w G a d L lw C k1 v1 (kTok st' 3) v3 nw w0 w1 w2 w3 u0 u1 u2 u3 b3 e3 p3).run (D := D) (X := ⟨[a, d, L, lw, C], FRs l, some (swEnv L C :: l)⟩) (.c hw .n) hA hD' (fun l' hl => by cases hl; exact ⟨l, hFr, rfl⟩) R2) fun r s'' q => ?_
  obtain ⟨xo, st2, e, R3⟩ := q
  have R3' : Rl w G s' ⟨[a, d, L, lw, C], FRs l, some (swEnv L C :: l)⟩ ([(a, inO 878 d), (d, dictT w.params (stm u3 0 b3 e3 p3) (kTok st2 1) (vTok st2 1)), (L, objAt st2 2), (lw, strLn [w0, w1, w2, w3] (vTok st2 3) (seqN st2 3)), (C, cellO a)] ++ [pairAt st2 5, (refR xo, strLn [u0, u1, u2, u3] (vTok st2 6) (seqN st2 6)), pairAt st2 7]) s'' := R3
  refine ⟨[(a, inO 878 d), (d, dictT w.params (stm u3 0 b3 e3 p3) (kTok st2 1) (vTok st2 1)), (lw, strLn [w0, w1, w2, w3] (vTok st2 3) (seqN st2 3))], [(refR xo, strLn [u0, u1, u2, u3] (vTok st2 6) (seqN st2 6))], ⟨_, _, _, _, _, _, _, e, rfl, rfl⟩, rfl, ?_⟩
  have hex : ∀ p ∈ [pairAt st2 5, (refR xo, strLn [u0, u1, u2, u3] (vTok st2 6) (seqN st2 6)), pairAt st2 7], s'.heap.objs.size ≤ p.1 := fun p hp => by
    rcases R3'.mod p (List.mem_append_right _ hp) with z | z
    · exact absurd z (nd_app R3'.nd p hp)
    · exact z
  have R0 : Rl w G s ⟨[a, d, lw], FRs l, none⟩ ([(a, inO 878 d), (d, dictT w.params (m0 (sOf [])) k1 v1), (L, frT w.params (swN lw) (kTok st' 3) (fun _ => 0)), (lw, strLn [w0, w1, w2, w3] v3 nw), (C, cellO a)] ++ []) s' := R1p
  have R4 := Rel.liftEx (rest' := []) (st2 := [(a, inO 878 d), (d, dictT w.params (stm u3 0 b3 e3 p3) (kTok st2 1) (vTok st2 1)), (L, objAt st2 2), (lw, strLn [w0, w1, w2, w3] (vTok st2 3) (seqN st2 3)), (C, cellO a)]) R0 R3' (fun x hx => hx) (fun x hx => .inr hx) rfl hex (fun p hp => by cases hp)
  have R5 : Rl w G s ⟨[a, d, lw], FRs l, none⟩ (([(a, inO 878 d), (d, dictT w.params (stm u3 0 b3 e3 p3) (kTok st2 1) (vTok st2 1)), (lw, strLn [w0, w1, w2, w3] (vTok st2 3) (seqN st2 3))] ++ [(refR xo, strLn [u0, u1, u2, u3] (vTok st2 6) (seqN st2 6))]) ++ [(L, objAt st2 2), (C, cellO a), pairAt st2 5, pairAt st2 7]) s'' := by
    exact Rel.perm R4 (.cons _ (.cons _ ((List.Perm.swap _ _ _).trans (.cons _ (List.perm_middle (l₁ := [(L, objAt st2 2), (C, cellO a), pairAt st2 5]) (l₂ := [pairAt st2 7]))))))
  exact Rel.cut R5
end
end Mine
end
end
section
open PySem PySem.W PyProof.Rows PySem.SeqAt
set_option maxRecDepth 100000
section
namespace Mine
noncomputable abbrev lawS : Stmt := fnAt 23 none
noncomputable def lawEnv (L : Nat) : Env := fenv 988 L lawS "law" 987
noncomputable def HD.body (ls : Nat) (its : Array Value) (n : Nat) (b : List Nat) : HD := ⟨fun c _ => .call (.ref 962) ⟨[.ref ls], []⟩, fun st => (ls, listO its n) :: dropN 1 st, fun y => .ok (.ret (.str (sOf b) (y.t 0))), fun _ => id⟩
noncomputable def HD.new (P : Params) : HD := ⟨fun _ _ => .call (.ref 878) ⟨[], []⟩, id, fun y => .ok (.ret (.ref (y.t 0))), fun y st => push (push st (y.t 0, inO 878 (y.t 1))) (y.t 1, dictT P (m0 (sOf [])) (y.K 0) (y.V 0))⟩
noncomputable def HD.sW (P : Params) (a d L lw : Nat) (ws us : List (List Nat)) (m4 : Sm) : HD :=
  ⟨fun _ _ => .call (.ref 194) ⟨[.ref a, .ref lw], []⟩, fun st => (a, inO 878 d) :: (d, dictT P (m0 (sOf [])) (kTok st 1) (vTok st 1)) :: (L, objAt st 2) :: (lw, strLn ws (vTok st 3) (seqN st 3)) :: dropN 4 st, fun y => .ok (.ret (.ref (y.t 0))),
    fun y st => push ((a, inO 878 d) :: (d, dictT P m4 (y.K 1) (y.V 1)) :: (L, slotO (objAt st 2) (y.S 0)) :: (lw, strLn ws (y.V 3) (y.t 3)) :: dropN 4 st) (y.t 0, strLn us (y.V 6) (y.t 1))⟩
noncomputable def lawN (ls : Nat) (b cl : List Nat) (lw lu : Nat) : Nm := [("script", fun _ => .ref ls), ("body", fun t => .str (sOf b) t), ("close", fun t => .str (sOf cl) t), ("words", fun _ => .ref lw), ("stems", fun _ => .ref lu)]
noncomputable def lawN8 (ls : Nat) (b cl : List Nat) (lw lu : Nat) (i : Int) (wd sm : List Nat) : Nm := [("script", fun _ => .ref ls), ("body", fun t => .str (sOf b) t), ("close", fun t => .str (sOf cl) t), ("words", fun _ => .ref lw), ("stems", fun _ => .ref lu), ("i", fun t => .int i t), ("word", fun t => .str (sOf wd) t), ("stem", fun t => .str (sOf sm) t)]
noncomputable def lawN9 (ls : Nat) (b cl : List Nat) (lw lu : Nat) (i : Int) (wd sm : List Nat) (a : Nat) : Nm := [("script", fun _ => .ref ls), ("body", fun t => .str (sOf b) t), ("close", fun t => .str (sOf cl) t), ("words", fun _ => .ref lw), ("stems", fun _ => .ref lu), ("i", fun t => .int i t), ("word", fun t => .str (sOf wd) t), ("stem", fun t => .str (sOf sm) t), ("stemmer", fun _ => .ref a)]
noncomputable def andOf : List Stmt → List PySem.Expr
  | [.Return (some (.BoolOp _ vs _)) _] => vs
  | _ => []
noncomputable def lwY : PySem.Expr := match andOf (stms lawS [] 6 1) with | [_, y] => y | _ => .Constant .none 0 default
noncomputable def lwL : PySem.Expr := match andOf (stms lawS [] 6 1) with | .Compare l _ _ _ :: _ => l | _ => .Constant .none 0 default
noncomputable def lwR : PySem.Expr := match andOf (stms lawS [] 6 1) with | .Compare _ _ [r] _ :: _ => r | _ => .Constant .none 0 default
noncomputable def rP2 : Pos × Pos := match stms lawS [] 6 1 with | [.Return (some (.BoolOp _ _ p)) q] => (p, q) | _ => default
noncomputable def rP1 : Pos := match andOf (stms lawS [] 6 1) with | .Compare _ _ _ p :: _ => p | _ => default
theorem lwRet : ∃ p1 p2 p3, stms lawS [] 6 1 = [.Return (some (.BoolOp .And [.Compare lwL [.Eq] [lwR] p1, lwY] p2)) p3] ∧ behindInMarks .Eq lwR = false := ⟨rP1, rP2.1, rP2.2, by kernel_rfl, by kernel_rfl⟩
noncomputable def refV : Except Value Value → Nat
  | .ok (.ref a) => a
  | _ => 0
section
variable {w : World} {G : Gs} {D : Nat}
theorem HDOk.body (hD : D < 700) {ls : Nat} {its : Array Value} {n : Nat} {sc : List Int} (hits : IntsOf its sc) (hsc : sc.length ≤ 1000) {b : List Nat} (hb : bodyP sc = b) {s₀ : Shared} {X : XS} : HDOk w G D s₀ X (HD.body ls its n b) := by
  subst hb
  intro c st A s hA hA' hF R
  refine codeAny_mono ((body_spec (D := D) hD hits hsc).at (rest := dropN 1 st) hA hA' R) fun r s' q => ?_
  obtain ⟨st2, ex, ⟨⟨t, e⟩, e2⟩, _, R'⟩ := q
  subst e2
  exact ⟨yT t, e, Rel.cut R'⟩
theorem HDOk.new (hD : D < 800) {s₀ : Shared} {X : XS} : HDOk w G D s₀ X (HD.new w.params) := by
  intro c st A s hA hA' hF R
  refine codeAny_mono ((new_spec (D := D) hD).at (rest := st) hA hA' R) fun r s' q => ?_
  obtain ⟨st2, ex, ⟨a, d, k, v, e, e2⟩, hm, R'⟩ := q
  have : st2 = [] := by cases st2 with
    | nil => rfl
    | cons a b => cases hm
  subst this e2
  refine ⟨⟨fun i => if i = 0 then a else d, fun _ => k, fun _ => v, fun _ => #[]⟩, e, ?_⟩
  show Rl w G s₀ X (push (push st (a, inO 878 d)) (d, dictT w.params (m0 (sOf [])) k v)) s'
  rw [push_eq, push_eq, List.append_assoc]; exact R'
theorem HDOk.sW {w0 w1 w2 w3 u0 u1 u2 u3 : List Nat} {b0 b1 b2 b3 e0 e1 e2 e3 : Int} {p0 p1 p2 p3 : Nat} {a d L lw : Nat} {s₀ : Shared} {mm : List Nat} {env : Env} {l : List Env} (hL : env.frame = some L)
    (h0 : WSpec w G (D + 40) w0 (m0 (sOf [])) (stm u0 0 b0 e0 p0) u0) (h1 : WSpec w G (D + 40) w1 (stm u0 0 b0 e0 p0) (stm u1 0 b1 e1 p1) u1)
    (h2 : WSpec w G (D + 40) w2 (stm u1 0 b1 e1 p1) (stm u2 0 b2 e2 p2) u2) (h3 : WSpec w G (D + 40) w3 (stm u2 0 b2 e2 p2) (stm u3 0 b3 e3 p3) u3) (hD : D < 700) :
    HDOk w G D s₀ ⟨mm, FRs l, some (env :: l)⟩ (HD.sW w.params a d L lw [w0, w1, w2, w3] [u0, u1, u2, u3] (stm u3 0 b3 e3 p3)) := by
  intro c st A s hA hA' hF R
  have R1 : Rl w G s₀ ⟨mm, FRs l, some (env :: l)⟩ ([(a, inO 878 d), (d, dictT w.params (m0 (sOf [])) (kTok st 1) (vTok st 1)), (lw, strLn [w0, w1, w2, w3] (vTok st 3) (seqN st 3))] ++ (L, objAt st 2) :: dropN 4 st) s := Rel.perm R (.cons _ (.cons _ (.swap _ _ _)))
  refine codeAny_mono ((sWords4 h0 h1 h2 h3 hD a d lw _ _ _ _).atF (rest := dropN 4 st) (oL := objAt st 2) hA hA' (hF _ rfl) hL R1) fun r s' q => ?_
  obtain ⟨st2, ex, sl, ⟨aA, k, v, vw, nw', vu, n, e, e2, e3⟩, _, R'⟩ := q
  subst e2 e3
  refine ⟨⟨fun i => match i with | 0 => aA | 1 => n | _ => nw', fun _ => k, fun i => match i with | 1 => v | 3 => vw | _ => vu, fun _ => sl⟩, e, ?_⟩
  show Rl w G s₀ _ (push ((a, inO 878 d) :: (d, dictT w.params (stm u3 0 b3 e3 p3) k v) :: (L, slotO (objAt st 2) sl) :: (lw, strLn [w0, w1, w2, w3] vw nw') :: dropN 4 st) (aA, strLn [u0, u1, u2, u3] vu n)) s'
  rw [push_eq]
  exact Rel.perm R' (.cons _ (.cons _ (.swap _ _ _)))
theorem lists_eq {A : Around} {s : Shared} {us : List (List Nat)} {x y : Nat} {v v' : Nat → Tok} {n n' : Nat} (hx : s.heap.get? x = some (strLn us v n)) (hy : s.heap.get? y = some (strLn us v' n')) (hu : A.units < cLine) : RcAt A s (.ref x) (.ref y) true := by
  have := RcAt.lists (A := A) (s := s) (l := x) (b := y) (items := (strVs v 0 us).toArray) (items2 := (strVs v' 0 us).toArray) (e := fun _ => true) ⟨_, hx, rfl, n, rfl⟩ ⟨_, hy, rfl, n', rfl⟩ (by simp [strVs_len]) hu fun j j1 j2 => by
    have hj : j < us.length := by simpa [strVs_len] using j1
    have e1 : (strVs v 0 us).toArray[j] = .str (sOf us[j]) (v (0 + j)) := by
      have := strVs_get v us 0 j us[j] (List.getElem?_eq_getElem hj)
      rw [← List.getElem?_toArray, Array.getElem?_eq_getElem j1] at this
      exact Option.some.inj this
    have e2 : (strVs v' 0 us).toArray[j] = .str (sOf us[j]) (v' (0 + j)) := by
      have := strVs_get v' us 0 j us[j] (List.getElem?_eq_getElem hj)
      rw [← List.getElem?_toArray, Array.getElem?_eq_getElem j2] at this
      exact Option.some.inj this
    rw [e1, e2]
    have := EqAt.str_str (A := A.in1) (s := s) (sOf us[j]) (v (0 + j)) (sOf us[j]) (v' (0 + j))
    rwa [show (sOf us[j] == sOf us[j]) = true from beq_self_eq_true _] at this
  rwa [show (List.range (strVs v 0 us).toArray.size).all (fun _ => true) = true from List.all_eq_true.mpr fun _ _ => rfl] at this
end
end Mine
end
end
section
open PySem PySem.W PyProof.Rows
set_option maxRecDepth 100000
set_option maxHeartbeats 0
section
namespace Mine
noncomputable def lawF : Fn := ⟨988, fnAt 23 none, "law", 987, (sv "law_af0032_01" 3127), ["script"]⟩
noncomputable def lw0 (w : World) (G : Gs) (ls : Nat) (its : Array Value) (n L : Nat) (k v : Nat → Tok) (b cl : List Nat) (v10 : Int) : ScT Flow := ⟨G, execs (stms lawS [] 0 4) (lawEnv L), [0,2,0,1,2,2,0,0,1,0,2,0,1,1,3,3,3,1,0,2,2,2,2,2,2], [(ls, listO its n), (L, (frT w.params [("script", fun _ => .ref ls)]) k v)], [HD.body ls its n b, HD.mkL 913 closesL, HD.at ls its n 10 v10, HD.modI v10 11, HD.sGetL 2 closesL (v10 % 11) cl], (fun _ => .ok .next), (fun _ st => [(ls, listO its n), (L, frT w.params (lawN ls b cl (addrAt st 3) (addrAt st 4)) (kTok st 1) (vTok st 1)), pairAt st 2, (addrAt st 3, listO #[] 0), (addrAt st 4, listO #[] 0)])⟩
noncomputable def lw4 (w : World) (G : Gs) (ls : Nat) (its : Array Value) (n L : Nat) (k v : Nat → Tok) (lw lu : Nat) (b cl : List Nat) (x0 y0 x1 y1 x2 y2 x3 y3 : Int) (w0 u0 w1 u1 w2 u2 w3 u3 : List Nat) : ScT Flow := ⟨G, execs (stms lawS [] 4 1) (lawEnv L), [0,0,0,0,5,5,0,5,5,5,5,0,5,5,5,5,6,0,6,0,6,6,6,6,6,6,6,6,2,2,0,2,2,0,2,2,0,0,0,1,0,2,2,0,0,0,1,0,1,7,7,7,0,7,8,8,0,8,8,8,7,8,8,8,0,8,8,8,7,8,8,8,0,8,8,8,7,8,8,10,2,2,2,2,2,3,3,3,3,2,0,3,3,3,3,2,4,4,4,4,2,0,4,4,4,4,6,0,6,6,6,6,6,6,6,6,2,2,0,2,2,0,2,2,0,0,0,1,0,2,2,0,0,0,1,0,1,11,11,11,0,11,12,12,0,12,12,12,11,12,12,12,0,12,12,12,11,12,12,12,0,12,12,12,11,12,12,14,2,2,2,2,2,3,3,3,3,2,0,3,3,3,3,2,4,4,4,4,2,0,4,4,4,4,6,0,6,6,6,6,6,6,6,6,2,2,0,2,2,0,2,2,0,0,0,1,0,2,2,0,0,0,1,0,1,15,15,15,0,15,16,16,0,16,16,16,15,16,16,16,0,16,16,16,15,16,16,16,0,16,16,16,15,16,16,18,2,2,2,2,2,3,3,3,3,2,0,3,3,3,3,2,4,4,4,4,2,0,4,4,4,4,6,0,6,6,6,6,6,6,6,6,2,2,0,2,2,0,2,2,0,0,0,1,0,2,2,0,0,0,1,0,1,19,19,19,0,19,20,20,0,20,20,20,19,20,20,20,0,20,20,20,19,20,20,20,0,20,20,20,19,20,20,22,2,2,2,2,2,3,3,3,3,2,0,3,3,3,3,2,4,4,4,4,2,0,4,4,4,4,6,0,6,6,6,6,24], [(ls, listO its n), (L, frT w.params (lawN ls b cl lw lu) k v), (lw, listO #[] 0), (lu, listO #[] 0)], [HD.at ls its n 11 x0, HD.at ls its n 12 y0, HD.word b cl x0 y0 w0 u0, HD.at ls its n 13 x1, HD.at ls its n 14 y1, HD.word b cl x1 y1 w1 u1, HD.at ls its n 15 x2, HD.at ls its n 16 y2, HD.word b cl x2 y2 w2 u2, HD.at ls its n 17 x3, HD.at ls its n 18 y3, HD.word b cl x3 y3 w3 u3], (fun _ => .ok .next), (fun _ st => (ls, listO its n) :: (L, frT w.params (lawN8 ls b cl lw lu 3 w3 u3) (kTok st 1) (vTok st 1)) :: (lw, strLn [w0, w1, w2, w3] (vTok st 2) (seqN st 2)) :: (lu, strLn [u0, u1, u2, u3] (vTok st 3) (seqN st 3)) :: dropN 4 st)⟩
noncomputable def lw5 (w : World) (G : Gs) (ls : Nat) (its : Array Value) (n L : Nat) (k v : Nat → Tok) (lw lu : Nat) (b cl : List Nat) (i : Int) (wd sm : List Nat) (oW oU : Obj) : ScT Flow := ⟨G, execs (stms lawS [] 5 1) (lawEnv L), [0,0,0,1,2,2], [(ls, listO its n), (L, frT w.params (lawN8 ls b cl lw lu i wd sm) k v), (lw, oW), (lu, oU)], [HD.new w.params], (fun _ => .ok .next), (fun _ st => [(ls, listO its n), (L, frT w.params (lawN9 ls b cl lw lu i wd sm (addrAt st 4)) (kTok st 1) (vTok st 1)), (lw, oW), (lu, oU), (addrAt st 4, inO 878 (addrAt st 5)), (addrAt st 5, dictT w.params (m0 (sOf [])) (kTok st 5) (vTok st 5))])⟩
noncomputable def lwl (w : World) (G : Gs) (a d L lw lu ls : Nat) (k v k1 v1 : Nat → Tok) (v3 v4 : Nat → Tok) (n3 n4 : Nat) (b cl : List Nat) (i : Int) (wd sm : List Nat) (w0 u0 w1 u1 w2 u2 w3 u3 : List Nat) (b3 e3 : Int) (p3 : Nat) (b4 e4 : Int) (p4 : Nat) : ScT Value := ⟨G, eval lwL (lawEnv L), [3,1,0,0,0,0,0,1,0,0,0,0,0,1,0,0,0,0,0,0,1,2,3,0,1], [(a, inO 878 d), (d, dictT w.params (m0 (sOf [])) k1 v1), (L, (frT w.params (lawN9 ls b cl lw lu i wd sm a)) k v), (lw, strLn [w0, w1, w2, w3] v3 n3), (lu, strLn [u0, u1, u2, u3] v4 n4)], [HD.sW w.params a d L lw [w0, w1, w2, w3] [u0, u1, u2, u3] (stm u3 0 b3 e3 p3)], (fun xo => .ok (.ref (refV xo))), (fun xo st => [(a, inO 878 d), (d, dictT w.params (stm u3 0 b3 e3 p3) (kTok st 1) (vTok st 1)), (L, slotO ((frT w.params (lawN9 ls b cl lw lu i wd sm a)) (kTok st 2) (vTok st 2)) (objAt st 2).slots), (lw, strLn [w0, w1, w2, w3] (vTok st 3) (seqN st 3)), (lu, strLn [u0, u1, u2, u3] (vTok st 4) (seqN st 4)), (refV xo, strLn [u0, u1, u2, u3] (vTok st 5) (seqN st 5))])⟩
noncomputable def lwlQ (w : World) (G : Gs) (a d L lw lu ls : Nat) (k v k1 v1 : Nat → Tok) (v3 v4 : Nat → Tok) (n3 n4 : Nat) (b cl : List Nat) (i : Int) (wd sm : List Nat) (w0 u0 w1 u1 w2 u2 w3 u3 : List Nat) (b3 e3 : Int) (p3 : Nat) (b4 e4 : Int) (p4 : Nat) : Road Value := (lwl w G a d L lw lu ls k v k1 v1 v3 v4 n3 n4 b cl i wd sm w0 u0 w1 u1 w2 u2 w3 u3 b3 e3 p3 b4 e4 p4).Q w
theorem lwlQ_self : lwlQ = lwlQ := rfl
noncomputable def lwr (w : World) (G : Gs) (a d L lw lu ls : Nat) (k v k1 v1 : Nat → Tok) (v3 v4 : Nat → Tok) (n3 n4 : Nat) (b cl : List Nat) (i : Int) (wd sm : List Nat) (w0 u0 w1 u1 w2 u2 w3 u3 : List Nat) (b3 e3 : Int) (p3 : Nat) (b4 e4 : Int) (p4 : Nat) (rA n5 : Nat) (v5 : Nat → Tok) (sl : Array (Option Value)) : ScT Value := ⟨G, eval lwR (lawEnv L), [3], [(a, inO 878 d), (d, dictT w.params (stm u3 0 b3 e3 p3) k1 v1), (L, slotO ((frT w.params (lawN9 ls b cl lw lu i wd sm a)) k v) sl), (lw, strLn [w0, w1, w2, w3] v3 n3), (lu, strLn [u0, u1, u2, u3] v4 n4), (rA, strLn [u0, u1, u2, u3] v5 n5)], [], (fun _ => .ok (.ref lu)), (fun _ st => [(a, inO 878 d), (d, dictT w.params (stm u3 0 b3 e3 p3) (kTok st 1) (vTok st 1)), (L, slotO ((frT w.params (lawN9 ls b cl lw lu i wd sm a)) (kTok st 2) (vTok st 2)) (objAt st 2).slots), (lw, strLn [w0, w1, w2, w3] (vTok st 3) (seqN st 3)), (lu, strLn [u0, u1, u2, u3] (vTok st 4) (seqN st 4)), (rA, strLn [u0, u1, u2, u3] (vTok st 5) (seqN st 5))])⟩
noncomputable def lwrQ (w : World) (G : Gs) (a d L lw lu ls : Nat) (k v k1 v1 : Nat → Tok) (v3 v4 : Nat → Tok) (n3 n4 : Nat) (b cl : List Nat) (i : Int) (wd sm : List Nat) (w0 u0 w1 u1 w2 u2 w3 u3 : List Nat) (b3 e3 : Int) (p3 : Nat) (b4 e4 : Int) (p4 : Nat) (rA n5 : Nat) (v5 : Nat → Tok) (sl : Array (Option Value)) : Road Value := (lwr w G a d L lw lu ls k v k1 v1 v3 v4 n3 n4 b cl i wd sm w0 u0 w1 u1 w2 u2 w3 u3 b3 e3 p3 b4 e4 p4 rA n5 v5 sl).Q w
theorem lwrQ_self : lwrQ = lwrQ := rfl
noncomputable def lwy (w : World) (G : Gs) (a d L lw lu ls : Nat) (k v k1 v1 : Nat → Tok) (v3 v4 : Nat → Tok) (n3 n4 : Nat) (b cl : List Nat) (i : Int) (wd sm : List Nat) (w0 u0 w1 u1 w2 u2 w3 u3 : List Nat) (b3 e3 : Int) (p3 : Nat) (b4 e4 : Int) (p4 : Nat) (rA n5 : Nat) (v5 : Nat → Tok) (sl : Array (Option Value)) : ScT Value := ⟨G, eval lwY (lawEnv L), [3,1,0,0,0,0,0,1,0,0,0,0,0,1,0,0,0,0,0,0,1,2,3,4,4,4,0,4,4,0,1,3,5,5,5,0,5,5,1], [(a, inO 878 d), (d, dictT w.params (stm u3 0 b3 e3 p3) k1 v1), (L, slotO ((frT w.params (lawN9 ls b cl lw lu i wd sm a)) k v) sl), (lw, strLn [w0, w1, w2, w3] v3 n3), (lu, strLn [u0, u1, u2, u3] v4 n4), (rA, strLn [u0, u1, u2, u3] v5 n5)], [HD.methF w.params 189 a d L (fun c => [.str (sOf w0) (argTok c 1)]) (stm u3 0 b3 e3 p3) (fun t => .str (sOf u0) t) (stm u0 0 b4 e4 p4), HD.sCmp "str.__eq__" (sOf u0) (sOf u0) true], (fun _ => .ok (.bool true)), (fun _ st => (a, inO 878 d) :: (d, dictT w.params (stm u0 0 b4 e4 p4) (kTok st 1) (vTok st 1)) :: (L, objAt st 2) :: dropN 3 st)⟩
noncomputable def lwyQ (w : World) (G : Gs) (a d L lw lu ls : Nat) (k v k1 v1 : Nat → Tok) (v3 v4 : Nat → Tok) (n3 n4 : Nat) (b cl : List Nat) (i : Int) (wd sm : List Nat) (w0 u0 w1 u1 w2 u2 w3 u3 : List Nat) (b3 e3 : Int) (p3 : Nat) (b4 e4 : Int) (p4 : Nat) (rA n5 : Nat) (v5 : Nat → Tok) (sl : Array (Option Value)) : Road Value := (lwy w G a d L lw lu ls k v k1 v1 v3 v4 n3 n4 b cl i wd sm w0 u0 w1 u1 w2 u2 w3 u3 b3 e3 p3 b4 e4 p4 rA n5 v5 sl).Q w
theorem lwyQ_self : lwyQ = lwyQ := rfl
end Mine
end
open PySem.W.Fast
name_quick lwlQq for Mine.lwlQ by Mine.lwlQ_self
name_quick lwrQq for Mine.lwrQ by Mine.lwrQ_self
name_quick lwyQq for Mine.lwyQ by Mine.lwyQ_self
section
namespace Mine
theorem lawF_ok (w : World) (G : Gs) (ls : Nat) (its : Array Value) (n : Nat)  : lawF.Ok w G [2,2] [(ls, listO its n)] [.ref ls] := okN (FnAt.mk' (sv "law_af0032_01" 3127) (by kernel_rfl) (by kernel_rfl) (by kernel_rfl) (by kernel_rfl)) (by kernel_rfl) (fun pm => by kernel_rfl) (by kernel_rfl)
theorem lw0_ok (w : World) (G : Gs) (ls : Nat) (its : Array Value) (n L : Nat) (k v : Nat → Tok) (b cl : List Nat) (v10 : Int) : (lw0 w G ls its n L k v b cl v10).Ok w := okE (S := fun w => lw0 w G ls its n L k v b cl v10) (fun _ => rfl) (by kernel_rfl) (by kernel_rfl) w
theorem lw4_ok (w : World) (G : Gs) (ls : Nat) (its : Array Value) (n L : Nat) (k v : Nat → Tok) (lw lu : Nat) (b cl : List Nat) (x0 y0 x1 y1 x2 y2 x3 y3 : Int) (w0 u0 w1 u1 w2 u2 w3 u3 : List Nat) : (lw4 w G ls its n L k v lw lu b cl x0 y0 x1 y1 x2 y2 x3 y3 w0 u0 w1 u1 w2 u2 w3 u3).Ok w := okE (S := fun w => lw4 w G ls its n L k v lw lu b cl x0 y0 x1 y1 x2 y2 x3 y3 w0 u0 w1 u1 w2 u2 w3 u3) (fun _ => rfl) (by kernel_rfl) (by kernel_rfl) w
theorem lw5_ok (w : World) (G : Gs) (ls : Nat) (its : Array Value) (n L : Nat) (k v : Nat → Tok) (lw lu : Nat) (b cl : List Nat) (i : Int) (wd sm : List Nat) (oW oU : Obj) : (lw5 w G ls its n L k v lw lu b cl i wd sm oW oU).Ok w := okE (S := fun w => lw5 w G ls its n L k v lw lu b cl i wd sm oW oU) (fun _ => rfl) (by kernel_rfl) (by kernel_rfl) w
theorem lwl_ok (w : World) (G : Gs) (a d L lw lu ls : Nat) (k v k1 v1 : Nat → Tok) (v3 v4 : Nat → Tok) (n3 n4 : Nat) (b cl : List Nat) (i : Int) (wd sm : List Nat) (w0 u0 w1 u1 w2 u2 w3 u3 : List Nat) (b3 e3 : Int) (p3 : Nat) (b4 e4 : Int) (p4 : Nat) : (lwl w G a d L lw lu ls k v k1 v1 v3 v4 n3 n4 b cl i wd sm w0 u0 w1 u1 w2 u2 w3 u3 b3 e3 p3 b4 e4 p4).Ok w := okT (S := fun w => lwl w G a d L lw lu ls k v k1 v1 v3 v4 n3 n4 b cl i wd sm w0 u0 w1 u1 w2 u2 w3 u3 b3 e3 p3 b4 e4 p4) (fun w => PySem.W.Fast.lwlQq w G a d L lw lu ls k v k1 v1 v3 v4 n3 n4 b cl i wd sm w0 u0 w1 u1 w2 u2 w3 u3 b3 e3 p3 b4 e4 p4) (fun w => by rw [← PySem.W.Fast.lwlQq_eq]; rfl) (fun w c own past below p σ => by kernel_rfl) (fun w c own past below p σ => by kernel_rfl) w
theorem lwr_ok (w : World) (G : Gs) (a d L lw lu ls : Nat) (k v k1 v1 : Nat → Tok) (v3 v4 : Nat → Tok) (n3 n4 : Nat) (b cl : List Nat) (i : Int) (wd sm : List Nat) (w0 u0 w1 u1 w2 u2 w3 u3 : List Nat) (b3 e3 : Int) (p3 : Nat) (b4 e4 : Int) (p4 : Nat) (rA n5 : Nat) (v5 : Nat → Tok) (sl : Array (Option Value)) : (lwr w G a d L lw lu ls k v k1 v1 v3 v4 n3 n4 b cl i wd sm w0 u0 w1 u1 w2 u2 w3 u3 b3 e3 p3 b4 e4 p4 rA n5 v5 sl).Ok w := okT (S := fun w => lwr w G a d L lw lu ls k v k1 v1 v3 v4 n3 n4 b cl i wd sm w0 u0 w1 u1 w2 u2 w3 u3 b3 e3 p3 b4 e4 p4 rA n5 v5 sl) (fun w => PySem.W.Fast.lwrQq w G a d L lw lu ls k v k1 v1 v3 v4 n3 n4 b cl i wd sm w0 u0 w1 u1 w2 u2 w3 u3 b3 e3 p3 b4 e4 p4 rA n5 v5 sl) (fun w => by rw [← PySem.W.Fast.lwrQq_eq]; rfl) (fun w c own past below p σ => by kernel_rfl) (fun w c own past below p σ => by kernel_rfl) w
theorem lwy_ok (w : World) (G : Gs) (a d L lw lu ls : Nat) (k v k1 v1 : Nat → Tok) (v3 v4 : Nat → Tok) (n3 n4 : Nat) (b cl : List Nat) (i : Int) (wd sm : List Nat) (w0 u0 w1 u1 w2 u2 w3 u3 : List Nat) (b3 e3 : Int) (p3 : Nat) (b4 e4 : Int) (p4 : Nat) (rA n5 : Nat) (v5 : Nat → Tok) (sl : Array (Option Value)) : (lwy w G a d L lw lu ls k v k1 v1 v3 v4 n3 n4 b cl i wd sm w0 u0 w1 u1 w2 u2 w3 u3 b3 e3 p3 b4 e4 p4 rA n5 v5 sl).Ok w := okT (S := fun w => lwy w G a d L lw lu ls k v k1 v1 v3 v4 n3 n4 b cl i wd sm w0 u0 w1 u1 w2 u2 w3 u3 b3 e3 p3 b4 e4 p4 rA n5 v5 sl) (fun w => PySem.W.Fast.lwyQq w G a d L lw lu ls k v k1 v1 v3 v4 n3 n4 b cl i wd sm w0 u0 w1 u1 w2 u2 w3 u3 b3 e3 p3 b4 e4 p4 rA n5 v5 sl) (fun w => by rw [← PySem.W.Fast.lwyQq_eq]; rfl) (fun w c own past below p σ => by kernel_rfl) (fun w c own past below p σ => by kernel_rfl) w
end Mine
end
end
section
open PySem PySem.W PyProof.Rows PySem.SeqAt
set_option maxRecDepth 100000
section
namespace Mine
theorem law_stmts : fnBody lawF.st = stms lawS [] 0 4 ++ (stms lawS [] 4 1 ++ (stms lawS [] 5 1 ++ stms lawS [] 6 1)) := by kernel_rfl
noncomputable def closeP (sc : List Int) : List Nat := closesL.getD (atV sc 10 % 11).toNat []
theorem closeP_some (sc : List Int) : closesL[(atV sc 10 % 11).toNat]? = some (closeP sc) := by
  have h0 : 0 ≤ atV sc 10 % 11 := Int.emod_nonneg _ (by decide)
  have h1 : atV sc 10 % 11 < 11 := Int.emod_lt_of_pos _ (by decide)
  exact getD_some (by show _ < 11; lia)
theorem closeP_len (sc : List Int) : (closeP sc).length ≤ 2 ∧ closeP sc ≠ [] := by
  have := List.all_eq_true.mp (by decide : (closesL.all fun x => decide (x.length ≤ 2) && !x.isEmpty) = true) _ (List.mem_of_getElem? (closeP_some sc))
  rw [Bool.and_eq_true] at this
  exact ⟨of_decide_eq_true this.1, fun h => by rw [h] at this; cases this.2⟩
theorem bodyP_len (sc : List Int) : (bodyP sc).length ≤ 9 ∧ bodyP sc ≠ [] := by
  have h1 : atV sc 0 % 9 < 9 := Int.emod_lt_of_pos _ (by decide)
  unfold bodyP
  rw [List.length_append, bodyK_len]
  exact ⟨by show _ + 1 ≤ 9; lia, by simp⟩
noncomputable def lawW (sc : List Int) (i : Nat) : List Nat × List Nat := wordP (bodyP sc) (closeP sc) (atV sc (11 + 2 * i)) (atV sc (12 + 2 * i))
noncomputable def GoodW (p : List Nat × List Nat) : Prop := Marks p.1 ∧ p.1.length ≤ 1000 ∧ stemP (markP p.1) p.1 = some p.2
section
variable {w : World} {G : Gs} {D : Nat}
theorem GoodW.spec (hGv : GOk w G) (hG : G.ro = []) (hD : D < 550) {p : List Nat × List Nat} (h : GoodW p) (m : Sm) : ∃ b' e', WSpec w G D p.1 m (stm p.2 0 b' e' (markP p.1)) p.2 := by
  obtain ⟨b', e', hs⟩ := sWord_spec (w := w) (m := m) hGv hG hD h.1 h.2.1 h.2.2
  exact ⟨b', e', fun c => hs _⟩
theorem law_run (hGv : GOk w G) (hG : G.ro = []) (hD : D < 480) {ls : Nat} {its : Array Value} {n : Nat} {sc : List Int} (hits : IntsOf its sc) (hsc : sc.length ≤ 1000) (hg : ∀ i, i < 4 → GoodW (lawW sc i)) {A : Around} {s : Shared}
    (hA : A.handled = none) (hD' : A.depth ≤ D) (hu : A.units < 9000) (hFr : A.frames = some []) (R : Rl w G s ⟨[ls], [], none⟩ [(ls, listO its n)] s) :
    codeAny (model P0 w) A (.call (.ref 988) ⟨[.ref ls], []⟩) (fun r s' => r = .ok (.ret (.bool true)) ∧ (∀ b o, s.heap.get? b = some o → s'.heap.get? b = some o) ∧ s'.gens = s.gens ∧ s'.os = s.os) s := by
  obtain ⟨l, hl⟩ : ∃ l : List Env, l = [] := ⟨_, rfl⟩
  have hFr : A.frames = some l := hl ▸ hFr
  have hOk : FrOk s l := fun e he => by rw [hl] at he; cases he
  have hFl : FRs l = [] := by rw [hl]; rfl
  have R : Rl w G s ⟨[ls], FRs l, none⟩ [(ls, listO its n)] s := by rw [hFl]; exact R
  have hF := lawF_ok w G ls its n
  refine fn_enter hF.fnAt hF.bind (acts := [2,2]) (fuel := 60) (as := fun c own past below p σ => ((lawF.Q w G [2,2] [(ls, listO its n)] [.ref ls] c own past below p σ).getD dfltQ).as) (fun c own past below p σ => hF.enter c own past below p σ) hA hD' (fun l h => by cases h) (by lia) R fun L ts s1 R1 => ?_
  have R1 : Rl w G s ⟨[ls], FRs l, none⟩ [(ls, listO its n), (L, frT w.params [("script", fun _ => .ref ls)] ts (fun _ => 0))] s1 := R1
  have R2 : Rl w G s1 ⟨[ls, L], FRs l, some (lawEnv L :: l)⟩ [(ls, listO its n), (L, frT w.params [("script", fun _ => .ref ls)] ts (fun _ => 0))] s1 := by
    refine Rel.localF (l := [(ls, listO its n), (L, frT w.params [("script", fun _ => .ref ls)] ts (fun _ => 0))]) R1 (fun p hp => hp) R1.nd (fun b hb => ⟨fun q => ?_, ?_⟩) (fun l' hl' e he => ?_)
    · obtain ⟨z, hz, ez⟩ := List.mem_map.mp q
      exact R1.sf z hz (ez ▸ hb)
    · obtain ⟨e, he, hf⟩ := FRs_mem.mp hb
      obtain ⟨_, f', o, h1, h9, h2⟩ := hOk e he
      have : b = f' := by rw [hf] at h1; exact Option.some.inj h1
      subst this
      exact ⟨h9, R1.liv _ _ h2⟩
    · cases hl'
      rcases List.mem_cons.mp he with rfl | he
      · exact ⟨hF.kd, L, _, rfl, R1.hi (L, _) (.tail _ (.head _)), R1.S (L, _) (.tail _ (.head _)), .inl (.tail _ (.head _))⟩
      · obtain ⟨h0, f', o, h1, h9, h2⟩ := hOk e he
        obtain ⟨o', h3⟩ := R1.liv _ _ h2
        exact ⟨h0, f', o', h1, h9, h3, .inr (FRs_mem.mpr ⟨e, he, h1⟩)⟩
  refine func_of_execs ?_
  have hA1 : (A.under (.func (fnBody lawF.st) (lawEnv L))).handled = none := hA
  have hD1 : (A.under (.func (fnBody lawF.st) (lawEnv L))).depth ≤ D + 1 := Nat.add_le_add_right hD' 1
  have hF1 : ∀ l', (⟨[ls, L], FRs l, some (lawEnv L :: l)⟩ : XS).l = some l' → (A.under (.func (fnBody lawF.st) (lawEnv L))).frames = some l' := fun l' h => by
    cases h
    have e : (A.under (.func (fnBody lawF.st) (lawEnv L))).frames = pushEnvs (Code.envs (.func (fnBody lawF.st) (lawEnv L))) A.frames := rfl
    rw [e, hFr]; rfl
  have hu1 : (A.under (.func (fnBody lawF.st) (lawEnv L))).units < cLine := by
    show A.units + 3 * Code.frames _ < 9900
    have : Code.frames (.func (fnBody lawF.st) (lawEnv L)) = 1 := rfl
    lia
  refine (?_ : ∀ A1 : Around, A1.handled = none → A1.depth ≤ D + 1 → (∀ l', (⟨[ls, L], FRs l, some (lawEnv L :: l)⟩ : XS).l = some l' → A1.frames = some l') → A1.units < cLine → wpAny (model P0 w) A1 (execs (fnBody lawF.st) (lawEnv L)) (fun f s' => Except.ok (Flow.ret (bodyRet f)) = Except.ok (Flow.ret (Value.bool true)) ∧ (∀ b o, s.heap.get? b = some o → s'.heap.get? b = some o) ∧ s'.gens = s.gens ∧ s'.os = s.os) (fun _ _ => False) s1) _ hA1 hD1 hF1 hu1
  clear hA1 hD1 hF1 hu1 hA hD' hu hFr
  intro A1 hA1 hD1 hF1 hu1
  rw [law_stmts]
  obtain ⟨hbl, hb0⟩ := bodyP_len sc
  obtain ⟨hcl, hcl0⟩ := closeP_len sc
  have hat : ∀ i : Nat, i ≤ 100 → HDOk w G (D + 1 + 20) s1 ⟨[ls, L], FRs l, some (lawEnv L :: l)⟩ (HD.at ls its n i (atV sc i)) := fun i hi => HDOk.at (by lia) hits hsc hi
  have hwd : ∀ i : Nat, HDOk w G (D + 1 + 20) s1 ⟨[ls, L], FRs l, some (lawEnv L :: l)⟩ (HD.word (bodyP sc) (closeP sc) (atV sc (11 + 2 * i)) (atV sc (12 + 2 * i)) (lawW sc i).1 (lawW sc i).2) := fun i => HDOk.word hG (by lia) rfl (by lia) hb0 (by lia) hcl0
  refine wpAny_execs_app _ ((lw0_ok w G ls its n L ts (fun _ => 0) (bodyP sc) (closeP sc) (atV sc 10)).next (D := D + 1) (.c (HDOk.body (by lia) hits hsc rfl) <| .c (HDOk.mkL (D' := D + 21) (closes_spec (by lia)) (Nat.le_refl _)) <| .c (hat 10 (by decide)) <| .c (HDOk.modI (by decide)) <| .c (HDOk.sGetL (Int.emod_nonneg _ (by decide)) (closeP_some sc) (by have := Int.emod_lt_of_pos (atV sc 10) (show (0 : Int) < 11 by decide); lia)) .n) hA1 hD1 hF1 R2 fun xo st3 s3 R3 => .inl ⟨rfl, ?_⟩)
  have R3 : Rl w G s1 ⟨[ls, L], FRs l, some (lawEnv L :: l)⟩ [(ls, listO its n), (L, frT w.params (lawN ls (bodyP sc) (closeP sc) (addrAt st3 3) (addrAt st3 4)) (kTok st3 1) (vTok st3 1)), pairAt st3 2, (addrAt st3 3, listO #[] 0), (addrAt st3 4, listO #[] 0)] s3 := R3
  generalize addrAt st3 3 = lw at R3
  generalize addrAt st3 4 = lu at R3
  have R3 : Rl w G s1 ⟨[ls, L], FRs l, some (lawEnv L :: l)⟩ [(ls, listO its n), (L, frT w.params (lawN ls (bodyP sc) (closeP sc) lw lu) (kTok st3 1) (vTok st3 1)), (lw, listO #[] 0), (lu, listO #[] 0)] s3 := Rel.cut (l' := [pairAt st3 2]) (Rel.perm R3 (.cons _ (.cons _ (List.perm_append_comm (l₁ := [pairAt st3 2]) (l₂ := [(lw, listO #[] 0), (lu, listO #[] 0)])))))
  refine wpAny_execs_app _ ((lw4_ok w G ls its n L (kTok st3 1) (vTok st3 1) lw lu (bodyP sc) (closeP sc) (atV sc 11) (atV sc 12) (atV sc 13) (atV sc 14) (atV sc 15) (atV sc 16) (atV sc 17) (atV sc 18) (lawW sc 0).1 (lawW sc 0).2 (lawW sc 1).1 (lawW sc 1).2 (lawW sc 2).1 (lawW sc 2).2 (lawW sc 3).1 (lawW sc 3).2).next (D := D + 1)
    (.c (hat 11 (by decide)) <| .c (hat 12 (by decide)) <| .c (hwd 0) <| .c (hat 13 (by decide)) <| .c (hat 14 (by decide)) <| .c (hwd 1) <| .c (hat 15 (by decide)) <| .c (hat 16 (by decide)) <| .c (hwd 2) <| .c (hat 17 (by decide)) <| .c (hat 18 (by decide)) <| .c (hwd 3) .n) hA1 hD1 hF1 R3 fun xo4 st4 s4 R4 => .inl ⟨rfl, ?_⟩)
  obtain ⟨k4, v4, k4w, n4w, k4u, n4u, R4⟩ : ∃ k v kw nw ku nu, Rl w G s1 ⟨[ls, L], FRs l, some (lawEnv L :: l)⟩ [(ls, listO its n), (L, frT w.params (lawN8 ls (bodyP sc) (closeP sc) lw lu 3 (lawW sc 3).1 (lawW sc 3).2) k v), (lw, strLn [(lawW sc 0).1, (lawW sc 1).1, (lawW sc 2).1, (lawW sc 3).1] kw nw), (lu, strLn [(lawW sc 0).2, (lawW sc 1).2, (lawW sc 2).2, (lawW sc 3).2] ku nu)] s4 := ⟨_, _, _, _, _, _, Rel.cut (l' := dropN 4 st4) R4⟩
  refine wpAny_execs_app _ ((lw5_ok w G ls its n L k4 v4 lw lu (bodyP sc) (closeP sc) 3 (lawW sc 3).1 (lawW sc 3).2 _ _).next (D := D + 1) (.c (HDOk.new (by lia)) .n) hA1 hD1 hF1 R4 fun xo5 st5 s5 R5 => .inl ⟨rfl, ?_⟩)
  have R5 : Rl w G s1 ⟨[ls, L], FRs l, some (lawEnv L :: l)⟩ [(ls, listO its n), (L, frT w.params (lawN9 ls (bodyP sc) (closeP sc) lw lu 3 (lawW sc 3).1 (lawW sc 3).2 (addrAt st5 4)) (kTok st5 1) (vTok st5 1)), (lw, strLn [(lawW sc 0).1, (lawW sc 1).1, (lawW sc 2).1, (lawW sc 3).1] k4w n4w), (lu, strLn [(lawW sc 0).2, (lawW sc 1).2, (lawW sc 2).2, (lawW sc 3).2] k4u n4u), (addrAt st5 4, inO 878 (addrAt st5 5)), (addrAt st5 5, dictT w.params (m0 (sOf [])) (kTok st5 5) (vTok st5 5))] s5 := R5
  generalize addrAt st5 4 = a at R5
  generalize addrAt st5 5 = d at R5
  have R6 : Rl w G s1 ⟨[ls, L], FRs l, some (lawEnv L :: l)⟩ [(a, inO 878 d), (d, dictT w.params (m0 (sOf [])) (kTok st5 5) (vTok st5 5)), (L, frT w.params (lawN9 ls (bodyP sc) (closeP sc) lw lu 3 (lawW sc 3).1 (lawW sc 3).2 a) (kTok st5 1) (vTok st5 1)), (lw, strLn [(lawW sc 0).1, (lawW sc 1).1, (lawW sc 2).1, (lawW sc 3).1] k4w n4w), (lu, strLn [(lawW sc 0).2, (lawW sc 1).2, (lawW sc 2).2, (lawW sc 3).2] k4u n4u)] s5 :=
    Rel.cut (l' := [(ls, listO its n)]) (Rel.perm R5 ((List.perm_append_comm (l₁ := [(ls, listO its n), (L, _), (lw, _), (lu, _)]) (l₂ := [(a, _), (d, _)])).trans (.cons _ (.cons _ (List.perm_append_comm (l₁ := [(ls, listO its n)]) (l₂ := [(L, _), (lw, _), (lu, _)]))))))
  have keep5 : ∀ b o, s.heap.get? b = some o → s5.heap.get? b = some o ∧ b ∉ [a, d, L, lw, lu] := fun b o e => by
    have hb1 : b < s.heap.objs.size := Heap.lt_size e
    have nd5 := R5.nd
    simp only [List.map_cons, List.map_nil, List.nodup_cons, List.mem_cons, List.not_mem_nil, or_false, not_or] at nd5
    have hL : s.heap.objs.size ≤ L := by
      rcases R1.mod (L, _) (.tail _ (.head _)) with z | z
      · exact absurd (List.mem_singleton.mp z).symm nd5.1.1
      · exact z
    have hn : ∀ x o', (x, o') ∈ [(ls, listO its n), (L, frT w.params (lawN9 ls (bodyP sc) (closeP sc) lw lu 3 (lawW sc 3).1 (lawW sc 3).2 a) (kTok st5 1) (vTok st5 1)), (lw, strLn [(lawW sc 0).1, (lawW sc 1).1, (lawW sc 2).1, (lawW sc 3).1] k4w n4w), (lu, strLn [(lawW sc 0).2, (lawW sc 1).2, (lawW sc 2).2, (lawW sc 3).2] k4u n4u), (a, inO 878 d), (d, dictT w.params (m0 (sOf [])) (kTok st5 5) (vTok st5 5))] → x ≠ ls → b ≠ x := fun x o' hx hxl => by
      rcases R5.mod (x, o') hx with z | z
      · rcases List.mem_cons.mp z with z | z
        · exact absurd z hxl
        · intro q
          rw [q, show x = L from List.mem_singleton.mp z] at hb1
          exact absurd hb1 (Nat.not_lt.mpr hL)
      · intro q
        rw [q] at hb1
        exact absurd hb1 (Nat.not_lt.mpr (Nat.le_trans R1.size z))
    refine ⟨?_, ?_⟩
    · by_cases hbl : b = ls
      · subst hbl
        have e1 := R.S (b, _) (.head _)
        rw [e] at e1
        cases e1
        exact R5.S (b, _) (.head _)
      · have e1 := R1.keep b o e (fun z => hbl (List.mem_singleton.mp z)) (by rw [hFl]; exact List.not_mem_nil)
        refine R5.keep b o e1 (fun z => ?_) (by rw [hFl]; exact List.not_mem_nil)
        rcases List.mem_cons.mp z with z | z
        · exact hbl z
        · rw [show b = L from List.mem_singleton.mp z] at hb1
          exact absurd hb1 (Nat.not_lt.mpr hL)
    · intro z
      simp only [List.mem_cons, List.not_mem_nil, or_false] at z
      rcases z with z | z | z | z | z
      · exact hn a _ (.tail _ (.tail _ (.tail _ (.tail _ (.head _))))) (fun h => nd5.1.2.2.2.1 h.symm) z
      · exact hn d _ (.tail _ (.tail _ (.tail _ (.tail _ (.tail _ (.head _)))))) (fun h => nd5.1.2.2.2.2 h.symm) z
      · rw [z] at hb1; exact absurd hb1 (Nat.not_lt.mpr hL)
      · exact hn lw _ (.tail _ (.tail _ (.head _))) (fun h => nd5.1.2.1 h.symm) z
      · exact hn lu _ (.tail _ (.tail _ (.tail _ (.head _)))) (fun h => nd5.1.2.2.1 h.symm) z
  have hgen5 : s5.gens = s.gens ∧ s5.os = s.os := ⟨R5.gens.trans R1.gens, R5.os.trans R1.os⟩
  have R6 : Rl w G s5 ⟨[a, d, L, lw, lu], FRs l, some (lawEnv L :: l)⟩ [(a, inO 878 d), (d, dictT w.params (m0 (sOf [])) (kTok st5 5) (vTok st5 5)), (L, frT w.params (lawN9 ls (bodyP sc) (closeP sc) lw lu 3 (lawW sc 3).1 (lawW sc 3).2 a) (kTok st5 1) (vTok st5 1)), (lw, strLn [(lawW sc 0).1, (lawW sc 1).1, (lawW sc 2).1, (lawW sc 3).1] k4w n4w), (lu, strLn [(lawW sc 0).2, (lawW sc 1).2, (lawW sc 2).2, (lawW sc 3).2] k4u n4u)] s5 := by
    refine Rel.localF (l := [(a, inO 878 d), (d, dictT w.params (m0 (sOf [])) (kTok st5 5) (vTok st5 5)), (L, frT w.params (lawN9 ls (bodyP sc) (closeP sc) lw lu 3 (lawW sc 3).1 (lawW sc 3).2 a) (kTok st5 1) (vTok st5 1)), (lw, strLn [(lawW sc 0).1, (lawW sc 1).1, (lawW sc 2).1, (lawW sc 3).1] k4w n4w), (lu, strLn [(lawW sc 0).2, (lawW sc 1).2, (lawW sc 2).2, (lawW sc 3).2] k4u n4u)]) R6 (fun p hp => hp) R6.nd (fun b hb => by rw [hFl] at hb; cases hb) (fun l' hl' e he => ?_)
    cases hl'
    rcases List.mem_cons.mp he with rfl | he
    · exact ⟨hF.kd, L, _, rfl, R6.hi (L, _) (.tail _ (.tail _ (.head _))), R6.S (L, _) (.tail _ (.tail _ (.head _))), .inl (.tail _ (.tail _ (.head _)))⟩
    · rw [hl] at he; cases he
  have hF2 : ∀ l', (⟨[a, d, L, lw, lu], FRs l, some (lawEnv L :: l)⟩ : XS).l = some l' → A1.frames = some l' := hF1
  clear R R1 R2 R3 R4 R5 hat hwd
  obtain ⟨b0, e0, h0⟩ := (hg 0 (by decide)).spec (D := D + 61) hGv hG (by lia) (m0 (sOf []))
  obtain ⟨b1, e1, h1⟩ := (hg 1 (by decide)).spec (D := D + 61) hGv hG (by lia) (stm (lawW sc 0).2 0 b0 e0 (markP (lawW sc 0).1))
  obtain ⟨b2, e2, h2⟩ := (hg 2 (by decide)).spec (D := D + 61) hGv hG (by lia) (stm (lawW sc 1).2 0 b1 e1 (markP (lawW sc 1).1))
  obtain ⟨b3, e3, h3⟩ := (hg 3 (by decide)).spec (D := D + 61) hGv hG (by lia) (stm (lawW sc 2).2 0 b2 e2 (markP (lawW sc 2).1))
  obtain ⟨b4, e4, h4⟩ := (hg 0 (by decide)).spec (D := D + 61) hGv hG (by lia) (stm (lawW sc 3).2 0 b3 e3 (markP (lawW sc 3).1))
  obtain ⟨q1, q2, q3, hst, hmk⟩ := lwRet
  rw [hst]
  refine wpAny_execs_one (wpAny_Return_some (wpAny_And2 (wpAny_Compare1 ?_ hmk)))
  have noE : ∀ (A : Around) (e : Value), False → False := fun _ _ h => h
  refine wpAny_mono ((lwl_ok w G a d L lw lu ls (kTok st5 1) (vTok st5 1) (kTok st5 5) (vTok st5 5) k4w k4u n4w n4u (bodyP sc) (closeP sc) 3 (lawW sc 3).1 (lawW sc 3).2 (lawW sc 0).1 (lawW sc 0).2 (lawW sc 1).1 (lawW sc 1).2 (lawW sc 2).1 (lawW sc 2).2 (lawW sc 3).1 (lawW sc 3).2 b3 e3 (markP (lawW sc 3).1) b4 e4 (markP (lawW sc 0).1)).tree (D := D + 1) (.c (HDOk.sW rfl h0 h1 h2 h3 (by lia)) .n) hA1 hD1 hF2 R6) (fun v1 s6 q => ?_) fun e s6 q => by obtain ⟨x, st', e, _⟩ := q; cases e
  obtain ⟨x6, st6, ev, R7⟩ := q
  have ev : v1 = .ref (refV x6) := by cases ev; rfl
  subst ev
  have R7 : Rl w G s5 ⟨[a, d, L, lw, lu], FRs l, some (lawEnv L :: l)⟩ [(a, inO 878 d), (d, dictT w.params (stm (lawW sc 3).2 0 b3 e3 (markP (lawW sc 3).1)) (kTok st6 1) (vTok st6 1)), (L, slotO (frT w.params (lawN9 ls (bodyP sc) (closeP sc) lw lu 3 (lawW sc 3).1 (lawW sc 3).2 a) (kTok st6 2) (vTok st6 2)) (objAt st6 2).slots), (lw, strLn [(lawW sc 0).1, (lawW sc 1).1, (lawW sc 2).1, (lawW sc 3).1] (vTok st6 3) (seqN st6 3)), (lu, strLn [(lawW sc 0).2, (lawW sc 1).2, (lawW sc 2).2, (lawW sc 3).2] (vTok st6 4) (seqN st6 4)), (refV x6, strLn [(lawW sc 0).2, (lawW sc 1).2, (lawW sc 2).2, (lawW sc 3).2] (vTok st6 5) (seqN st6 5))] s6 := R7
  generalize refV x6 = rA at R7
  refine wpAny_mono ((lwr_ok w G a d L lw lu ls (kTok st6 2) (vTok st6 2) (kTok st6 1) (vTok st6 1) (vTok st6 3) (vTok st6 4) (seqN st6 3) (seqN st6 4) (bodyP sc) (closeP sc) 3 (lawW sc 3).1 (lawW sc 3).2 (lawW sc 0).1 (lawW sc 0).2 (lawW sc 1).1 (lawW sc 1).2 (lawW sc 2).1 (lawW sc 2).2 (lawW sc 3).1 (lawW sc 3).2 b3 e3 (markP (lawW sc 3).1) b4 e4 (markP (lawW sc 0).1) rA (seqN st6 5) (vTok st6 5) (objAt st6 2).slots).tree (D := D + 1) .n hA1 hD1 hF2 R7) (fun v2 s7 q => ?_) fun e s7 q => by obtain ⟨x, st', e, _⟩ := q; cases e
  obtain ⟨x7, st7, ev, R8⟩ := q
  cases ev
  have R8 : Rl w G s5 ⟨[a, d, L, lw, lu], FRs l, some (lawEnv L :: l)⟩ [(a, inO 878 d), (d, dictT w.params (stm (lawW sc 3).2 0 b3 e3 (markP (lawW sc 3).1)) (kTok st7 1) (vTok st7 1)), (L, slotO (frT w.params (lawN9 ls (bodyP sc) (closeP sc) lw lu 3 (lawW sc 3).1 (lawW sc 3).2 a) (kTok st7 2) (vTok st7 2)) (objAt st7 2).slots), (lw, strLn [(lawW sc 0).1, (lawW sc 1).1, (lawW sc 2).1, (lawW sc 3).1] (vTok st7 3) (seqN st7 3)), (lu, strLn [(lawW sc 0).2, (lawW sc 1).2, (lawW sc 2).2, (lawW sc 3).2] (vTok st7 4) (seqN st7 4)), (rA, strLn [(lawW sc 0).2, (lawW sc 1).2, (lawW sc 2).2, (lawW sc 3).2] (vTok st7 5) (seqN st7 5))] s7 := R8
  have hx := R8.S (rA, _) (.tail _ (.tail _ (.tail _ (.tail _ (.tail _ (.head _))))))
  have hy := R8.S (lu, _) (.tail _ (.tail _ (.tail _ (.tail _ (.head _)))))
  show wpAny _ _ (richCompare .Eq (.ref rA) (.ref lu)) _ _ _
  refine lists_eq hx hy hu1 _ _ _ _ ?_
  refine wpAny_truthy_bool ?_
  show wpAny _ _ (eval lwY (lawEnv L)) _ _ _
  refine wpAny_mono ((lwy_ok w G a d L lw lu ls (kTok st7 2) (vTok st7 2) (kTok st7 1) (vTok st7 1) (vTok st7 3) (vTok st7 4) (seqN st7 3) (seqN st7 4) (bodyP sc) (closeP sc) 3 (lawW sc 3).1 (lawW sc 3).2 (lawW sc 0).1 (lawW sc 0).2 (lawW sc 1).1 (lawW sc 1).2 (lawW sc 2).1 (lawW sc 2).2 (lawW sc 3).1 (lawW sc 3).2 b3 e3 (markP (lawW sc 3).1) b4 e4 (markP (lawW sc 0).1) rA (seqN st7 5) (vTok st7 5) (objAt st7 2).slots).tree (D := D + 1) (.c (HDOk.methF (D' := D + 21) (fun c => (h4 c).less (by lia)) (Nat.le_refl _) rfl) <| .c (HDOk.sEq (decide_eq_true rfl)) .n) hA1 hD1 hF2 R8) (fun v3 s8 q => ?_) fun e s8 q => by obtain ⟨x, st', e, _⟩ := q; cases e
  obtain ⟨x8, st8, ev, R9⟩ := q
  cases ev
  exact ⟨rfl, fun b o e => R9.keep b o (keep5 b o e).1 (keep5 b o e).2 (by rw [hFl]; exact List.not_mem_nil), R9.gens.trans hgen5.1, R9.os.trans hgen5.2⟩
end
end Mine
end
end
section
open PySem PySem.W PyProof.Rows
set_option maxRecDepth 100000
set_option maxHeartbeats 0
namespace Mine
noncomputable def chk1 (w : World) (o : Obj) : Option (List (Option PySem.Str) × Bool × Bool) := (pre w).map fun X => (X.elts.map litOf, (match displayRoad X.k X.elts with | .unsure => true | _ => false), ((X.T.ins X.n o).get X.n).isSome)
theorem chk1_self : chk1 = chk1 := rfl
end Mine
open PySem.W.Fast
name_quick chk1q for Mine.chk1 by Mine.chk1_self
namespace Mine
theorem chk1_val (w : World) (o : Obj) : PySem.W.Fast.chk1q w o = some (vTexts.map some, true, true) := by kernel_rfl
end Mine
end
section
open PySem PySem.W PyProof.Rows
set_option maxRecDepth 100000
namespace Mine
theorem alive_not_freed {o : Obj} (h : alive o = some o) : (match o.data with | .freed => (none : Option Obj) | _ => some o) = some o := by
  obtain ⟨c, d, dt, sl⟩ := o
  cases dt <;> first | rfl | cases h
theorem over_node (o o' : Obj) (l r l' r' : BT) : over (.node o l r) (.node o' l' r') = .node (match o.data with | .freed => o' | _ => o) (over l l') (over r r') := rfl
theorem get_over : ∀ (T1 T2 : BT) (a : Nat) (o : Obj), over T1 T2 = T2 → T1.get a = some o → alive o = some o → T2.get a = some o
  | .nil, _, _, _, _, h, _ => by cases h
  | .node v l r, .nil, a, o, e, h, hl => by cases e
  | .node v l r, .node v' l' r', a, o, e, h, hl => by
    rw [over_node] at e
    injection e with e1 e2 e3
    rw [BT.get_node] at h ⊢
    split at h
    · rename_i ha
      rw [if_pos ha]
      obtain rfl := Option.some.inj h
      obtain ⟨c, d, dt, sl⟩ := v
      cases dt <;> first | (rw [← e1]; done) | (exact congrArg some e1.symm) | (cases hl)
    · rename_i ha
      rw [if_neg ha]
      split at h
      · rename_i hb
        rw [if_pos hb]
        exact get_over l l' _ o e2 h hl
      · rename_i hb
        rw [if_neg hb]
        exact get_over r r' _ o e3 h hl
end Mine
namespace Mine
theorem running_life {den : Code → Sem PySem.Fin} {prog : Program} {w : World} : ∀ {n : Nat} {s : Shared} {t : Thread} {s' : Shared} {t' : Thread}, runN den prog w n s t = .running s' t' → s'.heap.life = s.heap.life
  | 0, s, t, s', t', h => by
    simp only [runN] at h
    injection h with e _
    rw [e]
  | n + 1, s, t, s', t', h => by
    simp only [runN] at h
    cases hs : step den prog w s t with
    | go s₂ t₂ => simp only [hs] at h; rw [running_life h, step_life den prog w s s₂ t t₂ hs]
    | halt o₂ s₂ => simp only [hs] at h; cases h
theorem wp_sched {M : Model} {c : Code} {t : Sem PySem.Fin} {P : Shared → Prop} {p : Pos} {s : Shared} (hreg : s.asleep)
    (h : Sem.wp M (PySem.Ctx.of c []) t (fun fin _ s' => fin = .done (.ret .none) ∧ P s' ∧ leftWithCleanup s'.gens = false) (fun _ _ _ => False) p s) :
    ∃ n σ s' p', schedN M.den M.prog M.w n (.single s ⟨t, c, p, []⟩) = .running (.single σ ⟨.pure (.done (.ret .none)), c, p', []⟩) ∧ σ.heap.life = s.heap.life ∧ σ.forget = s'.forget ∧ P s' := by
  have h2 : Sem.wp M ⟨c, none, none, [], none⟩ t (Sem.finPost M ⟨c, none, none, [], none⟩ fun r s' => P s' ∧ leftWithCleanup s'.gens = false) (fun e _ s' => P s' ∧ leftWithCleanup s'.gens = false) p s := by
    refine Sem.wp_mono _ _ _ (fun fin p' s' q => ?_) (fun _ _ _ q => q.elim) p s h
    obtain ⟨rfl, q⟩ := q
    exact q
  obtain ⟨m, r, s2, hm, _⟩ := (wp_iff_halts (M := M) t (fun _ s' => P s') p s).mp h2
  obtain ⟨s'', hn, hf, hc⟩ := runNI_real M.den M.prog M.w hm (outcomeOf_ends r)
  have hne : ∀ k s₂, PySem.runN M.den M.prog M.w k s ⟨t, c, p, []⟩ ≠ .halted (.unsupported "lifetime:generator-with-cleanup-left-suspended") s₂ := by
    intro k s₂ hk
    have a := runN_mono M.den M.prog M.w m k s _ _ s'' hn
    have b := runN_mono M.den M.prog M.w k m s _ _ s₂ hk
    rw [Nat.add_comm, b] at a
    injection a with a1 _
    have := outcomeOf_ends r
    rw [← a1] at this
    exact absurd this (by simp [Outcome.ends])
  obtain ⟨n, s', σ, p', leaf, hr, hσ, hl⟩ := wp_reaches h
  rcases hl with ⟨a, rfl, rfl, hP, _⟩ | ⟨e, _, he⟩
  · refine ⟨n, σ, s', p', ?_, running_life hr, hσ, hP⟩
    rw [schedN_eq_runN M.den M.prog M.w s _ hreg ⟨hc, hne⟩ n, hr]; rfl
  · exact he.elim
end Mine
end
section
open PySem PySem.W PyProof.Rows
set_option maxRecDepth 100000
set_option maxHeartbeats 0
section
namespace Mine
noncomputable def hR (P : Params) : Heap := ⟨#[boot_o_0 P, boot_o_1 P, oS P, oM P, boot_o_4 P, boot_o_5 P, boot_o_6 P, boot_o_7 P, boot_o_8 P, boot_o_9 P, boot_o_10 P], {}⟩
theorem ns_congr {h h' : Heap} {a : Addr} (e : h.get? a = h'.get? a) : h.isNs a = h'.isNs a ∧ h.nsKeys a = h'.nsKeys a ∧ h.nsMap a = h'.nsMap a ∧ h.nsPairs a = h'.nsPairs a := by
  refine ⟨?_, ?_, ?_, ?_⟩
  · unfold Heap.isNs; rw [e]
  · unfold Heap.nsKeys; rw [e]
  · funext x; unfold Heap.nsMap; rw [e]
  · unfold Heap.nsPairs; rw [e]
noncomputable def mods0 : List PySem.Str := importedModules P0.main.body
theorem mods0_nil : importedModules P0.main.body = [] := by kernel_rfl
theorem f_acc (P : Params) : (hR P).accountedOkI [] = true := by kernel_rfl
theorem f_sta (P : Params) : staticsOk [] (boot_heap P) (hR P) = true := by kernel_rfl
theorem f_main (P : Params) : (hR P).isNs mainGlobals = true := by kernel_rfl
theorem f_blt (P : Params) : (hR P).isNs builtinsNs = true ∧ (hR P).bltView = bltViewBooted := ⟨by kernel_rfl, by kernel_rfl⟩
theorem f_names (P : Params) : namesBound P0 (hR P) = true := by kernel_rfl
theorem f_laid (P : Params) : laidKept (boot_heap P) (hR P) = true := by kernel_rfl
theorem f_main0 (P : Params) : (boot_heap P).isNs mainGlobals = true := by kernel_rfl
end Mine
namespace Mine
theorem lt11 (b : Nat) (h : b < 11) : b = 0 ∨ b = 1 ∨ b = 2 ∨ b = 3 ∨ b = 4 ∨ b = 5 ∨ b = 6 ∨ b = 7 ∨ b = 8 ∨ b = 9 ∨ b = 10 :=
  (by decide : ∀ b : Nat, b < 11 → b = 0 ∨ b = 1 ∨ b = 2 ∨ b = 3 ∨ b = 4 ∨ b = 5 ∨ b = 6 ∨ b = 7 ∨ b = 8 ∨ b = 9 ∨ b = 10) b h
theorem rep0 {w : World} {s : Shared} (h : s.heap = boot_heap w.params) (ht : s.toks = boot_toks) : Rep (T0 w.params) 11 boot_toks s := by
  refine ⟨by rw [h]; rfl, fun a o ha e => ?_, ht⟩
  rw [h]
  refine get?_alive ?_
  have : a = 0 ∨ a = 1 ∨ a = 2 ∨ a = 3 ∨ a = 4 ∨ a = 5 ∨ a = 6 ∨ a = 7 ∨ a = 8 ∨ a = 9 ∨ a = 10 := lt11 a (by omega)
  rcases this with rfl | rfl | rfl | rfl | rfl | rfl | rfl | rfl | rfl | rfl | rfl <;> (obtain rfl := Option.some.inj e; rfl)
theorem top_join (w : World) {s₀ : Shared} (h0 : s₀.heap = boot_heap w.params) (hg : s₀.gens = #[]) (ht : s₀.toks = boot_toks) (hz : s₀.asleep) :
    ∃ (G : Gs) (n : Nat) (σ : Shared) (p' : Pos), G.ro = [] ∧ GOk w G ∧ schedN (denote table) P0 w n (.single s₀ (topStub P0)) = .running (.single σ ⟨.pure (.done (.ret .none)), .builtin "claim.caller" {}, p', []⟩) ∧ σ.heap.life = s₀.heap.life ∧
      σ.gens = #[] ∧ σ.os = s₀.os ∧ σ.drawn = s₀.drawn ∧ σ.heap.objs.size = 989 ∧ ∀ a o, (TKb w.params G).get a = some o → alive o = some o → σ.heap.get? a = some o := by
  have c1 : ∀ o, chk1 w o = some (vTexts.map some, true, true) := fun o => by
    have := chk1_val w o
    rw [← PySem.W.Fast.chk1q_eq] at this
    exact this
  obtain ⟨X, hX, h1⟩ := Option.map_eq_some_iff.mp (c1 fz)
  have hx : X.elts.map litOf = vTexts.map some := congrArg (·.1) h1
  have hroad : displayRoad X.k X.elts = .unsure := by
    have := congrArg (·.2.1) h1
    dsimp only at this
    cases hd : displayRoad X.k X.elts <;> rw [hd] at this <;> first | rfl | cases this
  have hins : ∀ o, ((X.T.ins X.n o).get X.n).isSome = true := fun o => by
    obtain ⟨X', hX', h2⟩ := Option.map_eq_some_iff.mp (c1 o)
    rw [hX] at hX'
    cases hX'
    exact congrArg (·.2.2) h2
  have hp := post_ok hX
  have run := top_run hX hx (by decide) hroad hins (fun es ep t p => let ⟨F, h, _⟩ := hp es ep t p; ⟨F, h⟩) (rep0 h0 ht)
  obtain ⟨n, σ, s', p', hs, hl, hf, o, p, F, ⟨m, hm, ho⟩, hF, RF, K⟩ := wp_sched (M := model P0 w) (P := fun s' => ∃ o p F, (∃ n, n < scanBound ∧ o.SetObjOf (PySem.strKind P0 w) (fun k => vTexts.contains k) n) ∧ post w o p X = some F ∧ Rep F.T F.n F.tk s' ∧ Kept s₀ s') hz
    (Sem.wp_mono _ _ _ (fun fin p' s' q => by
      obtain ⟨e, o, p, F, q1, q2, q3, q4⟩ := q
      refine ⟨e, ⟨o, p, F, q1, q2, q3, q4⟩, ?_⟩
      rw [q4.gens, hg]; exact leftWithCleanup_false_of_bare (fun g hg => by simp at hg)) (fun _ _ _ q => q) _ _ run)
  obtain ⟨es, ep, t, rfl⟩ := setObj_of ho
  obtain ⟨F', hF', hov, hn⟩ := hp es ep t p
  rw [hF] at hF'
  cases hF'
  have eh : σ.heap = s'.heap := (congrArg Shared.heap hf : σ.forget.heap = s'.forget.heap)
  have eg : σ.gens = #[] := by
    have : σ.gens.map GenState.forget = s'.gens.map GenState.forget := (congrArg Shared.gens hf : σ.forget.gens = s'.forget.gens)
    rw [K.gens, hg] at this
    have hsz := congrArg Array.size this
    simp only [Array.size_map] at hsz
    exact Array.eq_empty_of_size_eq_zero hsz
  refine ⟨⟨es, ep, t, []⟩, n, σ, p', rfl, ⟨m, hm, ho⟩, hs, hl, eg, (congrArg Shared.os hf : σ.forget.os = s'.forget.os).trans K.os, (congrArg Shared.drawn hf : σ.forget.drawn = s'.forget.drawn).trans K.drawn, by rw [eh, RF.size, hn], fun a ob e hl' => ?_⟩
  rw [eh]
  have e2 := get_over _ _ a ob hov e hl'
  have hlt : a < 989 := tk_low e
  rw [RF.get a ob (by rw [hn]; exact hlt) e2, hl']
end Mine
end
end
section
open PySem PySem.W PyProof.Rows
set_option maxRecDepth 100000
set_option maxHeartbeats 0
section
namespace Mine
theorem op_plain : opening P0 = plainProg P0.main.scope.names := by kernel_rfl
theorem op_fence (s : Shared) : fenceModules? P0 s = some s := by
  have h : importedModules P0.main.body = [] := mods0_nil
  first | rfl | kernel_rfl
theorem f_bm (P : Params) : ∃ o, (boot_o_4 P) = o ∧ o.cls = .type "module" ∧ o.dict = some builtinsNs := ⟨_, rfl, by kernel_rfl, by kernel_rfl⟩
theorem f_bmg (P : Params) : (hR P).nsMap mainGlobals "__builtins__" = some (.ref 4) := by kernel_rfl
theorem hR_get (P : Params) (G : Gs) {s : Shared} (h : ∀ a o, (TKb P G).get a = some o → alive o = some o → s.heap.get? a = some o) : s.heap.get? 0 = (hR P).get? 0 ∧ s.heap.get? 2 = (hR P).get? 2 ∧ s.heap.get? 3 = (hR P).get? 3 :=
  ⟨(h 0 (boot_o_0 P) rfl rfl).trans rfl, (h 2 (oS P) rfl rfl).trans rfl, (h 3 (oM P) rfl rfl).trans rfl⟩
theorem top_ran (w : World) {s₀ s₁ : Shared} {G : Gs} {n : Nat} {p' : Pos} (h0 : s₀.heap = boot_heap w.params)
    (hrun : schedN (denote table) P0 w n (.single s₀ (topStub P0)) = .running (.single s₁ ⟨.pure (.done (.ret .none)), .builtin "claim.caller" {}, p', []⟩)) (hl : s₁.heap.life = s₀.heap.life) (hg : s₁.gens = #[]) (hos : s₁.os = s₀.os)
    (hk : ∀ a o, (TKb w.params G).get a = some o → alive o = some o → s₁.heap.get? a = some o) : TopRan P0 w s₀ s₁ := by
  obtain ⟨g0, g2, g3⟩ := hR_get w.params G hk
  obtain ⟨i0, k0, m0', q0⟩ := ns_congr g0
  obtain ⟨i2, k2, m2, q2⟩ := ns_congr g2
  obtain ⟨i3, k3, m3, q3⟩ := ns_congr g3
  have a1 : s₁.heap.accountedOkI [] = true := by
    have := f_acc w.params
    unfold Heap.accountedOkI at this ⊢
    rw [show cStatics = 2 from rfl] at this ⊢
    rw [i2, k2, m2]; exact this
  have a2 : staticsOk [] s₀.heap s₁.heap = true := by
    have := f_sta w.params
    rw [h0]
    unfold staticsOk at this ⊢
    rw [show cStatics = 2 from rfl] at this ⊢
    rw [i2, k2, m2]; exact this
  have a3 : s₁.heap.isNs mainGlobals = true := i3.trans (f_main w.params)
  have a4 : s₁.heap.isNs builtinsNs = true := i0.trans (f_blt w.params).1
  have a5 : s₁.heap.bltView = bltViewBooted := by
    have := (f_blt w.params).2
    unfold Heap.bltView at this ⊢
    rw [show builtinsNs = 0 from rfl] at this ⊢
    rw [q0]; exact this
  have a6 : namesBound P0 s₁.heap = true := by
    have := f_names w.params
    unfold namesBound at this ⊢
    rw [show mainGlobals = 3 from rfl] at this ⊢
    rw [i3, k3]; exact this
  have a7 : laidKept s₀.heap s₁.heap = true := by
    have := f_laid w.params
    rw [h0]
    unfold laidKept at this ⊢
    rw [show mainGlobals = 3 from rfl] at this ⊢
    rw [i3, m3]; exact this
  have e0 : ∀ x, globalOf s₁.heap x = s₁.heap.nsMap mainGlobals x := fun x => Pin.globalOf_eq a3 x
  refine ⟨⟨n, _, hrun, rfl⟩, hl, Shared.rest_eq hos, fun b o hb hn => ?_, ?_, ?_, Pin.keysAreStrs_of a3, fun x hx => (Pin.builtinOf_eq a4 x).trans (Heap.of_bltView a4 a5 x hx), ?_, fun g hgm => by rw [hg] at hgm; simp at hgm, names_of_bound a6, laid_of_kept a7⟩
  · have hlt : b < 11 := by have := Heap.lt_size hb; rw [h0] at this; exact this
    rw [h0] at hb
    rcases lt11 b hlt with rfl | rfl | rfl | rfl | rfl | rfl | rfl | rfl | rfl | rfl | rfl
    · exact (hk 0 (boot_o_0 w.params) rfl rfl).trans hb
    · exact (hk 1 (boot_o_1 w.params) rfl rfl).trans hb
    · exact absurd (.inr (.inl rfl)) hn
    · exact absurd (.inl rfl) hn
    · exact (hk 4 (boot_o_4 w.params) rfl rfl).trans hb
    · exact (hk 5 (boot_o_5 w.params) rfl rfl).trans hb
    · exact (hk 6 (boot_o_6 w.params) rfl rfl).trans hb
    · exact (hk 7 (boot_o_7 w.params) rfl rfl).trans hb
    · exact (hk 8 (boot_o_8 w.params) rfl rfl).trans hb
    · exact (hk 9 (boot_o_9 w.params) rfl rfl).trans hb
    · exact (hk 10 (boot_o_10 w.params) rfl rfl).trans hb
  · rw [mods0_nil]; exact Heap.accountedI_of_ok a1
  · rw [mods0_nil]; exact statics_of_ok a2
  · obtain ⟨o, ho, c1, c2⟩ := f_bm w.params
    refine ⟨4, o, ?_, ?_, c1, c2⟩
    · rw [e0, show mainGlobals = 3 from rfl, m3]; exact f_bmg w.params
    · rw [← ho]; exact hk 4 (boot_o_4 w.params) rfl rfl
end Mine
end
end
section
open PySem PySem.W PyProof.Rows
set_option maxRecDepth 100000
set_option maxHeartbeats 0
section
namespace Mine
theorem opened (w : World) : (∃ s, AfterRun (opening P0) w s) ∧ ∀ s, AfterRun (opening P0) w s → ∃ s₀, fenceModules? P0 s = some s₀ ∧ s₀.gens = #[] ∧ s₀.heap = boot_heap w.params ∧ s₀.toks = boot_toks ∧ s₀.asleep := by
  have h := boot_open (p := P0) (N := 600) op_plain (by decide) op_fence w
  rw [← table_eq_tree] at h
  obtain ⟨s₀, h2, e⟩ := Option.map_eq_some_iff.mp h
  obtain ⟨s, h4, h5⟩ := Option.bind_eq_some_iff.mp h2
  have A := AfterImport.of_importEnds h4
  refine ⟨⟨s, A⟩, fun s' hs' => ?_⟩
  obtain rfl : s' = s := AfterImport.unique hs' A
  have e1 : s₀.heap = boot_heap w.params := congrArg (·.1) e
  have e2 : s₀.gens = Array.mk [] := congrArg (·.2.1) e
  have e3 : s₀.toks = boot_toks := congrArg (·.2.2.2) e
  exact ⟨s₀, h5, e2, e1, e3, Shared.asleep_of_life (fence_lifeW h5) A.life⟩
noncomputable abbrev R0 : OpenRow := rw9.row
noncomputable def intsOf : List WData → List Int
  | .int i :: r => i :: intsOf r
  | _ :: r => 0 :: intsOf r
  | [] => []
theorem lay_ints {R : WRecords} {cl : PySem.Str → Option Addr} {P : Params} {ord : List DictEntry → List DictEntry} : ∀ (xs : List WData) (s : Shared) (r : List Value × Shared), (∀ x ∈ xs, ∃ i, x = .int i) → layAllW R cl P ord xs s = some r →
    r.1.length = (intsOf xs).length ∧ (∀ (i : Nat) (v : Int), (intsOf xs)[i]? = some v → ∃ t, r.1[i]? = some (.int v t)) ∧ r.2.heap = s.heap ∧ r.2.gens = s.gens ∧ r.2.os = s.os
  | [], s, r, _, h => by
    simp only [layAllW, Option.some.injEq] at h
    subst h
    exact ⟨rfl, fun i v e => by simp [intsOf] at e, rfl, rfl, rfl⟩
  | x :: xs, s, r, hx, h => by
    obtain ⟨a, q, ha, hq, rfl⟩ := layAllW_cons h
    obtain ⟨i, rfl⟩ := hx x (.head _)
    simp only [layW, Option.some.injEq] at ha
    subst ha
    obtain ⟨h1, h2, h3, h4, h5⟩ := lay_ints xs _ q (fun y hy => hx y (.tail _ hy)) hq
    refine ⟨by show q.1.length + 1 = (intsOf xs).length + 1; rw [h1], fun k v e => ?_, h3, h4, h5⟩
    cases k with
    | zero =>
      have : i = v := by simpa [intsOf] using e
      subst this
      exact ⟨_, rfl⟩
    | succ k => exact h2 k v (by simpa [intsOf] using e)
end Mine
end
end
section
open PySem PySem.W PyProof.Rows
set_option maxRecDepth 100000
set_option maxHeartbeats 0
section
namespace Mine
theorem pre_shape {args : List WData} (h : R0.toRowW.claim.pre args = true) : ∃ xs, args = [.list xs] ∧ (∀ x ∈ xs, ∃ i, x = .int i) ∧ xs.length ≤ 63 := by
  obtain ⟨h1, h2⟩ := pre_splitW h
  obtain ⟨d, r, rfl, hd, hr⟩ := hasAllW_cons h1
  obtain rfl := hasAllW_nil hr
  obtain ⟨xs, rfl, hi⟩ := hasW_list hd
  refine ⟨xs, rfl, fun x hx => hasW_int (hasItemsW_at hi x hx), ?_⟩
  by_cases hlt : xs.length ≤ 63
  · exact hlt
  · exfalso
    have hlt : (63 : Int) < (xs.length : Int) := by lia
    have : WTm.holds R0.toRowW.records R0.toRowW.pre { args := [.list xs] } = false := by
      show WTm.holds [] (.and (.not (.lt (.lit (.int 63)) (.len (.arg 0)))) (.lit (.bool true))) { args := [.list xs] } = false
      have e : less? (WData.int 63) (WData.int (xs.length : Int)) = some true := by
        first
          | (show some (decide ((63 : Int) < (xs.length : Int))) = some true; rw [decide_eq_true hlt])
          | simp [less?, hlt]
      simp [WTm.holds, WTm.value, e]
    rw [this] at h2
    cases h2
end Mine
end
end
section
open PySem PySem.W PyProof.Rows
set_option maxRecDepth 100000
set_option maxHeartbeats 0
section
namespace Mine
theorem g_law (P : Params) : (hR P).nsMap mainGlobals "law" = some (.ref 988) := by kernel_rfl
theorem law_pin (P : Params) (G : Gs) : ∃ pm, (TKb P G).get 988 = some (fnO (fnAt 23 none) (.type "function") "law" 3 pm (.ref 987) .none 0) := ⟨sv "law_af0032_01" 3127, by kernel_rfl⟩
theorem law_def : P0.theDef "law" = some (fnArgs (fnAt 23 none), fnBody (fnAt 23 none), fnScope (fnAt 23 none)) := by kernel_rfl
theorem law_name : fnName (fnAt 23 none) = "law" := by kernel_rfl
theorem law_dflt : (fnArgs (fnAt 23 none)).defaults = [] := by kernel_rfl
theorem law_kw : kwWritten? (fnArgs (fnAt 23 none)).kwonlyargs (fnArgs (fnAt 23 none)).kw_defaults = some [] := by kernel_rfl
theorem P0_bare : P0.bare := by
  refine ⟨rfl, rfl, rfl, rfl, ?_, ?_⟩ <;> kernel_rfl
theorem P0_opens : opensWell P0 = true := by kernel_rfl
theorem rel_start {w : World} {G : Gs} (hro : G.ro = []) {s : Shared} {its : Array Value} (hsz : 989 ≤ s.heap.objs.size) (hk : ∀ a o, (TKb w.params G).get a = some o → alive o = some o → s.heap.get? a = some o) {ls : Nat} (hls : 989 ≤ ls) (ho : s.heap.get? ls = some (listO its 0)) :
    Rl w G s ⟨[ls], [], none⟩ [(ls, listO its 0)] s where
  K := hk
  low := fun a o h => tk_low h
  S := fun p hp => by obtain rfl := List.mem_singleton.mp hp; exact ho
  hi := fun p hp => by obtain rfl := List.mem_singleton.mp hp; exact hls
  nd := by simp
  mod := fun p hp => .inl (by obtain rfl := List.mem_singleton.mp hp; exact .head _)
  keep := fun b o h _ _ => h
  size := Nat.le_refl _
  n0 := hsz
  gens := rfl
  drawn := rfl
  os := rfl
  ro := fun p hp => by
    have hp : p ∈ G.ro := hp
    rw [hro] at hp; cases hp
  keepF := fun b hb => by cases hb
  sf := fun p hp h => by cases h
  fl := fun b hb => by cases hb
  liv := fun b o h => ⟨o, h⟩
  fr := fun l h => by cases h
end Mine
end
end
section
open PySem PySem.W PyProof.Rows
set_option maxRecDepth 100000
set_option maxHeartbeats 0
section
namespace Mine
theorem intsOf_len : ∀ (xs : List WData), (intsOf xs).length = xs.length
  | [] => rfl
  | x :: r => by cases x <;> (show (intsOf r).length + 1 = r.length + 1; rw [intsOf_len r])
theorem law_open (hgood : ∀ sc : List Int, sc.length ≤ 63 → ∀ i, i < 4 → GoodW (lawW sc i)) : R0.toRowW.claim.HoldsOpenBy (callStub R0.name) (if R0.pinned = true then [R0.name] else []) R0.keeps R0.writes := by
  refine ⟨⟨P0_bare, P0_opens, rfl⟩, ⟨[.list []], by kernel_rfl, by kernel_rfl⟩, fun w => ⟨(opened w).1, fun s hs => ?_⟩⟩
  obtain ⟨s₀, hf, hg, hh, ht, hz⟩ := (opened w).2 s hs
  obtain ⟨G, n, σ, p', hro, hGv, hrun, hl, hgs, hos, hdr, hsz, hk⟩ := top_join w hh hg ht hz
  have hT := top_ran w hh hrun hl hgs hos hk
  obtain ⟨g0, g2, g3⟩ := hR_get w.params G hk
  have a3 : σ.heap.isNs mainGlobals = true := (ns_congr g3).1.trans (f_main w.params)
  have hlawv : σ.heap.nsMap mainGlobals "law" = some (.ref 988) := by
    rw [show mainGlobals = 3 from rfl, (ns_congr g3).2.2.1]; exact g_law w.params
  refine ⟨s₀, hf, hg, σ, hT, fun m hm => ?_, fun x hx => (nomatch hx), fun x hx => (nomatch hx), ?_⟩
  · obtain rfl : m = "law" := List.mem_singleton.mp hm
    obtain ⟨pm, ho⟩ := law_pin w.params G
    exact ⟨988, _, _, _, _, _, (Pin.globalOf_eq a3 _).trans hlawv, hk _ _ ho rfl, rfl, law_def, law_name, rfl, rfl, rfl, rfl, rfl, rfl, rfl, .inl ⟨law_dflt, rfl⟩, [], law_kw, .inl ⟨rfl, rfl⟩⟩
  · refine ClaimW.callFrom_of_specG (c := R0.toRowW.claim) (tree := fun vs => do match ← nsGet mainNs R0.name with
      | some f => do ret (← call f vs)
      | none => unsupported "claim.caller:no-such-global") (Shared.asleep_of_life hl hz) hgs fun args hpre hlay ord hord => ?_
    obtain ⟨xs, rfl, hint, hlen⟩ := pre_shape hpre
    obtain ⟨⟨vs, s₁⟩, hlaid⟩ := Option.isSome_iff_exists.mp (layAllW_isSome (R := R0.toRowW.claim.records) (cl := classAt σ.heap) (P := w.params) (ord := ord) (fun c hc => (nomatch hc)) [.list xs] R0.args σ (pre_splitW hpre).1)
    refine ⟨vs, s₁, hlaid, ?_⟩
    have hlaid0 := hlaid
    obtain ⟨a, q, ha, hq, he⟩ := layAllW_cons hlaid
    simp only [layAllW, Option.some.injEq] at hq
    subst hq
    simp only [layW] at ha
    split at ha
    · rename_i r hr
      simp only [Option.some.injEq] at ha
      subst ha
      obtain ⟨rfl, rfl⟩ : vs = [.ref r.2.heap.objs.size] ∧ s₁ = { r.2 with heap := r.2.heap.push { cls := .type "list", data := .seq r.1.toArray } } := by
        constructor
        · exact congrArg Prod.fst he
        · exact congrArg Prod.snd he
      obtain ⟨h1, h2, h3, h4, h5⟩ := lay_ints xs σ r hint hr
      have hszr : r.2.heap.objs.size = 989 := by rw [h3, hsz]
      have keepR : ∀ b o, σ.heap.get? b = some o → (r.2.heap.push (listO r.1.toArray 0)).get? b = some o := fun b o e => by
        rw [h3, Heap.get?_push_ne _ _ _ (Nat.ne_of_lt (Heap.lt_size e))]; exact e
      have R := rel_start (w := w) (G := G) hro (s := { r.2 with heap := r.2.heap.push (listO r.1.toArray 0) }) (its := r.1.toArray) (ls := r.2.heap.objs.size) (by show 989 ≤ (r.2.heap.objs.push _).size; rw [Array.size_push, hszr]; decide) (fun a o e hl' => keepR a o (hk a o e hl')) (by rw [hszr]; exact Nat.le_refl _) (Heap.get?_push_size _ rfl)
      have hn : (r.2.heap.push (listO r.1.toArray 0)).Ns mainGlobals (σ.heap.nsMap mainGlobals) := by
        obtain ⟨o, es, ep, ho, rest⟩ := Heap.Ns.of_isNs a3
        exact ⟨o, es, ep, keepR _ _ ho, rest⟩
      have hrunL := law_run (w := w) (D := 301) hGv hro (by decide) (its := r.1.toArray) (n := 0) (sc := intsOf xs) ⟨by rw [List.size_toArray]; exact h1, fun i v e => by rw [List.getElem?_toArray]; exact h2 i v e⟩ (by rw [intsOf_len]; lia) (hgood _ (by rw [intsOf_len]; exact hlen)) (A := callerA) rfl (Nat.le_refl _) (by decide) rfl R
      show wpAny (model P0 w) callerA (nsGet mainNs R0.name >>= _) _ _ _
      refine wpAny_bind (wpAny_nsGet (a := mainNs) hn ?_)
      have : σ.heap.nsMap mainGlobals R0.name = some (.ref 988) := hlawv
      rw [this]
      refine wpAny_bind (wpAny_call (codeAny_mono hrunL fun res s' hq => ?_))
      obtain ⟨rfl, hkeep, hgen, hoss⟩ := hq
      refine wpAny_pure ⟨_, rfl, ?_⟩
      have good : PySem.W.GoodW R0.toRowW.claim (classAt σ.heap) (ExcName.means σ.heap) [.list xs] { r.2 with heap := r.2.heap.push (listO r.1.toArray 0) } (.ok (.ret (.bool true))) s' :=
        ⟨.inl ⟨_, .bool true, [], rfl, fun cls => rfl, .bool true, by kernel_rfl, fun _ => ⟨List.nodup_nil, fun a ha => by cases ha⟩⟩, hkeep, hoss, hgen.trans (h4.trans hgs)⟩
      obtain ⟨e1, e2, e3⟩ := PySem.W.GoodW.ends (c := R0.toRowW.claim) rfl (ident_freeW rfl rfl rfl) hord hlaid0 hlay good
      exact ⟨e1, e2, .of_eq e3, fun h => by cases h⟩
    · cases ha
end Mine
end
end
section
set_option maxRecDepth 100000
namespace Mine
inductive DT where
  | leaf (c : List (Nat × List Nat))
  | node (E : List Nat) (l r : DT)
noncomputable def cmpK {β : Type} (lt ge : Nat → Option β) (E : List Nat) : List Nat → Nat → Option β :=
  @List.rec Nat (fun _ => List Nat → Nat → Option β) (fun _ n => ge n)
    (fun b _ ih K n => @List.rec Nat (fun _ => Option β) none (fun a A _ => @Bool.rec (fun _ => Option β) (@Bool.rec (fun _ => Option β) (ge n) (lt n) (Nat.blt a b)) (ih A (Nat.add n 1)) (Nat.beq a b)) K) E
theorem cmpK_sound {β : Type} {lt ge : Nat → Option β} {r : β} (U : List Nat) : ∀ (E K : List Nat) (n : Nat), cmpK lt ge E K n = some r →
    (cmpL (K ++ U) E).2 ≤ K.length ∧ ((cmpL (K ++ U) E).1 < 0 → lt (n + (cmpL (K ++ U) E).2) = some r) ∧ (¬ (cmpL (K ++ U) E).1 < 0 → ge (n + (cmpL (K ++ U) E).2) = some r)
  | [], K, n, h => by
    have e : cmpL (K ++ U) [] = (0, 0) := by cases K ++ U <;> rfl
    rw [e]
    exact ⟨Nat.zero_le _, fun h => absurd h (by decide), fun _ => h⟩
  | _ :: _, [], _, h => by cases h
  | b :: E, a :: A, n, h => by
    have h' : @Bool.rec (fun _ => Option β) (@Bool.rec (fun _ => Option β) (ge n) (lt n) (Nat.blt a b)) (cmpK lt ge E A (n + 1)) (Nat.beq a b) = some r := h
    show _ ≤ A.length + 1 ∧ _
    by_cases hab : a = b
    · have e : cmpL (a :: A ++ U) (b :: E) = ((cmpL (A ++ U) E).1, (cmpL (A ++ U) E).2 + 1) := if_pos hab
      rw [show Nat.beq a b = true from Nat.beq_eq.mpr hab] at h'
      obtain ⟨h1, h2, h3⟩ := cmpK_sound U E A (n + 1) h'
      rw [e]
      refine ⟨Nat.succ_le_succ h1, fun q => ?_, fun q => ?_⟩
      · rw [← h2 q]; congr 1; show n + ((cmpL (A ++ U) E).2 + 1) = _; lia
      · rw [← h3 q]; congr 1; show n + ((cmpL (A ++ U) E).2 + 1) = _; lia
    · have e : cmpL (a :: A ++ U) (b :: E) = ((a : Int) - b, 0) := if_neg hab
      rw [show Nat.beq a b = false from Bool.eq_false_iff.mpr fun q => hab (Nat.eq_of_beq_eq_true q)] at h'
      rw [e]
      refine ⟨Nat.zero_le _, fun q => ?_, fun q => ?_⟩
      · have q' : (a : Int) - b < 0 := q
        rw [show Nat.blt a b = true from Nat.blt_eq.mpr (by lia)] at h'; exact h'
      · have q' : ¬ (a : Int) - b < 0 := q
        rw [show Nat.blt a b = false from Bool.eq_false_iff.mpr fun q => by have := Nat.blt_eq.mp q; lia] at h'; exact h'
noncomputable def dropR (n : Nat) : List Nat → List Nat := @Nat.rec (fun _ => List Nat → List Nat) (fun l => l) (fun _ ih l => @List.rec Nat (fun _ => List Nat) [] (fun _ t _ => ih t) l) n
theorem dropR_eq : ∀ (n : Nat) (l : List Nat), dropR n l = l.drop n
  | 0, l => rfl
  | n + 1, [] => rfl
  | n + 1, _ :: t => dropR_eq n t
noncomputable def lenR (l : List Nat) : Nat := @List.rec Nat (fun _ => Nat) 0 (fun _ _ n => Nat.add n 1) l
theorem lenR_eq : ∀ l : List Nat, lenR l = l.length
  | [] => rfl
  | _ :: t => congrArg (· + 1) (lenR_eq t)
noncomputable def dtC (ci : Nat) (c : List (Nat × List Nat)) : Option (Nat × List Nat) :=
  @List.rec (Nat × List Nat) (fun _ => Option (Nat × List Nat)) none (fun p _ ih => @Bool.rec (fun _ => Option (Nat × List Nat)) ih (some p) (Nat.ble p.1 ci)) c
noncomputable def dtV (d : DT) : List Nat → Nat → Nat → Option (Option (Nat × List Nat)) :=
  @DT.rec (fun _ => List Nat → Nat → Nat → Option (Option (Nat × List Nat))) (fun c _ ci _ => some (dtC ci c))
    (fun E _ _ ihl ihr K ci cj => @Bool.rec (fun _ => Option (Option (Nat × List Nat))) (cmpK (fun q => ihl K ci q) (fun q => ihr K q cj) (dropR cj E) (dropR cj K) cj) (cmpK (fun q => ihl K ci q) (fun q => ihr K q cj) (dropR ci E) (dropR ci K) ci) (Nat.ble ci cj)) d
noncomputable def asR (as : List (List Nat)) (r : Int) : List Nat := (as.getD (r - 1).toNat []).reverse
noncomputable def toC (T : TabP) (as : List (List Nat)) : Nat → Nat → Option (List (Nat × List Nat))
  | 0, _ => none
  | n + 1, i => if (T.getD i ([], 0, 0)).2.1 < 0 then some [((T.getD i ([], 0, 0)).1.length, asR as (T.getD i ([], 0, 0)).2.2)] else (toC T as n (T.getD i ([], 0, 0)).2.1.toNat).map (((T.getD i ([], 0, 0)).1.length, asR as (T.getD i ([], 0, 0)).2.2) :: ·)
noncomputable def Told (as : List (List Nat)) (N : Nat) (f : Option (Option (Nat × Int))) (r : Option (Nat × List Nat)) : Prop :=
  (r = none ∧ f = some none) ∨ ∃ n v, n ≤ N ∧ r = some (n, asR as v) ∧ f = some (some (n, v))
theorem toC_sound {T : TabP} {as : List (List Nat)} {ci N : Nat} (hci : ci ≤ N) : ∀ {n i : Nat} {l : List (Nat × List Nat)}, toC T as n i = some l → Told as N (chainB T ci n i) (dtC ci l)
  | 0, _, _, h => by cases h
  | n + 1, i, l, h => by
    unfold toC at h
    unfold chainB
    have key : ∀ l', dtC ci (((T.getD i ([], 0, 0)).1.length, asR as (T.getD i ([], 0, 0)).2.2) :: l') = if (T.getD i ([], 0, 0)).1.length ≤ ci then some ((T.getD i ([], 0, 0)).1.length, asR as (T.getD i ([], 0, 0)).2.2) else dtC ci l' := fun l' => by
      show @Bool.rec (fun _ => Option (Nat × List Nat)) (dtC ci l') _ (Nat.ble (T.getD i ([], 0, 0)).1.length ci) = _
      by_cases hl : (T.getD i ([], 0, 0)).1.length ≤ ci
      · rw [if_pos hl, Nat.ble_eq.mpr hl]
      · rw [if_neg hl, Bool.eq_false_iff.mpr fun q => hl (Nat.ble_eq.mp q)]
    have fin : (T.getD i ([], 0, 0)).1.length ≤ ci → ∀ l', Told as N (some (some ((T.getD i ([], 0, 0)).1.length, (T.getD i ([], 0, 0)).2.2))) (dtC ci (((T.getD i ([], 0, 0)).1.length, asR as (T.getD i ([], 0, 0)).2.2) :: l')) := fun hl l' => by
      rw [key, if_pos hl]
      exact .inr ⟨_, _, Nat.le_trans hl hci, rfl, rfl⟩
    split at h
    · rename_i hs
      cases h
      by_cases hl : (T.getD i ([], 0, 0)).1.length ≤ ci
      · rw [if_pos hl]; exact fin hl _
      · rw [if_neg hl, if_pos hs, key, if_neg hl]; exact .inl ⟨rfl, rfl⟩
    · rename_i hs
      obtain ⟨l', h', rfl⟩ := Option.map_eq_some_iff.mp h
      by_cases hl : (T.getD i ([], 0, 0)).1.length ≤ ci
      · rw [if_pos hl]; exact fin hl _
      · rw [if_neg hl, if_neg hs, key, if_neg hl]; exact toC_sound hci h'
noncomputable def toD (T : TabP) (as : List (List Nat)) : Nat → Nat → Nat → Bool → Option DT
  | 0, _, _, _ => none
  | n + 1, i, j, f => do
    let sub := fun i j => if j - i ≤ 1 then (if 0 < i ∨ j = i ∨ f = true then (toC T as 100 i).map .leaf else toD T as n i j true) else toD T as n i j f
    let l ← sub i (i + (j - i) / 2)
    let r ← sub (i + (j - i) / 2) j
    pure (.node (T.getD (i + (j - i) / 2) ([], 0, 0)).1 l r)
theorem toD_sound {T : TabP} {as : List (List Nat)} {K : List Nat} (U : List Nat) : ∀ {n i j : Nat} {f : Bool} {d : DT} {ci cj : Nat} {r : Option (Nat × List Nat)}, ci ≤ K.length → cj ≤ K.length → toD T as n i j f = some d → dtV d K ci cj = some r →
    Told as K.length ((runB T (K ++ U) n ⟨i, j, ci, cj, f⟩).bind fun b => chainB T b.ci 100 b.i) r
  | 0, _, _, _, _, _, _, _, _, _, h, _ => by cases h
  | n + 1, i, j, f, d, ci, cj, r, hi, hj, h, hr => by
    unfold toD at h
    obtain ⟨l, hl, h⟩ := Option.bind_eq_some_iff.mp h
    obtain ⟨r', hr', h⟩ := Option.bind_eq_some_iff.mp h
    cases h
    have key : ∀ (i' j' ci' cj' : Nat) (d' : DT), ci' ≤ K.length → cj' ≤ K.length → (if j' - i' ≤ 1 then (if 0 < i' ∨ j' = i' ∨ f = true then (toC T as 100 i').map DT.leaf else toD T as n i' j' true) else toD T as n i' j' f) = some d' → dtV d' K ci' cj' = some r →
        Told as K.length ((if (endB ⟨i', j', ci', cj', f⟩).1 = true then some (endB ⟨i', j', ci', cj', f⟩).2 else runB T (K ++ U) n (endB ⟨i', j', ci', cj', f⟩).2).bind fun b => chainB T b.ci 100 b.i) r := fun i' j' ci' cj' d' hi' hj' hd he => by
      have leaf : (toC T as 100 i').map DT.leaf = some d' → Told as K.length (chainB T ci' 100 i') r := fun hd => by
        obtain ⟨c, hc, rfl⟩ := Option.map_eq_some_iff.mp hd
        have e : some (dtC ci' c) = some r := he
        cases e
        exact toC_sound hi' hc
      unfold endB
      dsimp only
      by_cases h1 : j' - i' ≤ 1
      · rw [if_pos h1] at hd
        rw [if_pos h1]
        by_cases h2 : 0 < i'
        · rw [if_pos (.inl h2)] at hd
          rw [if_pos h2, if_pos rfl]
          exact leaf hd
        · by_cases h3 : j' = i'
          · rw [if_pos (.inr (.inl h3))] at hd
            rw [if_neg h2, if_pos h3, if_pos rfl]
            exact leaf hd
          · cases f with
            | true =>
              rw [if_pos (.inr (.inr rfl))] at hd
              rw [if_neg h2, if_neg h3, if_pos rfl, if_pos rfl]
              exact leaf hd
            | false =>
              rw [if_neg (fun q => q.elim h2 fun q => q.elim h3 fun q => Bool.noConfusion q)] at hd
              rw [if_neg h2, if_neg h3]
              exact toD_sound U hi' hj' hd he
      · rw [if_neg h1] at hd
        rw [if_neg h1]
        exact toD_sound U hi' hj' hd he
    have step : ∀ m, m = min ci cj → cmpK (fun q => dtV l K ci q) (fun q => dtV r' K q cj) (dropR m (T.getD (i + (j - i) / 2) ([], 0, 0)).1) (dropR m K) m = some r → Told as K.length ((runB T (K ++ U) (n + 1) ⟨i, j, ci, cj, f⟩).bind fun b => chainB T b.ci 100 b.i) r := fun m hm hc => by
      rw [dropR_eq, dropR_eq] at hc
      have hmK : m ≤ K.length := by lia
      obtain ⟨c1, c2, c3⟩ := cmpK_sound U _ _ _ hc
      rw [List.length_drop] at c1
      unfold runB stepB
      dsimp only
      rw [← hm, List.drop_append_of_le_length hmK]
      split
      · rename_i hlt
        exact key _ _ _ _ _ hi (by show m + _ ≤ _; lia) hl (c2 hlt)
      · rename_i hge
        exact key _ _ _ _ _ (by show m + _ ≤ _; lia) hj hr' (c3 hge)
    by_cases hle : ci ≤ cj
    · have e : dtV (.node (T.getD (i + (j - i) / 2) ([], 0, 0)).1 l r') K ci cj = cmpK (fun q => dtV l K ci q) (fun q => dtV r' K q cj) (dropR ci (T.getD (i + (j - i) / 2) ([], 0, 0)).1) (dropR ci K) ci := by
        show @Bool.rec (fun _ => Option (Option (Nat × List Nat))) _ _ (Nat.ble ci cj) = _
        rw [Nat.ble_eq.mpr hle]; rfl
      exact step ci (by lia) (e ▸ hr)
    · have e : dtV (.node (T.getD (i + (j - i) / 2) ([], 0, 0)).1 l r') K ci cj = cmpK (fun q => dtV l K ci q) (fun q => dtV r' K q cj) (dropR cj (T.getD (i + (j - i) / 2) ([], 0, 0)).1) (dropR cj K) cj := by
        show @Bool.rec (fun _ => Option (Option (Nat × List Nat))) _ _ (Nat.ble ci cj) = _
        rw [Bool.eq_false_iff.mpr fun q => hle (Nat.ble_eq.mp q)]; rfl
      exact step cj (by lia) (e ▸ hr)
noncomputable def DOk (d : DT) (T : TabP) (as : List (List Nat)) : Prop := toD T as 100 0 T.length false = some d
theorem DOk.told {d : DT} {T : TabP} {as : List (List Nat)} (hd : DOk d T as) {K : List Nat} {r : Option (Nat × List Nat)} (h : dtV d K 0 0 = some r) (U : List Nat) : Told as K.length (fabP T (K ++ U)) r :=
  toD_sound U (Nat.zero_le _) (Nat.zero_le _) hd h
end Mine
end
section
set_option maxRecDepth 100000
namespace Mine
noncomputable def qT0 : DT := (.node [233] (.node [225] (.leaf [(1,[97])]) (.leaf [(1,[97])])) (.leaf [(1,[101])]))
theorem qT0_ok : DOk qT0 tabP0 (asT0.map (·.1)) := by unfold DOk; kernel_rfl
noncomputable def qT1 : DT := (.node [114,114] (.node [106,106] (.node [100,100] (.node [99,99] (.node [98,98] (.leaf [(2,[])]) (.leaf [(2,[])])) (.leaf [(2,[])])) (.node [102,102] (.leaf [(2,[])]) (.node [103,103] (.leaf [(2,[])]) (.leaf [(2,[])])))) (.node [109,109] (.node [107,107] (.leaf [(2,[])]) (.node [108,108] (.leaf [(2,[])]) (.leaf [(2,[])]))) (.node [110,110] (.leaf [(2,[])]) (.node [112,112] (.leaf [(2,[])]) (.leaf [(2,[])]))))) (.node [121,103,103] (.node [115,122,122] (.node [115,99,99] (.leaf [(2,[])]) (.node [115,115] (.leaf [(3,[])]) (.leaf [(2,[])]))) (.node [116,116] (.leaf [(3,[])]) (.node [118,118] (.leaf [(2,[])]) (.leaf [(2,[])])))) (.node [121,116,116] (.node [121,108,108] (.leaf [(3,[])]) (.node [121,110,110] (.leaf [(3,[])]) (.leaf [(3,[])]))) (.node [122,115,115] (.leaf [(3,[])]) (.node [122,122] (.leaf [(3,[])]) (.leaf [(2,[])]))))))
theorem qT1_ok : DOk qT1 tabP1 [] := by unfold DOk; kernel_rfl
noncomputable def qT2 : DT := (.node [108,101] (.node [108,97] (.leaf [(2,[])]) (.leaf [(2,[])])) (.leaf [(2,[])]))
theorem qT2_ok : DOk qT2 tabP2 [] := by unfold DOk; kernel_rfl
noncomputable def qT3 : DT := (.node [110,101] (.node [108,233,110] (.node [107,97,110] (.node [101,98] (.node [97,114] (.node [97,98] (.leaf [(2,[])]) (.leaf [(2,[])])) (.leaf [(2,[])])) (.node [101,114] (.leaf [(2,[])]) (.node [103,105] (.leaf [(2,[])]) (.leaf [(2,[])])))) (.node [108,101,118] (.node [107,101,110] (.leaf [(3,[])]) (.node [108,97,118] (.leaf [(3,[])]) (.leaf [(3,[])]))) (.node [108,117] (.leaf [(3,[])]) (.node [108,225,110] (.leaf [(2,[])]) (.leaf [(3,[])]))))) (.node [108,337,98] (.node [108,243,114] (.node [108,243,98] (.leaf [(3,[])]) (.leaf [(3,[])])) (.node [108,243,116] (.leaf [(3,[])]) (.node [108,252] (.leaf [(3,[])]) (.leaf [(2,[])])))) (.node [110] (.node [108,337,114] (.leaf [(3,[])]) (.node [108,337,116] (.leaf [(3,[])]) (.leaf [(3,[])]))) (.node [110,97] (.leaf [(1,[])]) (.node [110,97,98] (.leaf [(2,[]),(1,[])]) (.leaf [(3,[]),(2,[]),(1,[])])))))) (.node [116,110,233,107,110,97] (.node [112,112,233,107] (.node [110,101,112,112,233,107] (.node [110,101,98] (.leaf [(2,[]),(1,[])]) (.leaf [(3,[]),(2,[]),(1,[])])) (.node [110,111] (.leaf [(6,[]),(2,[]),(1,[])]) (.node [110,246] (.leaf [(2,[]),(1,[])]) (.leaf [(2,[]),(1,[])])))) (.node [116,97] (.node [114,111,107] (.leaf [(4,[])]) (.node [116] (.leaf [(3,[])]) (.leaf [(1,[])]))) (.node [116,101] (.leaf [(2,[]),(1,[])]) (.node [116,110,233,107] (.leaf [(2,[]),(1,[])]) (.leaf [(4,[]),(1,[])]))))) (.node [116,246] (.node [116,110,233,107,110,111] (.node [116,110,233,107,110,101] (.leaf [(6,[]),(4,[]),(1,[])]) (.leaf [(6,[]),(4,[]),(1,[])])) (.node [116,111] (.leaf [(6,[]),(4,[]),(1,[])]) (.node [116,114,233] (.leaf [(2,[]),(1,[])]) (.leaf [(3,[]),(1,[])])))) (.node [122,246,104] (.node [122,101,104] (.leaf [(2,[]),(1,[])]) (.node [122,111,104] (.leaf [(3,[])]) (.leaf [(3,[])]))) (.node [225,118] (.leaf [(3,[])]) (.node [233,118] (.leaf [(2,[])]) (.leaf [(2,[])])))))))
theorem qT3_ok : DOk qT3 tabP3 [] := by unfold DOk; kernel_rfl
noncomputable def qT4 : DT := (.node [110,233] (.node [110,225] (.leaf [(2,[97])]) (.leaf [(2,[97])])) (.node [116,110,233,107,110,225] (.leaf [(2,[101])]) (.leaf [(6,[97])])))
theorem qT4_ok : DOk qT4 tabP4 (asT4.map (·.1)) := by unfold DOk; kernel_rfl
noncomputable def qT5 : DT := (.node [108,252,116,115] (.node [108,117,116,115,97] (.node [108,117,116,115] (.leaf [(4,[])]) (.leaf [(4,[])])) (.node [108,117,116,115,225] (.leaf [(5,[]),(4,[])]) (.leaf [(5,[97]),(4,[])]))) (.node [108,252,116,115,101] (.leaf [(4,[])]) (.node [108,252,116,115,233] (.leaf [(5,[]),(4,[])]) (.leaf [(5,[101]),(4,[])]))))
theorem qT5_ok : DOk qT5 tabP5 (asT5.map (·.1)) := by unfold DOk; kernel_rfl
noncomputable def qT6 : DT := (.node [233] (.node [225] (.leaf [(1,[])]) (.leaf [(1,[])])) (.leaf [(1,[])]))
theorem qT6_ok : DOk qT6 tabP6 [] := by unfold DOk; kernel_rfl
noncomputable def qT7 : DT := (.node [107,111] (.node [107,97] (.node [107] (.leaf [(1,[])]) (.leaf [(1,[])])) (.node [107,101] (.leaf [(2,[]),(1,[])]) (.leaf [(2,[]),(1,[])]))) (.node [107,233] (.node [107,225] (.leaf [(2,[]),(1,[])]) (.leaf [(2,[97]),(1,[])])) (.node [107,246] (.leaf [(2,[101]),(1,[])]) (.leaf [(2,[]),(1,[])]))))
theorem qT7_ok : DOk qT7 tabP7 (asT7.map (·.1)) := by unfold DOk; kernel_rfl
noncomputable def qT8 : DT := (.node [233,107,101] (.node [233] (.node [105,233,225] (.node [105,233] (.leaf [(2,[])]) (.leaf [(2,[])])) (.node [105,233,233] (.leaf [(3,[97]),(2,[])]) (.leaf [(3,[101]),(2,[])]))) (.node [233,107] (.leaf [(1,[])]) (.node [233,107,97] (.leaf [(2,[]),(1,[])]) (.leaf [(3,[]),(2,[]),(1,[])])))) (.node [233,107,233] (.node [233,107,111] (.leaf [(3,[]),(2,[]),(1,[])]) (.node [233,107,225] (.leaf [(3,[]),(2,[]),(1,[])]) (.leaf [(3,[97]),(2,[]),(1,[])]))) (.node [233,107,246] (.leaf [(3,[101]),(2,[]),(1,[])]) (.node [233,233] (.leaf [(3,[]),(2,[]),(1,[])]) (.leaf [(2,[101]),(1,[])])))))
theorem qT8_ok : DOk qT8 tabP8 (asT8.map (·.1)) := by unfold DOk; kernel_rfl
noncomputable def qT9 : DT := (.node [107,110,252] (.node [100,233] (.node [100,97] (.node [97,106] (.node [97] (.leaf [(1,[])]) (.leaf [(1,[])])) (.node [100] (.leaf [(2,[]),(1,[])]) (.leaf [(1,[])]))) (.node [100,111] (.node [100,101] (.leaf [(2,[]),(1,[])]) (.leaf [(2,[]),(1,[])])) (.node [100,225] (.leaf [(2,[]),(1,[])]) (.leaf [(2,[97]),(1,[])])))) (.node [107,110] (.node [101] (.node [100,246] (.leaf [(2,[101]),(1,[])]) (.leaf [(2,[]),(1,[])])) (.node [101,106] (.leaf [(1,[])]) (.leaf [(2,[]),(1,[])]))) (.node [107,110,225] (.node [107,110,117] (.leaf [(2,[])]) (.leaf [(3,[]),(2,[])])) (.node [107,110,233] (.leaf [(3,[97]),(2,[])]) (.leaf [(3,[101]),(2,[])]))))) (.node [109,97] (.node [107,252] (.node [107,117,106] (.node [107,117] (.leaf [(3,[]),(2,[])]) (.leaf [(2,[])])) (.node [107,117,106,225] (.leaf [(3,[]),(2,[])]) (.leaf [(4,[97]),(3,[]),(2,[])]))) (.node [107,252,106,233] (.node [107,252,106] (.leaf [(2,[])]) (.leaf [(3,[]),(2,[])])) (.node [109] (.leaf [(4,[101]),(3,[]),(2,[])]) (.leaf [(1,[])])))) (.node [109,233] (.node [109,111] (.node [109,101] (.leaf [(2,[]),(1,[])]) (.leaf [(2,[]),(1,[])])) (.node [109,225] (.leaf [(2,[]),(1,[])]) (.leaf [(2,[97]),(1,[])]))) (.node [225] (.node [111] (.leaf [(2,[101]),(1,[])]) (.leaf [(1,[])])) (.node [233] (.leaf [(1,[97])]) (.leaf [(1,[101])]))))))
theorem qT9_ok : DOk qT9 tabP9 (asT9.map (·.1)) := by unfold DOk; kernel_rfl
noncomputable def qT10 : DT := (.node [107,105,101] (.node [105,101] (.node [100,105,225] (.node [100,105,97,106] (.node [100,105,97] (.node [100,105] (.leaf [(2,[])]) (.leaf [(2,[])])) (.leaf [(3,[]),(2,[])])) (.node [100,105,101] (.leaf [(4,[]),(3,[]),(2,[])]) (.node [100,105,101,106] (.leaf [(3,[]),(2,[])]) (.leaf [(4,[]),(3,[]),(2,[])])))) (.node [105] (.node [100,105,233] (.leaf [(3,[97]),(2,[])]) (.leaf [(3,[101]),(2,[])])) (.node [105,97] (.leaf [(1,[])]) (.node [105,97,106] (.leaf [(2,[]),(1,[])]) (.leaf [(3,[]),(2,[]),(1,[])]))))) (.node [107,101,116,105,101] (.node [105,225] (.node [105,101,106] (.leaf [(2,[]),(1,[])]) (.leaf [(3,[]),(2,[]),(1,[])])) (.node [105,233] (.leaf [(2,[97]),(1,[])]) (.node [107,101,116,105] (.leaf [(2,[101]),(1,[])]) (.leaf [(4,[])])))) (.node [107,105] (.node [107,101,116,105,101,106] (.leaf [(5,[]),(4,[])]) (.node [107,101,116,105,233] (.leaf [(6,[]),(5,[]),(4,[])]) (.leaf [(5,[101]),(4,[])]))) (.node [107,105,97] (.leaf [(2,[])]) (.node [107,105,97,106] (.leaf [(3,[]),(2,[])]) (.leaf [(4,[]),(3,[]),(2,[])])))))) (.node [107,110,105,233] (.node [107,110,105,97] (.node [107,105,225] (.node [107,105,101,106] (.leaf [(3,[]),(2,[])]) (.leaf [(4,[]),(3,[]),(2,[])])) (.node [107,105,233] (.leaf [(3,[97]),(2,[])]) (.node [107,110,105] (.leaf [(3,[101]),(2,[])]) (.leaf [(3,[])])))) (.node [107,110,105,101] (.node [107,110,105,97,106] (.leaf [(4,[]),(3,[])]) (.leaf [(5,[]),(4,[]),(3,[])])) (.node [107,110,105,101,106] (.leaf [(4,[]),(3,[])]) (.node [107,110,105,225] (.leaf [(5,[]),(4,[]),(3,[])]) (.leaf [(4,[97]),(3,[])]))))) (.node [109,105,97] (.node [107,111,116,105,97,106] (.node [107,111,116,105,97] (.leaf [(4,[101]),(3,[])]) (.leaf [(5,[])])) (.node [107,111,116,105,225] (.leaf [(6,[]),(5,[])]) (.node [109,105] (.leaf [(5,[97])]) (.leaf [(2,[])])))) (.node [109,105,101,106] (.node [109,105,97,106] (.leaf [(3,[]),(2,[])]) (.node [109,105,101] (.leaf [(4,[]),(3,[]),(2,[])]) (.leaf [(3,[]),(2,[])]))) (.node [109,105,225] (.leaf [(4,[]),(3,[]),(2,[])]) (.node [109,105,233] (.leaf [(3,[97]),(2,[])]) (.leaf [(3,[101]),(2,[])])))))))
theorem qT10_ok : DOk qT10 tabP10 (asT10.map (·.1)) := by unfold DOk; kernel_rfl
noncomputable def Rg (ex : Bool) (e : Nat) (P : List Nat) (p1 : Nat) : Prop := p1 ≤ P.length + e ∧ (ex = true → p1 = P.length + e)
noncomputable def cnd {β : Type} (ex : Bool) (e m : Nat) (y n : Option β) : Option β := @Bool.rec (fun _ => Option β) (@Bool.rec (fun _ => Option β) none n ex) y (Nat.ble e m)
theorem cnd_sound {β : Type} {ex : Bool} {e m p1 : Nat} {y n : Option β} {r : β} {P : List Nat} (h : cnd ex e m y n = some r) (hp : Rg ex e P p1) : (p1 ≤ P.length + m ∧ y = some r) ∨ (¬ p1 ≤ P.length + m ∧ n = some r) := by
  unfold cnd at h
  cases hb : Nat.ble e m with
  | true =>
    rw [hb] at h
    have := Nat.ble_eq.mp hb
    exact .inl ⟨by have := hp.1; lia, h⟩
  | false =>
    rw [hb] at h
    have hn : ¬ e ≤ m := fun q => by rw [Nat.ble_eq.mpr q] at hb; cases hb
    cases ex with
    | true => exact .inr ⟨by have := hp.2 rfl; lia, h⟩
    | false => cases h
noncomputable abbrev LN := List Nat
noncomputable def onD (d : DT) (R : LN) (n : Option LN) (y : Nat × LN → Option LN) : Option LN := @Option.rec (Option (Nat × LN)) (fun _ => Option LN) none (fun o => @Option.rec (Nat × LN) (fun _ => Option LN) n y o) (dtV d R 0 0)
theorem onD_sound {d : DT} {T : TabP} {as : List (List Nat)} (hd : DOk d T as) {R R' : LN} {n : Option LN} {y : Nat × LN → Option LN} (h : onD d R n y = some R') (P : LN) :
    (n = some R' ∧ fabP T (P ++ R.reverse).reverse = some none) ∨ ∃ k v, k ≤ R.length ∧ y (k, asR as v) = some R' ∧ fabP T (P ++ R.reverse).reverse = some (some (k, v)) := by
  rw [List.reverse_append, List.reverse_reverse]
  unfold onD at h
  cases hv : dtV d R 0 0 with
  | none => rw [hv] at h; cases h
  | some o =>
    rw [hv] at h
    rcases hd.told hv P.reverse with ⟨rfl, hf⟩ | ⟨k, v, hk, rfl, hf⟩
    · exact .inl ⟨h, hf⟩
    · exact .inr ⟨k, v, hk, h, hf⟩
theorem take_rev (P R : LN) {k : Nat} (hk : k ≤ R.length) : (P ++ R.reverse).length - k = P.length + (R.drop k).length ∧ (P ++ R.reverse).take ((P ++ R.reverse).length - k) = P ++ (R.drop k).reverse := by
  have e : (P ++ R.reverse).length - k = P.length + (R.drop k).length := by
    rw [List.length_append, List.length_reverse, List.length_drop]; lia
  refine ⟨e, ?_⟩
  rw [e, List.take_append, List.take_of_length_le (by lia), show P.length + (R.drop k).length - P.length = (R.drop k).length by lia, List.length_drop, ← List.reverse_drop]
  
noncomputable def appR (a b : LN) : LN := @List.rec Nat (fun _ => LN) b (fun x _ ih => x :: ih) a
theorem appR_eq (a b : LN) : appR a b = a ++ b := by
  induction a with
  | nil => rfl
  | cons x a ih => exact congrArg (x :: ·) ih
noncomputable def subF (d : DT) (ex : Bool) (e : Nat) (R : LN) : Option LN := onD d R (some R) fun q => cnd ex e (lenR (dropR q.1 R)) (some (appR q.2 (dropR q.1 R))) (some R)
noncomputable def caseF (ex : Bool) (e : Nat) (R : LN) : Option LN := onD qT3 R (some R) fun q => cnd ex e (lenR (dropR q.1 R)) (subF qT0 ex e (dropR q.1 R)) (some R)
noncomputable def undF (R : LN) : Option LN := @List.rec Nat (fun _ => Option LN) none (fun a A _ => @List.rec Nat (fun _ => Option LN) none (fun _ B _ => some (a :: B)) A) R
noncomputable def instF (d : DT) (ex : Bool) (e : Nat) (R : LN) : Option LN := onD d R (some R) fun q => cnd ex e (lenR (dropR q.1 R)) (onD qT1 (dropR q.1 R) (some R) fun _ => undF (dropR q.1 R)) (some R)
section
variable {d : DT} {T : TabP} {as : List (List Nat)} {ex : Bool} {e p1 : Nat} {R R' P : LN}
theorem subF_sound (hd : DOk d T as) (h : subF d ex e R = some R') (hp : Rg ex e P p1) : subP T as p1 (P ++ R.reverse) = some (P ++ R'.reverse) := by
  unfold subP
  rcases onD_sound hd h P with ⟨h1, h2⟩ | ⟨k, v, hk, h1, h2⟩
  · rw [h2]; cases h1; rfl
  · rw [h2]
    obtain ⟨e1, e2⟩ := take_rev P R hk
    show some (if p1 ≤ (P ++ R.reverse).length - k then (P ++ R.reverse).take ((P ++ R.reverse).length - k) ++ as.getD (v - 1).toNat [] else P ++ R.reverse) = _
    rw [e2, e1]
    rw [lenR_eq, dropR_eq, appR_eq] at h1
    rcases cnd_sound h1 hp with ⟨hc, h3⟩ | ⟨hc, h3⟩
    · rw [if_pos hc]; cases h3
      unfold asR
      rw [List.reverse_append, List.reverse_reverse, List.append_assoc]
    · rw [if_neg hc]; cases h3; rfl
theorem caseF_sound (h : caseF ex e R = some R') (hp : Rg ex e P p1) : caseP p1 (P ++ R.reverse) = some (P ++ R'.reverse) := by
  unfold caseP
  rcases onD_sound qT3_ok h P with ⟨h1, h2⟩ | ⟨k, v, hk, h1, h2⟩
  · rw [h2]; cases h1; rfl
  · rw [h2]
    obtain ⟨e1, e2⟩ := take_rev P R hk
    show (if p1 ≤ (P ++ R.reverse).length - k then subP tabP0 (asT0.map (·.1)) p1 ((P ++ R.reverse).take ((P ++ R.reverse).length - k)) else some (P ++ R.reverse)) = _
    rw [e2, e1]
    rw [lenR_eq, dropR_eq] at h1
    rcases cnd_sound h1 hp with ⟨hc, h3⟩ | ⟨hc, h3⟩
    · rw [if_pos hc]; exact subF_sound qT0_ok h3 hp
    · rw [if_neg hc]; cases h3; rfl
theorem undF_sound (h : undF R = some R') : undbP (P ++ R.reverse) = P ++ R'.reverse := by
  match R, h with
  | a :: b :: B, h =>
    cases h
    have e : P ++ (a :: b :: B).reverse = (P ++ B.reverse) ++ [b, a] := by simp
    have e2 : P ++ (a :: B).reverse = (P ++ B.reverse) ++ [a] := by simp
    rw [e, e2]
    unfold undbP
    generalize P ++ B.reverse = Z
    rw [List.length_append, show Z.length + [b, a].length - 2 = Z.length from rfl, show Z.length + [b, a].length - 1 = Z.length + 1 from rfl, List.take_left', List.drop_append]
    simp
    rfl
theorem instF_sound (hd : DOk d T []) (h : instF d ex e R = some R') (hp : Rg ex e P p1) : instrP T p1 (P ++ R.reverse) = some (P ++ R'.reverse) := by
  unfold instrP
  rcases onD_sound hd h P with ⟨h1, h2⟩ | ⟨k, v, hk, h1, h2⟩
  · rw [h2]; cases h1; rfl
  · rw [h2]
    obtain ⟨e1, e2⟩ := take_rev P R hk
    show (if p1 ≤ (P ++ R.reverse).length - k then (dblP (P ++ R.reverse) ((P ++ R.reverse).length - k)).map fun b => if b = true then undbP ((P ++ R.reverse).take ((P ++ R.reverse).length - k)) else P ++ R.reverse else some (P ++ R.reverse)) = _
    unfold dblP
    rw [e2, e1]
    rw [lenR_eq, dropR_eq] at h1
    rcases cnd_sound h1 hp with ⟨hc, h3⟩ | ⟨hc, h3⟩
    · rw [if_pos hc]
      rcases onD_sound qT1_ok h3 P with ⟨h4, h5⟩ | ⟨k2, v2, hk2, h4, h5⟩
      · rw [h5]; cases h4; rfl
      · rw [h5]
        show some (undbP (P ++ (R.drop k).reverse)) = _
        rw [undF_sound h4]
    · rw [if_neg hc]; cases h3; rfl
end
noncomputable def bnd (o : Option LN) (f : LN → Option LN) : Option LN := @Option.rec LN (fun _ => Option LN) none f o
theorem bnd_some {o : Option LN} {f : LN → Option LN} {r : LN} (h : bnd o f = some r) : ∃ a, o = some a ∧ f a = some r := by
  cases o with
  | none => cases h
  | some a => exact ⟨a, rfl, h⟩
noncomputable def frF (ex : Bool) (e : Nat) (R : LN) : Option LN := bnd (instF qT2 ex e R) fun a => bnd (caseF ex e a) fun a => bnd (subF qT4 ex e a) fun a => bnd (subF qT5 ex e a) (instF qT6 ex e)
noncomputable def bkF (ex : Bool) (e : Nat) (R : LN) : Option LN := bnd (subF qT8 ex e R) fun a => bnd (subF qT9 ex e a) fun a => bnd (subF qT10 ex e a) (subF qT7 ex e)
noncomputable def frP (p1 : Nat) (t : LN) : Option LN := (instrP tabP2 p1 t).bind fun t2 => (caseP p1 t2).bind fun t3 => (subP tabP4 (asT4.map (·.1)) p1 t3).bind fun t4 => (subP tabP5 (asT5.map (·.1)) p1 t4).bind fun t5 => instrP tabP6 p1 t5
noncomputable def bkP (p1 : Nat) (t : LN) : Option LN := (subP tabP8 (asT8.map (·.1)) p1 t).bind fun t7 => (subP tabP9 (asT9.map (·.1)) p1 t7).bind fun t8 => (subP tabP10 (asT10.map (·.1)) p1 t8).bind fun t9 => subP tabP7 (asT7.map (·.1)) p1 t9
theorem stemP_two {p1 : Nat} {t a b : LN} (h1 : frP p1 t = some a) (h2 : bkP p1 a = some b) : stemP p1 t = some b := by
  unfold frP at h1
  obtain ⟨x2, e2, h1⟩ := Option.bind_eq_some_iff.mp h1
  obtain ⟨x3, e3, h1⟩ := Option.bind_eq_some_iff.mp h1
  obtain ⟨x4, e4, h1⟩ := Option.bind_eq_some_iff.mp h1
  obtain ⟨x5, e5, e6⟩ := Option.bind_eq_some_iff.mp h1
  unfold stemP
  rw [e2, Option.bind_some, e3, Option.bind_some, e4, Option.bind_some, e5, Option.bind_some, e6, Option.bind_some]
  exact h2
section
variable {ex : Bool} {e p1 : Nat} {R R' P : LN}
theorem frF_sound (h : frF ex e R = some R') (hp : Rg ex e P p1) : frP p1 (P ++ R.reverse) = some (P ++ R'.reverse) := by
  obtain ⟨a, ha, h⟩ := bnd_some h
  obtain ⟨b, hb, h⟩ := bnd_some h
  obtain ⟨c, hc, h⟩ := bnd_some h
  obtain ⟨f, hf, h⟩ := bnd_some h
  unfold frP
  rw [instF_sound qT2_ok ha hp, Option.bind_some, caseF_sound hb hp, Option.bind_some, subF_sound qT4_ok hc hp, Option.bind_some, subF_sound qT5_ok hf hp, Option.bind_some, instF_sound qT6_ok h hp]
theorem bkF_sound (h : bkF ex e R = some R') (hp : Rg ex e P p1) : bkP p1 (P ++ R.reverse) = some (P ++ R'.reverse) := by
  obtain ⟨a, ha, h⟩ := bnd_some h
  obtain ⟨b, hb, h⟩ := bnd_some h
  obtain ⟨c, hc, h⟩ := bnd_some h
  unfold bkP
  rw [subF_sound qT8_ok ha hp, Option.bind_some, subF_sound qT9_ok hb hp, Option.bind_some, subF_sound qT10_ok hc hp, Option.bind_some, subF_sound qT7_ok h hp]
end
end Mine
end
section
set_option maxRecDepth 100000
namespace Mine
noncomputable def eqO (o : Option LN) (l : LN) : Bool := @Option.rec LN (fun _ => Bool) false (fun a => PySem.W.Fast.lEq a l) o
theorem eqO_sound {o : Option LN} {l : LN} (h : eqO o l = true) : o = some l := by
  cases o with
  | none => cases h
  | some a => exact congrArg some (PySem.W.Fast.lEq_iff.mp h)
noncomputable def Snd (f : Bool → Nat → LN → Option LN) (g : Nat → LN → Option LN) : Prop := ∀ {ex : Bool} {e p1 : Nat} {R R' P : LN}, f ex e R = some R' → Rg ex e P p1 → g p1 (P ++ R.reverse) = some (P ++ R'.reverse)
noncomputable def xs6 : LN := [99, 115, 102, 121, 112, 122]
noncomputable def ck0 (f : Bool → Nat → LN → Option LN) (W S : LN) : Bool := eqO (f false 0 W) S
noncomputable def ck1 (f : Bool → Nat → LN → Option LN) (W S : LN) : Bool := xs6.all fun x => eqO (f false 1 (appR W [x])) (appR S [x])
noncomputable def ck2 (f : Bool → Nat → LN → Option LN) (W S : LN) : Bool := closesL.all fun cl => vowelsL.all fun v => eqO (f false 2 (appR W (appR cl.reverse [v]))) (appR S (appR cl.reverse [v]))
noncomputable def ck (f : Bool → Nat → LN → Option LN) (W S : LN) : Bool := ck0 f W.reverse S.reverse || (ck1 f W.reverse S.reverse || ck2 f W.reverse S.reverse)
theorem closes_last : ∀ cl ∈ closesL, ∃ cl' x, x ∈ xs6 ∧ cl = cl' ++ [x] := fun cl h => by
  have := List.all_eq_true.mp (by decide : (closesL.all fun cl => xs6.elem (lastOf cl) && decide (cl = cl.dropLast ++ [lastOf cl])) = true) cl h
  rw [Bool.and_eq_true] at this
  exact ⟨_, _, List.elem_iff.mp this.1, of_decide_eq_true this.2⟩
theorem ck_sound {f : Bool → Nat → LN → Option LN} {g : Nat → LN → Option LN} (hs : Snd f g) {W S : LN} (h : ck f W S = true) {b cl : LN} {v p1 : Nat} (hv : v ∈ vowelsL) (hc : cl ∈ closesL) (hp : p1 ≤ b.length + 2) :
    g p1 (b ++ v :: (cl ++ W)) = some (b ++ v :: (cl ++ S)) := by
  obtain ⟨cl', x, hx, hcl⟩ := closes_last cl hc
  unfold ck at h
  rw [Bool.or_eq_true, Bool.or_eq_true] at h
  rcases h with h | h | h
  · have := hs (P := b ++ v :: cl) (eqO_sound h) (p1 := p1) ⟨by rw [hcl]; simp; lia, nofun⟩
    rw [List.reverse_reverse, List.reverse_reverse] at this
    simpa using this
  · have := hs (P := b ++ v :: cl') (eqO_sound (List.all_eq_true.mp h x hx)) (p1 := p1) ⟨by simp; lia, nofun⟩
    rw [appR_eq, appR_eq] at this
    simpa [hcl] using this
  · have := hs (P := b) (eqO_sound (List.all_eq_true.mp (List.all_eq_true.mp h cl hc) v hv)) (p1 := p1) ⟨hp, nofun⟩
    rw [appR_eq, appR_eq, appR_eq] at this
    simpa using this
noncomputable def ow1 (g c : Int) (o : Nat) : LN := ownedP g c (ownL.getD o [])
noncomputable def sufW (g : Int) (la : LN) (c : Int) (o : Nat) : LN := endP [] [] g c (layer2P g c la (ow1 g c o)) (ow1 g c o)
noncomputable def stoW (g : Int) (la : LN) (c : Int) (o : Nat) : LN := layer2P g 0 la (ow1 g c o) ++ (if 0 < c ∧ ow1 g c o = [233] then [101] else ow1 g c o)
noncomputable def ckG (g : Nat) : Bool := (layersL.getD g []).all fun la => (List.range 3).all fun o => (List.range 50).all fun c => (Nat.beq g 0 && (Nat.beq o 0 && (Nat.ble 45 c && Nat.ble c 48))) || ck frF (sufW g la c o) (stoW g la c o)
noncomputable def ckB (g : Nat) : Bool := (layersL.getD g []).all fun la => (List.range 3).all fun o => (List.range 2).all fun c => ck bkF (stoW g la c o) []
noncomputable def ckD : Bool := closesL.all fun cl => vowelsL.all fun v => tailL.all fun t => eqO (frF false 2 (v :: cl.headD 0 :: (cl ++ t)).reverse) (v :: cl).reverse
noncomputable def stF (ex : Bool) (e : Nat) (R : LN) : Option LN := bnd (frF ex e R) (bkF ex e)
noncomputable def ckI : Bool := innerL.all fun i => (casesL ++ outerL).all fun l => ck stF (i ++ l) i
theorem ckB0 : ckB 0 = true := by kernel_rfl
theorem ckB1 : ckB 1 = true := by kernel_rfl
theorem ckB2 : ckB 2 = true := by kernel_rfl
theorem ckB3 : ckB 3 = true := by kernel_rfl
theorem ckB4 : ckB 4 = true := by kernel_rfl
theorem ckB5 : ckB 5 = true := by kernel_rfl
theorem ckD_ok : ckD = true := by kernel_rfl
theorem ckI_ok : ckI = true := by kernel_rfl
end Mine
end
section
set_option maxRecDepth 100000
namespace Mine
theorem ckG0 : ckG 0 = true := by kernel_rfl
theorem ckG1 : ckG 1 = true := by kernel_rfl
theorem ckG2 : ckG 2 = true := by kernel_rfl
theorem ckG3 : ckG 3 = true := by kernel_rfl
theorem ckG4 : ckG 4 = true := by kernel_rfl
theorem ckG5 : ckG 5 = true := by kernel_rfl
theorem ckG_ok : ∀ g, g < 6 → ckG g = true ∧ ckB g = true
  | 0, _ => ⟨ckG0, ckB0⟩
  | 1, _ => ⟨ckG1, ckB1⟩
  | 2, _ => ⟨ckG2, ckB2⟩
  | 3, _ => ⟨ckG3, ckB3⟩
  | 4, _ => ⟨ckG4, ckB4⟩
  | 5, _ => ⟨ckG5, ckB5⟩
  | n + 6, h => absurd h (by lia)
theorem fr_snd : Snd frF frP := fun h hp => frF_sound h hp
theorem bk_snd : Snd bkF bkP := fun h hp => bkF_sound h hp
theorem st_snd : Snd stF stemP := fun h hp => by
  obtain ⟨a, ha, h⟩ := bnd_some h
  exact stemP_two (frF_sound ha hp) (bkF_sound h hp)
theorem skipV_hit {b : Bool} {x : Nat} {r : LN} (hx : isV x = b) : ∀ B : LN, ∃ i, i ≤ B.length ∧ skipV b (B ++ x :: r) = some i
  | [] => ⟨0, Nat.le_refl _, if_pos hx⟩
  | c :: B => by
    obtain ⟨i, hi, he⟩ := skipV_hit hx B
    by_cases hc : isV c = b
    · exact ⟨0, Nat.zero_le _, if_pos hc⟩
    · exact ⟨i + 1, Nat.succ_le_succ hi, (if_neg hc).trans (by show (skipV b (B ++ x :: r)).map (· + 1) = _; rw [he]; rfl)⟩
theorem skipV_app {b : Bool} {l : LN} : ∀ A : LN, (∀ c ∈ A, isV c ≠ b) → skipV b (A ++ l) = (skipV b l).map (· + A.length)
  | [], _ => by show skipV b l = _; cases skipV b l <;> rfl
  | c :: A, h => by
    refine (if_neg (h c List.mem_cons_self)).trans ?_
    show (skipV b (A ++ l)).map (· + 1) = _
    rw [skipV_app A fun c hc => h c (List.mem_cons_of_mem _ hc)]
    cases skipV b l with
    | none => rfl
    | some i => rfl
theorem mark_le {v c : Nat} {r : LN} (hv : isV v = true) (hc : isV c = false) (B : LN) : markP (B ++ v :: c :: r) ≤ B.length + 2 ∧ Marks (B ++ v :: c :: r) := by
  cases B with
  | nil =>
    have e : skipV false (c :: r) = some 0 := if_pos hc
    refine ⟨?_, v, c :: r, rfl, fun _ => by rw [e]; rfl⟩
    show (if isV v = true then (match skipV false (c :: r) with | some i => i + 2 | none => _) else _) ≤ _
    rw [if_pos hv, e]; exact Nat.le_refl _
  | cons a B =>
    obtain ⟨i, hi, he⟩ := skipV_hit (r := r) hc (B ++ [v])
    rw [List.append_assoc] at he
    have he : skipV false (B ++ v :: c :: r) = some i := he
    obtain ⟨j, hj, hf⟩ := skipV_hit (r := c :: r) hv (a :: B)
    have hf : skipV true (a :: (B ++ v :: c :: r)) = some j := hf
    rw [List.length_append, List.length_singleton] at hi
    rw [List.length_cons] at hj
    refine ⟨?_, a, B ++ v :: c :: r, rfl, fun _ => by rw [he]; rfl⟩
    show (if isV a = true then (match skipV false (B ++ v :: c :: r) with | some i => i + 2 | none => _) else match skipV true (a :: (B ++ v :: c :: r)) with | some i => i + 1 | none => _) ≤ B.length + 1 + 2
    rw [he, hf]
    split
    · show i + 2 ≤ _; lia
    · show j + 1 ≤ _; lia
theorem vowels_isV : ∀ v ∈ vowelsL, isV v = true := fun v h => List.all_eq_true.mp (by decide : (vowelsL.all fun v => isV v) = true) v h
theorem closes_cons : ∀ cl ∈ closesL, ∃ c r, cl = c :: r ∧ ∀ x ∈ cl, isV x = false := fun cl h => by
  have := List.all_eq_true.mp (by decide : (closesL.all fun cl => !cl.isEmpty && cl.all fun x => !isV x) = true) cl h
  rw [Bool.and_eq_true] at this
  cases cl with
  | nil => cases this.1
  | cons c r => exact ⟨c, r, rfl, fun x hx => by have := List.all_eq_true.mp this.2 x hx; simpa using this⟩
theorem getD_len {L : List LN} {n : Nat} (h : (L.all fun x => decide (x.length ≤ n)) = true) (k : Nat) : (L.getD k []).length ≤ n := by
  by_cases hk : k < L.length
  · exact of_decide_eq_true (List.all_eq_true.mp h _ (List.mem_of_getElem? (getD_some hk)))
  · rw [List.getD_eq_getElem?_getD, List.getElem?_eq_none (by lia)]; exact Nat.zero_le _
theorem endP_len {b cl la ow : LN} {g c : Int} : (endP b cl g c la ow).length ≤ b.length + cl.length + la.length + ow.length + 20 := by
  have h1 := getD_len (L := casesL) (n := 10) (by decide) (c - 1).toNat
  have h2 := getD_len (L := tailL) (n := 10) (by decide) (c - 45).toNat
  have h3 : kentL.length ≤ 10 := by decide
  have h4 : nkentL.length ≤ 10 := by decide
  unfold endP
  repeat' split
  all_goals simp only [List.length_append, List.length_cons, List.length_nil]; lia
theorem endP_tail {b cl la ow : LN} {g c : Int} (h : g = 0 → ow = [] → 45 ≤ c → c = 49) : endP b cl g c la ow = b ++ (cl ++ endP [] [] g c la ow) := by
  unfold endP
  split
  · simp
  · split
    · simp
    · split
      · split <;> simp
      · split
        · simp
        · rename_i h1 h2 h3 h4
          split
          · rename_i h5
            have : ow = [] := Decidable.byContradiction fun q => h4 (.inl q)
            exact absurd (h h5 this (by lia)) h3
          · simp
theorem ow1_nil {g c : Int} {o : Nat} (ho : o < 3) (h : ow1 g c o = []) : o = 0 := by
  match o, ho with
  | 0, _ => rfl
  | 1, _ =>
    unfold ow1 ownedP at h
    split at h <;> cases h
  | 2, _ =>
    unfold ow1 ownedP at h
    split at h <;> cases h
theorem all_range {n : Nat} {f : Nat → Bool} (h : (List.range n).all f = true) {i : Nat} (hi : i < n) : f i = true := List.all_eq_true.mp h i (List.mem_range.mpr hi)
theorem stoW_one {g : Int} {la : LN} {c : Int} {o : Nat} (hc : 0 < c) : stoW g la c o = stoW g la 1 o := by
  have e : ow1 g c o = ow1 g 1 o := by
    unfold ow1 ownedP
    simp only [hc, show (0 : Int) < 1 by decide]
  unfold stoW
  rw [e]
  simp only [hc, show (0 : Int) < 1 by decide]
theorem bk_ok {g : Nat} (hg : g < 6) {la : LN} (hl : la ∈ layersL.getD g []) {c o : Nat} (ho : o < 3) : ck bkF (stoW g la c o) [] = true := by
  have h := all_range (List.all_eq_true.mp (ckG_ok g hg).2 la hl) ho
  by_cases hc : c = 0
  · subst hc; exact all_range h (by decide : 0 < 2)
  · rw [stoW_one (c := (c : Int)) (by lia)]; exact all_range h (by decide : 1 < 2)
theorem layered_ok {b cl : LN} {v p1 : Nat} (hv : v ∈ vowelsL) (hc : cl ∈ closesL) (n y : Int) (hp : p1 ≤ b.length + 2) : stemP p1 (layeredP (b ++ [v]) cl n y) = some (b ++ [v] ++ cl) := by
  obtain ⟨gN, kN, eg, hg, _, _, hl⟩ := layer_get n
  obtain ⟨c, ec, hc5⟩ : ∃ c : Nat, y % 50 = c ∧ c < 50 := ⟨(y % 50).toNat, by lia, by lia⟩
  have ho : (y / 50 % 3).toNat < 3 := by lia
  unfold layeredP
  rw [eg, ec]
  generalize hoe : (y / 50 % 3).toNat = o at ho
  have eo : ownedP gN c (owned0 y) = ow1 gN c o := by unfold owned0; rw [hoe]; rfl
  rw [eo]
  generalize layerP n = la at hl
  have back := ck_sound bk_snd (bk_ok hg hl (c := c) ho) hv hc hp (b := b)
  rw [List.append_nil] at back
  have fr := all_range (all_range (List.all_eq_true.mp (ckG_ok gN hg).1 la hl) ho) hc5
  rw [Bool.or_eq_true] at fr
  have e3 : b ++ [v] ++ cl = b ++ v :: cl := by simp
  by_cases hd : gN = 0 ∧ o = 0 ∧ 45 ≤ c ∧ c ≤ 48
  · obtain ⟨g0, o0, c1, c2⟩ := hd
    subst g0 o0
    have la0 : la = [] := by
      have : la ∈ [([] : LN)] := hl
      exact List.mem_singleton.mp this
    subst la0
    have e1 : ow1 ((0 : Nat) : Int) c 0 = [] := rfl
    have ht : (c : Int) - 45 < 4 := by lia
    have e2 : endP (b ++ [v]) cl ((0 : Nat) : Int) c (layer2P ((0 : Nat) : Int) c [] (ow1 ((0 : Nat) : Int) c 0)) (ow1 ((0 : Nat) : Int) c 0) = b ++ (v :: cl.headD 0 :: (cl ++ tailL.getD (c - 45) [])) := by
      rw [e1]
      unfold endP
      rw [if_neg (by lia), if_neg (by lia), if_neg (by lia), if_neg (by rintro (q | q); exact q rfl; revert q; decide), if_pos (by rfl), show ((c : Int) - 45).toNat = c - 45 by lia]
      simp
    rw [e2, e3]
    have hD := List.all_eq_true.mp (List.all_eq_true.mp (List.all_eq_true.mp ckD_ok cl hc) v hv) (tailL.getD (c - 45) []) (List.mem_of_getElem? (getD_some (by show _ < 4; lia)))
    have f := fr_snd (P := b) (p1 := p1) (eqO_sound hD) ⟨hp, nofun⟩
    rw [List.reverse_reverse, List.reverse_reverse] at f
    have s0 : stoW ((0 : Nat) : Int) [] c 0 = [] := by
      unfold stoW
      rw [e1, if_neg (fun q => by cases q.2)]
      rfl
    rw [s0, List.append_nil] at back
    exact stemP_two f back
  · have fr : ck frF (sufW gN la c o) (stoW gN la c o) = true := by
      rcases fr with fr | fr
      · simp only [Bool.and_eq_true] at fr
        exact absurd ⟨Nat.eq_of_beq_eq_true fr.1, Nat.eq_of_beq_eq_true fr.2.1, Nat.ble_eq.mp fr.2.2.1, Nat.ble_eq.mp fr.2.2.2⟩ hd
      · exact fr
    have f := ck_sound fr_snd fr hv hc hp (b := b)
    rw [endP_tail (fun q1 q2 q3 => by
        have := ow1_nil ho q2
        lia), e3]
    have e4 : b ++ [v] ++ (cl ++ sufW gN la c o) = b ++ v :: (cl ++ sufW gN la c o) := by simp
    exact stemP_two ((congrArg (frP p1) e4).trans f) back
end Mine
end
section
set_option maxRecDepth 100000
namespace Mine
theorem lastP_mem (y : Int) : lastP y ∈ casesL ++ outerL := by
  have h0 : 0 ≤ y % 55 := Int.emod_nonneg _ (by decide)
  have h1 : y % 55 < 55 := Int.emod_lt_of_pos _ (by decide)
  unfold lastP
  split
  · exact List.mem_append_left _ (List.mem_of_getElem? (getD_some (by show _ < 44; lia)))
  · exact List.mem_append_right _ (List.mem_of_getElem? (getD_some (by show _ < 11; lia)))
theorem inner_ok {b cl : LN} {v p1 : Nat} (hv : v ∈ vowelsL) (hc : cl ∈ closesL) (n y : Int) (hp : p1 ≤ b.length + 2) : stemP p1 (b ++ [v] ++ cl ++ innerP n ++ lastP y) = some (b ++ [v] ++ cl ++ innerP n) := by
  have h := ck_sound st_snd (List.all_eq_true.mp (List.all_eq_true.mp ckI_ok _ (List.mem_of_getElem? (innerP_some n))) _ (lastP_mem y)) hv hc hp
  simpa using h
noncomputable def consL : LN := [98, 99, 100, 102, 103, 104, 106, 107, 108, 109, 110, 112, 113, 114, 115, 116, 118, 119, 120, 121, 122]
noncomputable def regL (l : LN) : Nat := match skipV true l with | some i => i + 1 | none => l.length
noncomputable def ckL (l : LN) : Bool := eqO (stF true (regL l) l.reverse) l.reverse || xs6.all fun x => (Nat.beq x 112 && PySem.W.Fast.lEq l [101, 110]) || eqO (stF true (regL l + 1) (x :: l).reverse) (x :: l).reverse
theorem ckL_ok : (casesL ++ outerL).all ckL = true := by kernel_rfl
theorem ckP_ok : (consL.all fun c => Nat.beq c 112 || eqO (stF true 3 [110, 101, 112, c]) [110, 101, 112, c]) = true := by kernel_rfl
theorem ckPP_ok : (consL.all fun c => eqO (stF true 4 [110, 101, 112, 112, c]) [110, 101, 112, 112, c]) = true := by kernel_rfl
theorem pen_ok : stemP 2 [112, 101, 110] = some [112, 101, 110] := by kernel_rfl
theorem ppen_ok : stemP 3 [112, 112, 101, 110] = some [112, 112, 101, 110] := by kernel_rfl
theorem mark_bare {A l : LN} (hA : A ≠ []) (h : ∀ c ∈ A, isV c = false) : markP (A ++ l) = A.length + regL l ∧ Marks (A ++ l) := by
  cases A with
  | nil => exact absurd rfl hA
  | cons a A =>
    have ha := h a List.mem_cons_self
    have hs := skipV_app (b := true) (l := l) (a :: A) fun c hc q => by rw [h c hc] at q; cases q
    have hs : skipV true (a :: (A ++ l)) = (skipV true l).map (· + (A.length + 1)) := hs
    refine ⟨?_, a, A ++ l, rfl, fun q => by rw [ha] at q; cases q⟩
    show (if isV a = true then _ else match skipV true (a :: (A ++ l)) with | some i => i + 1 | none => (A ++ l).length + 1) = A.length + 1 + regL l
    rw [if_neg (by rw [ha]; decide), hs]
    unfold regL
    cases skipV true l with
    | none => show (A ++ l).length + 1 = _; rw [List.length_append]; show _ = A.length + 1 + l.length; lia
    | some i => show i + (A.length + 1) + 1 = A.length + 1 + (i + 1); lia
theorem bare_ok {A cl l : LN} (hA : ∀ c ∈ A, c ∈ consL) (hc : cl ∈ closesL) (hl : l ∈ casesL ++ outerL) : stemP ((A ++ cl).length + regL l) (A ++ cl ++ l) = some (A ++ cl ++ l) := by
  have h := List.all_eq_true.mp ckL_ok l hl
  unfold ckL at h
  rw [Bool.or_eq_true] at h
  rcases h with h | h
  · have := st_snd (P := A ++ cl) (eqO_sound h) (p1 := (A ++ cl).length + regL l) ⟨Nat.le_refl _, fun _ => rfl⟩
    rw [List.reverse_reverse] at this
    exact this
  · obtain ⟨cl', x, hx, hcl⟩ := closes_last cl hc
    have h := List.all_eq_true.mp h x hx
    rw [Bool.or_eq_true] at h
    rcases h with h | h
    · rw [Bool.and_eq_true] at h
      have hx2 : x = 112 := Nat.eq_of_beq_eq_true h.1
      have hl2 := PySem.W.Fast.lEq_iff.mp h.2
      subst hx2 hl2
      have e1 : regL [101, 110] = 1 := rfl
      have hcl2 : cl = [112] := by
        have := List.all_eq_true.mp (by decide : (closesL.all fun cl => !(lastOf cl == 112) || decide (cl = [112])) = true) cl hc
        rw [Bool.or_eq_true] at this
        rcases this with q | q
        · rw [hcl] at q; simp [lastOf] at q
        · exact of_decide_eq_true q
      subst hcl2
      rcases List.eq_nil_or_concat A with rfl | ⟨B, c, rfl⟩
      · exact pen_ok
      · rw [List.concat_eq_append] at hA ⊢
        have hcc := hA c (by simp)
        have h2 := List.all_eq_true.mp ckP_ok c hcc
        rw [Bool.or_eq_true] at h2
        rcases h2 with h2 | h2
        · have hx3 : c = 112 := Nat.eq_of_beq_eq_true h2
          subst hx3
          rcases List.eq_nil_or_concat B with rfl | ⟨C, c2, rfl⟩
          · exact ppen_ok
          · rw [List.concat_eq_append] at hA ⊢
            have := st_snd (P := C) (eqO_sound (List.all_eq_true.mp ckPP_ok c2 (hA c2 (by simp)))) (p1 := (C ++ [c2] ++ [112] ++ [112]).length + regL [101, 110]) ⟨by rw [e1]; simp only [List.length_append, List.length_singleton]; lia, fun _ => by rw [e1]; simp only [List.length_append, List.length_singleton]⟩
            simpa using this
        · have := st_snd (P := B) (eqO_sound h2) (p1 := (B ++ [c] ++ [112]).length + regL [101, 110]) ⟨by rw [e1]; simp only [List.length_append, List.length_singleton]; lia, fun _ => by rw [e1]; simp only [List.length_append, List.length_singleton]⟩
          simpa using this
    · have := st_snd (P := A ++ cl') (eqO_sound h) (p1 := (A ++ cl).length + regL l) ⟨by rw [hcl]; simp; lia, fun _ => by rw [hcl]; simp; lia⟩
      rw [List.reverse_reverse] at this
      simpa [hcl] using this
theorem letters_ok : ∀ c ∈ lettersL, (!inStr vowelsL c) = true → c ∈ consL := fun c h q => by
  have := List.all_eq_true.mp (by kernel_rfl : (lettersL.all fun c => inStr vowelsL c || consL.elem c) = true) c h
  rw [Bool.or_eq_true] at this
  rcases this with e | e
  · rw [e] at q; cases q
  · exact List.elem_iff.mp e
theorem vowels_let : ∀ c ∈ vowelsL, c ∈ lettersL := fun c h => List.elem_iff.mp (List.all_eq_true.mp (by decide : (vowelsL.all fun c => lettersL.elem c) = true) c h)
theorem cons_isV : ∀ c ∈ consL, isV c = false := fun c h => by
  have := List.all_eq_true.mp (by decide : (consL.all fun c => !isV c) = true) c h
  simpa using this
theorem endP_head {b cl la ow : LN} {g c : Int} {c0 : Nat} {r0 : LN} (e : cl = c0 :: r0) : ∃ W, endP b cl g c la ow = b ++ c0 :: W := by
  subst e
  unfold endP
  repeat' split
  all_goals exact ⟨_, by simp only [List.append_assoc, List.cons_append, List.headD_cons, List.nil_append]; rfl⟩
theorem good_word {b cl : LN} {v : Nat} (hb : ∀ c ∈ b, c ∈ lettersL) (hbl : b.length ≤ 8) (hv : v ∈ vowelsL) (hc : cl ∈ closesL) (x y : Int) : GoodW (wordP (b ++ [v]) cl x y) := by
  obtain ⟨c0, r0, ec, hcv⟩ := closes_cons cl hc
  have hcl2 : cl.length ≤ 2 := of_decide_eq_true (List.all_eq_true.mp (by decide : (closesL.all fun x => decide (x.length ≤ 2)) = true) cl hc)
  have hv' := vowels_isV v hv
  have hc0 : isV c0 = false := hcv c0 (by rw [ec]; exact List.mem_cons_self)
  have mk : ∀ W, markP (b ++ [v] ++ (cl ++ W)) ≤ b.length + 2 ∧ Marks (b ++ [v] ++ (cl ++ W)) := fun W => by
    have e : b ++ [v] ++ (cl ++ W) = b ++ v :: c0 :: (r0 ++ W) := by rw [ec]; simp
    rw [e]; exact mark_le hv' hc0 b
  unfold wordP
  split
  · obtain ⟨W, hW⟩ := endP_head ec (b := b ++ [v]) (g := x / 4 % 6) (c := y % 50) (la := layer2P (x / 4 % 6) (y % 50) (layerP (x / 4)) (ownedP (x / 4 % 6) (y % 50) (owned0 y))) (ow := ownedP (x / 4 % 6) (y % 50) (owned0 y))
    have e : layeredP (b ++ [v]) cl (x / 4) y = b ++ v :: c0 :: W := hW.trans (by simp)
    have hm := mark_le (r := W) hv' hc0 b
    rw [← e] at hm
    obtain ⟨_, _, _, _, _, _, hl⟩ := layer_get (x / 4)
    have h1 := endP_len (b := b ++ [v]) (cl := cl) (g := x / 4 % 6) (c := y % 50) (la := layer2P (x / 4 % 6) (y % 50) (layerP (x / 4)) (ownedP (x / 4 % 6) (y % 50) (owned0 y))) (ow := ownedP (x / 4 % 6) (y % 50) (owned0 y))
    have h2 : (layer2P (x / 4 % 6) (y % 50) (layerP (x / 4)) (ownedP (x / 4 % 6) (y % 50) (owned0 y))).length ≤ 10 := layer2_len (layers_flat hl)
    have h3 := owned_len (g := x / 4 % 6) (c := y % 50) (y := y)
    refine ⟨hm.2, ?_, layered_ok hv hc _ _ hm.1⟩
    show (endP _ _ _ _ _ _).length ≤ 1000
    rw [List.length_append, List.length_singleton] at h1
    lia
  · split
    · refine ⟨?_, ?_, ?_⟩
      · have := (mk (innerP (x / 4) ++ lastP y)).2
        simpa using this
      · have h1 := innerP_len (x / 4)
        have h2 := lastP_len y
        simp only [List.length_append, List.length_singleton]; lia
      · have := (mk (innerP (x / 4) ++ lastP y)).1
        exact inner_ok hv hc _ _ (by simpa using this)
    · have hA : ∀ c ∈ bareP (b ++ [v]), c ∈ consL := fun c hm => by
        obtain ⟨h1, h2⟩ := List.mem_filter.mp hm
        refine letters_ok c ?_ h2
        rcases List.mem_append.mp h1 with h | h
        · exact hb c h
        · rw [List.mem_singleton.mp h]; exact vowels_let v hv
      have hm := mark_bare (A := bareP (b ++ [v]) ++ cl) (l := lastP y) (by rw [ec]; simp) fun c hm => (List.mem_append.mp hm).elim (fun h => cons_isV c (hA c h)) (hcv c)
      refine ⟨hm.2, ?_, ?_⟩
      · have h1 := bareP_len (b ++ [v])
        have h2 := lastP_len y
        simp only [List.length_append, List.length_singleton] at h1 ⊢; lia
      · show stemP (markP _) _ = _
        rw [hm.1]
        exact bare_ok hA hc (lastP_mem y)
theorem good_all (sc : List Int) (i : Nat) : GoodW (lawW sc i) := by
  have h0 : 0 ≤ atV sc 0 % 9 := Int.emod_nonneg _ (by decide)
  have h1 : atV sc 0 % 9 < 9 := Int.emod_lt_of_pos _ (by decide)
  have h2 : 0 ≤ atV sc 9 % 14 := Int.emod_nonneg _ (by decide)
  have h3 : atV sc 9 % 14 < 14 := Int.emod_lt_of_pos _ (by decide)
  have mem : ∀ (L : LN) (k : Nat), k < L.length → L.getD k 0 ∈ L := fun L k h => by
    rw [List.getD_eq_getElem?_getD, List.getElem?_eq_getElem h]; exact List.getElem_mem h
  unfold lawW bodyP
  refine good_word (fun c hc => ?_) (by rw [bodyK_len]; lia) (mem _ _ (by show _ < 14; lia)) (List.mem_of_getElem? (closeP_some sc)) _ _
  obtain ⟨j, hj, rfl⟩ := List.mem_map.mp hc
  have h4 : 0 ≤ atV sc (j + 1) % 35 := Int.emod_nonneg _ (by decide)
  have h5 : atV sc (j + 1) % 35 < 35 := Int.emod_lt_of_pos _ (by decide)
  exact mem _ _ (by show _ < 35; lia)
end Mine
end
open PySem PySem.W PyProof.Rows
set_option maxRecDepth 100000 in
set_option maxHeartbeats 8000000 in
theorem PySem.Challenge.cw_af0032_01_holds : PySem.Challenge.rw_af0032_01.Holds := by
  rw [Mine.rw_eq]
  o_law
  rename_i said
  exact ⟨said, ⟨[.list []], by kernel_rfl, by kernel_rfl⟩, Mine.law_open fun sc _ i _ => Mine.good_all sc i⟩
